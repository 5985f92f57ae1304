/- A list is shuffled as the permutation of its places says; the law FnShuffleIsPerm as a walk. -/
import Derived.Test.YtdailbjipfbdfaaShufI
import Derived.Test.YtdailbjipfbdfaaOnce
namespace Go.Proofs.Ytdailbjipfbdfaa
open Go.RowKit

theorem swp_map (f : Int → Int) (ys : List Int) (i j : Nat) (hi : i < ys.length) (hj : j < ys.length) : swp (ys.map f) i j = (swp ys i j).map f := by
  simp [swp, List.map_set, List.getElem?_map, List.getElem?_eq_getElem hi, List.getElem?_eq_getElem hj]
theorem shuf_map (f : Int → Int) (xs : List Nat) (hx : ∀ x ∈ xs, x < 18446744073709551616) : ∀ (k : Nat) (ys : List Int) (t : Nat), k ≤ ys.length → shuf xs k (ys.map f) t = ((shuf xs k ys t).1.map f, (shuf xs k ys t).2) := by
  intro k
  induction k with
  | zero => intro ys t _; simp only [shuf]
  | succ k ih =>
    intro ys t h
    simp only [shuf]
    split
    · rfl
    · have hj := Pl.belowN_lt hx (show 0 < k + 1 by omega) t
      rw [swp_map f ys k _ (by omega) (by omega)]
      exact ih _ _ (by rw [swp_length]; omega)
theorem list_is_map (ys : List Int) : ys = (idl ys.length).map fun v => ys[v.toNat]?.getD 0 := by
  apply List.ext_getElem
  · simp [idl]
  · intro i h1 h2
    simp [idl, List.getElem?_eq_getElem h1]
/-- What stands at a place of the shuffled list is what stood at the place that the shuffled places say. -/
theorem is_perm (xs : List Nat) (hx : ∀ x ∈ xs, x < 18446744073709551616) (ys : List Int) (m : Nat) (hm : ys.length = m) :
    (shuf xs m ys 0).2 = (shuf xs m (idl m) 0).2 ∧ ∀ i, i < m → (shuf xs m ys 0).1[i]?.getD 0 = ys[((shuf xs m (idl m) 0).1[i]?.getD 0).toNat]?.getD 0 := by
  have h := shuf_map (fun v => ys[v.toNat]?.getD 0) xs hx m (idl m) 0 (by rw [idl_length]; omega)
  rw [← hm, ← list_is_map ys, hm] at h
  rw [h]
  refine ⟨rfl, fun i hi => ?_⟩
  have hl : i < (shuf xs m (idl m) 0).1.length := by rw [shuf_length, idl_length]; exact hi
  simp [List.getElem?_map, List.getElem?_eq_getElem hl]

theorem isl_of_arr {w : World} {a : Option Addr} {n cap : Nat} {zs : List Int} (h : Arr .i64 w a n cap zs) : ISl w a n zs :=
  ⟨h.1, fun h0 => by obtain ⟨b, off, e, _, hc⟩ := h.2.2.2.2.1 h0; exact ⟨b, off, e, hc⟩⟩

set_option maxHeartbeats 2000000 in
theorem fnShuffleIsPerm_go (A B : Option Addr) (n c m d : Nat) (xs : List Nat) (ys : List Int) (w : World) (hn : n ≤ 600) (hnil : A = none → n = 0) (hs : Sl w (fun _ => False) A n xs) (hx : ∀ x ∈ xs, x < 18446744073709551616)
    (hm : m ≤ 400) (hy : ISl w B m ys) :
    Calls Try.prog 4 #[.slice A n c, .slice B m d] w fun e w' => e = .returned (.bool true) ∧ Below w.heap.size w w' := by
  have t1 : decide ((2147483647 : Int) < (n : Int)) = false := by simp; omega
  have t2 : decide ((2147483647 : Int) < (m : Int)) = false := by simp; omega
  have t3 : decide ((400 : Int) < (m : Int)) = false := by simp; omega
  have d6 := few_yes hn
  obtain ⟨q1, q2⟩ := is_perm xs hx ys m hy.1
  have hp := shuf_perm xs hx m (idl m) 0 (by rw [idl_length]; omega)
  have hr : ∀ y ∈ (shuf xs m (idl m) 0).1, 0 ≤ y ∧ y < m := fun y hy => mem_idl m y (hp.mem_iff.1 hy)
  have hlen : (shuf xs m (idl m) 0).1.length = m := by rw [shuf_length, idl_length]
  have HC := Lib.hid (implPerm_any A n c m xs w (by omega) hnil hs hx (by omega))
  have HC2 := Lib.hid (fun (W : World) (hb : Below w.heap.size w W) => implShuffle_any A B n c m d xs ys W (by omega) hnil (hs.later hb) hx (by omega) (hy.later hb))
  have HY := Lib.hid hy
  have HQ := Lib.hid q2
  have HR := Lib.hid hr
  have HLEN := Lib.hid hlen
  rw [q1] at HC2
  clear hs hnil hx hp hr hy q1 q2 hlen
  have m0 : ((m : Int) != (m : Int)) = false := by simp
  have m1 : ((((shuf xs m (idl m) 0).2 : Nat) : Int) != (((shuf xs m (idl m) 0).2 : Nat) : Int)) = false := by simp
  go_enter Try.func4, Try.ntmps4
  go_wp2_with (go_at_call 14; refine (few_any _ _ _ _).mono ?_; rintro e w' ⟨rfl, rfl⟩)
  refine HC.out.mono ?_
  rintro e w1 ⟨A1, c1, rfl, hi1, hb1⟩
  have HI1 := Lib.hid hi1
  have HB1 := Lib.hid hb1
  clear hi1 hb1
  go_wp2_with fail
  refine (HC2.out _ HB1.out).mono ?_
  rintro e w2 ⟨A2, c2, rfl, hi2, hb2⟩
  have HI2 := Lib.hid hi2
  have HB2 := Lib.hid hb2
  clear hi2 hb2
  go_wp2_with fail
  go_loopw [9, 10, 59] (fun _ _ i wr => ∃ k q : Nat, k ≤ m ∧ i = .int .i64 k ∧ wr = w2.drewN q) (fun _ _ i _ => m - (intOf i).toNat)
  case atStart => exact ⟨0, 0, by omega, rfl, rfl⟩
  case round =>
    obtain ⟨k, q, hk, rfl, rfl⟩ := hrel
    by_cases hlt : k < m
    · have hbw := HB1.out.trans (HB2.out.mono HB1.out.size)
      obtain ⟨g1, o1, rfl, hc1⟩ := (HI1.out.later HB2.out).2 (by omega)
      obtain ⟨g2, o2, rfl, hc2⟩ := HI2.out.2 (by omega)
      obtain ⟨g3, o3, rfl, hc3⟩ := (HY.out.later hbw).2 (by omega)
      have hkl : k < (shuf xs m (idl m) 0).1.length := by rw [HLEN.out]; exact hlt
      have hgk : (shuf xs m (idl m) 0).1[k]?.getD 0 = (shuf xs m (idl m) 0).1[k] := by rw [List.getElem?_eq_getElem hkl]; rfl
      have hyv := HR.out _ (List.getElem_mem hkl)
      obtain ⟨v, hv⟩ : ∃ v : Nat, (shuf xs m (idl m) 0).1[k] = (v : Int) := ⟨(shuf xs m (idl m) 0).1[k].toNat, by omega⟩
      have hvm : v < m := by omega
      have p1 := hc1 k hlt
      have p2 := hc2 k hlt
      have p3 := hc3 v hvm
      rw [HQ.out k hlt, hgk, hv, Int.toNat_natCast] at p2
      rw [hgk, hv] at p1
      have k1 : (0 : Int) ≤ (k : Int) := by omega
      have k2 : (k : Int) < (m : Int) := by omega
      have v0 : (0 : Int) ≤ (v : Int) := by omega
      have v1 : decide ((v : Int) < 0) = false := by simp
      have v2 : decide ((m : Int) ≤ (v : Int)) = false := by simp; omega
      have v3 : (v : Int) < (m : Int) := by omega
      have v4 : ((ys[v]?.getD 0) != (ys[v]?.getD 0)) = false := by simp
      clear hbw hc1 hc2 hc3 hgk hyv hv
      go_wp2_with fail
      go_quiet (fail)
      go_wp2
      go_roundw
      case rel => exact ⟨k + 1, _, by omega, by go_num, rfl⟩
      case measure => simp [intOf]; omega
    · obtain rfl : k = m := by omega
      go_wp2
      go_ret
      exact ⟨rfl, below_drewN (HB1.out.trans (HB2.out.mono HB1.out.size)) _⟩

set_option maxHeartbeats 1000000 in
theorem fnShuffleIsPerm_true (A : Option Addr) (n c : Nat) (zs : List Int) {w : World} (hA : Arr .u64 w A n c zs) (B : Option Addr) (m d : Nat) (ys : List Int) (hB : Arr .i64 w B m d ys) :
    Calls Try.prog 4 #[.slice A n c, .slice B m d] w fun e w' => e = .returned (.bool true) ∧ Below w.heap.size w w' := by
  obtain ⟨xs, hs, hx, hnil⟩ := sl_of_arr hA
  have hmx : n ≤ maxLen := Nat.le_trans hA.2.1 hA.2.2.1
  have hmy : m ≤ maxLen := Nat.le_trans hB.2.1 hB.2.2.1
  unfold maxLen at hmx hmy
  by_cases h1 : n ≤ 600 ∧ m ≤ 400
  · exact fnShuffleIsPerm_go A B n c m d xs ys w h1.1 hnil hs hx h1.2 (isl_of_arr hB)
  · clear hs hnil hA hB hx
    by_cases t1 : 2147483647 < n
    · have u1 : decide ((2147483647 : Int) < (n : Int)) = true := by simp; omega
      go_enter Try.func4, Try.ntmps4
      go_wp2
      go_ret
      exact ⟨rfl, Below.refl _ _⟩
    · have u1 : decide ((2147483647 : Int) < (n : Int)) = false := by simp; omega
      by_cases t2 : 2147483647 < m
      · have u2 : decide ((2147483647 : Int) < (m : Int)) = true := by simp; omega
        go_enter Try.func4, Try.ntmps4
        go_wp2
        go_ret
        exact ⟨rfl, Below.refl _ _⟩
      · have u2 : decide ((2147483647 : Int) < (m : Int)) = false := by simp; omega
        by_cases h6 : n ≤ 600
        · have d6 := few_yes h6
          have u3 : decide ((400 : Int) < (m : Int)) = true := by simp; omega
          go_enter Try.func4, Try.ntmps4
          go_wp2_with (go_at_call 14; refine (few_any _ _ _ _).mono ?_; rintro e w' ⟨rfl, rfl⟩)
          go_ret
          exact ⟨rfl, Below.refl _ _⟩
        · have d6 : decide (n ≤ 600) = false := by simpa using h6
          go_enter Try.func4, Try.ntmps4
          go_wp2_with (go_at_call 14; refine (few_any _ _ _ _).mono ?_; rintro e w' ⟨rfl, rfl⟩)
          go_ret
          exact ⟨rfl, Below.refl _ _⟩
end Go.Proofs.Ytdailbjipfbdfaa
