/- A shuffled list is a permutation; contract of spec.Sorted; the law FnPermOnce as a walk. -/
import Derived.Test.YtdailbjipfbdfaaPermI
namespace Go.Proofs.Ytdailbjipfbdfaa
open Go.RowKit

theorem swp_perm (ys : List Int) (i j : Nat) (hi : i < ys.length) (hj : j < ys.length) : (swp ys i j).Perm ys := by
  have h := Array.swap_perm (xs := ys.toArray) (i := i) (j := j) (by simpa using hi) (by simpa using hj)
  rw [Array.perm_iff_toList_perm] at h
  have e : (ys.toArray.swap i j (by simpa using hi) (by simpa using hj)).toList = swp ys i j := by
    simp [Array.swap, swp, hi, hj]
  rw [e] at h
  simpa using h
theorem shuf_perm (xs : List Nat) (hx : ∀ x ∈ xs, x < 18446744073709551616) : ∀ (k : Nat) (ys : List Int) (t : Nat), k ≤ ys.length → (shuf xs k ys t).1.Perm ys := by
  intro k
  induction k with
  | zero => intro ys t _; simp only [shuf]; exact List.Perm.refl _
  | succ k ih =>
    intro ys t h
    simp only [shuf]
    split
    · exact List.Perm.refl _
    · have hj := Pl.belowN_lt hx (show 0 < k + 1 by omega) t
      exact (ih _ _ (by rw [swp_length]; omega)).trans (swp_perm ys k _ (by omega) (by omega))
theorem idl_length (m : Nat) : (idl m).length = m := by simp [idl]
theorem idl_nodup (m : Nat) : (idl m).Nodup := by
  unfold idl
  refine List.Pairwise.map _ ?_ List.nodup_range
  intro a b h e
  exact h (by omega)
theorem mem_idl (m : Nat) (y : Int) (h : y ∈ idl m) : 0 ≤ y ∧ y < m := by
  simp only [idl, List.mem_map, List.mem_range] at h
  obtain ⟨i, hi, rfl⟩ := h
  omega

/-- Which numbers below m were among the first k. -/
def bvals (ys : List Int) (m k : Nat) : List Value := (List.range m).map fun v : Nat => Value.bool (decide ((v : Int) ∈ ys.take k))
theorem bvals_zero (ys : List Int) (m : Nat) : bvals ys m 0 = List.replicate m (.bool false) := by
  apply List.ext_getElem
  · simp [bvals]
  · intro i h1 h2
    simp [bvals]
theorem bvals_succ (ys : List Int) (m k v : Nat) (hk : k < ys.length) (hv : ys[k]?.getD 0 = (v : Int)) : (bvals ys m k).set v (.bool true) = bvals ys m (k + 1) := by
  have hyk : ys[k] = (v : Int) := by rw [List.getElem?_eq_getElem hk] at hv; simpa using hv
  apply List.ext_getElem
  · simp [bvals]
  · intro i h1 h2
    simp only [bvals, List.getElem_set, List.getElem_map, List.getElem_range]
    rw [List.take_succ_eq_append_getElem hk, hyk]
    by_cases h : v = i
    · subst h; simp
    · rw [if_neg h]
      congr 1
      simp only [List.mem_append, List.mem_singleton]
      have : ¬ (i : Int) = (v : Int) := by omega
      simp [this]
theorem bvals_get (ys : List Int) (m k v : Nat) (hv : v < m) : (bvals ys m k)[v]? = some (.bool (decide ((v : Int) ∈ ys.take k))) := by
  simp [bvals, hv]

theorem info_bool : (Try.prog.info? 4).map (fun i => (i.zero, i.size, i.bytes)) = some (some (.bool false), 1, 1) := by kernel_rfl

theorem not_mem_take {ys : List Int} (hnd : ys.Nodup) {k : Nat} (hk : k < ys.length) : ¬ ys[k] ∈ ys.take k := by
  intro hm
  rw [List.mem_take_iff_getElem] at hm
  obtain ⟨i, hi, e⟩ := hm
  have := (List.getElem_inj hnd).1 e
  omega

set_option maxHeartbeats 2000000 in
theorem sorted_any (A : Option Addr) (m c : Nat) (ys : List Int) (w : World) (hm : m ≤ 4096) (h1 : 1 ≤ m) (hs : ISl w A m ys) (hr : ∀ y ∈ ys, 0 ≤ y ∧ y < m) (hnd : ys.Nodup) :
    Calls Try.prog 15 #[.slice A m c] w fun e w' => e = .returned (.bool true) ∧ Below w.heap.size w w' := by
  obtain ⟨g, o, rfl, hc⟩ := hs.2 (by omega)
  have hl := hs.1
  obtain ⟨i0, hi0, hz0, hz1, hz2⟩ := info_parts info_bool
  obtain ⟨w1, hrun, hown, hg⟩ := run_make_full (P := Try.prog) w w.heap.size 56 4 i0 (.bool false) 1 Try.underlying56 hi0 hz0 hz1 .i64 .i64 m (by rw [hz2]; omega) (by unfold maxLen; omega) (Nat.le_refl _)
  have e0 : (madeCells (Value.bool false).cells (m * 1)).toList = bvals ys m 0 := by
    rw [bvals_zero, Nat.mul_one]
    exact toList_madeCells_one _ _
  rw [e0] at hown
  have hgb := below_of_grow hg
  have HC := Lib.hid hc
  have HO := Lib.hid hown
  have HB := Lib.hid hgb
  have HL := Lib.hid hl
  have HR := Lib.hid hr
  have HND := Lib.hid hnd
  clear hs hc hown hg hgb e0 hl hr hnd hi0 hz0 hz1 hz2
  go_enter Try.func15, Try.ntmps15
  go_wp2_with fail
  clear hrun
  go_loopw [5, 11] (fun _ i wr => ∃ k : Nat, k ≤ m ∧ i = .int .i64 k ∧ wr.ownsRow w.heap.size 4 1 (.slice (some ⟨w.heap.size, 0, none⟩) m m) m (bvals ys m k) ∧ Below w.heap.size w wr) (fun _ i _ => m - (intOf i).toNat)
  case atStart => exact ⟨0, by omega, rfl, HO.out, HB.out⟩
  case round =>
    obtain ⟨k, hk, rfl, ho, hb⟩ := hrel
    have HO1 := Lib.hid ho
    have HB1 := Lib.hid hb
    clear ho hb HO HB
    by_cases hlt : k < m
    · have hkl : k < ys.length := by rw [HL.out]; exact hlt
      have hyk : ys[k]?.getD 0 = ys[k] := by rw [List.getElem?_eq_getElem hkl]; rfl
      have hy := HR.out ys[k] (List.getElem_mem hkl)
      obtain ⟨v, hv⟩ : ∃ v : Nat, ys[k] = (v : Int) := ⟨ys[k].toNat, by omega⟩
      have hvm : v < m := by omega
      have c0 := cell_later HB1.out (HC.out k hlt)
      rw [hyk, hv] at c0
      have s0 := HO1.out.cellAt v (by omega)
      have hnm : decide ((v : Int) ∈ ys.take k) = false := by
        have := not_mem_take HND.out hkl
        rw [hv] at this
        simpa using this
      rw [bvals_get ys m k v hvm, hnm] at s0
      have fz := HO1.out.frozenAt v
      obtain ⟨q1, q2⟩ := HO1.out.stored v (.bool true)
      rw [bvals_succ ys m k v hkl (hyk.trans hv)] at q1
      have Q1 := Lib.hid q1
      have Q2 := Lib.hid q2
      have k1 : (0 : Int) ≤ (k : Int) := by omega
      have k2 : (k : Int) < (m : Int) := by omega
      have v1 : decide ((v : Int) < 0) = false := by simp
      have v2 : decide ((m : Int) ≤ (v : Int)) = false := by simp; omega
      have v3 : (v : Int) < (m : Int) := by omega
      clear hyk hy hv q1 q2 hnm
      go_wp2
      go_roundw
      case rel => exact ⟨k + 1, by omega, by go_num, Q1.out, HB1.out.grown Q2.out HB1.out.size (fun g hg => by injection hg with hg; omega)⟩
      case measure => simp [intOf]; omega
    · obtain rfl : k = m := by omega
      go_wp2
      go_ret
      exact ⟨rfl, HB1.out⟩

set_option maxHeartbeats 1000000 in
theorem fnPermOnce_go (A : Option Addr) (n c u m : Nat) (xs : List Nat) (w : World) (hn : n ≤ 2147483647) (hnil : A = none → n = 0) (hs : Sl w (fun _ => False) A n xs) (hx : ∀ x ∈ xs, x < 18446744073709551616)
    (hm1 : 1 ≤ m) (hm : m ≤ 4096) (hv : (1 : Int) + (u : Int) % 400 = (m : Int)) :
    Calls Try.prog 3 #[.slice A n c, .int .u16 u] w fun e w' => e = .returned (.bool true) ∧ Below w.heap.size w w' := by
  have t1 : decide ((2147483647 : Int) < (n : Int)) = false := by simp; omega
  have e0 : ((m : Int) == (m : Int)) = true := by simp
  have hp := shuf_perm xs hx m (idl m) 0 (by rw [idl_length]; omega)
  have hr : ∀ y ∈ (shuf xs m (idl m) 0).1, 0 ≤ y ∧ y < m := fun y hy => mem_idl m y (hp.mem_iff.1 hy)
  have hnd : (shuf xs m (idl m) 0).1.Nodup := hp.nodup_iff.2 (idl_nodup m)
  have HC := Lib.hid (implPerm_any A n c m xs w hn hnil hs hx hm)
  have HR := Lib.hid hr
  have HND := Lib.hid hnd
  clear hs hnil hx hp hr hnd
  by_cases h6 : n ≤ 600
  · have d6 := few_yes h6
    go_enter Try.func3, Try.ntmps3
    go_wp2_with fail
    refine HC.out.mono ?_
    rintro e w1 ⟨A', c', rfl, hi, hb⟩
    have HI := Lib.hid hi
    have HB := Lib.hid hb
    clear hi hb
    go_wp2_with (go_at_call 14; refine (few_any _ _ _ _).mono ?_; rintro e w' ⟨rfl, rfl⟩)
    refine (sorted_any A' m c' _ _ hm hm1 HI.out HR.out HND.out).mono ?_
    rintro e w2 ⟨rfl, hb2⟩
    have HB2 := Lib.hid hb2
    clear hb2
    go_wp2
    go_ret
    exact ⟨rfl, HB.out.trans (HB2.out.mono HB.out.size)⟩
  · have d6 : decide (n ≤ 600) = false := by simpa using h6
    go_enter Try.func3, Try.ntmps3
    go_wp2_with fail
    refine HC.out.mono ?_
    rintro e w1 ⟨A', c', rfl, hi, hb⟩
    have HB := Lib.hid hb
    clear hi hb
    go_wp2_with (go_at_call 14; refine (few_any _ _ _ _).mono ?_; rintro e w' ⟨rfl, rfl⟩)
    go_ret
    exact ⟨rfl, HB.out⟩

set_option maxHeartbeats 1000000 in
theorem fnPermOnce_true (A : Option Addr) (n c : Nat) (zs : List Int) {w : World} (hA : Arr .u64 w A n c zs) (u : Nat) (_hu : u < 65536) :
    Calls Try.prog 3 #[.slice A n c, .int .u16 u] w fun e w' => e = .returned (.bool true) ∧ Below w.heap.size w w' := by
  obtain ⟨xs, hs, hx, hnil⟩ := sl_of_arr hA
  clear hA
  by_cases h1 : 2147483647 < n
  · have t1 : decide ((2147483647 : Int) < (n : Int)) = true := by simp; omega
    clear hs hnil
    go_enter Try.func3, Try.ntmps3
    go_wp2
    go_ret
    exact ⟨rfl, Below.refl _ _⟩
  · exact fnPermOnce_go A n c u (1 + u % 400) xs w (by omega) hnil hs hx (by omega) (by omega) (by omega)
end Go.Proofs.Ytdailbjipfbdfaa
