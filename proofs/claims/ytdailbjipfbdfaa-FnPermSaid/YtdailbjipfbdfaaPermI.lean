/- Contracts: slices.Clone of integers, impl.Perm. -/
import Derived.Test.YtdailbjipfbdfaaPerm
import Derived.Deep.RegionHeld3
namespace Go.Proofs.Ytdailbjipfbdfaa
open Go.RowKit

/-- The slice at A, of n integers, reads as ys. -/
def ISl (w : World) (A : Option Addr) (n : Nat) (ys : List Int) : Prop :=
  ys.length = n ∧ (0 < n → ∃ g o, A = some ⟨g, o, none⟩ ∧ ∀ i, i < n → w.cell? ⟨g, o + i, none⟩ = some (.int .i64 (ys[i]?.getD 0)))

theorem ISl.later {w w' : World} {A : Option Addr} {n : Nat} {ys : List Int} (h : ISl w A n ys) (hb : Below w.heap.size w w') : ISl w' A n ys :=
  ⟨h.1, fun hn => by
    obtain ⟨g, o, e, hc⟩ := h.2 hn
    exact ⟨g, o, e, fun i hi => cell_later hb (hc i hi)⟩⟩
theorem isl_of_own {w : World} {base : Nat} {v : Value} {n : Nat} {ys : List Int} (h : w.ownsRow base 3 1 v n (ivals ys)) :
    ∃ A c, v = .slice A n c ∧ ISl w A n ys := by
  have hl : ys.length = n := by have := h.1; simpa [ivals] using this
  rcases h.2 with ⟨rfl, rfl⟩ | ⟨g, cap, cur, rfl, hb, hg, hn, hm, hs, ht⟩
  · exact ⟨none, 0, rfl, hl, fun h => absurd h (by omega)⟩
  · refine ⟨_, cap, rfl, hl, fun _ => ⟨g, 0, rfl, fun i hi => ?_⟩⟩
    have := h.cellAt i (by omega)
    rw [Nat.zero_add, this]
    exact ivals_get ys i (by omega)

set_option maxHeartbeats 1000000 in
theorem cloneI_any (A : Option Addr) (n c : Nat) (ys : List Int) (w : World) (hn : n ≤ 2147483647) (hnil : A = none → n = 0) (hs : ISl w A n ys) :
    Calls Try.prog 27 #[.slice A n c] w fun e w' => ∃ v, e = .returned v ∧ w'.ownsRow w.heap.size 3 1 v n (ivals ys) ∧ Below w.heap.size w w' ∧ (v = .slice none 0 0 ↔ A = none) := by
  obtain ⟨i0, hi0, hz0, hz1, hz2⟩ := info_parts info_int
  have hq := fun W => Lib.run_eql_slice_nil (P := Try.prog) W 24 3 A n c 0 0 Try.underlying24
  rcases A with _ | ad
  · obtain rfl := hnil rfl
    have hx : ys = [] := List.eq_nil_of_length_eq_zero hs.1
    subst hx
    simp only [Option.isNone_none] at hq
    go_enter Try.func27, Try.ntmps27
    go_wp2
    go_ret
    exact ⟨_, rfl, World.ownsRow_nil _ _ _ _, Below.refl _ _, by simp⟩
  · simp only [Option.isNone_some] at hq
    have hown := World.ownsRow_lit (base := w.heap.size) (e := 3) (size := 1) w #[] 0 (Nat.le_refl _) (by unfold maxLen; omega) (by simp)
    have hcell : ∀ j u, (ivals ys)[j]? = some u → (w.alloc (.cells #[] 3)).cell? (ad.add j) = some u := by
      intro j u hu
      have hj : j < ys.length := by
        rcases Nat.lt_or_ge j ys.length with h | h
        · exact h
        · simp [ivals, List.getElem?_eq_none h] at hu
      rw [ivals_get ys j hj] at hu
      injection hu with hu
      subst hu
      obtain ⟨g, o, e, hc⟩ := hs.2 (by rw [← hs.1]; omega)
      injection e with e
      subst e
      rw [show (⟨g, o, none⟩ : Addr).add j = ⟨g, o + j, none⟩ from by unfold Addr.add; split <;> simp_all]
      exact cell_later ((Below.refl _ _).alloc (Nat.le_refl _) _) (hc j (by rw [← hs.1]; exact hj))
    have hlen : (ivals ys).length = n * 1 := by simp [ivals, hs.1]
    have HO := Lib.hid hown
    have HC := Lib.hid hcell
    have HL := Lib.hid hlen
    clear hown hcell hlen hs hnil
    go_enter Try.func27, Try.ntmps27
    go_wp2_with (at_builtin; refine wpList_append_own _ rfl _ _ 24 rfl w.heap.size 3 i0 (.int .i64 0) 1 8 Try.underlying24 hi0 hz0 hz1 hz2 rfl (by decide) _ _ _ rfl HO.out ad n c (ivals ys) rfl HL.out HC.out ?c2 ?c3 ?c4 (by simp) ?_)
    case c2 =>
      intro u hu
      simp only [ivals, List.mem_map] at hu
      obtain ⟨x, _, rfl⟩ := hu
      rfl
    case c3 => unfold maxLen; omega
    case c4 => omega
    intro v' w1 hown' hgrow hnv
    have HO2 := Lib.hid hown'
    have HG := Lib.hid hgrow
    have HV := Lib.hid hnv
    clear hown' hgrow hnv
    go_wp2
    go_ret
    refine ⟨_, rfl, by simpa using HO2.out, ((Below.refl _ _).alloc (Nat.le_refl _) _).grown HG.out (by simp) (fun k hk => ?_), ?_⟩
    · simp [Value.ownBlock] at hk
      omega
    · have := HV.out
      simpa using this

theorem one_later {W1 W2 : World} {p : Value} {a : Addr} (hb : Below W1.heap.size W1 W2) (h : W1.cell? a = some p) : W2.cell? a = some p := cell_later hb h

set_option maxHeartbeats 1000000 in
theorem implPerm_any (A : Option Addr) (n c m : Nat) (xs : List Nat) (w : World) (hn : n ≤ 2147483647) (hnil : A = none → n = 0) (hs : Sl w (fun _ => False) A n xs) (hx : ∀ x ∈ xs, x < 18446744073709551616) (hm : m ≤ 4096) :
    Calls Try.prog 13 #[.slice A n c, .int .i64 m] w fun e w' => ∃ A' c', e = .returned (.tuple #[.slice A' m c', .int .i64 ((shuf xs m (idl m) 0).2 : Nat)]) ∧ ISl w' A' m (shuf xs m (idl m) 0).1 ∧ Below w.heap.size w w' := by
  have HX := Lib.hid hx
  have HLS := Lib.hid (listof_any A n c xs w hn hnil hs)
  have t1 : decide ((m : Int) < 0) = false := by simp
  have t2 : decide ((4096 : Int) < m) = false := by simp; omega
  clear hx hnil hs
  go_enter Try.func13, Try.ntmps13
  go_wp2_with fail
  refine HLS.out.mono ?_
  rintro e w1 ⟨L, A', c', rfl, hl, hsl, hLb, hb⟩
  have HSR := Lib.hid (src_start hl hsl hn HX.out)
  have HB := Lib.hid hb
  clear hl hsl hb
  go_wp2_with fail
  refine (new_any L _).mono ?_
  rintro e w2 ⟨rfl, rfl⟩
  go_wp2_with fail
  refine (perm_any (B := w.heap.size) hm HSR.out (by intro g hg; omega) hLb).mono ?_
  rintro e w3 ⟨rfl, h1, h2, h3⟩
  have c1 := Whole.cell h1.2.1 1
  simp at c1
  obtain ⟨A2, c2, e2, hi2⟩ := isl_of_own h2
  injection e2 with e2 _ e3
  subst e2 e3
  simp only [World.size_alloc] at hi2
  have hbw : Below w.heap.size w w3 := (HB.out.alloc HB.out.size _).trans h3
  have HC := Lib.hid (fun (W : World) (hb : Below w3.heap.size w3 W) => cloneI_any _ m m _ W (by omega) (by intro e; cases e) (hi2.later hb))
  have HBW := Lib.hid hbw
  clear h1 h2 h3 hi2 hbw
  go_wp2_with fail
  go_region_held3 (fun w' => w'.cell? ⟨L, 1, none⟩ = some (.int .i64 ((shuf xs m (idl m) 0).2 : Nat)))
    (first
      | (exact c1)
      | (exact one_later (by assumption) (by assumption)))
    (first
      | (go_at_call 27; refine (HC.out _ (Below.refl _ _).drew).mono ?_; rintro e w4 ⟨v4, rfl, ho4, hb4, _⟩; obtain ⟨A4, c4, rfl, hi4⟩ := isl_of_own ho4))
  have HI := Lib.hid hi4
  have HB4 := Lib.hid hb4
  clear hi4 hb4 ho4
  go_wp2
  go_ret2
  exact ⟨A4, c4, rfl, HI.out, HBW.out.drew.trans (HB4.out.mono HBW.out.size)⟩
end Go.Proofs.Ytdailbjipfbdfaa
