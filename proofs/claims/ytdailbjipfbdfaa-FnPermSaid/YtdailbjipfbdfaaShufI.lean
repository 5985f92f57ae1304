/- Contract of impl.Shuffle: a copy of a list, shuffled. -/
import Derived.Test.YtdailbjipfbdfaaPermI
import Derived.Deep.AppendLies
namespace Go.Proofs.Ytdailbjipfbdfaa
open Go.RowKit

theorem Src.drew {X : Nat → Prop} {R L : Nat} {A : Option Addr} {n c t : Nat} {xs : List Nat} {w : World} (h : Src X R L A n c xs w t) : Src X R L A n c xs w.drew t := h.later ⟨rfl, rfl, rfl, Nat.le_refl _, fun _ _ => rfl⟩
theorem LstAt.later {w w' : World} {base V G m c : Nat} {ys : List Int} (h : LstAt w base V G m c ys) (hb : Below w.heap.size w w') : LstAt w' base V G m c ys :=
  ⟨h.1.below hb h.1.lt, h.2.1.kept (grow_of_below hb none) (.inr (by simp [Value.ownBlock])), h.2.2⟩

set_option maxHeartbeats 1000000 in
theorem shuffle0_any (R : Nat) (f : Value) (w : World) :
    Calls Try.prog 28 #[.pointer (some ⟨R, 0, none⟩), .int .i64 0, f] w fun e w' => e = .returned (.tuple #[]) ∧ w = w' := by
  go_enter Try.func28, Try.ntmps28
  go_wp2_with fail
  refine wp_loop_rounds 1 ?_
  rw [rounds_succ]
  go_wp2
  go_end0
  exact ⟨rfl, rfl⟩

theorem one_drew {W : World} {p : Value} {a : Addr} (h : W.cell? a = some p) : W.drew.cell? a = some p := h
theorem one_alloc {W : World} {p : Value} {a : Addr} {o : Obj} (h : W.cell? a = some p) : (W.alloc o).cell? a = some p := cell_later ((Below.refl _ _).alloc (Nat.le_refl _) _) h
theorem one_alloc_drew {W : World} {p : Value} {a : Addr} {o : Obj} (h : W.drew.cell? a = some p) : (W.alloc o).drew.cell? a = some p := one_alloc (W := W) h

set_option maxHeartbeats 2000000 in
theorem implShuffle_pos (A B : Option Addr) (n c m d : Nat) (xs : List Nat) (ys : List Int) (w : World) (hn : n ≤ 2147483647) (hnil : A = none → n = 0) (hs : Sl w (fun _ => False) A n xs) (hx : ∀ x ∈ xs, x < 18446744073709551616)
    (hm : m ≤ 4096) (hm1 : 1 ≤ m) (hy : ISl w B m ys) :
    Calls Try.prog 16 #[.slice A n c, .slice B m d] w fun e w' => ∃ A' c', e = .returned (.tuple #[.slice A' m c', .int .i64 ((shuf xs m ys 0).2 : Nat)]) ∧ ISl w' A' m (shuf xs m ys 0).1 ∧ Below w.heap.size w w' := by
  have HX := Lib.hid hx
  have HLS := Lib.hid (listof_any A n c xs w hn hnil hs)
  obtain ⟨gb, ob, rfl, _⟩ := hy.2 (by omega)
  have HY := Lib.hid hy
  clear hx hnil hs hy
  go_enter Try.func16, Try.ntmps16
  go_wp2_with fail
  refine HLS.out.mono ?_
  rintro e w1 ⟨L, A', c', rfl, hl, hsl, hLb, hb⟩
  have hLlt := Whole.lt hl
  have HLA := Lib.hid hl
  have HSL := Lib.hid hsl
  have HB := Lib.hid hb
  have HCL := Lib.hid (cloneI_any _ m d ys w1 (by omega) (by intro e; cases e) (HY.out.later hb))
  clear hl hsl hb
  go_wp2_with fail
  refine HCL.out.mono ?_
  rintro e w2 ⟨v, rfl, ho, hb2, hnv⟩
  obtain ⟨G, cc, rfl, hG1, hG2⟩ : ∃ G cc, v = .slice (some ⟨G, 0, none⟩) m cc ∧ w1.heap.size ≤ G ∧ G < w2.heap.size := by
    obtain ⟨g, cap, e, h1, h2⟩ := ho.form (by omega)
    exact ⟨g, cap, e, h1, h2⟩
  have hz := hb2.size
  have hlst : LstAt (w2.alloc (.cells #[.slice (some ⟨G, 0, none⟩) m cc] 24)) w1.heap.size w2.heap.size G m cc ys := ⟨Whole.new _ _ _, ho.alloc _, by omega⟩
  have hba : Below w2.heap.size w2 (w2.alloc (.cells #[.slice (some ⟨G, 0, none⟩) m cc] 24)) := (Below.refl _ _).alloc (Nat.le_refl _) _
  have hsrc := src_start (w := w) (Whole.below (Whole.below HLA.out hb2 hLlt) hba (by omega)) ((HSL.out.later hb2).later hba) hn HX.out
  have hbr : Below w.heap.size w (w2.alloc (.cells #[.slice (some ⟨G, 0, none⟩) m cc] 24)) := (HB.out.trans (hb2.mono HB.out.size)).trans (hba.mono (by have := HB.out.size; omega))
  simp only [World.size_alloc] at hsrc
  have hbal := (Below.refl (w2.alloc (.cells #[.slice (some ⟨G, 0, none⟩) m cc] 24)).heap.size (w2.alloc (.cells #[.slice (some ⟨G, 0, none⟩) m cc] 24))).alloc (Nat.le_refl _) (.cells #[.iface 50 (.pointer (some ⟨L, 0, none⟩))] 69)
  have hlst2 := (hlst.later hbal).later (Below.refl _ _).drew
  have hsrc2 := hsrc.drew
  have hbr2 := (hbr.trans (hbal.mono hbr.size)).drew
  have c0 : (w2.alloc (.cells #[.slice (some ⟨G, 0, none⟩) m cc] 24)).cell? ⟨w2.heap.size, 0, none⟩ = some (.slice (some ⟨G, 0, none⟩) m cc) := by have h := hlst.1.cell 0; rw [h]; rfl
  have HSH := Lib.hid (shuffleS_any (B := w.heap.size) hm hsrc2 hlst2 (by omega) (by omega) (by omega) (by omega) hLb (by have := HB.out.size; omega) hbr2.size)
  have HBR := Lib.hid hbr2
  have C0 := Lib.hid c0
  clear hnv ho hb2 hlst hba hsrc hbr hbal hlst2 hsrc2 hbr2 c0
  have hmf : ∀ (fn : Fn) (first cap : Array Value) (W : World), (Instr.makeFunc fn first cap).run Try.prog W = .ok (.func fn first cap) W := fun _ _ _ _ => rfl
  go_wp2_with fail
  go_region_held3 (fun w' => w'.cell? ⟨w2.heap.size, 0, none⟩ = some (.slice (some ⟨G, 0, none⟩) m cc))
    (first
      | (exact C0.out)
      | (exact one_alloc_drew (by assumption))
      | (have hk := h2.1.cell 0; simp at hk; exact hk))
    (first
      | (go_at_call 25; refine (new_any L _).mono ?_; rintro e w3 ⟨rfl, rfl⟩)
      | (go_at_call 28; refine HSH.out.mono ?_; rintro e w4 ⟨rfl, h1, h2, h3⟩))
  all_goals
    have k0 := h2.1.cell 0
    have k1 := Whole.cell h1.2.1 1
    simp at k0 k1
    obtain ⟨A5, c5, e5, hi5⟩ := isl_of_own h2.2.1
    injection e5 with e5 _ e6
    subst e5 e6
    have HI := Lib.hid hi5
    have HB4 := Lib.hid (HBR.out.trans h3)
    clear h1 h2 h3 hi5 hmf
    go_wp2_with fail
    go_quiet (fail)
    go_wp2
    go_ret2
    exact ⟨_, _, rfl, HI.out, below_drewN HB4.out _⟩

set_option maxHeartbeats 2000000 in
theorem implShuffle_zero (A B : Option Addr) (n c d : Nat) (xs : List Nat) (w : World) (hn : n ≤ 2147483647) (hnil : A = none → n = 0) (hs : Sl w (fun _ => False) A n xs) :
    Calls Try.prog 16 #[.slice A n c, .slice B 0 d] w fun e w' => ∃ A' c', e = .returned (.tuple #[.slice A' 0 c', .int .i64 0]) ∧ Below w.heap.size w w' := by
  have HLS := Lib.hid (listof_any A n c xs w hn hnil hs)
  clear hnil hs
  go_enter Try.func16, Try.ntmps16
  go_wp2_with fail
  refine HLS.out.mono ?_
  rintro e w1 ⟨L, A', c', rfl, hl, hsl, hLb, hb⟩
  have hLlt := Whole.lt hl
  have HLA := Lib.hid hl
  have HB := Lib.hid hb
  clear hl hsl hb
  go_wp2_with fail
  refine (cloneI_any _ 0 d [] w1 (by omega) (fun _ => rfl) ⟨rfl, fun h => absurd h (by omega)⟩).mono ?_
  rintro e w2 ⟨v, rfl, ho, hb2, hnv⟩
  obtain ⟨A2, c2, rfl, _⟩ := isl_of_own ho
  have c0 : (w2.alloc (.cells #[.slice A2 0 c2] 24)).cell? ⟨w2.heap.size, 0, none⟩ = some (.slice A2 0 c2) := by have h := (Whole.new w2 24 #[.slice A2 0 c2]).cell 0; rw [h]; rfl
  have hla := Whole.below HLA.out hb2 hLlt
  have l0 := Whole.cell hla 1
  simp at l0
  have l1 : (w2.alloc (.cells #[.slice A2 0 c2] 24)).cell? ⟨L, 1, none⟩ = some (.int .i64 0) := one_alloc l0
  have HB2 := Lib.hid (HB.out.trans (hb2.mono HB.out.size))
  clear hnv ho hb2 hla l0
  have hmf : ∀ (fn : Fn) (first cap : Array Value) (W : World), (Instr.makeFunc fn first cap).run Try.prog W = .ok (.func fn first cap) W := fun _ _ _ _ => rfl
  go_wp2_with fail
  go_region_held3 (fun w' => w'.cell? ⟨w2.heap.size, 0, none⟩ = some (.slice A2 0 c2) ∧ w'.cell? ⟨L, 1, none⟩ = some (.int .i64 0))
    (first
      | (exact ⟨c0, l1⟩)
      | assumption
      | (exact ⟨one_alloc_drew (And.left (by assumption)), one_alloc_drew (And.right (by assumption))⟩))
    (first
      | (go_at_call 25; refine (new_any L _).mono ?_; rintro e w3 ⟨rfl, rfl⟩)
      | (go_at_call 28; refine (shuffle0_any _ _ _).mono ?_; rintro e w4 ⟨rfl, rfl⟩))
  all_goals
    have k0 := one_alloc (o := .cells #[.iface 50 (.pointer (some ⟨L, 0, none⟩))] 69) c0
    have k1 := one_alloc (o := .cells #[.iface 50 (.pointer (some ⟨L, 0, none⟩))] 69) l1
    clear c0 l1 hmf
    go_wp2_with fail
    go_quiet (fail)
    go_wp2
    go_ret2
    exact ⟨_, _, rfl, below_drewN ((HB2.out.alloc HB2.out.size _).alloc (Nat.le_trans HB2.out.size (by simp)) _).drew _⟩

theorem implShuffle_any (A B : Option Addr) (n c m d : Nat) (xs : List Nat) (ys : List Int) (w : World) (hn : n ≤ 2147483647) (hnil : A = none → n = 0) (hs : Sl w (fun _ => False) A n xs) (hx : ∀ x ∈ xs, x < 18446744073709551616)
    (hm : m ≤ 4096) (hy : ISl w B m ys) :
    Calls Try.prog 16 #[.slice A n c, .slice B m d] w fun e w' => ∃ A' c', e = .returned (.tuple #[.slice A' m c', .int .i64 ((shuf xs m ys 0).2 : Nat)]) ∧ ISl w' A' m (shuf xs m ys 0).1 ∧ Below w.heap.size w w' := by
  rcases Nat.eq_zero_or_pos m with h0 | h0
  · subst h0
    have hys : ys = [] := List.eq_nil_of_length_eq_zero hy.1
    subst hys
    rw [shuf_small xs 0 [] 0 (by omega)]
    exact (implShuffle_zero A B n c d xs w hn hnil hs).mono fun e w' ⟨A', c', he, hb⟩ => ⟨A', c', he, ⟨rfl, fun h => absurd h (by omega)⟩, hb⟩
  · exact implShuffle_pos A B n c m d xs ys w hn hnil hs hx hm h0 hy
end Go.Proofs.Ytdailbjipfbdfaa
