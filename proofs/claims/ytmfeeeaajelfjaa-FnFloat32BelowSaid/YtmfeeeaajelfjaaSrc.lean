/- Contracts: slices.Clone of words, impl.listOf, rand.New, (*list).Uint64, (*Rand).Uint64: words that are taken one after the other. -/
import Derived.Test.YtmfeeeaajelfjaaProg
import Derived.Handy
import Derived.WalkSpells
import Derived.WalkLawsBesides
import Derived.Deep.QuietTactic
import Derived.BigQuiet
import Derived.Lib.Hide
import Derived.Lib.SliceRun
import Derived.Test.YtmfeeeaajelfjaaPlain
import Derived.Test.YtmfeeeaajelfjaaMem
namespace Go.Proofs.Ytmfeeeaajelfjaa
open Go.RowKit

/-- Words as values. -/
def vals (xs : List Nat) : List Value := xs.map fun x => .int .u64 (x : Nat)
theorem vals_get {xs : List Nat} {j : Nat} {u : Value} (h : (vals xs)[j]? = some u) : j < xs.length ∧ u = .int .u64 (xs[j]?.getD 0 : Nat) := by
  simp only [vals, List.getElem?_map, Option.map_eq_some_iff] at h
  obtain ⟨x, hx, rfl⟩ := h
  exact ⟨(List.getElem?_eq_some_iff.1 hx).1, by rw [hx]; rfl⟩

/-- The slice at A, of n words, reads as the words xs; it lies in another block than those of X. -/
def Sl (w : World) (X : Nat → Prop) (A : Option Addr) (n : Nat) (xs : List Nat) : Prop :=
  xs.length = n ∧ (0 < n → ∃ g o, A = some ⟨g, o, none⟩ ∧ ¬ X g ∧ ∀ i, i < n → w.cell? ⟨g, o + i, none⟩ = some (.int .u64 (xs[i]?.getD 0 : Nat)))

theorem Sl.later {w w' : World} {X : Nat → Prop} {A : Option Addr} {n : Nat} {xs : List Nat} (h : Sl w X A n xs) (hb : Below w.heap.size w w') : Sl w' X A n xs :=
  ⟨h.1, fun hn => by
    obtain ⟨g, o, e, hx, hc⟩ := h.2 hn
    exact ⟨g, o, e, hx, fun i hi => cell_later hb (hc i hi)⟩⟩
theorem Sl.grown {w w' : World} {X : Nat → Prop} {A : Option Addr} {n b : Nat} {xs : List Nat} (h : Sl w X A n xs) (hb : w.grownBy w' (some b)) (hX : X b) : Sl w' X A n xs :=
  ⟨h.1, fun hn => by
    obtain ⟨g, o, e, hx, hc⟩ := h.2 hn
    refine ⟨g, o, e, hx, fun i hi => hb.cell (hc i hi) ?_⟩
    intro e
    injection e with e
    exact hx (by rw [show g = b from e]; exact hX)⟩

theorem info_u64 : (Try.prog.info? 25).map (fun i => (i.zero, i.size, i.bytes)) = some (some (.int .u64 0), 1, 8) := by kernel_rfl

set_option maxHeartbeats 1000000 in
theorem clone_any (A : Option Addr) (n c : Nat) (xs : List Nat) (w : World) (hn : n ≤ 2147483647) (hnil : A = none → n = 0) (hs : Sl w (fun _ => False) A n xs) :
    Calls Try.prog 56 #[.slice A n c] w fun e w' => ∃ v, e = .returned v ∧ w'.ownsRow w.heap.size 25 1 v n (vals xs) ∧ Below w.heap.size w w' := by
  obtain ⟨i0, hi0, hz0, hz1, hz2⟩ := info_parts info_u64
  have hq := fun W => Lib.run_eql_slice_nil (P := Try.prog) W 22 25 A n c 0 0 Try.underlying22
  rcases A with _ | ad
  · obtain rfl := hnil rfl
    have hx : xs = [] := List.eq_nil_of_length_eq_zero hs.1
    subst hx
    simp only [Option.isNone_none] at hq
    go_enter Try.func56, Try.ntmps56
    go_wp2
    go_ret
    exact ⟨_, rfl, World.ownsRow_nil _ _ _ _, Below.refl _ _⟩
  · simp only [Option.isNone_some] at hq
    have hown := World.ownsRow_lit (base := w.heap.size) (e := 25) (size := 1) w #[] 0 (Nat.le_refl _) (by unfold maxLen; omega) (by simp)
    have hcell : ∀ j u, (vals xs)[j]? = some u → (w.alloc (.cells #[] 25)).cell? (ad.add j) = some u := by
      intro j u hu
      obtain ⟨hj, rfl⟩ := vals_get hu
      obtain ⟨g, o, e, _, hc⟩ := hs.2 (by rw [← hs.1]; omega)
      injection e with e
      subst e
      rw [show (⟨g, o, none⟩ : Addr).add j = ⟨g, o + j, none⟩ from by unfold Addr.add; split <;> simp_all]
      exact cell_later ((Below.refl _ _).alloc (Nat.le_refl _) _) (hc j (by rw [← hs.1]; exact hj))
    have hlen : (vals xs).length = n * 1 := by simp [vals, hs.1]
    have HO := Lib.hid hown
    have HC := Lib.hid hcell
    have HL := Lib.hid hlen
    clear hown hcell hlen hs hnil
    go_enter Try.func56, Try.ntmps56
    go_wp2_with (at_builtin; refine wpList_append_own _ rfl _ _ 22 rfl w.heap.size 25 i0 (.int .u64 0) 1 8 Try.underlying22 hi0 hz0 hz1 hz2 rfl (by decide) _ _ _ rfl HO.out ad n c (vals xs) rfl HL.out HC.out ?c2 ?c3 ?c4 (by simp) ?_)
    case c2 =>
      intro u hu
      simp only [vals, List.mem_map] at hu
      obtain ⟨x, _, rfl⟩ := hu
      rfl
    case c3 => unfold maxLen; omega
    case c4 => omega
    intro v' w1 hown' hgrow _
    have HO2 := Lib.hid hown'
    have HG := Lib.hid hgrow
    clear hown' hgrow
    go_wp2
    go_ret
    refine ⟨_, rfl, by simpa using HO2.out, ((Below.refl _ _).alloc (Nat.le_refl _) _).grown HG.out (by simp) fun k hk => ?_⟩
    simp [Value.ownBlock] at hk
    omega

/-- A slice of the call's own, by its form. -/
theorem sl_of_own {w : World} {base : Nat} {v : Value} {n : Nat} {xs : List Nat} (h : w.ownsRow base 25 1 v n (vals xs)) :
    ∃ A c, v = .slice A n c ∧ Sl w (fun g => ¬ (base ≤ g ∧ g < w.heap.size)) A n xs := by
  have hl : xs.length = n := by have := h.1; simpa [vals] using this
  rcases h.2 with ⟨rfl, rfl⟩ | ⟨g, cap, cur, rfl, hb, hg, hn, hm, hs, ht⟩
  · exact ⟨none, 0, rfl, hl, fun h => absurd h (by omega)⟩
  · refine ⟨_, cap, rfl, hl, fun _ => ⟨g, 0, rfl, fun hx => hx ⟨hb, (Array.getElem?_eq_some_iff.1 hg).1⟩, fun i hi => ?_⟩⟩
    have := h.cellAt i (by omega)
    rw [Nat.zero_add, this]
    simp [vals, List.getElem?_map, List.getElem?_eq_getElem (show i < xs.length by omega)]
theorem Sl.mono {w : World} {X Y : Nat → Prop} {A : Option Addr} {n : Nat} {xs : List Nat} (h : Sl w X A n xs) (hxy : ∀ g, Y g → X g) : Sl w Y A n xs :=
  ⟨h.1, fun hn => by
    obtain ⟨g, o, e, hx, hc⟩ := h.2 hn
    exact ⟨g, o, e, fun hy => hx (hxy g hy), hc⟩⟩

/-- The list of words, in its block: what has been taken. -/
def ListAt (w : World) (L : Nat) (A : Option Addr) (n c t : Nat) : Prop := Whole w L 67 #[.slice A n c, .int .i64 (t : Nat)]

set_option maxHeartbeats 1000000 in
theorem listof_any (A : Option Addr) (n c : Nat) (xs : List Nat) (w : World) (hn : n ≤ 2147483647) (hnil : A = none → n = 0) (hs : Sl w (fun _ => False) A n xs) :
    Calls Try.prog 37 #[.slice A n c] w fun e w' => ∃ L A' c', e = .returned (.pointer (some ⟨L, 0, none⟩)) ∧ ListAt w' L A' n c' 0 ∧
      Sl w' (fun g => ¬ (w.heap.size ≤ g ∧ g < L)) A' n xs ∧ w.heap.size ≤ L ∧ Below w.heap.size w w' := by
  go_enter Try.func37, Try.ntmps37
  go_wp2_with fail
  refine (clone_any A n c xs _ hn hnil hs).mono ?_
  rintro e w1 ⟨v, rfl, ho, hb⟩
  obtain ⟨A', c', rfl, h1⟩ := sl_of_own ho
  have H1 := Lib.hid h1
  have HB := Lib.hid hb
  clear ho hb h1 hs hnil
  go_wp2
  go_ret
  refine ⟨w1.heap.size, A', c', rfl, Whole.new _ _ _, ?_, HB.out.size, HB.out.alloc HB.out.size _⟩
  exact H1.out.later ((Below.refl _ _).alloc (Nat.le_refl _) _)

set_option maxHeartbeats 1000000 in
theorem listu_any (X : Nat → Prop) (L : Nat) (A : Option Addr) (n c t : Nat) (xs : List Nat) (w : World) (ht : t < 4611686018427387904) (hL : ListAt w L A n c t) (hs : Sl w X A n xs) (hn : n ≤ 2147483647) :
    Calls Try.prog 77 #[.pointer (some ⟨L, 0, none⟩)] w fun e w' => e = .returned (.int .u64 (Pl.wd xs t : Nat)) ∧ ListAt w' L A n c (t + 1) ∧ w.grownBy w' (some L) := by
  have h0 := Whole.cell hL 0
  have h1 := Whole.cell hL 1
  have f1 := Whole.free hL 1
  simp at h0 h1
  have HL := Lib.hid hL
  clear hL
  by_cases hlt : t < n
  · obtain ⟨g, o, rfl, _, hc⟩ := hs.2 (by omega)
    have c0 := hc t hlt
    rw [Pl.wd_in (by rw [hs.1]; exact hlt)] at c0
    clear hc hs
    have b1 : (0 : Int) ≤ (t : Int) := by omega
    have b2 : (t : Int) < (n : Int) := by omega
    go_enter Try.func77, Try.ntmps77
    go_wp2_with fail
    go_quiet (fail)
    go_wp2_with fail
    go_quiet (fail)
    go_wp2
    go_ret
    exact ⟨rfl, (HL.out.drewN _).put 1 _, grow_put (g := L) (p := ⟨L, 1, none⟩) (grow_drewN (grow_refl _ _) _) (.inl rfl) _⟩
  · have e0 := Pl.wd_out (xs := xs) (t := t) (by rw [hs.1]; omega)
    rw [e0]
    clear hs e0
    have b2 : ¬ (t : Int) < (n : Int) := by omega
    go_enter Try.func77, Try.ntmps77
    go_wp2_with fail
    go_quiet (fail)
    go_wp2
    go_ret
    exact ⟨rfl, (HL.out.drewN _).put 1 _, grow_put (g := L) (p := ⟨L, 1, none⟩) (grow_drewN (grow_refl _ _) _) (.inl rfl) _⟩

/-- A Rand over a list, each in its block. -/
def RandAt (w : World) (R L : Nat) : Prop := Whole w R 89 #[.iface 61 (.pointer (some ⟨L, 0, none⟩))]

theorem new_any (L : Nat) (w : World) :
    Calls Try.prog 38 #[.iface 61 (.pointer (some ⟨L, 0, none⟩))] w fun e w' => e = .returned (.pointer (some ⟨w.heap.size, 0, none⟩)) ∧
      w.alloc (.cells #[.iface 61 (.pointer (some ⟨L, 0, none⟩))] 89) = w' := by
  go_enter Try.func38, Try.ntmps38
  go_wp2
  go_ret
  exact ⟨rfl, rfl⟩

set_option maxHeartbeats 1000000 in
theorem randu_any (X : Nat → Prop) (R L : Nat) (A : Option Addr) (n c t : Nat) (xs : List Nat) (w : World) (ht : t < 4611686018427387904) (hR : RandAt w R L) (hL : ListAt w L A n c t) (hs : Sl w X A n xs) (hn : n ≤ 2147483647) :
    Calls Try.prog 47 #[.pointer (some ⟨R, 0, none⟩)] w fun e w' => e = .returned (.int .u64 (Pl.wd xs t : Nat)) ∧ ListAt w' L A n c (t + 1) ∧ w.grownBy w' (some L) := by
  have h0 := Whole.cell hR 0
  simp at h0
  have HC := Lib.hid (listu_any X L A n c t xs w ht hL hs hn)
  clear hR hL hs
  go_enter Try.func47, Try.ntmps47
  go_wp2_with fail
  refine HC.out.mono ?_
  rintro e w1 ⟨rfl, h1, h2⟩
  have H1 := Lib.hid h1
  have H2 := Lib.hid h2
  clear h1 h2
  go_wp2
  go_ret
  exact ⟨rfl, H1.out, H2.out⟩

/-- A Rand over a list of words of which t are taken. -/
def Src (X : Nat → Prop) (R L : Nat) (A : Option Addr) (n c : Nat) (xs : List Nat) (w : World) (t : Nat) : Prop :=
  RandAt w R L ∧ ListAt w L A n c t ∧ Sl w X A n xs ∧ X L ∧ R ≠ L ∧ n ≤ 2147483647 ∧ ∀ x ∈ xs, x < 18446744073709551616

theorem Src.next {X : Nat → Prop} {R L : Nat} {A : Option Addr} {n c t t' : Nat} {xs : List Nat} {w w' : World} (h : Src X R L A n c xs w t) (hl : ListAt w' L A n c t') (hg : w.grownBy w' (some L)) : Src X R L A n c xs w' t' :=
  ⟨Whole.grown h.1 hg (by intro e; injection e with e; exact h.2.2.2.2.1 e), hl, h.2.2.1.grown hg h.2.2.2.1, h.2.2.2.1, h.2.2.2.2.1, h.2.2.2.2.2.1, h.2.2.2.2.2.2⟩
theorem Src.later {X : Nat → Prop} {R L : Nat} {A : Option Addr} {n c t : Nat} {xs : List Nat} {w w' : World} (h : Src X R L A n c xs w t) (hb : Below w.heap.size w w') : Src X R L A n c xs w' t :=
  ⟨Whole.below h.1 hb (Whole.lt h.1), Whole.below h.2.1 hb (Whole.lt h.2.1), h.2.2.1.later hb, h.2.2.2⟩

theorem src_u64 {X : Nat → Prop} {R L : Nat} {A : Option Addr} {n c t : Nat} {xs : List Nat} {w : World} (h : Src X R L A n c xs w t) (ht : t < 4611686018427387904) :
    Calls Try.prog 47 #[.pointer (some ⟨R, 0, none⟩)] w fun e w' => e = .returned (.int .u64 (Pl.wd xs t : Nat)) ∧ Src X R L A n c xs w' (t + 1) ∧ w.grownBy w' (some L) :=
  (randu_any X R L A n c t xs w ht h.1 h.2.1 h.2.2.1 h.2.2.2.2.2.1).mono fun _ _ ⟨he, hl, hg⟩ => ⟨he, h.next hl hg, hg⟩
end Go.Proofs.Ytmfeeeaajelfjaa
