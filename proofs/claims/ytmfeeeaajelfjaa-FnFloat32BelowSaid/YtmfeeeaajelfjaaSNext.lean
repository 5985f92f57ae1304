/- Contract of the reference's (*Source).Next: words taken one after the other. -/
import Derived.Test.YtmfeeeaajelfjaaArr
namespace Go.Proofs.Ytmfeeeaajelfjaa
open Go.RowKit

/-- A source of words, in its block: what has been taken. -/
def SrcS (w : World) (b : Nat) (A : Option Addr) (n c t : Nat) : Prop := Whole w b 69 #[.slice A n c, .int .i64 (t : Nat)]

set_option maxHeartbeats 1000000 in
theorem snext_any (X : Nat → Prop) (b : Nat) (A : Option Addr) (n c t : Nat) (xs : List Nat) (w : World) (ht : t < 4611686018427387904) (hL : SrcS w b A n c t) (hs : Sl w X A n xs) (hX : X b) (hn : n ≤ 2147483647) :
    Calls Try.prog 40 #[.pointer (some ⟨b, 0, none⟩)] w fun e w' => e = .returned (.int .u64 (Pl.wd xs t : Nat)) ∧ SrcS w' b A n c (t + 1) ∧ w.grownBy w' (some b) := by
  have h0 := Whole.cell hL 0
  have h1 := Whole.cell hL 1
  have f1 := Whole.free hL 1
  simp at h0 h1
  have HL := Lib.hid hL
  clear hL
  by_cases hlt : t < n
  · obtain ⟨g, o, rfl, hxg, hc⟩ := hs.2 (by omega)
    have c0 := hc t hlt
    rw [Pl.wd_in (by rw [hs.1]; exact hlt)] at c0
    have hgb : g ≠ b := by intro e; exact hxg (by rw [e]; exact hX)
    clear hc hs hxg hX
    have b1 : (0 : Int) ≤ (t : Int) := by omega
    have b2 : (t : Int) < (n : Int) := by omega
    have b3 : ¬ (n : Int) < (t : Int) + 1 := by omega
    go_enter Try.func40, Try.ntmps40
    go_wp2_with fail
    go_quiet (fail)
    go_wp2_with fail
    have e1 : IntKind.i64.wrap ((t : Int) + 1 - 1) = (t : Int) := by rw [IntWalk.i64_in _ (by omega)]; omega
    go_quiet (fail)
    clear e1
    go_wp2
    go_ret
    exact ⟨rfl, ((HL.out.put 1 _).drewN _).drewN _, grow_drewN (grow_drewN (grow_put (g := b) (p := ⟨b, 1, none⟩) (grow_refl _ _) (.inl rfl) _) _) _⟩
  · have e0 := Pl.wd_out (xs := xs) (t := t) (by rw [hs.1]; omega)
    rw [e0]
    clear hs e0 hX
    have b3 : (n : Int) < (t : Int) + 1 := by omega
    go_enter Try.func40, Try.ntmps40
    go_wp2_with fail
    go_quiet (fail)
    go_wp2
    go_ret
    exact ⟨rfl, (HL.out.put 1 _).drewN _, grow_drewN (grow_put (g := b) (p := ⟨b, 1, none⟩) (grow_refl _ _) (.inl rfl) _) _⟩
end Go.Proofs.Ytmfeeeaajelfjaa
