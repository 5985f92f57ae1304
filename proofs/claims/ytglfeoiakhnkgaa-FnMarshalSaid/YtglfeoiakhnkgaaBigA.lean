/- Contract of the reference's big: a word as eight bytes, the highest first. -/
import Derived.Test.YtglfeoiakhnkgaaByteC
namespace Go.Proofs.Ytglfeoiakhnkgaa
open Go.RowKit

theorem byt_int (x t : Nat) : (x : Int) / 2 ^ (8 * t) % 256 = ((Pl.byt x t : Nat) : Int) := by rw [Pl.byt_def]; simp
theorem big_next {w2 : World} {base x t : Nat} {v' : Value} (ht : t + 1 ≤ 8) (h : w2.ownsRow base 5 1 v' (7 - t + 1) (bys (Pl.beN x (7 - t)) ++ [.int .u8 ((x : Int) / 2 ^ (8 * t) % 256)])) :
    w2.ownsRow base 5 1 v' (8 - t) (bys (Pl.beN x (8 - t))) := by
  have e : 8 - t = 7 - t + 1 := by omega
  rw [e, Pl.beN_succ, bys_append, show 7 - (7 - t) = t by omega]
  rw [byt_int] at h
  exact h

set_option maxHeartbeats 1000000 in
theorem big_any (x : Nat) (w : World) :
    Calls Try.prog 40 #[.int .u64 x] w fun e w' => ∃ v, e = .returned v ∧ w'.ownsRow w.heap.size 5 1 v 8 (bys (Pl.be x)) ∧ Below w.heap.size w w' := by
  obtain ⟨i0, hi0, hz0, hz1, hz2⟩ := info_parts info_u8
  go_enter Try.func40, Try.ntmps40
  go_wp2_with fail
  go_loopw [3, 4] (fun v i wr => ∃ (t : Nat) (z : Int), t ≤ 8 ∧ i = .int .i64 z ∧ z = 8 * (t : Int) - 8 ∧ wr.ownsRow w.heap.size 5 1 v (8 - t) (bys (Pl.beN x (8 - t))) ∧ Below w.heap.size w wr) (fun _ i _ => (intOf i + 8).toNat)
  case atStart =>
    refine ⟨8, 56, by omega, rfl, by omega, ?_, (Below.refl _ _).alloc (Nat.le_refl _) _⟩
    have h := World.ownsRow_lit (base := w.heap.size) (e := 5) (size := 1) w #[] 0 (Nat.le_refl _) (by unfold maxLen; omega) (by simp)
    simpa [bys, Pl.beN] using h
  case round =>
    obtain ⟨t, z, ht, rfl, hz, hown, hbel⟩ := hrel
    have HO := Lib.hid hown
    have HB := Lib.hid hbel
    clear hown hbel
    rcases t with _ | t
    · obtain rfl : z = -8 := by omega
      clear hz
      go_wp2
      go_ret
      exact ⟨_, rfl, HO.out, HB.out⟩
    · obtain rfl : z = 8 * (t : Int) := by omega
      have h0 : (0 : Int) ≤ 8 * (t : Int) := by omega
      have HT := Lib.hid ht
      have hmin : min (8 * t) 64 = 8 * t := by omega
      clear hz ht
      go_wp2_with (at_builtin; refine wpList_append_own _ rfl _ _ 45 rfl w.heap.size 5 i0 (.int .u8 0) 1 1 Try.underlying45 hi0 hz0 hz1 hz2 rfl (by decide) _ _ _ rfl (HO.out.alloc _) ⟨wr.heap.size, 0, none⟩ 1 1 [.int .u8 ((x : Int) / 2 ^ (8 * t) % 256)] rfl rfl ?c1 ?c2 ?c3 ?c4 ?c5 ?_)
      case c1 => exact cell_one_new _ _ _
      case c2 => intro u hu; simp at hu; subst hu; rfl
      case c3 => unfold maxLen; omega
      case c4 => omega
      case c5 => have := HB.out.size; simp; omega
      intro v' w2 hown' hgrow _
      have HO2 := Lib.hid (big_next HT.out hown')
      have HB2 := Lib.hid ((HB.out.alloc HB.out.size _).grown hgrow (by have := HB.out.size; simp; omega) (fun k hk => (HO.out.lt k hk).1))
      clear hown' hgrow HO HB
      go_wp2
      go_roundw
      case rel => exact ⟨t, 8 * (t : Int) - 8, by have := HT.out; omega, rfl, rfl, HO2.out, HB2.out⟩
      case measure => simp [intOf]; omega
end Go.Proofs.Ytglfeoiakhnkgaa
