/- Contract of impl.drawn: the next n words of a generator. -/
import Derived.Test.YtglfeoiakhnkgaaDoorWordA
namespace Go.Proofs.YtglfeoiakhnkgaaDoor
open Go.RowKit

theorem grow_own {a w c : World} {row r2 : Option Nat} (h : a.grownBy w row) (k : w.grownBy c r2) (hr : ∀ g, r2 = some g → a.heap.size ≤ g) : a.grownBy c row :=
  ⟨k.os.trans h.os, k.tape.trans h.tape, k.output.trans h.output, Nat.le_trans h.size k.size,
    fun i hi hne => (k.block i (Nat.lt_of_lt_of_le hi h.size) (fun e => by have := hr i e.symm; omega)).trans (h.block i hi hne)⟩

theorem info_u64 : (Tryd.prog.info? 22).map (fun i => (i.zero, i.size, i.bytes)) = some (some (.int .u64 0), 1, 8) := by kernel_rfl

/-- What a round of drawn holds: the words so far, in memory of the call's own; the generator's state. -/
def DRel (w : World) (b s : Nat) (k : Nat) (v : Value) (wr : World) : Prop :=
  wr.ownsRow w.heap.size 22 1 v k (vals (tws s k)) ∧
  Whole wr b 51 #[.int .u64 (Pl.hiW (Pl.steps k s) : Nat), .int .u64 (Pl.loW (Pl.steps k s) : Nat)] ∧ b < w.heap.size ∧ w.grownBy wr (some b)

theorem drel_kept {w wr w1 : World} {b s k : Nat} {v : Value} (h : DRel w b s k v wr) (hg : wr.grownBy w1 (some b)) : w1.ownsRow w.heap.size 22 1 v k (vals (tws s k)) := by
  refine h.1.kept hg ?_
  rcases ho : v.ownBlock with _ | g
  · exact .inl rfl
  · refine .inr fun e => ?_
    injection e with e
    have := (h.1.lt g ho).1
    have := h.2.2.1
    omega

theorem drel_next {w wr w1 w2 : World} {b s k : Nat} {v v' : Value} {o : Obj} (h : DRel w b s k v wr) (hg : wr.grownBy w1 (some b))
    (hW : Whole w1 b 51 #[.int .u64 (Pl.hiW (Pl.step (Pl.steps k s)) : Nat), .int .u64 (Pl.loW (Pl.step (Pl.steps k s)) : Nat)])
    (hown : w2.ownsRow w.heap.size 22 1 v' (k + 1) (vals (tws s k) ++ [.int .u64 (tw (Pl.step (Pl.steps k s)) : Nat)])) (hg2 : (w1.alloc o).grownBy w2 v.ownBlock) : DRel w b s (k + 1) v' w2 := by
  have hlt : ∀ g, v.ownBlock = some g → w.heap.size ≤ g := fun g hg => (h.1.lt g hg).1
  have hb := h.2.2.1
  refine ⟨?_, ?_, hb, grow_own (grow_alloc (grow_trans h.2.2.2 hg) o) hg2 hlt⟩
  · rw [tws_succ, vals_snoc, Pl.steps_succ]
    exact hown
  · rw [Pl.steps_succ]
    refine (hW.alloc o).grown hg2 fun e => ?_
    have := hlt b e.symm
    omega

set_option maxHeartbeats 1000000 in
theorem drawn_any (b s n : Nat) (w : World) (hn : n ≤ 4096)
    (hb : Whole w b 51 #[.int .u64 (Pl.hiW s : Nat), .int .u64 (Pl.loW s : Nat)]) :
    Calls Tryd.prog 14 #[.pointer (some ⟨b, 0, none⟩), .int .i64 n] w fun e w' => ∃ v, e = .returned v ∧ DRel w b s n v w' := by
  obtain ⟨i0, hi0, hz0, hz1, hz2⟩ := info_parts info_u64
  have t1 : decide ((n : Int) < 0) = false := by simp
  have t2 : decide ((4096 : Int) < n) = false := by simp; omega
  have hst : DRel w b s 0 (.slice none 0 0) w := ⟨World.ownsRow_nil _ _ _ _, by rw [Pl.steps_zero]; exact hb, hb.lt, grow_refl _ _⟩
  have HST := Lib.hid hst
  clear hst hb
  go_enter Tryd.func14, Tryd.ntmps14
  go_wp2_with fail
  go_loopw [5, 13] (fun v i wr => ∃ k : Nat, k ≤ n ∧ i = .int .i64 k ∧ DRel w b s k v wr) (fun _ i _ => n - (intOf i).toNat)
  case atStart => exact ⟨0, by omega, rfl, HST.out⟩
  case round =>
    obtain ⟨k, hk, rfl, hr⟩ := hrel
    have HR := Lib.hid hr
    clear hr HST
    by_cases hlt : k < n
    · go_wp2_with fail
      refine (uint64_any b (Pl.steps k s) _ HR.out.2.1).mono ?_
      rintro e w1 ⟨rfl, h1, h2⟩
      have H1 := Lib.hid h1
      have H2 := Lib.hid h2
      have hown := drel_kept HR.out h2
      have HB := Lib.hid (Nat.le_trans HR.out.2.2.2.size h2.size)
      clear h1 h2
      go_wp2_with (at_builtin; refine wpList_append_own _ rfl _ _ 24 rfl w.heap.size 22 i0 (.int .u64 0) 1 8 Tryd.underlying24 hi0 hz0 hz1 hz2 rfl (by decide) _ _ _ rfl (hown.alloc _) ⟨w1.heap.size, 0, none⟩ 1 1 [.int .u64 (tw (Pl.step (Pl.steps k s)) : Nat)] rfl rfl ?c1 ?c2 ?c3 ?c4 ?c5 ?_)
      case c1 => exact cell_one_new _ _ _
      case c2 => intro u hu; simp at hu; subst hu; rfl
      case c3 => unfold maxLen; omega
      case c4 => omega
      case c5 => have := HB.out; simp; omega
      intro v' w2 hown' hgrow _
      have HO := Lib.hid (drel_next HR.out H2.out H1.out hown' hgrow)
      clear hown hown' hgrow
      go_wp2
      go_roundw
      case rel => exact ⟨k + 1, by omega, by go_num, HO.out⟩
      case measure => simp [intOf]; omega
    · obtain rfl : k = n := by omega
      go_wp2
      go_ret
      exact ⟨_, rfl, HR.out⟩
end Go.Proofs.YtglfeoiakhnkgaaDoor
