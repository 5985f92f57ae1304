/- Contracts: (*PCG).Uint64, NewPCG, spec.Told: the word that a state tells. -/
import Derived.Test.YtglfeoiakhnkgaaDoorSpecB
namespace Go.Proofs.YtglfeoiakhnkgaaDoor
open Go.RowKit

/-- The word that is made of a state's two words, as both texts reckon it. -/
def twI (x l : Int) : Int :=
  IntKind.u64.wrap (bits .xor .u64 (IntKind.u64.wrap (bits .xor .u64 x (x / 4294967296) * 15750249268501108917)) (IntKind.u64.wrap (bits .xor .u64 x (x / 4294967296) * 15750249268501108917) / 281474976710656) * bits .or .u64 l 1)
noncomputable def tw : Nat → Nat := (Classical.choice (Pl.lock_ex (α := Nat → Nat) (fun s => (twI (Pl.hiW s) (Pl.loW s)).toNat))).1
theorem tw_def (s : Nat) : tw s = (twI (Pl.hiW s) (Pl.loW s)).toNat := congrFun ((Classical.choice (Pl.lock_ex (α := Nat → Nat) (fun s => (twI (Pl.hiW s) (Pl.loW s)).toNat))).2) s
theorem twI_bd (x l : Int) : 0 ≤ twI x l ∧ twI x l < 18446744073709551616 := by
  unfold twI
  generalize bits .xor .u64 (IntKind.u64.wrap (bits .xor .u64 x (x / 4294967296) * 15750249268501108917)) (IntKind.u64.wrap (bits .xor .u64 x (x / 4294967296) * 15750249268501108917) / 281474976710656) * bits .or .u64 l 1 = n
  rw [IntKind.wrap_u64]
  omega
theorem tw_lt (s : Nat) : tw s < 18446744073709551616 := by
  have := twI_bd (Pl.hiW s) (Pl.loW s)
  rw [tw_def]
  omega
theorem tw_eq (s : Nat) : twI (Pl.hiW s) (Pl.loW s) = ((tw s : Nat) : Int) := by
  have := twI_bd (Pl.hiW s) (Pl.loW s)
  rw [tw_def]
  omega

set_option maxHeartbeats 1000000 in
theorem told_any (s : Nat) (w : World) :
    Calls Tryd.prog 17 #[stV s] w fun e w' => e = .returned (.int .u64 (tw s : Nat)) ∧ Below w.heap.size w w' := by
  go_enter Tryd.func17, Tryd.ntmps17
  go_wp2
  go_ret
  exact ⟨ret_int (tw_eq s), by go_grown⟩

set_option maxHeartbeats 1000000 in
theorem uint64_any (b s : Nat) (w : World)
    (hb : Whole w b 51 #[.int .u64 (Pl.hiW s : Nat), .int .u64 (Pl.loW s : Nat)]) :
    Calls Tryd.prog 20 #[.pointer (some ⟨b, 0, none⟩)] w fun e w' => e = .returned (.int .u64 (tw (Pl.step s) : Nat)) ∧
      Whole w' b 51 #[.int .u64 (Pl.hiW (Pl.step s) : Nat), .int .u64 (Pl.loW (Pl.step s) : Nat)] ∧ w.grownBy w' (some b) := by
  have hn := next_any b (Pl.hiW s) (Pl.loW s) w (Pl.loW_lt s) hb
  rw [Pl.st_hl] at hn
  have HN := Lib.hid hn
  clear hn hb
  go_enter Tryd.func20, Tryd.ntmps20
  go_wp2_with fail
  refine HN.out.mono ?_
  rintro e w1 ⟨rfl, h1, h2⟩
  have H1 := Lib.hid h1
  have H2 := Lib.hid h2
  clear h1 h2
  go_wp2
  go_ret
  exact ⟨ret_int (tw_eq (Pl.step s)), H1.out, H2.out⟩

theorem newpcg_any (hi lo : Nat) (w : World) :
    Calls Tryd.prog 11 #[.int .u64 hi, .int .u64 lo] w fun e w' => e = .returned (.pointer (some ⟨w.heap.size, 0, none⟩)) ∧
      w.alloc (.cells #[.int .u64 hi, .int .u64 lo] 51) = w' := by
  go_enter Tryd.func11, Tryd.ntmps11
  go_wp2
  go_ret
  exact ⟨rfl, rfl⟩

/-- The first n words that are told from a state on. -/
noncomputable def tws (s n : Nat) : List Nat := (List.range n).map fun i => tw (Pl.steps (i + 1) s)
theorem tws_length (s n : Nat) : (tws s n).length = n := by simp [tws]
theorem tws_zero (s : Nat) : tws s 0 = [] := rfl
theorem tws_succ (s n : Nat) : tws s (n + 1) = tws s n ++ [tw (Pl.steps (n + 1) s)] := by simp [tws, List.range_succ]
theorem tws_take (s n m : Nat) (h : n ≤ m) : (tws s m).take n = tws s n := by
  rw [tws, tws, ← List.map_take, List.take_range, Nat.min_eq_left h]
theorem tws_drop (s n m : Nat) : (tws s (n + m)).drop n = tws (Pl.steps n s) m := by
  apply List.ext_getElem
  · simp [tws_length]
  · intro i h1 h2
    simp [tws, ← Pl.steps_add, Nat.add_assoc]
theorem tws_lt (s n x : Nat) (h : x ∈ tws s n) : x < 18446744073709551616 := by
  simp only [tws, List.mem_map] at h
  obtain ⟨i, _, rfl⟩ := h
  exact tw_lt _

/-- Words as values. -/
def vals (xs : List Nat) : List Value := xs.map fun x => .int .u64 (x : Nat)
theorem vals_snoc (xs : List Nat) (x : Nat) : vals (xs ++ [x]) = vals xs ++ [.int .u64 (x : Nat)] := by simp [vals]
end Go.Proofs.YtglfeoiakhnkgaaDoor
