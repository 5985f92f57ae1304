/- For every input laws.FnMarshalBack returns true, and each argument reads afterwards as it read before; the package's error variable, which the row lists, is tied to the program's text. No conditions beyond the card's own. -/
import Derived.Test.YtglfeoiakhnkgaaDoorRows
import Derived.Test.YtglfeoiakhnkgaaDoorTie
import Derived.Test.YtglfeoiakhnkgaaDoorCards
import Derived.Test.YtglfeoiakhnkgaaDoorDoD
import Derived.WalkKit
import Derived.ProofKit
import Derived.OpenShut
import Derived.ShutString
import Derived.ChangeOld
import Derived.ChangeVars
import Derived.ChangeSame
import Derived.JoinedOf
import Derived.RowKitTokens
import Derived.LaidLaws
import Derived.LaidMore
import Derived.Stop.LaidErr
import Derived.Stop.Joined
import Derived.MakeChecks
import Derived.SevenTiedAt
import Derived.Below
namespace Go.Proofs.YtglfeoiakhnkgaaDoor.fnMarshalBack
open Go.ChangeShapes Go.WideShapes Go.ChangeAt Go.RowKit

theorem own : ownKnob Tryd.prog.godebug = none := by kernel_rfl
theorem laidOut : laidOutB Tryd.prog = true := by kernel_rfl
theorem gErr : Tryd.prog.globalNamed "loop.example/pub-g03239/pub/randpcg.errUnmarshalPCG" = some 0 := by kernel_rfl
theorem gErrType : (Tryd.prog.globals[0]?).map (·.type) = some 41 := by kernel_rfl
theorem cellsE : Tryd.prog.cellsOf 82 = 1 := by kernel_rfl
theorem cellsS : Tryd.prog.cellsOf 9 = 1 := by kernel_rfl
theorem star : "*" ++ "errors.errorString" = "*errors.errorString" := by decide
theorem rowP (u : TypeId) (h : Tryd.prog.typeName? 3 u = some "*errors.errorString") : u = 64 :=
  typeName_ptr_named (nm := "errors.errorString") (by rw [star]; kernel_rfl) (by kernel_rfl) (by decide) u (by rw [star]; exact h)

/-- What the row's list gives: the variable holds a pointer to an errorString. -/
theorem of_laid {W : World} (h : laidMetH Tryd.prog Rows.fnMarshalBackRow.laid W) : ∃ a, W.var? Tryd.prog "loop.example/pub-g03239/pub/randpcg.errUnmarshalPCG" = some #[.iface 64 (.pointer (some a))] := by
  rw [MakeChecks.laidMetH_plain _ _ _ (by kernel_rfl)] at h
  obtain ⟨a, s, hv, _⟩ := laid_sentinel (P := Tryd.prog) (r := []) h gErr gErrType Tryd.underlying41 rowP Tryd.underlying64 Tryd.underlying82 rfl rfl Tryd.underlying9 cellsE cellsS
  exact ⟨a, hv⟩
theorem var_below {W W' : World} {cs : Array Value} (hb : Below W.heap.size W W') (h : W.var? Tryd.prog "loop.example/pub-g03239/pub/randpcg.errUnmarshalPCG" = some cs) : W'.var? Tryd.prog "loop.example/pub-g03239/pub/randpcg.errUnmarshalPCG" = some cs := by
  unfold World.var? at h ⊢
  rw [gErr] at h ⊢
  simp only [Option.bind_some] at h ⊢
  have hg : 0 < W.heap.size := by
    cases hh : W.heap[0]? with
    | none => rw [hh] at h; cases h
    | some o => exact (Array.getElem?_eq_some_iff.1 hh).1
  rw [hb.block 0 hg]
  exact h

/-- The door's own heap meets the condition. -/
theorem door_met (os : Os) (args : Array Value) : laidMetH Tryd.prog Rows.fnMarshalBackRow.laid ((World.doorLaid Tryd.prog 28 os).forCall (fun _ _ => 0) ⟨#[], args, []⟩).memory :=
  laidMetH_of_parts3 (fuel := 8) (laidMet_of_run' 8 (by kernel_rfl) (by kernel_rfl)) (by kernel_rfl) (by kernel_rfl)

set_option maxRecDepth 100000 in
theorem lifted (os : Os) (started : os.Started) (H : Type) (enc : TypeId × Value → H) :
    ReturnsInHanded {} Tryd.checked os 4 .any (fun w args => (Rows.fnMarshalBackSpec.pre enc Tryd.prog Tryd.f4 [] false w args ∧ laidMetH Tryd.prog Rows.fnMarshalBackRow.laid w) ∧ sizedMet enc Tryd.prog Tryd.f4 (OpenSpec.ofChange Rows.fnMarshalBackSpec) false w args)
      (Rows.fnMarshalBackSpec.post enc Tryd.prog Tryd.f4 false true false false) := by
  refine returnsInHanded_of_change_and (C := Tryd.checked) (X := fun w _ => laidMetH Tryd.prog Rows.fnMarshalBackRow.laid w) (fun _ _ _ hh h => h.of_heap hh) own started (by kernel_rfl) Tryd.func4
    (ChangeSpec.witness_shaped (enc := enc) (C := Tryd.checked) (os := os) (X := fun w _ => laidMetH Tryd.prog Rows.fnMarshalBackRow.laid w) false (World.doorLaid Tryd.prog 28 os) #[.int .u64 0, .int .u64 0, .int .u8 0, .int .u64 0, .int .u64 0, .int .u8 0] 8 rfl (World.shaped_of_RefB (by kernel_rfl) (by kernel_rfl)) (by kernel_rfl) (by kernel_rfl) (by kernel_rfl) (door_met os _)) ?_
  intro W base args ds gs before hval0 hW _ _ hL _
  have hval : ∀ (j : Nat) t v, Tryd.f4.params[j]? = some t → args[j]? = some v → Value.okWide Tryd.prog W .any base t v := hval0
  have hW' := hW
  obtain ⟨p, q, hA0, hV0, rfl, _, _⟩ := hW
  have hA : DataW.TrodAll enc Tryd.prog W 0 (fun _ => true) true Tryd.f4.params.toList args.toList ds p := hA0
  have hV : DataW.TrodVars enc Tryd.prog W (fun _ => true) ["loop.example/pub-g03239/pub/randpcg.errUnmarshalPCG"] gs q := hV0
  obtain ⟨a0, hv0⟩ := of_laid hL
  obtain ⟨rfl, rfl⟩ := hV.unique (vars_read1 enc gErr gErrType Tryd.underlying41 hv0 trivial _)
  rw [Tryd.params4] at hA hval
  obtain ⟨v0, vs0, d0, ds0, p0, q0, hargs, rfl, rfl, h0, r0⟩ := trodAll_cons hA
  obtain ⟨v1, vs1, d1, ds1, p1, q1, rfl, rfl, rfl, h1, r1⟩ := trodAll_cons r0
  obtain ⟨v2, vs2, d2, ds2, p2, q2, rfl, rfl, rfl, h2, r2⟩ := trodAll_cons r1
  obtain ⟨v3, vs3, d3, ds3, p3, q3, rfl, rfl, rfl, h3, r3⟩ := trodAll_cons r2
  obtain ⟨v4, vs4, d4, ds4, p4, q4, rfl, rfl, rfl, h4, r4⟩ := trodAll_cons r3
  obtain ⟨v5, vs5, d5, ds5, p5, q5, rfl, rfl, rfl, h5, r5⟩ := trodAll_cons r4
  obtain ⟨rfl, rfl, rfl⟩ := trodAll_nil r5
  obtain rfl : args = #[v0, v1, v2, v3, v4, v5] := by cases args; simp_all
  obtain ⟨a0, rfl, rfl, rfl, w0⟩ := open_int Tryd.underlying22 (hval 0 22 v0 rfl rfl) h0
  obtain ⟨n0, rfl, b0⟩ : ∃ n : Nat, a0 = (n : Int) ∧ n < 18446744073709551616 := by
    have hb := bounds_u64 w0
    exact ⟨a0.toNat, by omega, by omega⟩
  obtain ⟨a1, rfl, rfl, rfl, w1⟩ := open_int Tryd.underlying22 (hval 1 22 v1 rfl rfl) h1
  obtain ⟨n1, rfl, b1⟩ : ∃ n : Nat, a1 = (n : Int) ∧ n < 18446744073709551616 := by
    have hb := bounds_u64 w1
    exact ⟨a1.toNat, by omega, by omega⟩
  obtain ⟨a2, rfl, rfl, rfl, w2⟩ := open_int Tryd.underlying5 (hval 2 5 v2 rfl rfl) h2
  obtain ⟨n2, rfl, b2⟩ : ∃ n : Nat, a2 = (n : Int) ∧ n < 256 := by
    have hb := bounds_u8 w2
    exact ⟨a2.toNat, by omega, by omega⟩
  obtain ⟨a3, rfl, rfl, rfl, w3⟩ := open_int Tryd.underlying22 (hval 3 22 v3 rfl rfl) h3
  obtain ⟨n3, rfl, b3⟩ : ∃ n : Nat, a3 = (n : Int) ∧ n < 18446744073709551616 := by
    have hb := bounds_u64 w3
    exact ⟨a3.toNat, by omega, by omega⟩
  obtain ⟨a4, rfl, rfl, rfl, w4⟩ := open_int Tryd.underlying22 (hval 4 22 v4 rfl rfl) h4
  obtain ⟨n4, rfl, b4⟩ : ∃ n : Nat, a4 = (n : Int) ∧ n < 18446744073709551616 := by
    have hb := bounds_u64 w4
    exact ⟨a4.toNat, by omega, by omega⟩
  obtain ⟨a5, rfl, rfl, rfl, w5⟩ := open_int Tryd.underlying5 (hval 5 5 v5 rfl rfl) h5
  obtain ⟨n5, rfl, b5⟩ : ∃ n : Nat, a5 = (n : Int) ∧ n < 256 := by
    have hb := bounds_u8 w5
    exact ⟨a5.toNat, by omega, by omega⟩
  clear hA0 hval0 hV0
  refine (fnMarshalBack_true n0 b0 n1 b1 n2 b2 n3 b3 n4 b4 n5 b5 W).mono fun e W' ⟨he, bel⟩ => ?_
  subst he
  exact ⟨_, rfl, _, _, _, [], _, [.cell 0 0], hW', trodAll_mk1 (shut_bool Tryd.underlying4 _), (trodAll_cons_mk (shut_int Tryd.underlying22 w0) (trodAll_cons_mk (shut_int Tryd.underlying22 w1) (trodAll_cons_mk (shut_int Tryd.underlying5 w2) (trodAll_cons_mk (shut_int Tryd.underlying22 w3) (trodAll_cons_mk (shut_int Tryd.underlying22 w4) (trodAll_cons_mk (shut_int Tryd.underlying5 w5) trodAll_mk0)))))), vars_read1 enc gErr gErrType Tryd.underlying41 (var_below bel hv0) trivial _, bel.frame _, fun h => by cases h⟩

theorem said : Rows.FnMarshalBackSaid :=
  OpenClaim.holds_of_wide 4 Tryd.f4 rfl rfl rfl rfl rfl rfl rfl ⟨rfl, rfl, rfl, rfl, rfl⟩ rfl rfl rfl rfl rfl (by kernel_rfl) Tryd.func4 (by kernel_rfl)
    (of_decide_eq_true (by kernel_rfl)) (by unfold Func.isWrapper; first | (rw [if_pos (by decide +kernel)]; kernel_rfl) | (rw [if_neg (by decide +kernel)]; exact ⟨rfl, rfl⟩))
    (fun os started H enc _ => lifted os started H enc)

theorem plain (f : FuncId) (fn : Func) (hf : Tryd.pinned.checked.prog.funcNamed "loop.example/pub-g03239/laws.FnMarshalBack" = some f) (hfn : Tryd.pinned.checked.prog.funcs[f]? = some fn) :
    false = Tryd.pinned.checked.prog.looks [] ∧ ∀ (j : Nat) t, fn.params[j]? = some t → Tryd.pinned.checked.prog.wantsStandIn t = false := by
  obtain rfl : f = 4 := Option.some.inj ((show Tryd.prog.funcNamed "loop.example/pub-g03239/laws.FnMarshalBack" = some 4 by kernel_rfl).symm.trans hf) |>.symm
  obtain rfl : fn = Tryd.f4 := (Option.some.inj (Tryd.func4.symm.trans hfn)).symm
  refine ⟨by kernel_rfl, fun j t ht => ?_⟩
  rw [Tryd.params4] at ht
  have hm : t ∈ [22, 22, 5, 22, 22, 5] := by simpa using Array.mem_of_getElem? ht
  have hall : ([22, 22, 5, 22, 22, 5].all fun u => !Tryd.prog.wantsStandIn u) = true := by kernel_rfl
  exact (show Tryd.prog.wantsStandIn t = false by simpa using List.all_eq_true.1 hall t hm)

/-- The tied card. -/
theorem proved : Rows.FnMarshalBackCardSaid :=
  Claim7.holds_tied_plain_at .later [] _ _ _ _ said (fun _ h => by cases h) (by kernel_rfl) (fun _ h => by cases h) fnMarshalBack_row_tie rfl ⟨rfl, rfl⟩ (by kernel_rfl) rfl plain (by kernel_rfl)
end Go.Proofs.YtglfeoiakhnkgaaDoor.fnMarshalBack
