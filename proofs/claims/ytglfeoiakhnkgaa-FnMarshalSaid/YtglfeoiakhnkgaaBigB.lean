/- Contract of the reference's Written: the bytes of a state. -/
import Derived.Test.YtglfeoiakhnkgaaBigA
import Derived.Test.YtglfeoiakhnkgaaJump
import Derived.Deep.RegionHeldLaw
import Derived.Deep.DrawnRows
import Derived.Deep.RegionLawGrows
namespace Go.Proofs.Ytglfeoiakhnkgaa
open Go.RowKit
attribute [local go_sem ↓] Go.wp_at_zero Go.wp_at_succ

/-- A call of big: where its bytes lie. -/
theorem bigG_any (x : Nat) (w : World) :
    Calls Try.prog 40 #[.int .u64 x] w fun e w' => ∃ g c, e = .returned (.slice (some ⟨g, 0, none⟩) 8 c) ∧ w.heap.size ≤ g ∧ g < w'.heap.size ∧ BSl w' (some ⟨g, 0, none⟩) 8 (Pl.be x) ∧ Below w.heap.size w w' := by
  refine (big_any x w).mono ?_
  rintro e w' ⟨v, rfl, hown, hb⟩
  obtain ⟨g, c, rfl, h1, h2⟩ := hown.form (by omega)
  obtain ⟨A, c', e, hs, _⟩ := bsl_of_own hown
  injection e with e1 e2 e3
  subst e1
  exact ⟨g, c, rfl, h1, h2, hs, hb⟩

/-- The world behind a conversion of a row of bytes to its own type: the row bears a mark. -/
def mk0 (W : World) (g : Nat) : World := match W.shape? g with
  | some (_, n) => W.freeze ⟨g, n, none⟩ 1
  | none => W
noncomputable def mk : World → Nat → World := (Classical.choice (Pl.lock_ex (α := World → Nat → World) mk0)).1
theorem mk_eq (W : World) (g : Nat) : mk W g = mk0 W g := congrFun (congrFun ((Classical.choice (Pl.lock_ex (α := World → Nat → World) mk0)).2) W) g
theorem conv_same (g n c : Nat) (W : World) : (convert 45 45 (.slice (some ⟨g, 0, none⟩) n c)).run Try.prog W = .ok (.slice (some ⟨g, 0, none⟩) n c) (mk W g) := by
  rw [mk_eq]
  unfold mk0
  cases h : W.shape? g with
  | none => simp [convert, run_underlying Try.underlying45, run_underlying Try.underlying5, markStringish, h]
  | some x =>
    obtain ⟨t, k⟩ := x
    simp [convert, run_underlying Try.underlying45, run_underlying Try.underlying5, markStringish, h]
theorem freeze_size (W : World) (a : Addr) (k : Nat) : (W.freeze a k).heap.size = W.heap.size := by
  unfold World.freeze
  split <;> simp
theorem freeze_other (W : World) (a : Addr) (k j : Nat) (h : j ≠ a.block) : (W.freeze a k).heap[j]? = W.heap[j]? := by
  unfold World.freeze
  split
  · rfl
  · simp [Array.getElem?_modify, Ne.symm h]
theorem freeze_cell (W : World) (a : Addr) (k : Nat) (p : Addr) : (W.freeze a k).cell? p = W.cell? p := by
  by_cases h : p.block = a.block
  · unfold World.freeze
    split
    · rfl
    · simp only [World.cell?, Array.getElem?_modify, h, if_true]
      cases hh : W.heap[a.block]? with
      | none => simp
      | some o => cases o <;> simp
  · exact World.cell?_of_block (freeze_other W a k p.block h)
theorem mk_size (W : World) (g : Nat) : (mk W g).heap.size = W.heap.size := by
  rw [mk_eq]
  unfold mk0
  split
  · exact freeze_size _ _ _
  · rfl
theorem mk_cell (W : World) (g : Nat) (p : Addr) : (mk W g).cell? p = W.cell? p := by
  rw [mk_eq]
  unfold mk0
  split
  · exact freeze_cell _ _ _ _
  · rfl
theorem mk_below {B : Nat} (W : World) (g : Nat) (h : B ≤ g) : Below B W (mk W g) := by
  rw [mk_eq]
  unfold mk0
  split
  · refine ⟨?_, ?_, ?_, Nat.le_of_eq (freeze_size _ _ _).symm, fun j hj => freeze_other _ _ _ _ (by show j ≠ g; omega)⟩ <;> (unfold World.freeze; split <;> rfl)
  · exact Below.refl _ _
theorem lit_bsl (W : World) : BSl (W.alloc (.cells #[.int .u8 112, .int .u8 99, .int .u8 103, .int .u8 58] 5)) (some ⟨W.heap.size, 0, none⟩) 4 [112, 99, 103, 58] := by
  refine ⟨rfl, fun _ => ⟨W.heap.size, 0, rfl, fun i hi => ?_⟩⟩
  have h := (Whole.new W 5 #[.int .u8 112, .int .u8 99, .int .u8 103, .int .u8 58]).cell (0 + i)
  rw [h]
  match i, hi with
  | 0, _ => rfl
  | 1, _ => rfl
  | 2, _ => rfl
  | 3, _ => rfl
theorem bsl_mk {W : World} {A : Option Addr} {n : Nat} {ys : List Int} {g : Nat} (h : BSl W A n ys) : BSl (mk W g) A n ys :=
  ⟨h.1, fun hn => by
    obtain ⟨b, o, e, hc⟩ := h.2 hn
    exact ⟨b, o, e, fun i hi => (mk_cell W g _).trans (hc i hi)⟩⟩
theorem bsl_drew {W : World} {A : Option Addr} {n : Nat} {ys : List Int} (h : BSl W A n ys) : BSl W.drew A n ys := h
theorem bsl_later {W W' : World} {A : Option Addr} {n : Nat} {ys : List Int} (hb : Below W.heap.size W W') (h : BSl W A n ys) : BSl W' A n ys := h.later hb
theorem keep_mk {W : World} {p q : Value} {g k : Nat} (h : W.cell? ⟨g, 0, none⟩ = some p ∧ W.cell? ⟨g, 1, none⟩ = some q) : (mk W k).cell? ⟨g, 0, none⟩ = some p ∧ (mk W k).cell? ⟨g, 1, none⟩ = some q :=
  ⟨(mk_cell W k _).trans h.1, (mk_cell W k _).trans h.2⟩
theorem own_mono {w : World} {base base' : Nat} {e : TypeId} {sz n : Nat} {v : Value} {xs : List Value} (h : w.ownsRow base e sz v n xs) (hb : base' ≤ base) : w.ownsRow base' e sz v n xs := by
  refine ⟨h.1, ?_⟩
  rcases h.2 with h2 | ⟨g, cap, cur, h1, h2, h3⟩
  · exact .inl h2
  · exact .inr ⟨g, cap, cur, h1, Nat.le_trans hb h2, h3⟩
theorem own_step {w w' : World} {base : Nat} {e : TypeId} {sz n : Nat} {v : Value} {xs : List Value} (h : w.ownsRow base e sz v n xs) (hb : Below w.heap.size w w') : w'.ownsRow base e sz v n xs :=
  h.kept (grow_of_below hb none) (by cases hv : v.ownBlock <;> simp)
theorem bsl_alloc {w : World} {A : Option Addr} {n : Nat} {ys : List Int} (h : BSl w A n ys) (o : Obj) : BSl (w.alloc o) A n ys := h.later ((Below.refl _ _).alloc (Nat.le_refl _) o)

/-- append of bytes at a step of a region that draws its order. -/
theorem step_app {w : World} {ops : Array Oper} {o : Oper} {a : Act} {K : Act → World → Prop} {Q : Exit → Act → World → Prop} {E : Prop} (hgd : o.guard = none) (s x : Operand)
    (ho : o.op = .call { callee := .builtin .append, args := #[s, x], argTypes := #[45, 45] })
    (base n m c : Nat) (v : Value) (xs ys : List Int) (hs : a.eval s = v) (hown : w.ownsRow base 5 1 v n (bys xs)) (ad : Addr) (hx : a.eval x = .slice (some ad) m c) (hb : BSl w (some ad) m ys)
    (hm : 0 < m) (hsz : n + m ≤ 1000) (hbase : base ≤ w.heap.size)
    (h : ∀ g cap w', w'.ownsRow base 5 1 (.slice (some ⟨g, 0, none⟩) (n + m) cap) (n + m) (bys (xs ++ ys)) → Below base w w' → K (a.put o.dst (.slice (some ⟨g, 0, none⟩) (n + m) cap)) w') :
    if Region.wanted o (yielded ops a.tmps) = true then Oper.wp Try.prog o a w K Q else E := by
  obtain ⟨i0, hi0, hz0, hz1, hz2⟩ := info_parts info_u8
  refine step_append_lies w hgd s x 45 ho base 5 i0 (.int .u8 0) 1 1 Try.underlying45 hi0 hz0 hz1 hz2 rfl (by decide) v n (bys xs) hs hown ad m c (bys ys) hx (by rw [bys_length, hb.1, Nat.mul_one]) (bsl_cells hb) (bys_one ys) hm (by unfold maxLen; omega) (by omega) hbase w.heap.size rfl ?_
  intro g cap w' hown' hgrow _ _
  rw [← bys_append] at hown'
  exact h g cap w' hown' ((Below.refl _ _).grown hgrow hbase (fun k hk => (hown.lt k hk).1))

theorem keep_alloc {W : World} {p q : Value} {g : Nat} (o : Obj) (h : W.cell? ⟨g, 0, none⟩ = some p ∧ W.cell? ⟨g, 1, none⟩ = some q) : (W.alloc o).cell? ⟨g, 0, none⟩ = some p ∧ (W.alloc o).cell? ⟨g, 1, none⟩ = some q :=
  ⟨cell_later ((Below.refl _ _).alloc (Nat.le_refl _) o) h.1, cell_later ((Below.refl _ _).alloc (Nat.le_refl _) o) h.2⟩
theorem keep_below {W W' : World} {p q : Value} {g : Nat} (hb : Below (g + 1) W W') (h : W.cell? ⟨g, 0, none⟩ = some p ∧ W.cell? ⟨g, 1, none⟩ = some q) : W'.cell? ⟨g, 0, none⟩ = some p ∧ W'.cell? ⟨g, 1, none⟩ = some q :=
  ⟨(hb.cell (by show g < g + 1; omega)).trans h.1, (hb.cell (by show g < g + 1; omega)).trans h.2⟩

/-- append of bytes onto a full row, at a step of a region that draws its order. -/
theorem step_app1 {w : World} {ops : Array Oper} {o : Oper} {a : Act} {K : Act → World → Prop} {Q : Exit → Act → World → Prop} {E : Prop} (hgd : o.guard = none) (s x : Operand)
    (ho : o.op = .call { callee := .builtin .append, args := #[s, x], argTypes := #[45, 45] })
    (base n m c : Nat) (xs ys : List Int) (ad0 : Addr) (hs : a.eval s = .slice (some ad0) n n) (hb0 : BSl w (some ad0) n xs) (ad : Addr) (hx : a.eval x = .slice (some ad) m c) (hb : BSl w (some ad) m ys)
    (hm : 0 < m) (hsz : n + m ≤ 1000) (hbase : base ≤ w.heap.size)
    (h : ∀ g cap w', w'.ownsRow base 5 1 (.slice (some ⟨g, 0, none⟩) (n + m) cap) (n + m) (bys (xs ++ ys)) → Below w.heap.size w w' → K (a.put o.dst (.slice (some ⟨g, 0, none⟩) (n + m) cap)) w') :
    if Region.wanted o (yielded ops a.tmps) = true then Oper.wp Try.prog o a w K Q else E := by
  obtain ⟨i0, hi0, hz0, hz1, hz2⟩ := info_parts info_u8
  refine step_append_grows hgd s x 45 ho 5 i0 (.int .u8 0) 1 1 Try.underlying45 hi0 hz0 hz1 hz2 rfl (by decide) (some ad0) n n (bys xs) hs (fun e => by cases e) (by rw [bys_length, hb0.1, Nat.mul_one])
    (fun b e => by injection e with e; subst e; exact bsl_cells hb0) ad m c (bys ys) hx (by rw [bys_length, hb.1, Nat.mul_one]) (bsl_cells hb) (bys_one ys) (by omega) (by unfold maxLen; omega) (by omega) ?_
  intro v' w' hown' hgrow
  obtain ⟨g, cap, rfl, _, _⟩ := hown'.form (by omega)
  rw [← bys_append] at hown'
  exact h g cap w' (own_mono hown' hbase) (below_of_grow hgrow)

theorem below_next {w W W' : World} (h : Below w.heap.size w W) (hb : Below W.heap.size W W') : Below w.heap.size w W' := h.trans (hb.mono h.size)
theorem below_later {w W W' : World} (hb : Below W.heap.size W W') (h : Below w.heap.size w W) : Below w.heap.size w W' := below_next h hb
theorem below_mk {w W : World} {g : Nat} (hg : w.heap.size ≤ g) (h : Below w.heap.size w W) : Below w.heap.size w (mk W g) := h.trans (mk_below W g hg)
theorem below_drew {w W : World} (h : Below w.heap.size w W) : Below w.heap.size w W.drew := h.drew
theorem below_alloc {w W : World} (o : Obj) (h : Below w.heap.size w W) : Below w.heap.size w (W.alloc o) := h.alloc h.size o
theorem below_last {w W W' : World} {B : Nat} (h : Below w.heap.size w W) (hB : w.heap.size ≤ B) (hb : Below B W W') : Below w.heap.size w W' := h.trans (hb.mono hB)

set_option maxHeartbeats 4000000 in
theorem written_any (s : Nat) (w : World) :
    Calls Try.prog 28 #[stV s] w fun e w' => ∃ v, e = .returned v ∧ w'.ownsRow w.heap.size 5 1 v 20 (bys (Pl.wr s)) ∧ Below w.heap.size w w' := by
  obtain ⟨W0, hW0⟩ : ∃ W0, W0 = w.alloc (.cells #[.int .u64 (Pl.hiW s : Nat), .int .u64 (Pl.loW s : Nat)] 27) := ⟨_, rfl⟩
  have c0 : W0.cell? ⟨w.heap.size, 0, none⟩ = some (.int .u64 (Pl.hiW s : Nat)) := by rw [hW0]; simp [go_sem]
  have c1 : W0.cell? ⟨w.heap.size, 1, none⟩ = some (.int .u64 (Pl.loW s : Nat)) := by rw [hW0]; simp [go_sem]
  have Z0 := Lib.hid (show W0.heap.size = w.heap.size + 1 by rw [hW0]; simp)
  have hcv := conv_same
  have B0 := Lib.hid (show Below w.heap.size w W0 by rw [hW0]; exact (Below.refl _ _).alloc (Nat.le_refl _) _)
  go_enter Try.func28, Try.ntmps28
  go_wp2_with fail
  rw [← hW0]
  clear hW0
  go_region_held_law (fun w' => w'.cell? ⟨w.heap.size, 0, none⟩ = some (.int .u64 (Pl.hiW s : Nat)) ∧ w'.cell? ⟨w.heap.size, 1, none⟩ = some (.int .u64 (Pl.loW s : Nat)))
    (first
      | (exact ⟨c0, c1⟩)
      | (exact keep_alloc _ (by assumption))
      | (exact keep_mk (by assumption))
      | (exact held2 (by assumption) (by assumption))
      | (exact keep_below (by assumption) (by assumption)))
    (first
      | (go_at_call_of 40 (Pl.hiW s); refine (bigG_any (Pl.hiW s) _).mono ?_; rintro e w1 ⟨g1, c1, rfl, hg1, hl1, hs1, hb1⟩)
      | (go_at_call_of 40 (Pl.loW s); refine (bigG_any (Pl.loW s) _).mono ?_; rintro e w4 ⟨g4, c4, rfl, hg4, hl4, hs4, hb4⟩)
      | (guard_hyp hb4; refine step_app (by rfl) _ _ (by rfl) (w.heap.size + 1) 12 8 _ _ _ (Pl.be (Pl.loW s)) (by rfl) (own_step hown3 hb4) _ (by rfl) hs4 (by omega) (by omega) (by have := Z0.out; have hq := hb1.size; have hr := hb3.size; have := hb4.size; simp [mk_size] at hq hr; omega) ?_; intro g5 cap5 w5 hown5 hb5)
      | (guard_hyp hb1; fail_if_success (guard_hyp hown3)
         refine step_app1 (by rfl) _ _ (by rfl) (w.heap.size + 1) 4 8 _ [112, 99, 103, 58] (Pl.be (Pl.hiW s)) _ (by rfl) (by repeat (first | refine bsl_later hb1 ?_ | refine bsl_mk ?_ | refine bsl_drew ?_ | exact lit_bsl _)) _ (by rfl) (by repeat (first | exact hs1 | refine bsl_mk ?_ | refine bsl_drew ?_ | refine bsl_alloc ?_ _)) (by omega) (by omega)
           (by have := Z0.out; have hq := hb1.size; simp [mk_size] at hq ⊢; omega) ?_
         intro g3 cap3 w3 hown3 hb3))
  all_goals
    have HB := Lib.hid (show Below w.heap.size w w5 by
      refine below_last (below_next (below_next ?_ hb3) hb4) (by omega) hb5
      repeat (first
        | exact B0.out
        | refine below_later hb1 ?_
        | refine below_mk (by have := Z0.out; have hq := hb1.size; simp [mk_size] at hq; omega) ?_
        | refine below_drew ?_
        | refine below_alloc _ ?_))
    rw [List.append_assoc] at hown5
    have HO := Lib.hid (own_mono hown5 (Nat.le_succ _))
    clear hown3 hb3 hb4 hs4 hs1 hb1 hown5 hb5 hg1 hg4 hl1 hl4 hcv
    go_wp2
    go_ret
    refine ⟨.slice (some ⟨g5, 0, none⟩) (12 + 8) cap5, ?_, HO.out, HB.out⟩
    clear HO HB B0 Z0
    simp
end Go.Proofs.Ytglfeoiakhnkgaa
