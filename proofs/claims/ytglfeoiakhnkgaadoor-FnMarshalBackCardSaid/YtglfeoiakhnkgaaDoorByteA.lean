/- Bytes: rows of bytes, slices.Clone of bytes, beAppendUint64. -/
import Derived.Test.YtglfeoiakhnkgaaDoorWordC
import Derived.Lib.AppendStr
import Derived.Laws.BytesArg
import Derived.Deep.AppendLies
namespace Go.Proofs.YtglfeoiakhnkgaaDoor
open Go.RowKit

namespace Pl
/-- The byte of a word at a place, the lowest at 0. -/
noncomputable def byt : Nat → Nat → Nat := (Classical.choice (lock_ex (α := Nat → Nat → Nat) (fun x j => x / 2 ^ (8 * j) % 256))).1
theorem byt_def (x j : Nat) : byt x j = x / 2 ^ (8 * j) % 256 := congrFun (congrFun ((Classical.choice (lock_ex (α := Nat → Nat → Nat) (fun x j => x / 2 ^ (8 * j) % 256))).2) x) j
theorem byt_lt (x j : Nat) : byt x j < 256 := by rw [byt_def]; exact Nat.mod_lt _ (by omega)
/-- The highest k bytes of a word, the highest first. -/
noncomputable def beN (x k : Nat) : List Int := (List.range k).map fun i => ((byt x (7 - i) : Nat) : Int)
noncomputable def be (x : Nat) : List Int := beN x 8
theorem be_eq (x : Nat) : be x = [(byt x 7 : Int), (byt x 6 : Int), (byt x 5 : Int), (byt x 4 : Int), (byt x 3 : Int), (byt x 2 : Int), (byt x 1 : Int), (byt x 0 : Int)] := rfl
theorem beN_succ (x k : Nat) : beN x (k + 1) = beN x k ++ [((byt x (7 - k) : Nat) : Int)] := by simp [beN, List.range_succ]
theorem be_length (x : Nat) : (be x).length = 8 := by simp [be, beN]
theorem beN_length (x k : Nat) : (beN x k).length = k := by simp [beN]
end Pl

theorem info_u8 : (Tryd.prog.info? 5).map (fun i => (i.zero, i.size, i.bytes)) = some (some (.int .u8 0), 1, 1) := by kernel_rfl

/-- Bytes as values. -/
def bys (xs : List Int) : List Value := xs.map fun y => .int .u8 y
theorem bys_get (ys : List Int) (i : Nat) (h : i < ys.length) : (bys ys)[i]? = some (.int .u8 (ys[i]?.getD 0)) := by
  simp [bys, List.getElem?_map, List.getElem?_eq_getElem h]
theorem bys_length (ys : List Int) : (bys ys).length = ys.length := by simp [bys]
theorem bys_append (xs ys : List Int) : bys (xs ++ ys) = bys xs ++ bys ys := by simp [bys]

/-- The slice at A, of n bytes, reads as ys. -/
def BSl (w : World) (A : Option Addr) (n : Nat) (ys : List Int) : Prop :=
  ys.length = n ∧ (0 < n → ∃ g o, A = some ⟨g, o, none⟩ ∧ ∀ i, i < n → w.cell? ⟨g, o + i, none⟩ = some (.int .u8 (ys[i]?.getD 0)))
theorem BSl.later {w w' : World} {A : Option Addr} {n : Nat} {ys : List Int} (h : BSl w A n ys) (hb : Below w.heap.size w w') : BSl w' A n ys :=
  ⟨h.1, fun hn => by
    obtain ⟨g, o, e, hc⟩ := h.2 hn
    exact ⟨g, o, e, fun i hi => cell_later hb (hc i hi)⟩⟩
theorem bsl_of_own {w : World} {base : Nat} {v : Value} {n : Nat} {ys : List Int} (h : w.ownsRow base 5 1 v n (bys ys)) :
    ∃ A c, v = .slice A n c ∧ BSl w A n ys ∧ (A = none → n = 0) := by
  have hl : ys.length = n := by have := h.1; simpa [bys] using this
  rcases h.2 with ⟨rfl, rfl⟩ | ⟨g, cap, cur, rfl, hb, hg, hn, hm, hs, ht⟩
  · exact ⟨none, 0, rfl, ⟨hl, fun h => absurd h (by omega)⟩, fun _ => rfl⟩
  · refine ⟨_, cap, rfl, ⟨hl, fun _ => ⟨g, 0, rfl, fun i hi => ?_⟩⟩, by intro e; cases e⟩
    have := h.cellAt i (by omega)
    rw [Nat.zero_add, this]
    exact bys_get ys i (by omega)
theorem bsl_cells {w : World} {ad : Addr} {n : Nat} {ys : List Int} (hs : BSl w (some ad) n ys) : ∀ j u, (bys ys)[j]? = some u → w.cell? (ad.add j) = some u := by
  intro j u hu
  have hj : j < ys.length := by
    rcases Nat.lt_or_ge j ys.length with h | h
    · exact h
    · simp [bys, List.getElem?_eq_none h] at hu
  rw [bys_get ys j hj] at hu
  injection hu with hu
  subst hu
  obtain ⟨g, o, e, hc⟩ := hs.2 (by rw [← hs.1]; omega)
  injection e with e
  subst e
  rw [show (⟨g, o, none⟩ : Addr).add j = ⟨g, o + j, none⟩ from by unfold Addr.add; split <;> simp_all]
  exact hc j (by rw [← hs.1]; exact hj)
theorem bys_one (ys : List Int) : ∀ u ∈ bys ys, u.oneCell' = true := by
  intro u hu
  simp only [bys, List.mem_map] at hu
  obtain ⟨x, _, rfl⟩ := hu
  rfl

set_option maxHeartbeats 1000000 in
theorem cloneB_any (A : Option Addr) (n c : Nat) (ys : List Int) (w : World) (hn : n ≤ 2147483647) (hnil : A = none → n = 0) (hs : BSl w A n ys) :
    Calls Tryd.prog 13 #[.slice A n c] w fun e w' => ∃ v, e = .returned v ∧ w'.ownsRow w.heap.size 5 1 v n (bys ys) ∧ Below w.heap.size w w' := by
  obtain ⟨i0, hi0, hz0, hz1, hz2⟩ := info_parts info_u8
  have hq := fun W => Lib.run_eql_slice_nil (P := Tryd.prog) W 23 5 A n c 0 0 Tryd.underlying23
  rcases A with _ | ad
  · obtain rfl := hnil rfl
    have hx : ys = [] := List.eq_nil_of_length_eq_zero hs.1
    subst hx
    simp only [Option.isNone_none] at hq
    go_enter Tryd.func13, Tryd.ntmps13
    go_wp2
    go_ret
    exact ⟨_, rfl, World.ownsRow_nil _ _ _ _, Below.refl _ _⟩
  · simp only [Option.isNone_some] at hq
    have hown := World.ownsRow_lit (base := w.heap.size) (e := 5) (size := 1) w #[] 0 (Nat.le_refl _) (by unfold maxLen; omega) (by simp)
    have HC := Lib.hid (bsl_cells (hs.later ((Below.refl _ _).alloc (Nat.le_refl _) (.cells #[] 5))))
    have hlen : (bys ys).length = n * 1 := by simp [bys, hs.1]
    have HO := Lib.hid hown
    have HL := Lib.hid hlen
    have HU := Lib.hid (bys_one ys)
    clear hown hlen hs hnil
    go_enter Tryd.func13, Tryd.ntmps13
    go_wp2_with (at_builtin; refine wpList_append_own _ rfl _ _ 23 rfl w.heap.size 5 i0 (.int .u8 0) 1 1 Tryd.underlying23 hi0 hz0 hz1 hz2 rfl (by decide) _ _ _ rfl HO.out ad n c (bys ys) rfl HL.out HC.out HU.out ?c3 ?c4 (by simp) ?_)
    case c3 => unfold maxLen; omega
    case c4 => omega
    intro v' w1 hown' hgrow hnv
    have HO2 := Lib.hid hown'
    have HG := Lib.hid hgrow
    clear hown' hgrow hnv
    go_wp2
    go_ret
    refine ⟨_, rfl, by simpa using HO2.out, ((Below.refl _ _).alloc (Nat.le_refl _) _).grown HG.out (by simp) (fun k hk => ?_)⟩
    simp [Value.ownBlock] at hk
    omega

theorem be_vals (x : Nat) (hx : x < 18446744073709551616) : ([.int .u8 ((x : Int) / 72057594037927936), .int .u8 ((x : Int) / 281474976710656 % 256), .int .u8 ((x : Int) / 1099511627776 % 256), .int .u8 ((x : Int) / 4294967296 % 256),
    .int .u8 ((x : Int) / 16777216 % 256), .int .u8 ((x : Int) / 65536 % 256), .int .u8 ((x : Int) / 256 % 256), .int .u8 ((x : Int) % 256)] : List Value) = bys (Pl.be x) := by
  have e7 : ((Pl.byt x 7 : Nat) : Int) = (x : Int) / 72057594037927936 := by simp only [Pl.byt_def, Nat.reduceMul, Nat.reducePow]; omega
  have e6 : ((Pl.byt x 6 : Nat) : Int) = (x : Int) / 281474976710656 % 256 := by simp only [Pl.byt_def, Nat.reduceMul, Nat.reducePow]; omega
  have e5 : ((Pl.byt x 5 : Nat) : Int) = (x : Int) / 1099511627776 % 256 := by simp only [Pl.byt_def, Nat.reduceMul, Nat.reducePow]; omega
  have e4 : ((Pl.byt x 4 : Nat) : Int) = (x : Int) / 4294967296 % 256 := by simp only [Pl.byt_def, Nat.reduceMul, Nat.reducePow]; omega
  have e3 : ((Pl.byt x 3 : Nat) : Int) = (x : Int) / 16777216 % 256 := by simp only [Pl.byt_def, Nat.reduceMul, Nat.reducePow]; omega
  have e2 : ((Pl.byt x 2 : Nat) : Int) = (x : Int) / 65536 % 256 := by simp only [Pl.byt_def, Nat.reduceMul, Nat.reducePow]; omega
  have e1 : ((Pl.byt x 1 : Nat) : Int) = (x : Int) / 256 % 256 := by simp only [Pl.byt_def, Nat.reduceMul, Nat.reducePow]; omega
  have e0 : ((Pl.byt x 0 : Nat) : Int) = (x : Int) % 256 := by simp only [Pl.byt_def, Nat.reduceMul, Nat.reducePow]; omega
  rw [Pl.be_eq, bys, List.map_cons, List.map_cons, List.map_cons, List.map_cons, List.map_cons, List.map_cons, List.map_cons, List.map_cons, List.map_nil, e7, e6, e5, e4, e3, e2, e1, e0]

set_option maxHeartbeats 1000000 in
theorem beappend_any (v : Value) (n x base : Nat) (ys : List Int) (w : World) (hn : n ≤ 2147483647) (hx : x < 18446744073709551616) (hv : w.ownsRow base 5 1 v n (bys ys)) (hbase : base ≤ w.heap.size) :
    Calls Tryd.prog 28 #[v, .int .u64 x] w fun e w' => ∃ v', e = .returned v' ∧ w'.ownsRow base 5 1 v' (n + 8) (bys (ys ++ Pl.be x)) ∧ w.grownBy w' v.ownBlock := by
  obtain ⟨i0, hi0, hz0, hz1, hz2⟩ := info_parts info_u8
  have HO := Lib.hid hv
  have HV := Lib.hid (be_vals x hx)
  clear hv
  go_enter Tryd.func28, Tryd.ntmps28
  go_wp2_with (at_builtin; refine wpList_append_own _ rfl _ _ 23 rfl base 5 i0 (.int .u8 0) 1 1 Tryd.underlying23 hi0 hz0 hz1 hz2 rfl (by decide) _ _ _ rfl (HO.out.alloc _) ⟨w.heap.size, 0, none⟩ 8 8 _ rfl rfl (World.news_of_block (heap_alloc_new w _)) ?c2 ?c3 ?c4 ?c5 ?_)
  case c2 => exact ⟨rfl, rfl, rfl, rfl, rfl, rfl, rfl, rfl⟩
  case c3 => unfold maxLen; omega
  case c4 => omega
  case c5 => simp; omega
  intro v' w2 hown' hgrow _
  rw [HV.out, ← bys_append] at hown'
  have HO2 := Lib.hid hown'
  have HG := Lib.hid (grow_trans (World.grownBy_alloc w _ _) hgrow)
  clear hown' hgrow
  go_wp2
  go_ret
  exact ⟨_, rfl, HO2.out, HG.out⟩
end Go.Proofs.YtglfeoiakhnkgaaDoor
