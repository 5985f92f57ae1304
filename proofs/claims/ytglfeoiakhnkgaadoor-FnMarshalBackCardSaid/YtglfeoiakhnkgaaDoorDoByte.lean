/- Contracts: AppendBinary, MarshalBinary, impl.Marshal; bytes as strings; bytes that came in. -/
import Derived.Test.YtglfeoiakhnkgaaDoorByteA
import Derived.Laws.Concat
namespace Go.Proofs.YtglfeoiakhnkgaaDoor
open Go.RowKit

namespace Pl
/-- The bytes of a state: four letters and both words. -/
noncomputable def wr (s : Nat) : List Int := [112, 99, 103, 58] ++ (be (hiW s) ++ be (loW s))
theorem wr_length (s : Nat) : (wr s).length = 20 := by simp [wr, be_length]
end Pl
theorem pcg_cells : Lib.strCells { data := #[112, 99, 103, 58] } = bys [112, 99, 103, 58] := rfl
theorem bys_join (xs ys zs us : List Int) : bys (((xs ++ ys) ++ zs) ++ us) = bys (xs ++ (ys ++ (zs ++ us))) := by simp only [List.append_assoc]
set_option maxHeartbeats 1000000 in
theorem appendbin_any (b s n base : Nat) (v : Value) (ys : List Int) (w : World) (hn : n ≤ 1000) (hs : s < 340282366920938463463374607431768211456)
    (hb : Whole w b 51 #[.int .u64 (Pl.hiW s : Nat), .int .u64 (Pl.loW s : Nat)]) (hbb : b < base) (hbase : base ≤ w.heap.size)
    (hv : w.ownsRow base 5 1 v n (bys ys)) :
    Calls Tryd.prog 25 #[.pointer (some ⟨b, 0, none⟩), v] w fun e w' =>
      ∃ v', e = .returned (.tuple #[v', .nilIface]) ∧ w'.ownsRow base 5 1 v' (n + 20) (bys (ys ++ Pl.wr s)) ∧ Below base w w' := by
  obtain ⟨i0, hi0, hz0, hz1, hz2⟩ := info_parts info_u8
  have HO := Lib.hid hv
  have HB := Lib.hid hb
  clear hv hb
  go_enter Tryd.func25, Tryd.ntmps25
  go_wp2_with (at_builtin; refine Lib.wpList_append_own_string _ rfl _ _ 23 9 rfl base 5 i0 Tryd.underlying23 Tryd.underlying9 hi0 hz0 hz1 hz2 _ n (bys ys) rfl HO.out { data := #[112, 99, 103, 58] } rfl ?c1 ?c2 hbase ?_)
  case c1 => show n + 4 ≤ maxLen; unfold maxLen; omega
  case c2 => show n + 4 ≤ 140737488355328; omega
  intro v1 w1 hown hgrow _
  have hown1 : w1.ownsRow base 5 1 v1 (n + 4) (bys (ys ++ [112, 99, 103, 58])) := by rw [bys_append, ← pcg_cells]; exact hown
  have hlt1 : ∀ k, v.ownBlock = some k → base ≤ k := fun k hk => (HO.out.lt k hk).1
  have b1 : Below base w w1 := (Below.refl _ _).grown hgrow hbase hlt1
  have hw1 : Whole w1 b 51 #[.int .u64 (Pl.hiW s : Nat), .int .u64 (Pl.loW s : Nat)] := HB.out.below b1 hbb
  have h0 := hw1.cell 0
  simp at h0
  have HO1 := Lib.hid hown1
  have HB1 := Lib.hid b1
  have HW1 := Lib.hid hw1
  clear hown hgrow hown1 hlt1 b1 hw1 HB HO
  go_wp2_with fail
  refine (beappend_any v1 (n + 4) (Pl.hiW s) base _ _ (by omega) (Pl.hiW_lt hs) HO1.out (Nat.le_trans hbase HB1.out.size)).mono ?_
  rintro e w2 ⟨v2, rfl, hown2, hgrow2⟩
  have b2 : Below base w1 w2 := (Below.refl _ _).grown hgrow2 (Nat.le_trans hbase HB1.out.size) (fun k hk => (HO1.out.lt k hk).1)
  have hw2 := HW1.out.below b2 hbb
  have h1 := hw2.cell 1
  simp at h1
  have HO2 := Lib.hid hown2
  have HB2 := Lib.hid (HB1.out.trans b2)
  clear hown2 hgrow2 b2 hw2 HB1 HW1 HO1
  go_wp2_with fail
  refine (beappend_any v2 (n + 4 + 8) (Pl.loW s) base _ _ (by omega) (Pl.loW_lt s) HO2.out (Nat.le_trans hbase HB2.out.size)).mono ?_
  rintro e w3 ⟨v3, rfl, hown3, hgrow3⟩
  have b3 : Below base w2 w3 := (Below.refl _ _).grown hgrow3 (Nat.le_trans hbase HB2.out.size) (fun k hk => (HO2.out.lt k hk).1)
  have HB3 := Lib.hid (HB2.out.trans b3)
  rw [bys_join] at hown3
  have HO3 := Lib.hid hown3
  clear hown3 hgrow3 b3
  go_wp2
  go_ret2
  exact ⟨_, rfl, HO3.out, HB3.out⟩
set_option maxHeartbeats 1000000 in
theorem marshalbin_any (b s : Nat) (w : World) (hs : s < 340282366920938463463374607431768211456)
    (hb : Whole w b 51 #[.int .u64 (Pl.hiW s : Nat), .int .u64 (Pl.loW s : Nat)]) :
    Calls Tryd.prog 18 #[.pointer (some ⟨b, 0, none⟩)] w fun e w' =>
      ∃ v', e = .returned (.tuple #[v', .nilIface]) ∧ w'.ownsRow w.heap.size 5 1 v' 20 (bys (Pl.wr s)) ∧ Below w.heap.size w w' := by
  obtain ⟨i0, hi0, hz0, hz1, hz2⟩ := info_parts info_u8
  obtain ⟨w1, hmk, hown, hgrow⟩ := run_make_own (P := Tryd.prog) w w.heap.size 23 5 i0 (.int .u8 0) 1 Tryd.underlying23 hi0 hz0 hz1 .i64 .i64 20 (by rw [hz2]; omega) (by unfold maxLen; omega) (Nat.le_refl _)
  have hbel := below_of_grow hgrow
  have HA := Lib.hid (appendbin_any b s 0 w.heap.size _ [] w1 (by omega) hs (hb.below hbel hb.lt) hb.lt hbel.size hown)
  have HB := Lib.hid hbel
  clear hb hown hgrow hbel
  simp only [Int.cast_ofNat_Int] at hmk
  go_enter Tryd.func18, Tryd.ntmps18
  go_wp2_with fail
  refine HA.out.mono ?_
  rintro e w2 ⟨v2, rfl, hown, hb2⟩
  have HO2 := Lib.hid hown
  have HB2 := Lib.hid (HB.out.trans hb2)
  clear hown hb2 HB HA hmk
  go_wp2
  go_ret2
  exact ⟨_, rfl, by simpa using HO2.out, HB2.out⟩
/-- A call has given a slice of the bytes ys and true, and nothing that was there has changed. -/
def GivB (w : World) (n : Nat) (ys : List Int) (e : Ending) (w' : World) : Prop :=
  ∃ A c, e = .returned (.tuple #[.slice A n c, .bool true]) ∧ (A = none → n = 0) ∧ BSl w' A n ys ∧ Below w.heap.size w w'
set_option maxHeartbeats 1000000 in
theorem marshal_any (hi lo k : Nat) (w : World) (hk : k ≤ 4096) (hh : hi < 18446744073709551616) (hl : lo < 18446744073709551616) :
    Calls Tryd.prog 9 #[.int .u64 hi, .int .u64 lo, .int .i64 k] w (GivB w 20 (Pl.wr (Pl.steps k (Pl.st hi lo)))) := by
  have hd := drawn_any w.heap.size (Pl.st hi lo) k (w.alloc (.cells #[.int .u64 hi, .int .u64 lo] 51)) hk (by rw [Pl.hiW_st hl, Pl.loW_st hl]; exact Whole.new _ _ _)
  have HD := Lib.hid hd
  clear hd
  have t1 : decide ((k : Int) < 0) = false := by simp
  have t2 : decide ((4096 : Int) < k) = false := by simp; omega
  go_enter Tryd.func9, Tryd.ntmps9
  go_wp2_with fail
  refine (newpcg_any hi lo _).mono ?_
  rintro e w1 ⟨rfl, rfl⟩
  go_wp2_with fail
  refine HD.out.mono ?_
  rintro e w2 ⟨v, rfl, h⟩
  have b1 : Below w.heap.size w (w.alloc (.cells #[.int .u64 hi, .int .u64 lo] 51)) := (Below.refl _ _).alloc (Nat.le_refl _) _
  have HB2 := Lib.hid (b1.grown h.2.2.2 b1.size (fun k hk => by injection hk with hk; omega))
  have HM := Lib.hid (marshalbin_any w.heap.size (Pl.steps k (Pl.st hi lo)) w2 (Pl.steps_lt k (Pl.st_lt hh hl)) h.2.1)
  clear h b1 HD
  go_wp2_with fail
  refine HM.out.mono ?_
  rintro e w3 ⟨v3, rfl, hown, hb3⟩
  obtain ⟨A3, c3, rfl, hs3, hn3⟩ := bsl_of_own hown
  have HB3 := Lib.hid (below_trans HB2.out (hb3.mono HB2.out.size))
  have HS3 := Lib.hid hs3
  have HN3 := Lib.hid hn3
  clear hown hb3 hs3 hn3 HB2 HM
  go_wp2_with fail
  refine (cloneB_any A3 20 c3 _ _ (by omega) HN3.out HS3.out).mono ?_
  rintro e w4 ⟨v4, rfl, hown, hb4⟩
  obtain ⟨A4, c4, rfl, hs4, hn4⟩ := bsl_of_own hown
  have HB4 := Lib.hid (below_trans HB3.out (hb4.mono HB3.out.size))
  have HS4 := Lib.hid hs4
  have HN4 := Lib.hid hn4
  clear hown hb4 hs4 hn4 HB3 HS3 HN3
  go_wp2
  go_ret2
  exact ⟨A4, c4, rfl, HN4.out, HS4.out, HB4.out⟩

/-- A slice of bytes, made a string. -/
theorem conv_bsl {w : World} {A : Option Addr} {n : Nat} {ys : List Int} (h : BSl w A n ys) (hnil : A = none → n = 0) (c : Nat) : (convert 23 9 (.slice A n c)).run Tryd.prog w = .ok (.string (strOfNums ys)) w := by
  rcases A with _ | ad
  · obtain rfl : ys = [] := List.eq_nil_of_length_eq_zero (by rw [h.1]; exact hnil rfl)
    exact run_convert_bytes_nil w 23 5 Tryd.underlying23 Tryd.underlying5 n c 9 Tryd.underlying9
  · by_cases h0 : 0 < n
    · obtain ⟨g, o, e, hc⟩ := h.2 h0
      injection e with e
      subst e
      exact run_convert_bytes_arg w 23 5 Tryd.underlying23 Tryd.underlying5 g o n c ys h.1 (fun i hi => by rw [hc i hi, List.getD_eq_getElem?_getD]) 9 Tryd.underlying9
    · obtain rfl : n = 0 := by omega
      obtain rfl : ys = [] := List.eq_nil_of_length_eq_zero h.1
      rw [run_convert_bytes_string w 23 9 5 _ 0 c Tryd.underlying23 Tryd.underlying5 Tryd.underlying9]
      have hl := run_loadCells_list (P := Tryd.prog) w ad [] (fun j v hj => by simp at hj)
      exact run_bytesToString w ad 0 c [] hl
/-- The slice at a, of n integers of kind k, reads as zs. -/
def Arr (k : IntKind) (w : World) (a : Option Addr) (n cap : Nat) (zs : List Int) : Prop :=
  zs.length = n ∧ n ≤ cap ∧ cap ≤ maxLen ∧ (a = none → n = 0 ∧ cap = 0) ∧
  (0 < n → ∃ b off, a = some ⟨b, off, none⟩ ∧ b < w.heap.size ∧ ∀ i, i < n → w.cell? ⟨b, off + i, none⟩ = some (.int k (zs[i]?.getD 0))) ∧ ∀ z ∈ zs, (Lit.int k z).wf = true
theorem Arr.of_nil (w : World) (k : IntKind) : Arr k w none 0 0 [] := ⟨rfl, Nat.le_refl _, Nat.zero_le _, fun _ => ⟨rfl, rfl⟩, fun h => absurd h (by omega), by simp⟩
theorem Arr.of_open {k : IntKind} {w : World} {x : Addr} {len cap : Nat} {zs : List Int} (hl : len ≤ cap) (hm : cap ≤ maxLen) (hz : zs.length = cap)
    (hcell : ∀ i, i < zs.length → w.cell? (x.add i) = some (.int k (zs.getD i 0))) (hwz : ∀ n ∈ zs, (Lit.int k n).wf = true) : Arr k w (some x) len cap (zs.take len) := by
  refine ⟨by rw [List.length_take]; omega, hl, hm, (fun h => by cases h), fun h0 => ?_, fun z hz' => hwz z (List.mem_of_mem_take hz')⟩
  obtain ⟨b, off, spot⟩ := x
  have hc := hcell 0 (by omega)
  have hspot : spot = none := by simpa [Addr.add] using World.cell?_spot hc
  subst hspot
  refine ⟨b, off, rfl, World.block_lt_of_cell? _ _ (by simpa [Addr.add] using hc), fun i hi => ?_⟩
  have h := hcell i (by omega)
  rw [show (⟨b, off, none⟩ : Addr).add i = ⟨b, off + i, none⟩ from by unfold Addr.add; split <;> simp_all] at h
  rw [h, List.getElem?_take, if_pos hi]
  simp [List.getD_eq_getElem?_getD]
/-- Bytes that came in. -/
theorem bsl_of_arr {w : World} {a : Option Addr} {n cap : Nat} {zs : List Int} (h : Arr .u8 w a n cap zs) : BSl w a n zs ∧ (a = none → n = 0) ∧ ∀ z ∈ zs, 0 ≤ z ∧ z < 256 := by
  obtain ⟨h1, _, _, h4, h5, h6⟩ := h
  refine ⟨⟨h1, fun h0 => ?_⟩, fun e => (h4 e).1, fun z hz => ?_⟩
  · obtain ⟨b, off, e, _, hc⟩ := h5 h0
    exact ⟨b, off, e, hc⟩
  · have hw := h6 z hz
    simp [Lit.wf, IntKind.min, IntKind.max, IntKind.signed, IntKind.bits] at hw
    omega
end Go.Proofs.YtglfeoiakhnkgaaDoor
