/- Bytes as strings; the law FnAppend as a walk. -/
import Derived.Test.YtglfeoiakhnkgaaByteB
import Derived.Laws.Concat
namespace Go.Proofs.Ytglfeoiakhnkgaa
open Go.RowKit

/-- A slice of bytes, made a string. -/
theorem conv_bsl {w : World} {A : Option Addr} {n : Nat} {ys : List Int} (h : BSl w A n ys) (hnil : A = none → n = 0) (c : Nat) : (convert 45 9 (.slice A n c)).run Try.prog w = .ok (.string (strOfNums ys)) w := by
  rcases A with _ | ad
  · obtain rfl : ys = [] := List.eq_nil_of_length_eq_zero (by rw [h.1]; exact hnil rfl)
    exact run_convert_bytes_nil w 45 5 Try.underlying45 Try.underlying5 n c 9 Try.underlying9
  · by_cases h0 : 0 < n
    · obtain ⟨g, o, e, hc⟩ := h.2 h0
      injection e with e
      subst e
      exact run_convert_bytes_arg w 45 5 Try.underlying45 Try.underlying5 g o n c ys h.1 (fun i hi => by rw [hc i hi, List.getD_eq_getElem?_getD]) 9 Try.underlying9
    · obtain rfl : n = 0 := by omega
      obtain rfl : ys = [] := List.eq_nil_of_length_eq_zero h.1
      rw [run_convert_bytes_string w 45 9 5 _ 0 c Try.underlying45 Try.underlying5 Try.underlying9]
      have hl := run_loadCells_list (P := Try.prog) w ad [] (fun j v hj => by simp at hj)
      exact run_bytesToString w ad 0 c [] hl

theorem str_append (xs ys : List Int) : strOfNums xs ++ strOfNums ys = strOfNums (xs ++ ys) := by
  unfold strOfNums
  rw [ByteArray.mk_append_mk, List.map_append]

set_option maxHeartbeats 1000000 in
theorem fnAppend_go (hi lo n c : Nat) (A : Option Addr) (ys : List Int) (w : World) (hn : n ≤ 300) (hh : hi < 18446744073709551616) (hl : lo < 18446744073709551616) (hnil : A = none → n = 0) (hs : BSl w A n ys) :
    Calls Try.prog 14 #[.int .u64 hi, .int .u64 lo, .slice A n c] w fun e w' => e = .returned (.bool true) ∧ Below w.heap.size w w' := by
  have t1 : decide ((2147483647 : Int) < (n : Int)) = false := by simp; omega
  have t2 : decide ((300 : Int) < (n : Int)) = false := by simp; omega
  have HS := Lib.hid hs
  have hm := marshal_any hi lo 0 w (by omega) hh hl
  rw [Pl.steps_zero] at hm
  have HM := Lib.hid hm
  clear hs hm
  go_enter Try.func14, Try.ntmps14
  go_wp2_with fail
  refine HM.out.mono ?_
  rintro e w1 ⟨A1, c1, rfl, hn1, hs1, hb1⟩
  have HS1 := Lib.hid hs1
  have HB1 := Lib.hid hb1
  have HN1 := Lib.hid hn1
  clear hn1 hs1 hb1 HM
  go_wp2_with fail
  refine (append_any hi lo n c A ys _ hn hh hl hnil (HS.out.later HB1.out)).mono ?_
  rintro e w2 ⟨A2, c2, rfl, hn2, hs2, hb2⟩
  have v2 := conv_bsl hs2 hn2 c2
  have v1 := conv_bsl (HS1.out.later hb2) HN1.out c1
  have v0 := conv_bsl ((HS.out.later HB1.out).later hb2) hnil c
  have heq : ((strOfNums (ys ++ Pl.wr (Pl.st hi lo))).toList == (strOfNums ys ++ strOfNums (Pl.wr (Pl.st hi lo))).toList) = true := by rw [str_append]; simp
  have hsz : ¬ ((strOfNums ys).size + (strOfNums (Pl.wr (Pl.st hi lo))).size > 9223372036854775807) := by
    rw [strOfNums_size, strOfNums_size, HS.out.1, Pl.wr_length]; omega
  have HB2 := Lib.hid (below_trans HB1.out (hb2.mono HB1.out.size))
  clear hs2 hn2 hb2 HS HB1 HS1 HN1
  generalize strOfNums (ys ++ Pl.wr (Pl.st hi lo)) = P at *
  generalize strOfNums ys = Q at *
  generalize strOfNums (Pl.wr (Pl.st hi lo)) = R at *
  go_wp2
  go_ret
  exact ⟨rfl, HB2.out⟩

set_option maxHeartbeats 1000000 in
theorem fnAppend_long (hi lo n c : Nat) (A : Option Addr) (w : World) (hn : 300 < n) :
    Calls Try.prog 14 #[.int .u64 hi, .int .u64 lo, .slice A n c] w fun e w' => e = .returned (.bool true) ∧ Below w.heap.size w w' := by
  by_cases h : 2147483647 < n
  · have t1 : decide ((2147483647 : Int) < (n : Int)) = true := by simp; omega
    go_enter Try.func14, Try.ntmps14
    go_wp2
    go_ret
    exact ⟨rfl, Below.refl _ _⟩
  · have t1 : decide ((2147483647 : Int) < (n : Int)) = false := by simp; omega
    have t2 : decide ((300 : Int) < (n : Int)) = true := by simp; omega
    go_enter Try.func14, Try.ntmps14
    go_wp2
    go_ret
    exact ⟨rfl, Below.refl _ _⟩

/-- The slice at a, of n integers of kind k, reads as zs. -/
def Arr (k : IntKind) (w : World) (a : Option Addr) (n cap : Nat) (zs : List Int) : Prop :=
  zs.length = n ∧ n ≤ cap ∧ cap ≤ maxLen ∧ (a = none → n = 0 ∧ cap = 0) ∧
  (0 < n → ∃ b off, a = some ⟨b, off, none⟩ ∧ b < w.heap.size ∧ ∀ i, i < n → w.cell? ⟨b, off + i, none⟩ = some (.int k (zs[i]?.getD 0))) ∧ ∀ z ∈ zs, (Lit.int k z).wf = true

theorem Arr.of_nil (w : World) (k : IntKind) : Arr k w none 0 0 [] := ⟨rfl, Nat.le_refl _, Nat.zero_le _, fun _ => ⟨rfl, rfl⟩, fun h => absurd h (by omega), by simp⟩
theorem Arr.of_open {k : IntKind} {w : World} {x : Addr} {len cap : Nat} {zs : List Int} (hl : len ≤ cap) (hm : cap ≤ maxLen) (hz : zs.length = cap)
    (hcell : ∀ i, i < zs.length → w.cell? (x.add i) = some (.int k (zs.getD i 0))) (hwz : ∀ n ∈ zs, (Lit.int k n).wf = true) : Arr k w (some x) len cap (zs.take len) := by
  refine ⟨by rw [List.length_take]; omega, hl, hm, (fun h => by cases h), fun h0 => ?_, fun z hz' => hwz z (List.mem_of_mem_take hz')⟩
  obtain ⟨b, off, spot⟩ := x
  have hc := hcell 0 (by omega)
  have hspot : spot = none := by simpa [Addr.add] using World.cell?_spot hc
  subst hspot
  refine ⟨b, off, rfl, World.block_lt_of_cell? _ _ (by simpa [Addr.add] using hc), fun i hi => ?_⟩
  have h := hcell i (by omega)
  rw [show (⟨b, off, none⟩ : Addr).add i = ⟨b, off + i, none⟩ from by unfold Addr.add; split <;> simp_all] at h
  rw [h, List.getElem?_take, if_pos hi]
  simp [List.getD_eq_getElem?_getD]

/-- Bytes that came in. -/
theorem bsl_of_arr {w : World} {a : Option Addr} {n cap : Nat} {zs : List Int} (h : Arr .u8 w a n cap zs) : BSl w a n zs ∧ (a = none → n = 0) ∧ ∀ z ∈ zs, 0 ≤ z ∧ z < 256 := by
  obtain ⟨h1, _, _, h4, h5, h6⟩ := h
  refine ⟨⟨h1, fun h0 => ?_⟩, fun e => (h4 e).1, fun z hz => ?_⟩
  · obtain ⟨b, off, e, _, hc⟩ := h5 h0
    exact ⟨b, off, e, hc⟩
  · have hw := h6 z hz
    simp [Lit.wf, IntKind.min, IntKind.max, IntKind.signed, IntKind.bits] at hw
    omega

theorem fnAppend_true (hi : Nat) (hh : hi < 18446744073709551616) (lo : Nat) (hl : lo < 18446744073709551616) (a : Option Addr) (n cap : Nat) (zs : List Int) {w : World} (s : Arr .u8 w a n cap zs) :
    Calls Try.prog 14 #[.int .u64 hi, .int .u64 lo, .slice a n cap] w fun e w' => e = .returned (.bool true) ∧ Below w.heap.size w w' := by
  obtain ⟨h1, h2, _⟩ := bsl_of_arr s
  by_cases h : n ≤ 300
  · exact fnAppend_go hi lo n cap a zs w h hh hl h2 h1
  · exact fnAppend_long hi lo n cap a w (by omega)
end Go.Proofs.Ytglfeoiakhnkgaa
