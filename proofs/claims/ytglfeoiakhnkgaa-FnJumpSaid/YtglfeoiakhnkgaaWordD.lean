/- Contracts: impl.Words, impl.Zero, impl.Seeded; the laws FnZero, FnSeeded, FnPrefix as walks. -/
import Derived.Test.YtglfeoiakhnkgaaWordC
namespace Go.Proofs.Ytglfeoiakhnkgaa
open Go.RowKit

/-- A call has given a slice of the words xs, and nothing that was there has changed. -/
def Giv (w : World) (n : Nat) (xs : List Nat) (e : Ending) (w' : World) : Prop :=
  ∃ A c, e = .returned (.slice A n c) ∧ n ≤ c ∧ Sl w' A n xs ∧ Below w.heap.size w w'

theorem giv_of {w w0 w' : World} {b s n : Nat} {v : Value} (h : DRel w0 b s n v w') (h0 : Below w.heap.size w w0) (hb : w.heap.size ≤ b) : Giv w n (tws s n) (.returned v) w' := by
  obtain ⟨A, c, rfl, hs, hc⟩ := sl_of_own h.1
  exact ⟨A, c, rfl, hc, hs, h0.grown h.2.2.2 h0.size (fun k hk => by injection hk with hk; omega)⟩

set_option maxHeartbeats 400000 in
theorem words_any (hi lo n : Nat) (w : World) (hn : n ≤ 4096) (hl : lo < 18446744073709551616) :
    Calls Try.prog 22 #[.int .u64 hi, .int .u64 lo, .int .i64 n] w (Giv w n (tws (Pl.st hi lo) n)) := by
  have hd := drawn_any w.heap.size (Pl.st hi lo) n (w.alloc (.cells #[.int .u64 hi, .int .u64 lo] 59)) hn (by rw [Pl.hiW_st hl, Pl.loW_st hl]; exact Whole.new _ _ _)
  have HD := Lib.hid hd
  clear hd
  go_enter Try.func22, Try.ntmps22
  go_wp2_with fail
  refine (newpcg_any hi lo _).mono ?_
  rintro e w1 ⟨rfl, rfl⟩
  go_wp2_with fail
  refine HD.out.mono ?_
  rintro e w2 ⟨v, rfl, h⟩
  have H := Lib.hid h
  clear h
  go_wp2
  go_ret
  exact giv_of H.out ((Below.refl _ _).alloc (Nat.le_refl _) _) (Nat.le_refl _)

set_option maxHeartbeats 400000 in
theorem zero_any (n : Nat) (w : World) (hn : n ≤ 4096) :
    Calls Try.prog 25 #[.int .i64 n] w (Giv w n (tws (Pl.st 0 0) n)) := by
  have hd := drawn_any w.heap.size (Pl.st 0 0) n (w.alloc (.cells #[.int .u64 0, .int .u64 0] 59)) hn (by rw [Pl.hiW_st (by omega), Pl.loW_st (by omega)]; exact Whole.new _ _ _)
  have HD := Lib.hid hd
  clear hd
  go_enter Try.func25, Try.ntmps25
  go_wp2_with fail
  refine HD.out.mono ?_
  rintro e w2 ⟨v, rfl, h⟩
  have H := Lib.hid h
  clear h
  go_wp2
  go_ret
  exact giv_of H.out ((Below.refl _ _).alloc (Nat.le_refl _) _) (Nat.le_refl _)

set_option maxHeartbeats 400000 in
theorem seed_any (b hi lo : Nat) (w : World) (x y : Value) (hb : Whole w b 59 #[x, y]) :
    Calls Try.prog 37 #[.pointer (some ⟨b, 0, none⟩), .int .u64 hi, .int .u64 lo] w fun e w' => e = .returned (.tuple #[]) ∧
      Whole w' b 59 #[.int .u64 hi, .int .u64 lo] ∧ w.grownBy w' (some b) := by
  have h0 := hb.cell 0
  have h1 := hb.cell 1
  have f0 := hb.free 0
  have f1 := hb.free 1
  have HB := Lib.hid hb
  clear hb
  simp at h0 h1
  go_enter Try.func37, Try.ntmps37
  go_wp2
  go_end0
  exact ⟨rfl, (HB.out.put 0 _).put 1 _, grow_put (g := b) (p := ⟨b, 1, none⟩) (grow_put (g := b) (p := ⟨b, 0, none⟩) (grow_refl _ _) (.inl rfl) _) (.inl rfl) _⟩

theorem below3 {w w1 w2 : World} {q : Nat} (h : Below w.heap.size w w1) (k : Below w1.heap.size w1 w2) : Below w.heap.size w (w2.drewN q) := below_drewN (h.trans (k.mono h.size)) q

set_option maxHeartbeats 1000000 in
theorem fnZero_go (m n : Nat) (w : World) (hm : m ≤ 4096) (hv : (1 : Int) + (n : Int) % 300 = (m : Int)) :
    Calls Try.prog 11 #[.int .u16 n] w fun e w' => e = .returned (.bool true) ∧ Below w.heap.size w w' := by
  have e0 : ((m : Int) == (m : Int)) = true := by simp
  go_enter Try.func11, Try.ntmps11
  go_wp2_with fail
  refine (zero_any m _ hm).mono ?_
  rintro e w1 ⟨A, c, rfl, hc, hs, hb⟩
  have HS := Lib.hid hs
  have HB := Lib.hid hb
  clear hs hb
  go_wp2_with fail
  refine (words_any 0 0 m _ hm (by omega)).mono ?_
  rintro e w2 ⟨A', c', rfl, hc', hs, hb⟩
  have HS2 := Lib.hid hs
  have HB2 := Lib.hid hb
  clear hs hb
  go_wp2_with fail
  refine (same_any A A' m c c' _ _ (by omega) (HS.out.later HB2.out) HS2.out).mono ?_
  rintro e w3 ⟨rfl, q, rfl⟩
  go_wp2
  go_ret
  exact ⟨rfl, below3 HB.out HB2.out⟩
theorem fnZero_true (n : Nat) (_hn : n < 65536) (w : World) :
    Calls Try.prog 11 #[.int .u16 n] w fun e w' => e = .returned (.bool true) ∧ Below w.heap.size w w' :=
  fnZero_go (1 + n % 300) n w (by omega) (by omega)

set_option maxHeartbeats 1000000 in
theorem seeded_any (hi lo k s1 s2 n : Nat) (w : World) (hk : k ≤ 4096) (hn : n ≤ 4096) (hl : lo < 18446744073709551616) (h2 : s2 < 18446744073709551616) :
    Calls Try.prog 26 #[.int .u64 hi, .int .u64 lo, .int .i64 k, .int .u64 s1, .int .u64 s2, .int .i64 n] w (Giv w n (tws (Pl.st s1 s2) n)) := by
  have hd := drawn_any w.heap.size (Pl.st hi lo) k (w.alloc (.cells #[.int .u64 hi, .int .u64 lo] 59)) hk (by rw [Pl.hiW_st hl, Pl.loW_st hl]; exact Whole.new _ _ _)
  have HD := Lib.hid hd
  clear hd
  have t1 : decide ((k : Int) < 0) = false := by simp
  have t2 : decide ((4096 : Int) < k) = false := by simp; omega
  go_enter Try.func26, Try.ntmps26
  go_wp2_with fail
  refine (newpcg_any hi lo _).mono ?_
  rintro e w1 ⟨rfl, rfl⟩
  go_wp2_with fail
  refine HD.out.mono ?_
  rintro e w2 ⟨v, rfl, h⟩
  have H := Lib.hid h
  clear h
  go_wp2_with fail
  refine (seed_any w.heap.size s1 s2 _ _ _ H.out.2.1).mono ?_
  rintro e w3 ⟨rfl, hw, hg⟩
  have HW := Lib.hid hw
  have HG := Lib.hid hg
  clear hw hg
  go_wp2_with fail
  refine (drawn_any w.heap.size (Pl.st s1 s2) n _ hn (by rw [Pl.hiW_st h2, Pl.loW_st h2]; exact HW.out)).mono ?_
  rintro e w4 ⟨v', rfl, h⟩
  have H4 := Lib.hid h
  clear h
  go_wp2
  go_ret
  have b1 : Below w.heap.size w (w.alloc (.cells #[.int .u64 hi, .int .u64 lo] 59)) := (Below.refl _ _).alloc (Nat.le_refl _) _
  have b2 : Below w.heap.size w w2 := b1.grown H.out.2.2.2 b1.size (fun k hk => by injection hk with hk; omega)
  have b3 : Below w.heap.size w w3 := b2.grown HG.out b2.size (fun k hk => by injection hk with hk; omega)
  exact giv_of H4.out b3 (Nat.le_refl _)

set_option maxHeartbeats 1000000 in
theorem fnSeeded_go (hi lo k s1 s2 n m : Nat) (w : World) (hk : k < 256) (hl : lo < 18446744073709551616) (h2 : s2 < 18446744073709551616) (hm : m ≤ 4096) (hv : (1 : Int) + (n : Int) % 300 = (m : Int)) :
    Calls Try.prog 12 #[.int .u64 hi, .int .u64 lo, .int .u8 k, .int .u64 s1, .int .u64 s2, .int .u16 n] w fun e w' => e = .returned (.bool true) ∧ Below w.heap.size w w' := by
  have e0 : ((m : Int) == (m : Int)) = true := by simp
  go_enter Try.func12, Try.ntmps12
  go_wp2_with fail
  refine (seeded_any hi lo k s1 s2 m _ (by omega) hm hl h2).mono ?_
  rintro e w1 ⟨A, c, rfl, hc, hs, hb⟩
  have HS := Lib.hid hs
  have HB := Lib.hid hb
  clear hs hb
  go_wp2_with fail
  refine (words_any s1 s2 m _ hm h2).mono ?_
  rintro e w2 ⟨A', c', rfl, hc', hs, hb⟩
  have HS2 := Lib.hid hs
  have HB2 := Lib.hid hb
  clear hs hb
  go_wp2_with fail
  refine (same_any A A' m c c' _ _ (by omega) (HS.out.later HB2.out) HS2.out).mono ?_
  rintro e w3 ⟨rfl, q, rfl⟩
  go_wp2
  go_ret
  exact ⟨rfl, below3 HB.out HB2.out⟩
theorem fnSeeded_true (hi : Nat) (_hh : hi < 18446744073709551616) (lo : Nat) (hl : lo < 18446744073709551616) (k : Nat) (hk : k < 256) (s1 : Nat) (_h1 : s1 < 18446744073709551616) (s2 : Nat) (h2 : s2 < 18446744073709551616) (n : Nat) (_hn : n < 65536) (w : World) :
    Calls Try.prog 12 #[.int .u64 hi, .int .u64 lo, .int .u8 k, .int .u64 s1, .int .u64 s2, .int .u16 n] w fun e w' => e = .returned (.bool true) ∧ Below w.heap.size w w' :=
  fnSeeded_go hi lo k s1 s2 n (1 + n % 300) w hk hl h2 (by omega) (by omega)

set_option maxHeartbeats 1000000 in
theorem fnPrefix_go (hi lo n p a b m : Nat) (w : World) (hl : lo < 18446744073709551616) (ha : a ≤ m) (hm : m ≤ 4096) (va : (n : Int) % 200 = (a : Int)) (vb : (1 : Int) + (p : Int) % 200 = (b : Int)) (vm : (a : Int) + (b : Int) = (m : Int)) :
    Calls Try.prog 9 #[.int .u64 hi, .int .u64 lo, .int .u8 n, .int .u8 p] w fun e w' => e = .returned (.bool true) ∧ Below w.heap.size w w' := by
  have e0 : ((m : Int) == (m : Int)) = true := by simp
  go_enter Try.func9, Try.ntmps9
  go_wp2_with fail
  refine (words_any hi lo a _ (by omega) hl).mono ?_
  rintro e w1 ⟨A, c, rfl, hc, hs, hb⟩
  have HS := Lib.hid hs
  have HB := Lib.hid hb
  clear hs hb
  go_wp2_with fail
  refine (words_any hi lo m _ hm hl).mono ?_
  rintro e w2 ⟨A', c', rfl, hc', hs, hb⟩
  have HS2 := Lib.hid hs
  have HB2 := Lib.hid hb
  clear hs hb
  have b1 : (0 : Int) ≤ (a : Int) := by omega
  have b2 : (a : Int) ≤ (c' : Int) := by omega
  go_wp2_with fail
  have hs3 := HS2.out.take ha
  rw [tws_take _ _ _ ha] at hs3
  refine (same_any A A' a c c' _ _ (by omega) (HS.out.later HB2.out) hs3).mono ?_
  rintro e w3 ⟨rfl, q, rfl⟩
  go_wp2
  go_ret
  exact ⟨rfl, below3 HB.out HB2.out⟩
theorem fnPrefix_true (hi : Nat) (_hh : hi < 18446744073709551616) (lo : Nat) (hl : lo < 18446744073709551616) (n : Nat) (_hn : n < 256) (p : Nat) (_hp : p < 256) (w : World) :
    Calls Try.prog 9 #[.int .u64 hi, .int .u64 lo, .int .u8 n, .int .u8 p] w fun e w' => e = .returned (.bool true) ∧ Below w.heap.size w w' :=
  fnPrefix_go hi lo n p (n % 200) (1 + p % 200) (n % 200 + (1 + p % 200)) w hl (by omega) (by omega) (by omega) (by omega) (by omega)
end Go.Proofs.Ytglfeoiakhnkgaa
