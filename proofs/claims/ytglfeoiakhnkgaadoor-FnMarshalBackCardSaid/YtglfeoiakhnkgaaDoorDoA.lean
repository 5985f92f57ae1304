/- Contracts: beUint64, spec.word: eight bytes as a word. -/
import Derived.Test.YtglfeoiakhnkgaaDoorDoByte
import Derived.Test.YtglfeoiakhnkgaaDoorDoWord
import Derived.Lib.EndianBits
namespace Go.Proofs.YtglfeoiakhnkgaaDoor
open Go.RowKit

namespace Pl
/-- The first k bytes as a number, the highest first. -/
def rdN (f : Nat → Nat) : Nat → Nat
  | 0 => 0
  | k + 1 => rdN f k * 256 + f k
theorem rdN_lt (f : Nat → Nat) (hf : ∀ i, f i < 256) : ∀ k, rdN f k < 256 ^ k
  | 0 => by simp [rdN]
  | k + 1 => by
    have h := rdN_lt f hf k
    have := hf k
    rw [rdN, Nat.pow_succ]
    omega
theorem rdN_small (f : Nat → Nat) (hf : ∀ i, f i < 256) (k : Nat) (hk : k < 8) : rdN f k < 72057594037927936 :=
  Nat.lt_of_lt_of_le (rdN_lt f hf k) (Nat.le_trans (Nat.pow_le_pow_right (by omega) (show k ≤ 7 by omega)) (by decide))
theorem rdN_word (f : Nat → Nat) (hf : ∀ i, f i < 256) : rdN f 8 < 18446744073709551616 := Nat.lt_of_lt_of_le (rdN_lt f hf 8) (by decide)
theorem rdN_ext (f h : Nat → Nat) : ∀ k, (∀ i, i < k → f i = h i) → rdN f k = rdN h k
  | 0, _ => rfl
  | k + 1, e => by rw [rdN, rdN, rdN_ext f h k (fun i hi => e i (by omega)), e k (by omega)]
theorem rdN_eight (f : Nat → Nat) : rdN f 8 = f 7 + f 6 * 256 + f 5 * 65536 + f 4 * 16777216 + f 3 * 4294967296 + f 2 * 1099511627776 + f 1 * 281474976710656 + f 0 * 72057594037927936 := by
  simp only [rdN]
  omega
/-- A word's bytes make the word. -/
theorem rdN_be (x : Nat) (hx : x < 18446744073709551616) (f : Nat → Nat) (hf : ∀ i, i < 8 → f i = byt x (7 - i)) : rdN f 8 = x := by
  rw [rdN_eight, hf 0 (by omega), hf 1 (by omega), hf 2 (by omega), hf 3 (by omega), hf 4 (by omega), hf 5 (by omega), hf 6 (by omega), hf 7 (by omega)]
  simp only [byt_def, Nat.reduceMul, Nat.reducePow, Nat.reduceSub]
  omega
end Pl

theorem or_eight (f : Nat → Nat) (hf : ∀ i, f i < 256) :
    bits .or .u64 (bits .or .u64 (bits .or .u64 (bits .or .u64 (bits .or .u64 (bits .or .u64 (bits .or .u64 (f 7 : Int) ((f 6 : Int) * 256)) ((f 5 : Int) * 65536)) ((f 4 : Int) * 16777216)) ((f 3 : Int) * 4294967296)) ((f 2 : Int) * 1099511627776)) ((f 1 : Int) * 281474976710656)) ((f 0 : Int) * 72057594037927936) = ((Pl.rdN f 8 : Nat) : Int) := by
  have f0 := hf 0
  have f1 := hf 1
  have f2 := hf 2
  have f3 := hf 3
  have f4 := hf 4
  have f5 := hf 5
  have f6 := hf 6
  have f7 := hf 7
  have h0 : bits .or .u64 ((f 7 : Int)) ((f 6 : Int) * 256) = (f 7 : Int) + (f 6 : Int) * 256 := u64_or8 _ _ (by omega) (by omega) (by omega) (by omega) (by omega)
  have h1 : bits .or .u64 ((f 7 : Int) + (f 6 : Int) * 256) ((f 5 : Int) * 65536) = (f 7 : Int) + (f 6 : Int) * 256 + (f 5 : Int) * 65536 := u64_or16 _ _ (by omega) (by omega) (by omega) (by omega) (by omega)
  have h2 : bits .or .u64 ((f 7 : Int) + (f 6 : Int) * 256 + (f 5 : Int) * 65536) ((f 4 : Int) * 16777216) = (f 7 : Int) + (f 6 : Int) * 256 + (f 5 : Int) * 65536 + (f 4 : Int) * 16777216 := u64_or24 _ _ (by omega) (by omega) (by omega) (by omega) (by omega)
  have h3 : bits .or .u64 ((f 7 : Int) + (f 6 : Int) * 256 + (f 5 : Int) * 65536 + (f 4 : Int) * 16777216) ((f 3 : Int) * 4294967296) = (f 7 : Int) + (f 6 : Int) * 256 + (f 5 : Int) * 65536 + (f 4 : Int) * 16777216 + (f 3 : Int) * 4294967296 := u64_or32 _ _ (by omega) (by omega) (by omega) (by omega) (by omega)
  have h4 : bits .or .u64 ((f 7 : Int) + (f 6 : Int) * 256 + (f 5 : Int) * 65536 + (f 4 : Int) * 16777216 + (f 3 : Int) * 4294967296) ((f 2 : Int) * 1099511627776) = (f 7 : Int) + (f 6 : Int) * 256 + (f 5 : Int) * 65536 + (f 4 : Int) * 16777216 + (f 3 : Int) * 4294967296 + (f 2 : Int) * 1099511627776 := u64_or40 _ _ (by omega) (by omega) (by omega) (by omega) (by omega)
  have h5 : bits .or .u64 ((f 7 : Int) + (f 6 : Int) * 256 + (f 5 : Int) * 65536 + (f 4 : Int) * 16777216 + (f 3 : Int) * 4294967296 + (f 2 : Int) * 1099511627776) ((f 1 : Int) * 281474976710656) = (f 7 : Int) + (f 6 : Int) * 256 + (f 5 : Int) * 65536 + (f 4 : Int) * 16777216 + (f 3 : Int) * 4294967296 + (f 2 : Int) * 1099511627776 + (f 1 : Int) * 281474976710656 := u64_or48 _ _ (by omega) (by omega) (by omega) (by omega) (by omega)
  have h6 : bits .or .u64 ((f 7 : Int) + (f 6 : Int) * 256 + (f 5 : Int) * 65536 + (f 4 : Int) * 16777216 + (f 3 : Int) * 4294967296 + (f 2 : Int) * 1099511627776 + (f 1 : Int) * 281474976710656) ((f 0 : Int) * 72057594037927936) = (f 7 : Int) + (f 6 : Int) * 256 + (f 5 : Int) * 65536 + (f 4 : Int) * 16777216 + (f 3 : Int) * 4294967296 + (f 2 : Int) * 1099511627776 + (f 1 : Int) * 281474976710656 + (f 0 : Int) * 72057594037927936 := u64_or56 _ _ (by omega) (by omega) (by omega) (by omega) (by omega)
  rw [h0, h1, h2, h3, h4, h5, h6, Pl.rdN_eight]
  omega

/-- Bytes lie from an offset on. -/
def At8 (w : World) (g o : Nat) (f : Nat → Nat) : Prop := ∀ i, i < 8 → w.cell? ⟨g, o + i, none⟩ = some (.int .u8 (f i : Nat))

set_option maxHeartbeats 1000000 in
theorem beuint_any (g o n c : Nat) (f : Nat → Nat) (w : World) (hn : 8 ≤ n) (hf : ∀ i, f i < 256) (h : At8 w g o f) :
    Calls Tryd.prog 19 #[.slice (some ⟨g, o, none⟩) n c] w fun e w' => e = .returned (.int .u64 (Pl.rdN f 8 : Nat)) ∧ ∃ q, w' = w.drewN q := by
  have i0 : (0 : Int) < (n : Int) := by omega
  have i1 : (1 : Int) < (n : Int) := by omega
  have i2 : (2 : Int) < (n : Int) := by omega
  have i3 : (3 : Int) < (n : Int) := by omega
  have i4 : (4 : Int) < (n : Int) := by omega
  have i5 : (5 : Int) < (n : Int) := by omega
  have i6 : (6 : Int) < (n : Int) := by omega
  have i7 : (7 : Int) < (n : Int) := by omega
  have c0 := h 0 (by omega)
  have c1 := h 1 (by omega)
  have c2 := h 2 (by omega)
  have c3 := h 3 (by omega)
  have c4 := h 4 (by omega)
  have c5 := h 5 (by omega)
  have c6 := h 6 (by omega)
  have c7 := h 7 (by omega)
  rw [Nat.add_zero] at c0
  have f0 := hf 0
  have f1 := hf 1
  have f2 := hf 2
  have f3 := hf 3
  have f4 := hf 4
  have f5 := hf 5
  have f6 := hf 6
  have f7 := hf 7
  have HF := Lib.hid (or_eight f hf)
  clear h hf
  go_enter Tryd.func19, Tryd.ntmps19
  go_wp2_with fail
  go_quiet (fail)
  go_wp2
  rw [HF.out]
  go_ret
  exact ⟨rfl, nq, rfl⟩

set_option maxHeartbeats 1000000 in
theorem word_any (g o n c : Nat) (f : Nat → Nat) (w : World) (hc : 8 ≤ c) (hf : ∀ i, f i < 256) (h : At8 w g o f) :
    Calls Tryd.prog 15 #[.slice (some ⟨g, o, none⟩) n c] w fun e w' => e = .returned (.int .u64 (Pl.rdN f 8 : Nat)) ∧ w = w' := by
  have hc' : (8 : Int) ≤ (c : Int) := by omega
  have HC := Lib.hid h
  have HF := Lib.hid hf
  clear h hf
  go_enter Tryd.func15, Tryd.ntmps15
  go_wp2_with fail
  go_loopw [3, 9] (fun x i wr => ∃ k : Nat, k ≤ 8 ∧ x = .int .u64 (Pl.rdN f k : Nat) ∧ i = .int .i64 k ∧ w = wr) (fun _ i _ => 8 - (intOf i).toNat)
  case atStart => exact ⟨0, by omega, rfl, rfl, rfl⟩
  case round =>
    obtain ⟨k, hk, rfl, rfl, rfl⟩ := hrel
    by_cases hlt : k < 8
    · have ck := HC.out k hlt
      have b1 : (0 : Int) ≤ (k : Int) := by omega
      have b2 : (k : Int) < 8 := by omega
      have hfk := HF.out k
      have hs := Pl.rdN_small f HF.out k hlt
      have e1 : Pl.rdN f (k + 1) = Pl.rdN f k * 256 + f k := rfl
      have E1 := Lib.hid e1
      clear e1
      go_wp2
      go_roundw
      case rel => exact ⟨k + 1, by omega, by rw [E1.out]; go_num, by go_num, trivial⟩
      case measure => simp [intOf]; omega
    · obtain rfl : k = 8 := by omega
      go_wp2
      go_ret
      exact ⟨rfl, rfl⟩
end Go.Proofs.YtglfeoiakhnkgaaDoor
