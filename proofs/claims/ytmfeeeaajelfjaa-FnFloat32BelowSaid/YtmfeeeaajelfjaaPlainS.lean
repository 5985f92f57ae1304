/- Plain parts of a word: its high half, its highest 31 bits, all but its highest bit. -/
import Derived.Test.YtmfeeeaajelfjaaPlain
namespace Go.Proofs.Ytmfeeeaajelfjaa.Pl
noncomputable def h32 : Nat → Nat := (Classical.choice (lock_ex (α := Nat → Nat) (fun x => x / 4294967296))).1
theorem h32_def (x : Nat) : h32 x = x / 4294967296 := congrFun ((Classical.choice (lock_ex (α := Nat → Nat) (fun x => x / 4294967296))).2) x
noncomputable def h33 : Nat → Nat := (Classical.choice (lock_ex (α := Nat → Nat) (fun x => x / 8589934592))).1
theorem h33_def (x : Nat) : h33 x = x / 8589934592 := congrFun ((Classical.choice (lock_ex (α := Nat → Nat) (fun x => x / 8589934592))).2) x
noncomputable def m63 : Nat → Nat := (Classical.choice (lock_ex (α := Nat → Nat) (fun x => x % 9223372036854775808))).1
theorem m63_def (x : Nat) : m63 x = x % 9223372036854775808 := congrFun ((Classical.choice (lock_ex (α := Nat → Nat) (fun x => x % 9223372036854775808))).2) x
theorem h32_lt {x : Nat} (h : x < 18446744073709551616) : h32 x < 4294967296 := by rw [h32_def]; omega
theorem h33_lt {x : Nat} (h : x < 18446744073709551616) : h33 x < 2147483648 := by rw [h33_def]; omega
theorem m63_lt (x : Nat) : m63 x < 9223372036854775808 := by rw [m63_def]; omega
end Go.Proofs.Ytmfeeeaajelfjaa.Pl
