import Derived.Test.Qxb6605612aLen
import Derived.Test.Qxb6605612aDivMath
import Derived.Deep.QuietTactic
import Derived.BigQuiet
import Derived.Deep.DeepCutAuto
namespace Go.Proofs.Qxb6605612a
open Go.RowKit

def DivOut (q r : Nat) (w : World) (e : Ending) (w' : World) : Prop := e = .returned (.tuple #[.int .u64 q, .int .u64 r]) ∧ ∃ n, w' = w.drewN n

theorem div34_zero (lo y : Nat) (w : World) (hy : 0 < y) (h2 : lo < 18446744073709551616) :
    Calls Try.prog 34 #[.int .u64 0, .int .u64 lo, .int .u64 y] w (DivOut (lo / y) (lo % y) w) := by
  have hy0 : ((y : Int) == 0) = false := by rw [beq_eq_false_iff_ne]; omega
  have hyp : (0 : Int) < (y : Int) := by omega
  have hq : IntKind.u64.wrap ((lo : Int) / (y : Int)) = (lo : Int) / (y : Int) := by
    rw [show (lo : Int) / (y : Int) = ((lo / y : Nat) : Int) from rfl]
    exact wrapN _ (Nat.lt_of_le_of_lt (Nat.div_le_self _ _) h2)
  go_enter Try.func34, Try.ntmps34
  go_wp2_with fail
  go_quiet (fail)
  go_wp2
  go_ret2
  exact ⟨rfl, _, rfl⟩

theorem orN (a b k : Nat) (ha : a < 18446744073709551616) (hb : b < 18446744073709551616) (hk : b < 2 ^ k) (hd : 2 ^ k ∣ a) : bits .or .u64 (a : Int) (b : Int) = ((a + b : Nat) : Int) := by
  rw [bits_or_u64_nat a b ha hb]
  obtain ⟨c, rfl⟩ := hd
  rw [← Nat.two_pow_add_eq_or_of_lt hk c]

/-- What lies in the slots ahead of the first correcting loop. -/
theorem prep (hi lo y s : Nat) (h0 : hi < y) (h2 : lo < 18446744073709551616) (hs : s ≤ 63) (hs1 : 2 ^ 63 ≤ y * 2 ^ s) (hs2 : y * 2 ^ s < 2 ^ 64) :
    IntKind.u64.wrap ((y : Int) * 2 ^ s) = ((y * 2 ^ s : Nat) : Int) ∧ IntKind.u64.wrap ((hi : Int) * 2 ^ s) = ((hi * 2 ^ s : Nat) : Int) ∧
    IntKind.u64.wrap ((lo : Int) * 2 ^ s) = ((lo * 2 ^ s % 18446744073709551616 : Nat) : Int) ∧ (lo : Int) / 2 ^ (64 - s) = ((lo / 2 ^ (64 - s) : Nat) : Int) ∧
    bits .or .u64 ((hi * 2 ^ s : Nat) : Int) ((lo / 2 ^ (64 - s) : Nat) : Int) = ((hi * 2 ^ s + lo / 2 ^ (64 - s) : Nat) : Int) ∧
    hi * 2 ^ s + lo / 2 ^ (64 - s) < y * 2 ^ s ∧ (hi * 2 ^ s + lo / 2 ^ (64 - s)) * 18446744073709551616 + lo * 2 ^ s % 18446744073709551616 = (hi * 18446744073709551616 + lo) * 2 ^ s := by
  have hp := Nat.two_pow_pos s
  have hpp : (2 : Nat) ^ (64 - s) * 2 ^ s = 18446744073709551616 := by rw [← Nat.pow_add, show 64 - s + s = 64 by omega]
  have hcast : ∀ a : Nat, (a : Int) * 2 ^ s = ((a * 2 ^ s : Nat) : Int) := fun a => by rw [Int.natCast_mul, Int.natCast_pow]; rfl
  have hlod : lo / 2 ^ (64 - s) < 2 ^ s := by
    rw [Nat.div_lt_iff_lt_mul (Nat.two_pow_pos _), Nat.mul_comm, hpp]; exact h2
  have hle : (hi + 1) * 2 ^ s ≤ y * 2 ^ s := Nat.mul_le_mul_right _ h0
  rw [Nat.add_mul, Nat.one_mul] at hle
  have hdiv : lo * 2 ^ s / 18446744073709551616 = lo / 2 ^ (64 - s) := by
    rw [← hpp, Nat.mul_div_mul_right _ _ hp]
  have hdm := Nat.div_add_mod (lo * 2 ^ s) 18446744073709551616
  rw [hdiv] at hdm
  have hs3 : y * 2 ^ s < 18446744073709551616 := by simpa using hs2
  refine ⟨?_, ?_, ?_, ?_, ?_, ?_, ?_⟩
  · rw [hcast]; exact wrapN _ hs3
  · rw [hcast]; exact wrapN _ (by omega)
  · rw [hcast]; exact wrapM _
  · rw [Int.natCast_ediv, Int.natCast_pow]; rfl
  · exact orN _ _ s (by omega) (by omega) hlod (Nat.dvd_mul_left _ _)
  · omega
  · rw [Nat.add_mul (hi * 18446744073709551616) lo, Nat.mul_right_comm]
    omega

end Go.Proofs.Qxb6605612a
