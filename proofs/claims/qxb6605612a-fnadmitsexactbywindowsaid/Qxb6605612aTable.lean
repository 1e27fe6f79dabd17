import Derived.Test.Qxb6605612aLen
import Derived.Test.Qxb6605612aTime
import Derived.BigQuiet
import Derived.Deep.DeepCutAuto
import Derived.Deep.RegionWith
namespace Go.Proofs.Qxb6605612a
open Go.RowKit

theorem and7 (n : Int) : bits .and .i64 n 7 = n % 8 := by
  have h7 : (BitVec.ofInt 64 7).toNat = 2 ^ 3 - 1 := by decide
  have key : (BitVec.ofInt 64 n &&& BitVec.ofInt 64 7).toNat = (n % ((2 ^ 64 : Nat) : Int)).toNat % 2 ^ 3 := by
    rw [BitVec.toNat_and, BitVec.toNat_ofInt, h7, Nat.and_two_pow_sub_one_eq_mod]
  show IntKind.i64.wrap ((BitVec.ofInt 64 n &&& BitVec.ofInt 64 7).toNat : Nat) = n % 8
  rw [key, IntKind.wrap_i64]
  omega

/-- A key's mark. -/
def mk (h : Nat) : Nat := 9223372036854775808 ||| (h &&& 18446744073709551488)

theorem mk_ne (h : Nat) : mk h ≠ 0 := by
  have : 9223372036854775808 ≤ mk h := Nat.left_le_or
  omega

theorem mk_bits (h : Nat) (hh : h < 18446744073709551616) : bits .or .u64 9223372036854775808 (bits .andNot .u64 (h : Int) 127) = (mk h : Int) := by
  have e1 := u64_andNot_nat h 127 hh (by omega)
  have hlt : h &&& 18446744073709551488 < 18446744073709551616 := by
    have := Nat.and_lt_two_pow (n := 64) h (y := 18446744073709551488) (by decide)
    simpa using this
  have e2 := bits_or_u64_nat 9223372036854775808 (h &&& 18446744073709551488) (by omega) hlt
  rw [show (127 : Int) = ((127 : Nat) : Int) from rfl, e1]
  exact e2

theorem mark41 (h : Nat) (hh : h < 18446744073709551616) (w : World) : Calls Try.prog 41 #[.int .u64 h] w fun e w' => e = .returned (.int .u64 (mk h)) ∧ w = w' := by
  have hb := mk_bits h hh
  go_enter Try.func41, Try.ntmps41
  go_wp2_with fail
  go_ret
  exact ⟨rfl, rfl⟩

/-- A key's home among eight slots. -/
def hm (h : Nat) : Nat := h / 128 % 8

theorem home40 (h : Nat) (hh : h < 18446744073709551616) (w : World) : Calls Try.prog 40 #[.int .u64 h, .int .i64 7] w fun e w' => e = .returned (.int .i64 (hm h)) ∧ w = w' := by
  have hb : bits .and .i64 ((h : Int) / 128) 7 = (hm h : Int) := by rw [and7, hm]; omega
  have hw : wrap64 ((h : Int) / 128) = (h : Int) / 128 := IntWalk.wrap64_in _ (by omega)
  have Hh := hide hh
  clear hh
  go_enter Try.func40, Try.ntmps40
  go_wp2_with fail
  go_ret
  exact ⟨rfl, rfl⟩

theorem len43 (w : World) : Calls Try.prog 43 #[.int .u64 1] w fun e w' => e = .returned (.int .i64 1) ∧ w = w' := by
  go_enter Try.func43, Try.ntmps43
  go_wp2_with fail
  refine (len42_0 1 w (by omega) (by omega)).mono ?_
  rintro e w1 ⟨rfl, hw⟩
  subst hw
  go_wp2_with fail
  go_ret
  exact ⟨rfl, rfl⟩
end Go.Proofs.Qxb6605612a
