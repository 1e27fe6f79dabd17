import Derived.Test.Qxb6605612aBits
import Derived.Lib.ItoaNum
namespace Go.Proofs.Qxb6605612a
open Go.RowKit

theorem tab_at (n : Nat) (h : n < Lib.len8tab.size) : ((Lib.len8tab[n]'h).toNat : Int) = (Lib.bitLen n : Int) ∧ Lib.bitLen n ≤ 8 := by
  have hn : n < 256 := by have := Lib.len8tab_size; omega
  have e := Lib.len8_eq ⟨n, hn⟩
  have l := Lib.bitLen_le8 ⟨n, hn⟩
  refine ⟨?_, l⟩
  rw [← e]
  simp [Lib.len8, h]

theorem len_fin (k m : Nat) (x y : Int) (h : y.toNat < Lib.len8tab.size) (hy : y.toNat = m) (hs : Lib.bitLen x.toNat = k + Lib.bitLen m) (hk : k ≤ 56) :
    wrap64 ((k : Int) + wrap64 ((Lib.len8tab[y.toNat]'h).toNat : Int)) = (Lib.bitLen x.toNat : Int) := by
  obtain ⟨e, l⟩ := tab_at y.toNat h
  rw [e, hy, hs]
  rw [hy] at l
  have e1 : wrap64 ((Lib.bitLen m : Nat) : Int) = (Lib.bitLen m : Nat) := IntWalk.wrap64_in _ (by omega)
  rw [e1, IntWalk.wrap64_in _ (by omega)]
  omega

set_option maxHeartbeats 1000000 in
set_option maxRecDepth 100000 in
theorem len42_56 (x : Int) (w : World) (h0 : 72057594037927936 ≤ x) (h1 : x < 18446744073709551616) : Calls Try.prog 42 #[.int .u64 x] w fun e w' => e = .returned (.int .i64 (Lib.bitLen x.toNat)) ∧ w = w' := by
  have hsz : Lib.len8tab.size = 256 := Lib.len8tab_size
  go_enter Try.func42, Try.ntmps42
  go_wp2
  go_ret
  refine ⟨congrArg Ending.returned (congrArg (Value.int IntKind.i64) ?_), rfl⟩
  exact len_fin 56 (x.toNat / 72057594037927936) x (x / 4294967296 / 65536 / 256) _ (by omega) (Lib.bitLen_shift56 x.toNat (by omega) (by omega)) (by omega)

set_option maxHeartbeats 1000000 in
set_option maxRecDepth 100000 in
theorem len42_48 (x : Int) (w : World) (h0 : 281474976710656 ≤ x) (h1 : x < 72057594037927936) : Calls Try.prog 42 #[.int .u64 x] w fun e w' => e = .returned (.int .i64 (Lib.bitLen x.toNat)) ∧ w = w' := by
  have hsz : Lib.len8tab.size = 256 := Lib.len8tab_size
  go_enter Try.func42, Try.ntmps42
  go_wp2
  go_ret
  refine ⟨congrArg Ending.returned (congrArg (Value.int IntKind.i64) ?_), rfl⟩
  exact len_fin 48 (x.toNat / 281474976710656) x (x / 4294967296 / 65536) _ (by omega) (Lib.bitLen_shift48 x.toNat (by omega) (by omega)) (by omega)

set_option maxHeartbeats 1000000 in
set_option maxRecDepth 100000 in
theorem len42_40 (x : Int) (w : World) (h0 : 1099511627776 ≤ x) (h1 : x < 281474976710656) : Calls Try.prog 42 #[.int .u64 x] w fun e w' => e = .returned (.int .i64 (Lib.bitLen x.toNat)) ∧ w = w' := by
  have hsz : Lib.len8tab.size = 256 := Lib.len8tab_size
  go_enter Try.func42, Try.ntmps42
  go_wp2
  go_ret
  refine ⟨congrArg Ending.returned (congrArg (Value.int IntKind.i64) ?_), rfl⟩
  exact len_fin 40 (x.toNat / 1099511627776) x (x / 4294967296 / 256) _ (by omega) (Lib.bitLen_shift40 x.toNat (by omega) (by omega)) (by omega)

set_option maxHeartbeats 1000000 in
set_option maxRecDepth 100000 in
theorem len42_32 (x : Int) (w : World) (h0 : 4294967296 ≤ x) (h1 : x < 1099511627776) : Calls Try.prog 42 #[.int .u64 x] w fun e w' => e = .returned (.int .i64 (Lib.bitLen x.toNat)) ∧ w = w' := by
  have hsz : Lib.len8tab.size = 256 := Lib.len8tab_size
  go_enter Try.func42, Try.ntmps42
  go_wp2
  go_ret
  refine ⟨congrArg Ending.returned (congrArg (Value.int IntKind.i64) ?_), rfl⟩
  exact len_fin 32 (x.toNat / 4294967296) x (x / 4294967296) _ (by omega) (Lib.bitLen_shift32 x.toNat (by omega) (by omega)) (by omega)

set_option maxHeartbeats 1000000 in
set_option maxRecDepth 100000 in
theorem len42_24 (x : Int) (w : World) (h0 : 16777216 ≤ x) (h1 : x < 4294967296) : Calls Try.prog 42 #[.int .u64 x] w fun e w' => e = .returned (.int .i64 (Lib.bitLen x.toNat)) ∧ w = w' := by
  have hsz : Lib.len8tab.size = 256 := Lib.len8tab_size
  go_enter Try.func42, Try.ntmps42
  go_wp2
  go_ret
  refine ⟨congrArg Ending.returned (congrArg (Value.int IntKind.i64) ?_), rfl⟩
  exact len_fin 24 (x.toNat / 16777216) x (x / 65536 / 256) _ (by omega) (Lib.bitLen_shift24 x.toNat (by omega) (by omega)) (by omega)

set_option maxHeartbeats 1000000 in
set_option maxRecDepth 100000 in
theorem len42_16 (x : Int) (w : World) (h0 : 65536 ≤ x) (h1 : x < 16777216) : Calls Try.prog 42 #[.int .u64 x] w fun e w' => e = .returned (.int .i64 (Lib.bitLen x.toNat)) ∧ w = w' := by
  have hsz : Lib.len8tab.size = 256 := Lib.len8tab_size
  go_enter Try.func42, Try.ntmps42
  go_wp2
  go_ret
  refine ⟨congrArg Ending.returned (congrArg (Value.int IntKind.i64) ?_), rfl⟩
  exact len_fin 16 (x.toNat / 65536) x (x / 65536) _ (by omega) (Lib.bitLen_shift16 x.toNat (by omega) (by omega)) (by omega)

set_option maxHeartbeats 1000000 in
set_option maxRecDepth 100000 in
theorem len42_8 (x : Int) (w : World) (h0 : 256 ≤ x) (h1 : x < 65536) : Calls Try.prog 42 #[.int .u64 x] w fun e w' => e = .returned (.int .i64 (Lib.bitLen x.toNat)) ∧ w = w' := by
  have hsz : Lib.len8tab.size = 256 := Lib.len8tab_size
  go_enter Try.func42, Try.ntmps42
  go_wp2
  go_ret
  refine ⟨congrArg Ending.returned (congrArg (Value.int IntKind.i64) ?_), rfl⟩
  exact len_fin 8 (x.toNat / 256) x (x / 256) _ (by omega) (Lib.bitLen_shift8 x.toNat (by omega) (by omega)) (by omega)

set_option maxHeartbeats 1000000 in
set_option maxRecDepth 100000 in
theorem len42_0 (x : Int) (w : World) (h0 : 0 ≤ x) (h1 : x < 256) : Calls Try.prog 42 #[.int .u64 x] w fun e w' => e = .returned (.int .i64 (Lib.bitLen x.toNat)) ∧ w = w' := by
  have hsz : Lib.len8tab.size = 256 := Lib.len8tab_size
  go_enter Try.func42, Try.ntmps42
  go_wp2
  go_ret
  refine ⟨congrArg Ending.returned (congrArg (Value.int IntKind.i64) ?_), rfl⟩
  have hf := len_fin 0 (x.toNat) x x (by have := Lib.len8tab_size; omega) rfl (by omega) (by omega)
  rw [show ((0 : Nat) : Int) = 0 from rfl, Int.zero_add] at hf
  rw [← hf]

/-- bits.Len64. -/
theorem len42 (x : Int) (w : World) (h0 : 0 ≤ x) (h1 : x ≤ 18446744073709551615) :
    Calls Try.prog 42 #[.int .u64 x] w fun e w' => e = .returned (.int .i64 (Lib.bitLen x.toNat)) ∧ w = w' := by
  by_cases g0 : x < 256
  · exact len42_0 x w (by omega) g0
  by_cases g8 : x < 65536
  · exact len42_8 x w (by omega) g8
  by_cases g16 : x < 16777216
  · exact len42_16 x w (by omega) g16
  by_cases g24 : x < 4294967296
  · exact len42_24 x w (by omega) g24
  by_cases g32 : x < 1099511627776
  · exact len42_32 x w (by omega) g32
  by_cases g40 : x < 281474976710656
  · exact len42_40 x w (by omega) g40
  by_cases g48 : x < 72057594037927936
  · exact len42_48 x w (by omega) g48
  exact len42_56 x w (by omega) (by omega)

/-- How many places a word is to be moved till its top bit is set. -/
def lz (y : Nat) : Nat := 64 - Lib.bitLen y

theorem lz_spec (y : Nat) (h0 : y ≠ 0) (h1 : y < 2 ^ 64) : lz y ≤ 63 ∧ 2 ^ 63 ≤ y * 2 ^ lz y ∧ y * 2 ^ lz y < 2 ^ 64 := by
  obtain ⟨a, b, c⟩ := Lib.bitLenAux_bounds 64 y h1 h0
  have d : Lib.bitLenAux 64 y ≤ 64 := Lib.bitLenAux_le 64 y 64 h1
  unfold lz Lib.bitLen
  generalize Lib.bitLenAux 64 y = n at *
  refine ⟨by omega, ?_, ?_⟩
  · calc 2 ^ 63 = 2 ^ (n - 1) * 2 ^ (64 - n) := by rw [← Nat.pow_add]; congr 1; omega
      _ ≤ y * 2 ^ (64 - n) := Nat.mul_le_mul_right _ b
  · calc y * 2 ^ (64 - n) < 2 ^ n * 2 ^ (64 - n) := Nat.mul_lt_mul_of_pos_right c (Nat.two_pow_pos _)
      _ = 2 ^ 64 := by rw [← Nat.pow_add]; congr 1; omega

theorem lz38 (y : Nat) (w : World) (h1 : y < 18446744073709551616) :
    Calls Try.prog 38 #[.int .u64 y] w fun e w' => e = .returned (.int .i64 (lz y : Nat)) ∧ w = w' := by
  have d : Lib.bitLen y ≤ 64 := Lib.bitLenAux_le 64 y 64 (by simpa using h1)
  have e0 : ((lz y : Nat) : Int) = 64 - (Lib.bitLen y : Int) := by unfold lz; omega
  have E0 := hide e0
  clear e0
  go_enter Try.func38, Try.ntmps38
  go_wp2_with fail
  refine (len42 y w (by omega) (by omega)).mono ?_
  rintro e w1 ⟨rfl, hw⟩
  have hw := hw.symm
  subst hw
  rw [Int.toNat_natCast]
  go_wp2
  go_ret
  refine ⟨?_, rfl⟩
  rw [E0.out]
  rfl

end Go.Proofs.Qxb6605612a
