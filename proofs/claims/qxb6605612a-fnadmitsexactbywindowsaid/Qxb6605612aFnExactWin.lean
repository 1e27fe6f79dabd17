import Derived.Test.Qxb6605612aUnix
import Derived.Test.Qxb6605612aFnExactParts
namespace Go.Proofs.Qxb6605612a
open Go.RowKit

theorem wq_small (X size : Nat) (h : X < 18446744073709551616) : wq X size = X / size ∧ wr X size = X % size := by
  unfold wq wr
  rw [Nat.div_eq_of_lt h, Nat.mod_eq_of_lt h, Nat.zero_mod]
  simp

theorem idxNeg_eq (X size : Nat) (hz : 0 < size) (hX : X ≤ 9223372036854775808) : idxNeg (X / size) (X % size) = (-(X : Int)) / (size : Int) := by
  rw [floor_neg X size hz]
  have hdm := Nat.div_add_mod X size
  have hlt := Nat.mod_lt X hz
  have hq : X / size ≤ X := Nat.div_le_self _ _
  generalize X / size = q at *
  generalize X % size = r at *
  unfold idxNeg
  by_cases h0 : r = 0
  · rw [if_pos h0, if_pos h0]
    unfold wrap64
    omega
  · rw [if_neg h0, if_neg h0]
    have k4 : 2 * q ≤ size * q := Nat.mul_le_mul_right _ (by omega)
    unfold wrap64
    omega

theorem win_exact (ns : Int) (size : Nat) (h1 : -9223372036854775808 ≤ ns) (h2 : ns ≤ 9223372036854775807) (hz : 0 < size) (hz2 : size < 9223372036854775808) :
    ∀ w, Calls Try.prog 23 #[.agg #[.int .u64 (unixN ns), .int .i64 (unixS ns), .pointer none], .int .i64 size] w (WinOut (ns / size) w) := by
  have hn : unixN ns < 1000000000 := by unfold unixN; omega
  intro w
  by_cases h : ns < 0
  · have hs : unixS ns - 62135596800 = -((-(ns / 1000000000)).toNat : Int) := by unfold unixS; omega
    have e := window_neg (unixN ns) (unixS ns) none size (-(ns / 1000000000)).toNat w hn hs (by omega) (by omega) hz hz2
    have hX : (-(ns / 1000000000)).toNat * 1000000000 - unixN ns = (-ns).toNat := by unfold unixN; omega
    have hX64 : (-ns).toNat < 18446744073709551616 := by omega
    obtain ⟨q1, q2⟩ := wq_small (-ns).toNat size hX64
    rw [hX, q1, q2, idxNeg_eq _ _ hz (by omega), show -(((-ns).toNat : Nat) : Int) = ns by omega] at e
    exact e
  · have hs : unixS ns - 62135596800 = ((ns / 1000000000).toNat : Int) := by unfold unixS; omega
    have e := window_pos (unixN ns) (unixS ns) none size (ns / 1000000000).toNat w hn hs (by omega) hz hz2
    have hX : (ns / 1000000000).toNat * 1000000000 + unixN ns = ns.toNat := by unfold unixN; omega
    obtain ⟨q1, q2⟩ := wq_small ns.toNat size (by omega)
    have hq : ns.toNat / size ≤ ns.toNat := Nat.div_le_self _ _
    have hns : ((ns.toNat : Nat) : Int) = ns := by omega
    have hd : ((ns.toNat / size : Nat) : Int) = ns / size := by rw [Int.natCast_ediv, hns]
    rw [hX, q1, IntWalk.wrap64_in _ (by omega), hd] at e
    exact e

/-- The room of the window idx. -/
def room (lim L C P idx : Int) : Int := if L < idx then lim else if idx = L then lim - C else if idx + 1 = L then lim - P else 0

theorem room_eq (lim L C P idx : Int) (hC : 0 < C) (hL : L ≤ 9223372036854775807) (hi : -9223372036854775808 ≤ idx) : lim - cin L C P idx lim = room lim L C P idx := by
  unfold cin room
  by_cases g1 : L < idx
  · rw [if_pos (Or.inr g1), if_pos g1]; omega
  · rw [if_neg (by omega), if_neg g1]
    by_cases g2 : idx = L
    · rw [if_pos g2, if_pos g2]
    · rw [if_neg g2, if_neg g2, IntWalk.wrap64_in (L - 1) (by omega)]
      by_cases g3 : idx + 1 = L
      · rw [if_pos (by omega), if_pos g3]
      · rw [if_neg (by omega), if_neg g3]; omega
end Go.Proofs.Qxb6605612a
