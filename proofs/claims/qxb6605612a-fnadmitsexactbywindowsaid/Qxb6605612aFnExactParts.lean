import Derived.Test.Qxb6605612aWindowPos
namespace Go.Proofs.Qxb6605612a
open Go.RowKit

def fits (key keyq : ByteArray) : Bool := decide (key.size ≤ 1048576) && decide (keyq.size ≤ 1048576) && decide (key.size + keyq.size ≤ 1048576)

theorem bytes10 (lim size : Int) (pr : Bool) (h : Nat) (key : ByteArray) (L C P : Int) (hq : Nat) (keyq : ByteArray) (ns n : Int) (hk : key.size ≤ maxLen) (hkq : keyq.size ≤ maxLen) (w : World) :
    Calls Try.prog 10 #[.int .i64 lim, .int .i64 size, .bool pr, .int .u64 h, .string key, .int .i64 L, .int .i64 C, .int .i64 P, .int .u64 hq, .string keyq, .int .i64 ns, .int .i64 n] w fun e w' => e = .returned (.bool (fits key keyq)) ∧ w = w' := by
  unfold maxLen at hk hkq
  by_cases h1 : 1048576 < key.size
  · have e : fits key keyq = false := by unfold fits; rw [decide_eq_false (show ¬ key.size ≤ 1048576 by omega)]; rfl
    rw [e]
    go_enter Try.func10, Try.ntmps10
    go_wp2_with fail
    go_ret
    exact ⟨rfl, rfl⟩
  · by_cases h2 : 1048576 < keyq.size
    · have e : fits key keyq = false := by unfold fits; rw [decide_eq_false (show ¬ keyq.size ≤ 1048576 by omega)]; simp
      rw [e]
      go_enter Try.func10, Try.ntmps10
      go_wp2_with fail
      go_ret
      exact ⟨rfl, rfl⟩
    · by_cases h3 : 1048576 < key.size + keyq.size
      · have e : fits key keyq = false := by unfold fits; rw [decide_eq_false (show ¬ key.size + keyq.size ≤ 1048576 by omega)]; simp
        rw [e]
        go_enter Try.func10, Try.ntmps10
        go_wp2_with fail
        go_ret
        exact ⟨rfl, rfl⟩
      · have e : fits key keyq = true := by unfold fits; rw [decide_eq_true (show key.size ≤ 1048576 by omega), decide_eq_true (show keyq.size ≤ 1048576 by omega), decide_eq_true (show key.size + keyq.size ≤ 1048576 by omega)]; rfl
        rw [e]
        go_enter Try.func10, Try.ntmps10
        go_wp2_with fail
        go_ret
        exact ⟨rfl, rfl⟩

/-- The plain arithmetic of a division towards minus infinity. -/
theorem floor_neg (X size : Nat) (hz : 0 < size) : (-(X : Int)) / (size : Int) = if X % size = 0 then -((X / size : Nat) : Int) else -((X / size : Nat) : Int) - 1 := by
  have hdm := Nat.div_add_mod X size
  have hlt := Nat.mod_lt X hz
  generalize X / size = q at *
  generalize X % size = r at *
  have hc : (X : Int) = (size : Int) * (q : Int) + (r : Int) := by rw [← hdm]; push_cast; rfl
  split
  · rename_i h0
    refine ((Int.ediv_emod_unique (r := 0) (q := -(q : Int)) (by omega)).2 ⟨?_, by omega, by omega⟩).1
    rw [hc, h0, Int.mul_neg]
    simp
  · rename_i h0
    refine ((Int.ediv_emod_unique (r := (size : Int) - r) (q := -(q : Int) - 1) (by omega)).2 ⟨?_, by omega, by omega⟩).1
    rw [hc, Int.mul_sub, Int.mul_neg]
    omega

theorem fdiv15 (a : Int) (b : Nat) (w : World) (hb : 0 < b) (hb2 : b < 9223372036854775808) (h1 : -9223372036854775808 ≤ a) (h2 : a ≤ 9223372036854775807) :
    Calls Try.prog 15 #[.int .i64 a, .int .i64 b] w fun e w' => e = .returned (.int .i64 (a / b)) ∧ w = w' := by
  have hb0 : ((b : Int) == 0) = false := by rw [beq_eq_false_iff_ne]; omega
  have hbp : (0 : Int) < (b : Int) := by omega
  by_cases ha : a < 0
  · obtain ⟨X, hX⟩ := Int.eq_ofNat_of_zero_le (show 0 ≤ -a by omega)
    obtain rfl : a = -(X : Int) := by omega
    have hX63 : X ≤ 9223372036854775808 := by omega
    obtain ⟨q, hq⟩ : ∃ q, q = X / b := ⟨_, rfl⟩
    obtain ⟨r, hr⟩ : ∃ r, r = X % b := ⟨_, rfl⟩
    have hq63 : q ≤ X := by rw [hq]; exact Nat.div_le_self _ _
    have hdm := Nat.div_add_mod X b
    have hrl : r < b := by rw [hr]; exact Nat.mod_lt _ hb
    have hw : wrap64 (-(q : Int)) = -(q : Int) := IntWalk.wrap64_in _ (by omega)
    have hfl := floor_neg X b hb
    have ht : (-(X : Int)).tdiv (b : Int) = -(q : Int) := by
      rw [Int.neg_tdiv, hq]; rfl
    have htm : (-(X : Int)).tmod (b : Int) = -(r : Int) := by
      rw [Int.neg_tmod, hr]; rfl
    rw [← hq] at hfl hdm
    rw [← hr] at hfl hdm
    rw [hfl]
    have Hd := hide (And.intro hdm (And.intro hX63 hrl))
    have hX0 : decide (0 < X) = true := by rw [decide_eq_true_iff]; omega
    clear hdm hX63 hq63 hb2 hfl hX h1 h2 hq hr hrl
    by_cases hr0 : r = 0
    · rw [if_pos hr0]
      subst hr0
      have htm0 : (-(X : Int)).tmod (b : Int) = 0 := htm
      go_enter Try.func15, Try.ntmps15
      go_wp2_with fail
      go_ret
      refine ⟨?_, rfl⟩
      show Ending.returned (.int .i64 (wrap64 (-(q : Int)))) = .returned (.int .i64 (-(q : Int)))
      rw [hw]
    · rw [if_neg hr0]
      have hrb : ((-(r : Int)) == 0) = false := by rw [beq_eq_false_iff_ne]; omega
      have hrn : ((-(r : Int)) != 0) = true := by rw [bne_iff_ne]; omega
      have hw1 : wrap64 (-(q : Int) - 1) = -(q : Int) - 1 := by
        obtain ⟨k1, k2, k3⟩ := Hd.out
        have k4 : 2 * q ≤ b * q := Nat.mul_le_mul_right _ (by omega)
        exact IntWalk.wrap64_in _ (by omega)
      go_enter Try.func15, Try.ntmps15
      go_wp2_with fail
      go_ret
      refine ⟨?_, rfl⟩
      show Ending.returned (.int .i64 (wrap64 (-(q : Int) - 1))) = .returned (.int .i64 (-(q : Int) - 1))
      rw [hw1]
  · obtain ⟨X, rfl⟩ := Int.eq_ofNat_of_zero_le (show 0 ≤ a by omega)
    have hdf : decide ((X : Int) < 0) = false := by rw [decide_eq_false_iff_not]; omega
    obtain ⟨q, hq⟩ : ∃ q, q = X / b := ⟨_, rfl⟩
    obtain ⟨r, hr⟩ : ∃ r, r = X % b := ⟨_, rfl⟩
    have hq63 : q ≤ X := by rw [hq]; exact Nat.div_le_self _ _
    have hw : wrap64 (q : Int) = (q : Int) := IntWalk.wrap64_in _ (by omega)
    have ht : ((X : Int)).tdiv (b : Int) = (q : Int) := by rw [hq]; rfl
    have htm : ((X : Int)).tmod (b : Int) = (r : Int) := by rw [hr]; rfl
    rw [show (X : Int) / (b : Int) = ((X / b : Nat) : Int) from rfl, ← hq]
    clear hq hr hq63 hb2 h1 h2 ha
    by_cases hr0 : r = 0
    · subst hr0
      go_enter Try.func15, Try.ntmps15
      go_wp2_with fail
      go_ret
      refine ⟨?_, rfl⟩
      show Ending.returned (.int .i64 (wrap64 (q : Int))) = .returned (.int .i64 (q : Int))
      rw [hw]
    · have hrb : ((r : Int) == 0) = false := by rw [beq_eq_false_iff_ne]; omega
      have hrn : ((r : Int) != 0) = true := by rw [bne_iff_ne]; omega
      go_enter Try.func15, Try.ntmps15
      go_wp2_with fail
      go_ret
      refine ⟨?_, rfl⟩
      show Ending.returned (.int .i64 (wrap64 (q : Int))) = .returned (.int .i64 (q : Int))
      rw [hw]
end Go.Proofs.Qxb6605612a
