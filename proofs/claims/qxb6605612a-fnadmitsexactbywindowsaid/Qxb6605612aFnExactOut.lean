import Derived.Test.Qxb6605612aFnMaxWalk
import Derived.Test.Qxb6605612aFnExactParts
namespace Go.Proofs.Qxb6605612a
open Go.RowKit

set_option maxHeartbeats 4000000 in
/-- Whatever stands outside the law's domain. -/
theorem fnExact_out (lim size : Int) (pr : Bool) (h : Nat) (key : ByteArray) (L C P : Int) (hq : Nat) (keyq : ByteArray) (ns n : Int) (w : World) (hk : key.size ≤ maxLen) (hkq : keyq.size ≤ maxLen)
    (hout : fits key keyq = false ∨ 524288 < key.size ∨ 524288 < keyq.size ∨ lim ≤ 0 ∨ size ≤ 0 ∨ n < 0 ∨ lim < n ∨ C < 0 ∨ lim < C ∨ P < 0 ∨ lim < P ∨ (C = 0 ∧ (L ≠ 0 ∨ P ≠ 0)) ∨ ((keyq.toList == key.toList) = true ∧ hq ≠ h)) :
    Calls Try.prog 4 #[.int .i64 lim, .int .i64 size, .bool pr, .int .u64 h, .string key, .int .i64 L, .int .i64 C, .int .i64 P, .int .u64 hq, .string keyq, .int .i64 ns, .int .i64 n] w (Yes w) := by
  have hb := fun w => bytes10 lim size pr h key L C P hq keyq ns n hk hkq w
  have hmx : key.size ≤ 9223372036854775807 ∧ keyq.size ≤ 9223372036854775807 := by unfold maxLen at hk hkq; omega
  obtain ⟨hmx1, hmx2⟩ := hmx
  by_cases g0 : fits key keyq = false
  · rw [g0] at hb
    have Hb10 := hide hb
    clear hb hk hkq hout g0
    go_enter Try.func4, Try.ntmps4
    go_wp2_with fail
    refine (Hb10.out _).mono ?_
    rintro e w1 ⟨rfl, hw⟩
    subst hw
    go_wp2_with fail
    go_ret
    exact ⟨rfl, Below.refl _ _⟩
  · have g0' : fits key keyq = true := by simpa using g0
    rw [g0'] at hb
    have Hb10 := hide hb
    clear hb hk hkq
    have hout : 524288 < key.size ∨ 524288 < keyq.size ∨ lim ≤ 0 ∨ size ≤ 0 ∨ n < 0 ∨ lim < n ∨ C < 0 ∨ lim < C ∨ P < 0 ∨ lim < P ∨ (C = 0 ∧ (L ≠ 0 ∨ P ≠ 0)) ∨ ((keyq.toList == key.toList) = true ∧ hq ≠ h) := hout.resolve_left g0
    have Hout := hide hout
    clear hout g0 g0'
    by_cases ga : 524288 < key.size
    · have hk1 : decide (524288 < (key.size : Int)) = true := by rw [decide_eq_true_iff]; omega
      go_enter Try.func4, Try.ntmps4
      go_wp2_with fail
      refine (Hb10.out _).mono ?_
      rintro e w1 ⟨rfl, hw⟩
      subst hw
      go_wp2_with fail
      go_ret
      exact ⟨rfl, Below.refl _ _⟩
    have hk1 : decide (524288 < (key.size : Int)) = false := by rw [decide_eq_false_iff_not]; omega
    by_cases gb : 524288 < keyq.size
    · have hk2 : decide (524288 < (keyq.size : Int)) = true := by rw [decide_eq_true_iff]; omega
      go_enter Try.func4, Try.ntmps4
      go_wp2_with fail
      refine (Hb10.out _).mono ?_
      rintro e w1 ⟨rfl, hw⟩
      subst hw
      go_wp2_with fail
      go_ret
      exact ⟨rfl, Below.refl _ _⟩
    have hk2 : decide (524288 < (keyq.size : Int)) = false := by rw [decide_eq_false_iff_not]; omega
    by_cases g1 : lim ≤ 0
    · skip
      go_enter Try.func4, Try.ntmps4
      go_wp2_with fail
      refine (Hb10.out _).mono ?_
      rintro e w1 ⟨rfl, hw⟩
      subst hw
      go_wp2_with fail
      go_ret
      exact ⟨rfl, Below.refl _ _⟩
    have e1 : decide (lim ≤ 0) = false := by rw [decide_eq_false_iff_not]; omega
    by_cases g2 : size ≤ 0
    · skip
      go_enter Try.func4, Try.ntmps4
      go_wp2_with fail
      refine (Hb10.out _).mono ?_
      rintro e w1 ⟨rfl, hw⟩
      subst hw
      go_wp2_with fail
      go_ret
      exact ⟨rfl, Below.refl _ _⟩
    have e2 : decide (size ≤ 0) = false := by rw [decide_eq_false_iff_not]; omega
    by_cases g3 : n < 0
    · skip
      go_enter Try.func4, Try.ntmps4
      go_wp2_with fail
      refine (Hb10.out _).mono ?_
      rintro e w1 ⟨rfl, hw⟩
      subst hw
      go_wp2_with fail
      go_ret
      exact ⟨rfl, Below.refl _ _⟩
    have e3 : decide (n < 0) = false := by rw [decide_eq_false_iff_not]; omega
    by_cases g4 : lim < n
    · skip
      go_enter Try.func4, Try.ntmps4
      go_wp2_with fail
      refine (Hb10.out _).mono ?_
      rintro e w1 ⟨rfl, hw⟩
      subst hw
      go_wp2_with fail
      go_ret
      exact ⟨rfl, Below.refl _ _⟩
    have e4 : decide (lim < n) = false := by rw [decide_eq_false_iff_not]; omega
    by_cases g5 : C < 0
    · skip
      go_enter Try.func4, Try.ntmps4
      go_wp2_with fail
      refine (Hb10.out _).mono ?_
      rintro e w1 ⟨rfl, hw⟩
      subst hw
      go_wp2_with fail
      go_ret
      exact ⟨rfl, Below.refl _ _⟩
    have e5 : decide (C < 0) = false := by rw [decide_eq_false_iff_not]; omega
    by_cases g6 : lim < C
    · skip
      go_enter Try.func4, Try.ntmps4
      go_wp2_with fail
      refine (Hb10.out _).mono ?_
      rintro e w1 ⟨rfl, hw⟩
      subst hw
      go_wp2_with fail
      go_ret
      exact ⟨rfl, Below.refl _ _⟩
    have e6 : decide (lim < C) = false := by rw [decide_eq_false_iff_not]; omega
    by_cases g7 : P < 0
    · skip
      go_enter Try.func4, Try.ntmps4
      go_wp2_with fail
      refine (Hb10.out _).mono ?_
      rintro e w1 ⟨rfl, hw⟩
      subst hw
      go_wp2_with fail
      go_ret
      exact ⟨rfl, Below.refl _ _⟩
    have e7 : decide (P < 0) = false := by rw [decide_eq_false_iff_not]; omega
    by_cases g8 : lim < P
    · skip
      go_enter Try.func4, Try.ntmps4
      go_wp2_with fail
      refine (Hb10.out _).mono ?_
      rintro e w1 ⟨rfl, hw⟩
      subst hw
      go_wp2_with fail
      go_ret
      exact ⟨rfl, Below.refl _ _⟩
    have e8 : decide (lim < P) = false := by rw [decide_eq_false_iff_not]; omega
    by_cases hz : C = 0 ∧ (L ≠ 0 ∨ P ≠ 0)
    · obtain ⟨hC, hLP⟩ := hz
      subst hC
      by_cases hL : L = 0
      · have hP : ¬ (P = 0) := by omega
        have hPb : (P == 0) = false := by simpa using hP
        have hPn : (P != 0) = true := by simpa using hP
        subst hL
        clear hLP ga gb g1 g2 g3 g4 g5 g6 g7 g8
        go_enter Try.func4, Try.ntmps4
        go_wp2_with fail
        refine (Hb10.out _).mono ?_
        rintro e w1 ⟨rfl, hw⟩
        subst hw
        go_wp2_with fail
        go_ret
        exact ⟨rfl, Below.refl _ _⟩
      · have hLb : (L == 0) = false := by simpa using hL
        have hLn : (L != 0) = true := by simpa using hL
        clear hLP ga gb g1 g2 g3 g4 g5 g6 g7 g8
        go_enter Try.func4, Try.ntmps4
        go_wp2_with fail
        refine (Hb10.out _).mono ?_
        rintro e w1 ⟨rfl, hw⟩
        subst hw
        go_wp2_with fail
        go_ret
        exact ⟨rfl, Below.refl _ _⟩
    · have hlast : (keyq.toList == key.toList) = true ∧ hq ≠ h := by
        rcases Hout.out with h1 | h1 | h1 | h1 | h1 | h1 | h1 | h1 | h1 | h1 | h1 | h1
        · exact absurd h1 ga
        · exact absurd h1 gb
        · exact absurd h1 g1
        · exact absurd h1 g2
        · exact absurd h1 g3
        · exact absurd h1 g4
        · exact absurd h1 g5
        · exact absurd h1 g6
        · exact absurd h1 g7
        · exact absurd h1 g8
        · exact absurd h1 hz
        · exact h1
      obtain ⟨hkk, hne⟩ := hlast
      have hneb : ((hq : Int) == (h : Int)) = false := by rw [beq_eq_false_iff_ne]; omega
      have hnen : ((hq : Int) != (h : Int)) = true := by rw [bne_iff_ne]; omega
      by_cases hC : C = 0
      · have hL : L = 0 := by omega
        have hP : P = 0 := by omega
        subst hC hL hP
        clear Hout hz ga gb g1 g2 g3 g4 g5 g6 g7 g8
        go_enter Try.func4, Try.ntmps4
        go_wp2_with fail
        refine (Hb10.out _).mono ?_
        rintro e w1 ⟨rfl, hw⟩
        subst hw
        go_wp2_with fail
        go_ret
        exact ⟨rfl, Below.refl _ _⟩
      · have hCb : (C == 0) = false := by simpa using hC
        clear Hout hz ga gb g1 g2 g3 g4 g5 g6 g7 g8
        go_enter Try.func4, Try.ntmps4
        go_wp2_with fail
        refine (Hb10.out _).mono ?_
        rintro e w1 ⟨rfl, hw⟩
        subst hw
        go_wp2_with fail
        go_ret
        exact ⟨rfl, Below.refl _ _⟩
end Go.Proofs.Qxb6605612a
