import Derived.Test.Qxb6605612aFnExactWalk
import Derived.Test.Qxb6605612aFnExactOut
import Derived.Test.Qxb6605612aZZ
namespace Go.Proofs.Qxb6605612a
open Go.RowKit

theorem bytes_of_list (a b : ByteArray) (h : (a.toList == b.toList) = true) : a = b := by
  have e : a.toList = b.toList := by simpa using h
  rw [ByteArray.toList_eq, ByteArray.toList_eq] at e
  exact ByteArray.ext (Array.toList_inj.1 e)

theorem fnExact_any (lim size : Int) (pr : Bool) (h : Int) (key : ByteArray) (L C P : Int) (hq : Int) (keyq : ByteArray) (ns n : Int) (w : World) (hk : key.size ≤ maxLen) (hkq : keyq.size ≤ maxLen)
    (hl : lim ≤ 9223372036854775807) (hs : size ≤ 9223372036854775807) (h0 : 0 ≤ h) (h1 : h ≤ 18446744073709551615) (q0 : 0 ≤ hq) (q1 : hq ≤ 18446744073709551615) (hL : L ≤ 9223372036854775807)
    (hn1 : -9223372036854775808 ≤ ns) (hn2 : ns ≤ 9223372036854775807) :
    Calls Try.prog 4 #[.int .i64 lim, .int .i64 size, .bool pr, .int .u64 h, .string key, .int .i64 L, .int .i64 C, .int .i64 P, .int .u64 hq, .string keyq, .int .i64 ns, .int .i64 n] w (Yes w) := by
  obtain ⟨H, rfl⟩ := Int.eq_ofNat_of_zero_le h0
  obtain ⟨Q, rfl⟩ := Int.eq_ofNat_of_zero_le q0
  by_cases hout : fits key keyq = false ∨ 524288 < key.size ∨ 524288 < keyq.size ∨ lim ≤ 0 ∨ size ≤ 0 ∨ n < 0 ∨ lim < n ∨ C < 0 ∨ lim < C ∨ P < 0 ∨ lim < P ∨ (C = 0 ∧ (L ≠ 0 ∨ P ≠ 0)) ∨ ((keyq.toList == key.toList) = true ∧ Q ≠ H)
  · exact fnExact_out lim size pr H key L C P Q keyq ns n w hk hkq hout
  · have r0 : fits key keyq = true := by
      cases e : fits key keyq
      · exact absurd (Or.inl e) hout
      · rfl
    have hkh : (keyq.toList == key.toList) = true → Q = H := by
      intro e
      by_cases hqh : Q = H
      · exact hqh
      · exact absurd (by simp only [e, true_and]; simp [hqh]) hout
    have hlin : ¬ (524288 < key.size) ∧ ¬ (524288 < keyq.size) ∧ ¬ (lim ≤ 0) ∧ ¬ (size ≤ 0) ∧ ¬ (n < 0) ∧ ¬ (lim < n) ∧ ¬ (C < 0) ∧ ¬ (lim < C) ∧ ¬ (P < 0) ∧ ¬ (lim < P) ∧ ¬ (C = 0 ∧ (L ≠ 0 ∨ P ≠ 0)) := by
      refine ⟨?_, ?_, ?_, ?_, ?_, ?_, ?_, ?_, ?_, ?_, fun e => hout (.inr (.inr (.inr (.inr (.inr (.inr (.inr (.inr (.inr (.inr (.inr (.inl e))))))))))))⟩ <;> (intro e; exact hout (by simp only [e, true_or, or_true]))
    obtain ⟨l1, l2, l3, l4, l5, l6, l7, l8, l9, l10, l11⟩ := hlin
    clear hout
    obtain ⟨Z, rfl⟩ := Int.eq_ofNat_of_zero_le (show 0 ≤ size by omega)
    have hwin := win_exact ns Z hn1 hn2 (by omega) (by omega)
    have hidx : -9223372036854775808 ≤ ns / (Z : Int) := Int.le_ediv_of_mul_le (by omega) (by omega)
    have ho := over_eq L C P (ns / (Z : Int)) lim n (by omega) (by omega) (by omega) (by omega) (by omega) hl
    obtain ⟨keq, hkeq⟩ : ∃ b, (keyq.toList == key.toList) = b := ⟨_, rfl⟩
    obtain ⟨rm, hrm⟩ : ∃ r : Int, r = if pr = true ∧ keq = true ∧ 0 < C then room lim L C P (ns / (Z : Int)) else lim := ⟨_, rfl⟩
    have hroom : (¬ (pr = true ∧ keq = true ∧ 0 < C) → rm = lim) ∧ (pr = true ∧ keq = true ∧ 0 < C → rm = room lim L C P (ns / (Z : Int))) :=
      ⟨fun hx => by rw [hrm, if_neg hx], fun hx => by rw [hrm, if_pos hx]⟩
    refine fnExact_main lim Z pr H key L C P Q keyq ns n (unixN ns) (unixS ns) keq (decide (n ≤ rm)) rm (ns / (Z : Int)) w r0 (by omega) (by omega) (by omega) hl (by omega) (by omega) (by omega) (by omega) (by omega) (by omega) (by omega) hL hidx
      (fun hc => by omega) (by omega) hkeq (fun e => hkh (hkeq.trans e)) (fun w => unix11 ns w hn1 hn2) (fun w => fdiv15 ns Z w (by omega) (by omega) hn1 hn2) ?_ ?_ hroom rfl
    · intro hpr b w hE
      have hr : rm = lim := hroom.1 (by rw [hpr]; simp)
      rw [hr, decide_eq_true (by omega)]
      exact zz_none b Q (unixN ns) keyq (unixS ns) n w hE
    · intro hpr b g w0 w hH b4 b5
      cases keq
      · have hr : rm = lim := hroom.1 (by simp)
        rw [hr, decide_eq_true (by omega)]
        have hk2 : (key.toList == keyq.toList) = false := by
          cases e : (key.toList == keyq.toList)
          · rfl
          · have e2 := bytes_of_list _ _ e
            rw [e2] at hkeq
            simp at hkeq
        exact zz_other b g H Q (unixN ns) key keyq (unixS ns) n L C P w0 w hH (by omega) hk2
      · have e2 := bytes_of_list _ _ hkeq
        have e3 := hkh hkeq
        subst e2 e3
        have hg : decide (n ≤ rm) = !(over lim ⟨L, C, P⟩ (ns / (Z : Int)) n) := by
          rw [ho]
          by_cases hC : 0 < C
          · rw [hroom.2 ⟨hpr, rfl, hC⟩, room_eq lim L C P _ hC hL hidx]
            by_cases hle : n ≤ room lim L C P (ns / (Z : Int))
            · rw [decide_eq_true hle, decide_eq_false (by omega)]; rfl
            · rw [decide_eq_false hle, decide_eq_true (by omega)]; rfl
          · have hc0 : cin L C P (ns / (Z : Int)) lim = 0 := by unfold cin; rw [if_pos (Or.inl (by omega))]
            rw [hroom.1 (by simp [hC]), hc0, decide_eq_true (by omega), decide_eq_false (by omega)]
            rfl
        rw [hg]
        exact zz_same b g Q (unixN ns) keyq (unixS ns) n lim Z L C P _ w0 w hH (by omega) b4 b5 hwin
end Go.Proofs.Qxb6605612a
