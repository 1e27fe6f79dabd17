import Derived.Test.Qxb6605612aStates
namespace Go.Proofs.Qxb6605612a
open Go.RowKit

def FindOut (v : Option Addr) (w : World) (e : Ending) (w' : World) : Prop := e = .returned (.pointer v) ∧ ∃ n, w' = w.drewN n

theorem find_none (b h : Nat) (key : ByteArray) (w : World) (hE : Empty0 w b) :
    Calls Try.prog 36 #[.pointer (some ⟨b, 0, none⟩), .int .u64 h, .string key] w (FindOut none w) := by
  obtain ⟨c0, c1, c2, f0, f1, f2, lt⟩ := hE
  go_enter Try.func36, Try.ntmps36
  go_wp2_with fail
  go_ret
  exact ⟨rfl, 0, rfl⟩

set_option maxHeartbeats 1000000 in
theorem find_same (b g h : Nat) (key : ByteArray) (L C P : Int) (w0 w : World) (hH : Held w0 w b g (hm h) h key L C P) (hh : h < 18446744073709551616) :
    Calls Try.prog 36 #[.pointer (some ⟨b, 0, none⟩), .int .u64 h, .string key] w (FindOut (some ⟨g, hm h * 5 + 2, none⟩) w) := by
  obtain ⟨i, hi⟩ : ∃ i, i = hm h := ⟨_, rfl⟩
  have hi8 : i < 8 := by rw [hi]; unfold hm; omega
  have hhome : ∀ w, Calls Try.prog 40 #[.int .u64 h, .int .i64 7] w fun e w' => e = .returned (.int .i64 i) ∧ w = w' := by
    intro w; rw [hi]; exact home40 h hh w
  rw [← hi] at hH ⊢
  obtain ⟨c0, c1, lt, gl, ne, m, k, s0, s1, s2, oth, sf, but, k3, k4, k5⟩ := hH
  have Hh := hide hh
  have Hmark : Hid (∀ w, Calls Try.prog 41 #[.int .u64 h] w fun e w' => e = .returned (.int .u64 (mk h)) ∧ w' = w) := hide fun w => (mark41 h hh w).mono fun e w' hw => ⟨hw.1, hw.2.symm⟩
  have Hhome := hide hhome
  clear hi hhome hh oth sf but k3 k4 k5 s0 s1 s2 ne
  go_enter Try.func36, Try.ntmps36
  go_upto_region 3 with fail
  go_quiet (first | (go_at_call 41; refine Calls.quiet_of_same (Hmark.out _)))
  go_wp2_with fail
  refine (Hhome.out _).mono ?_
  rintro e w2 ⟨rfl, hw⟩
  subst hw
  go_wp2_with fail
  have hi8' : (i : Int) < 8 := by omega
  go_loop [9] (fun v => v = .int .i64 i) (fun _ => 0)
  case atStart => exact rfl
  case round =>
    obtain rfl := hrel
    go_wp2_with fail
    go_ret
    exact ⟨rfl, nq, rfl⟩

/-- Another key is not found. -/
theorem find_other (b g h hq : Nat) (key keyq : ByteArray) (L C P : Int) (w0 w : World) (hH : Held w0 w b g (hm h) h key L C P) (hhq : hq < 18446744073709551616) (hk : (key.toList == keyq.toList) = false) :
    Calls Try.prog 36 #[.pointer (some ⟨b, 0, none⟩), .int .u64 hq, .string keyq] w (FindOut none w) := by
  obtain ⟨i, hi⟩ : ∃ i, i = hm h := ⟨_, rfl⟩
  obtain ⟨i0, hi0⟩ : ∃ i, i = hm hq := ⟨_, rfl⟩
  have hi8 : i < 8 := by rw [hi]; unfold hm; omega
  have hi08 : i0 < 8 := by rw [hi0]; unfold hm; omega
  have hhome : ∀ w, Calls Try.prog 40 #[.int .u64 hq, .int .i64 7] w fun e w' => e = .returned (.int .i64 i0) ∧ w = w' := by
    intro w; rw [hi0]; exact home40 hq hhq w
  rw [← hi] at hH
  obtain ⟨M, hM⟩ : ∃ M, M = mk h := ⟨_, rfl⟩
  obtain ⟨Mq, hMq⟩ : ∃ M, M = mk hq := ⟨_, rfl⟩
  have hM0 : M ≠ 0 := by rw [hM]; exact mk_ne h
  have hMq0 : Mq ≠ 0 := by rw [hMq]; exact mk_ne hq
  have Hmark : Hid (∀ w, Calls Try.prog 41 #[.int .u64 hq] w fun e w' => e = .returned (.int .u64 Mq) ∧ w' = w) := hide fun w => by
    rw [hMq]; exact (mark41 hq hhq w).mono fun e w' hw => ⟨hw.1, hw.2.symm⟩
  obtain ⟨c0, c1, lt, gl, ne, m, k, s0, s1, s2, oth, sf, but, k3, k4, k5⟩ := hH
  rw [← hM] at m
  have Hoth := hide oth
  have Hhome := hide hhome
  clear hi hi0 hhome hhq hM hMq oth sf but k3 k4 k5 s0 s1 s2 ne
  have e1 : ((M : Int) == 0) = false := by rw [beq_eq_false_iff_ne]; omega
  have e2 : ((0 : Int) == (Mq : Int)) = false := by rw [beq_eq_false_iff_ne]; omega
  go_enter Try.func36, Try.ntmps36
  go_upto_region 3 with fail
  go_quiet (first | (go_at_call 41; refine Calls.quiet_of_same (Hmark.out _)))
  go_wp2_with fail
  refine (Hhome.out _).mono ?_
  rintro e w2 ⟨rfl, hw⟩
  subst hw
  go_wp2_with fail
  go_loop [9] (fun v => ∃ j : Nat, v = .int .i64 j ∧ j < 8) (fun v => if (intOf v).toNat = i then 1 else 0)
  case atStart => exact ⟨i0, rfl, hi08⟩
  case round =>
    obtain ⟨j, rfl, hj⟩ := hrel
    have hj8' : (j : Int) < 8 := by omega
    by_cases hji : j = i
    · subst hji
      have ha : bits .and .i64 ((j : Int) + 1) 7 = (((j + 1) % 8 : Nat) : Int) := by rw [and7]; omega
      by_cases hmm : M = Mq
      · have e3 : ((M : Int) == (Mq : Int)) = true := by rw [hmm]; simp
        go_wp2_with fail
        go_round
        case rel => exact ⟨(j + 1) % 8, rfl, by omega⟩
        case measure =>
          have hne2 : (((j : Int) + 1) % 8).toNat ≠ j := by omega
          simp [intOf, hne2]
      · have e3 : ((M : Int) == (Mq : Int)) = false := by rw [beq_eq_false_iff_ne]; omega
        go_wp2_with fail
        go_round
        case rel => exact ⟨(j + 1) % 8, rfl, by omega⟩
        case measure =>
          have hne2 : (((j : Int) + 1) % 8).toNat ≠ j := by omega
          simp [intOf, hne2]
    · have m0 := Hoth.out j hj hji
      go_wp2_with fail
      go_ret
      exact ⟨rfl, nq, rfl⟩
end Go.Proofs.Qxb6605612a
