import Derived.Test.Qxb6605612aTake
namespace Go.Proofs.Qxb6605612a
open Go.RowKit

theorem max18 (lim size : Int) (w : World) : Calls Try.prog 18 #[.agg #[.int .i64 lim, .int .i64 size]] w fun e w' => e = .returned (.int .i64 lim) ∧ w.alloc (.cells #[.int .i64 lim, .int .i64 size] 25) = w' := by
  go_enter Try.func18, Try.ntmps18
  go_wp2_with fail
  go_ret
  exact ⟨rfl, rfl⟩

theorem max7 (lim size : Int) (w : World) : Calls Try.prog 7 #[.agg #[.int .i64 lim, .int .i64 size]] w fun e w' => e = .returned (.int .i64 lim) ∧ Below w.heap.size w w' := by
  go_enter Try.func7, Try.ntmps7
  go_wp2_with fail
  refine (max18 lim size _).mono ?_
  rintro e w1 ⟨rfl, hw⟩
  subst hw
  go_wp2_with fail
  go_ret
  exact ⟨rfl, by repeat (first | exact (Below.refl _ _) | apply Below.alloc | simp | omega)⟩

theorem keepB {w w' : World} {o : Obj} (hb : Below (w.alloc o).heap.size (w.alloc o) w') {b i : Nat} (h : b < w.heap.size) : w'.cell? ⟨b, i, none⟩ = w.cell? ⟨b, i, none⟩ := by
  rw [hb.cell (by simp; omega), World.cell?_alloc_past _ _ _ h]

theorem keepF {w w' : World} {o : Obj} (hb : Below (w.alloc o).heap.size (w.alloc o) w') {b i : Nat} (h : b < w.heap.size) : w'.frozen? ⟨b, i, none⟩ = w.frozen? ⟨b, i, none⟩ := by
  rw [hb.frozen (by simp; omega), World.frozen?_alloc_past _ _ _ h]

theorem freshB {w w' : World} {c : Array Value} {t : TypeId} (hb : Below (w.alloc (.cells c t)).heap.size (w.alloc (.cells c t)) w') (i : Nat) : w'.cell? ⟨w.heap.size, i, none⟩ = c[i]? := by
  rw [hb.cell (by simp)]; simp

theorem freshF {w w' : World} {c : Array Value} {t : TypeId} (hb : Below (w.alloc (.cells c t)).heap.size (w.alloc (.cells c t)) w') (i : Nat) : w'.frozen? ⟨w.heap.size, i, none⟩ = false := by
  rw [hb.frozen (by simp)]; simp

/-- What the three takes say. -/
theorem plain3 (lim c idx : Int) (h0 : 0 < lim) (h1 : 0 ≤ c) (h2 : c ≤ lim) (h3 : lim ≤ 9223372036854775807) :
    over lim ⟨0, 0, 0⟩ idx c = false ∧ over lim (cadd ⟨0, 0, 0⟩ idx c) idx (lim - c) = false ∧ over lim (cadd (cadd ⟨0, 0, 0⟩ idx c) idx (lim - c)) idx 1 = true := by
  have w1 : IntKind.i64.wrap lim = lim := IntWalk.i64_in _ (by omega)
  have w2 : IntKind.i64.wrap (lim - c) = lim - c := IntWalk.i64_in _ (by omega)
  have w3 : wrap64 lim = lim := IntWalk.wrap64_in _ (by omega)
  by_cases hc : c = 0
  · subst hc
    have w0 : ¬ lim = 0 := by omega
    refine ⟨?_, ?_, ?_⟩
    · simp [over, cin, w1]; omega
    · simp [over, cin, cadd, w1]
    · simp [over, cin, cadd, w0]
      decide
  · by_cases hl : lim = c
    · subst hl
      refine ⟨?_, ?_, ?_⟩
      · simp [over, cin, w1]
      · simp [over, cin, cadd, hc]; decide
      · simp [over, cin, cadd, hc]; decide
    · have hl' : ¬ (lim - c = 0) := by omega
      have hs : wrap64 (c + (lim - c)) = lim := by rw [show c + (lim - c) = lim by omega]; exact w3
      have w0 : ¬ lim = 0 := by omega
      refine ⟨?_, ?_, ?_⟩
      · simp [over, cin, w1]; omega
      · simp [over, cin, cadd, hc, w2]
      · simp [over, cin, cadd, hc, hl', hs, w0]
        decide

/-- The index that Window gives to Time{}.Add(ns). -/
theorem win0 (ns : Int) (size : Nat) (h1 : -9223372036854775808 ≤ ns) (h2 : ns ≤ 9223372036854775807) (hz : 0 < size) (hz2 : size < 9223372036854775808) :
    ∃ idx, addN' 0 ns < 1000000000 ∧ ∀ w, Calls Try.prog 23 #[.agg #[.int .u64 (addN' 0 ns : Nat), .int .i64 (addS 0 0 ns), .pointer none], .int .i64 size] w (WinOut idx w) := by
  have hn : addN' 0 ns < 1000000000 := by unfold addN'; omega
  have hs : addS 0 0 ns - 62135596800 = -((62135596800 - addS 0 0 ns).toNat : Int) := by unfold addS; omega
  exact ⟨_, hn, fun w => window_neg (addN' 0 ns) (addS 0 0 ns) none size (62135596800 - addS 0 0 ns).toNat w hn hs (by unfold addS at *; omega) (by unfold addS; omega) hz hz2⟩

def Yes (w : World) (e : Ending) (w' : World) : Prop := e = .returned (.bool true) ∧ Below w.heap.size w w'

set_option maxHeartbeats 2000000 in
theorem fnMax_main (lim ns c : Int) (size : Nat) (w : World) (h1 : -9223372036854775808 ≤ ns) (h2 : ns ≤ 9223372036854775807) (hz : 0 < size) (hz2 : size < 9223372036854775808)
    (hl : 0 < lim) (hl2 : lim ≤ 9223372036854775807) (hc : 0 ≤ c) (hc2 : c ≤ lim) :
    Calls Try.prog 3 #[.int .i64 lim, .int .i64 size, .int .i64 ns, .int .i64 c] w (Yes w) := by
  obtain ⟨idx, hn, hwin⟩ := win0 ns size h1 h2 hz hz2
  obtain ⟨p1, p2, p3⟩ := plain3 lim c idx hl hc hc2 hl2
  have t1 : ∀ w, Calls Try.prog 9 _ w _ := fun w => take9 lim size 0 0 0 c idx (addN' 0 ns) (addS 0 0 ns) none w hwin
  rw [p1, if_neg (by simp)] at t1
  obtain ⟨k1, hk1⟩ : ∃ k, k = cadd ⟨0, 0, 0⟩ idx c := ⟨_, rfl⟩
  rw [← hk1] at t1 p2 p3
  have t2 : ∀ w, Calls Try.prog 9 _ w _ := fun w => take9 lim size k1.l k1.c k1.p (lim - c) idx (addN' 0 ns) (addS 0 0 ns) none w hwin
  rw [show (⟨k1.l, k1.c, k1.p⟩ : Cnt) = k1 from rfl, p2, if_neg (by simp)] at t2
  obtain ⟨k2, hk2⟩ : ∃ k, k = cadd k1 idx (lim - c) := ⟨_, rfl⟩
  rw [← hk2] at t2 p3
  have t3 : ∀ w, Calls Try.prog 9 _ w _ := fun w => take9 lim size k2.l k2.c k2.p 1 idx (addN' 0 ns) (addS 0 0 ns) none w hwin
  rw [show (⟨k2.l, k2.c, k2.p⟩ : Cnt) = k2 from rfl, p3, if_pos rfl] at t3
  obtain ⟨N, hN⟩ : ∃ N, N = addN' 0 ns := ⟨_, rfl⟩
  obtain ⟨S, hS⟩ : ∃ S, S = addS 0 0 ns := ⟨_, rfl⟩
  have ta := fun w => add8 0 0 ns none w (by omega) (by omega) (by omega) h1 h2
  rw [← hN, ← hS] at t1 t2 t3 ta
  have T1 := hide t1
  have T2 := hide t2
  have T3 := hide t3
  have TA := hide ta
  clear t1 t2 t3 ta hwin hn p1 p2 p3 hk1 hk2 hN hS
  have e1 : decide (lim ≤ 0) = false := by rw [decide_eq_false_iff_not]; omega
  have e2 : decide (size = 0) = false := by rw [decide_eq_false_iff_not]; omega
  have e3 : decide (c < 0) = false := by rw [decide_eq_false_iff_not]; omega
  have e4 : decide (lim < c) = false := by rw [decide_eq_false_iff_not]; omega
  have e5 : wrap64 (lim - c) = lim - c := IntWalk.wrap64_in _ (by omega)
  clear h1 h2 hz hz2 hl hl2 hc hc2
  go_enter Try.func3, Try.ntmps3
  go_wp2_with fail
  refine (max7 lim size _).mono ?_
  rintro e w1 ⟨rfl, hb1⟩
  have H1 := hide hb1
  clear hb1
  go_wp2_with fail
  refine (TA.out _).mono ?_
  rintro e w2 ⟨rfl, hb2⟩
  have a0 := freshB hb2 0
  have a1 := freshB hb2 1
  have z1 : w1.heap.size < w2.heap.size := by have := hb2.size; simp at this; omega
  have H2 := hide hb2
  clear hb2
  simp at a0 a1
  go_wp2_with fail
  refine (T1.out _).mono ?_
  rintro e w3 ⟨rfl, hb3⟩
  have a0' := (keepB hb3 z1).trans a0
  have a1' := (keepB hb3 z1).trans a1
  have c0 := freshB hb3 0
  have c1 := freshB hb3 1
  have c2 := freshB hb3 2
  have z2 : w2.heap.size < w3.heap.size := by have := hb3.size; simp at this; omega
  have H3 := hide hb3
  clear hb3 a0 a1
  simp at c0 c1 c2
  have z1' : w1.heap.size < w3.heap.size := by omega
  go_wp2_with fail
  refine (T2.out _).mono ?_
  rintro e w4 ⟨rfl, hb4⟩
  have a0 := (keepB hb4 z1').trans a0'
  have a1 := (keepB hb4 z1').trans a1'
  have c0' := (keepB hb4 z2).trans c0
  have c1' := (keepB hb4 z2).trans c1
  have c2' := (keepB hb4 z2).trans c2
  have d0 := freshB hb4 0
  have d1 := freshB hb4 1
  have d2 := freshB hb4 2
  have f0 := freshF hb4 0
  have f1 := freshF hb4 1
  have f2 := freshF hb4 2
  have z3 : w3.heap.size < w4.heap.size := by have := hb4.size; simp at this; omega
  have H4 := hide hb4
  clear hb4 a0' a1' c0 c1 c2
  simp at d0 d1 d2
  have n1 : ¬ (w1.heap.size = w3.heap.size) := by omega
  have n2 : ¬ (w2.heap.size = w3.heap.size) := by omega
  go_wp2_with fail
  refine (T3.out _).mono ?_
  rintro e w5 ⟨rfl, hb5⟩
  have H5 := hide hb5
  clear hb5
  go_wp2_with fail
  go_ret
  refine ⟨rfl, ?_⟩
  have q1 := H1.out.size
  have q2 := H2.out.size
  have q3 := H3.out.size
  have q4 := H4.out.size
  have q5 := H5.out.size
  simp at q2 q3 q4 q5
  exact ((((H1.out.trans (((Below.refl _ _).alloc q1 _).trans (H2.out.mono (by simp; omega)))).trans (((Below.refl _ _).alloc (by omega) _).trans (H3.out.mono (by simp; omega)))).trans (((Below.refl _ _).alloc (by omega) _).trans (H4.out.mono (by simp; omega)))).trans ((((((Below.refl _ _).setCell (by simp; omega) _).setCell (by simp; omega) _).setCell (by simp; omega) _).trans (H5.out.mono (by simp; omega))).alloc (by omega) _))

theorem fnMax_any (lim size ns c : Int) (h0 : -9223372036854775808 ≤ lim ∧ lim ≤ 9223372036854775807) (h1 : -9223372036854775808 ≤ size ∧ size ≤ 9223372036854775807) (h2 : -9223372036854775808 ≤ ns ∧ ns ≤ 9223372036854775807) (w : World) :
    Calls Try.prog 3 #[.int .i64 lim, .int .i64 size, .int .i64 ns, .int .i64 c] w (Yes w) := by
  by_cases g1 : lim ≤ 0
  · go_enter Try.func3, Try.ntmps3
    go_wp2_with fail
    go_ret
    exact ⟨rfl, Below.refl _ _⟩
  · have e1 : decide (lim ≤ 0) = false := by rw [decide_eq_false_iff_not]; omega
    by_cases g2 : size ≤ 0
    · go_enter Try.func3, Try.ntmps3
      go_wp2_with fail
      go_ret
      exact ⟨rfl, Below.refl _ _⟩
    · have e2 : decide (size ≤ 0) = false := by rw [decide_eq_false_iff_not]; omega
      by_cases g3 : c < 0
      · go_enter Try.func3, Try.ntmps3
        go_wp2_with fail
        go_ret
        exact ⟨rfl, Below.refl _ _⟩
      · have e3 : decide (c < 0) = false := by rw [decide_eq_false_iff_not]; omega
        by_cases g4 : lim < c
        · go_enter Try.func3, Try.ntmps3
          go_wp2_with fail
          go_ret
          exact ⟨rfl, Below.refl _ _⟩
        · obtain ⟨Z, rfl⟩ := Int.eq_ofNat_of_zero_le (show 0 ≤ size by omega)
          exact fnMax_main lim ns c Z w h2.1 h2.2 (by omega) (by omega) (by omega) h0.2 (by omega) (by omega)
end Go.Proofs.Qxb6605612a
