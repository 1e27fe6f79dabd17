import Derived.Test.Qxb6614221aParent
namespace Go.Proofs.Qxb6614221a
open Go.RowKit

theorem nan51 (x : Int) (w : World) : Calls Try.prog 51 #[.int .i64 x] w fun e w' => e = .returned (.bool false) ∧ w' = w := by
  have h : (x != x) = false := by simp
  go_enter Try.func51, Try.ntmps51
  go_wp2
  go_ret
  exact ⟨rfl, rfl⟩

theorem nan54 (x : Int) (w : World) : Calls Try.prog 54 #[.int .i64 x] w fun e w' => e = .returned (.bool false) ∧ w' = w := by
  have h : (x != x) = false := by simp
  go_enter Try.func54, Try.ntmps54
  go_wp2
  go_ret
  exact ⟨rfl, rfl⟩

theorem less50 (x y : Int) (w : World) : Calls Try.prog 50 #[.int .i64 x, .int .i64 y] w fun e w' => e = .returned (.bool (decide (x < y))) ∧ w' = w := by
  go_enter Try.func50, Try.ntmps50
  go_wp2_with (go_at_call 54; refine (nan54 _ _).mono ?_; rintro e w' ⟨rfl, rfl⟩)
  go_ret
  exact ⟨rfl, rfl⟩

theorem less50_yes (x y : Int) (h : x < y) (w : World) : Calls Try.prog 50 #[.int .i64 x, .int .i64 y] w fun e w' => e = .returned (.bool true) ∧ w' = w :=
  (less50 x y w).mono fun e w' ⟨h1, h2⟩ => ⟨by rw [h1, decide_eq_true h], h2⟩
theorem less50_no (x y : Int) (h : ¬ x < y) (w : World) : Calls Try.prog 50 #[.int .i64 x, .int .i64 y] w fun e w' => e = .returned (.bool false) ∧ w' = w :=
  (less50 x y w).mono fun e w' ⟨h1, h2⟩ => ⟨by rw [h1, decide_eq_false h], h2⟩

def SearchOut (n : Nat) (f : Nat → Int) (t : Int) (w : World) (e : Ending) (w' : World) : Prop :=
  ∃ (c : Nat) (v : Value), e = .returned (.tuple #[.int .i64 c, v]) ∧ w' = w ∧ c ≤ n ∧ (∀ i, i < c → f i < t) ∧ (c < n → t ≤ f c)

set_option maxRecDepth 100000 in
set_option maxHeartbeats 400000 in
/-- 'slices.BinarySearch(ends, t)': the first place whose number is at least t. -/
theorem search44 (nb no n cap : Nat) (f : Nat → Int) (t : Int) (w : World) (hn : n ≤ 1048576) (hcells : ∀ i, i < n → w.cell? ⟨nb, no + i, none⟩ = some (.int .i64 (f i)))
    (hmono : ∀ i j, i ≤ j → j < n → f i ≤ f j) :
    Calls Try.prog 44 #[.slice (some ⟨nb, no, none⟩) n cap, .int .i64 t] w (SearchOut n f t w) := by
  have Hcells := hide hcells
  have Hmono := hide hmono
  clear hcells hmono
  go_enter Try.func44, Try.ntmps44
  go_wp2_with fail
  go_loop [7, 8] (fun i j => ∃ a b : Nat, i = .int .i64 a ∧ j = .int .i64 b ∧ a ≤ b ∧ b ≤ n ∧ (∀ x, x < a → f x < t) ∧ (∀ x, b ≤ x → x < n → t ≤ f x)) (fun i j => (intOf j - intOf i).toNat)
  case atStart => exact ⟨0, n, rfl, rfl, by omega, by omega, fun x hx => by omega, fun x h1 h2 => by omega⟩
  case round =>
    obtain ⟨a, b, rfl, rfl, hab, hbn, hlo, hhi⟩ := hrel
    have Hlo := hide hlo
    have Hhi := hide hhi
    clear hlo hhi
    by_cases hlt : a < b
    · have hc := Hcells.out ((a + b) / 2) (by omega)
      by_cases hless : f ((a + b) / 2) < t
      · have Hlo2 : Hid (∀ x, x < (a + b) / 2 + 1 → f x < t) := fun x hx => Int.lt_of_le_of_lt (Hmono.out x ((a + b) / 2) (by omega) (by omega)) hless
        have Hl := hide hless
        clear hless
        generalize hy : f ((a + b) / 2) = y at *
        have Hy := hide hy
        clear hy
        go_wp2_with (go_at_call 50; refine (less50_yes _ _ Hl.out _).mono ?_; rintro e w' ⟨rfl, hw⟩; have hw := hw.symm; subst hw)
        go_round
        case rel => exact ⟨(a + b) / 2 + 1, b, by go_num, rfl, by omega, hbn, Hlo2.out, Hhi.out⟩
        case measure => simp [intOf]; omega
      · have Hhi2 : Hid (∀ x, (a + b) / 2 ≤ x → x < n → t ≤ f x) := fun x hx hxn => Int.le_trans (Int.not_lt.1 hless) (Hmono.out _ x hx hxn)
        have Hl := hide hless
        clear hless
        generalize hy : f ((a + b) / 2) = y at *
        have Hy := hide hy
        clear hy
        go_wp2_with (go_at_call 50; refine (less50_no _ _ Hl.out _).mono ?_; rintro e w' ⟨rfl, hw⟩; have hw := hw.symm; subst hw)
        go_round
        case rel => exact ⟨a, (a + b) / 2, rfl, by go_num, by omega, by omega, Hlo.out, Hhi2.out⟩
        case measure => simp [intOf]; omega
    · have hab2 : a = b := by omega
      subst hab2
      by_cases han : a < n
      · have hc := Hcells.out a han
        have hge := Hhi.out a (Nat.le_refl _) han
        by_cases heq : (f a == t) = true
        · go_wp2_with (go_at_call 51; refine (nan51 _ _).mono ?_; rintro e w' ⟨rfl, hw⟩; have hw := hw.symm; subst hw)
          go_ret2
          refine ⟨a, .bool true, rfl, rfl, ?_⟩
          exact ⟨hbn, Hlo.out, fun _ => hge⟩
        · have heq : (f a == t) = false := by simpa using heq
          go_wp2_with (go_at_call 51; refine (nan51 _ _).mono ?_; rintro e w' ⟨rfl, hw⟩; have hw := hw.symm; subst hw)
          go_ret2
          refine ⟨a, .bool false, rfl, rfl, ?_⟩
          exact ⟨hbn, Hlo.out, fun _ => hge⟩
      · go_wp2_with (go_at_call 51; refine (nan51 _ _).mono ?_; rintro e w' ⟨rfl, hw⟩; have hw := hw.symm; subst hw)
        go_ret2
        refine ⟨a, .bool false, rfl, rfl, ?_⟩
        exact ⟨hbn, Hlo.out, fun h => absurd h han⟩

/-- 'n.child(i)': which child holds element i, and where in it. -/
theorem child36 (b nb no ncap : Nat) (cs : List (Nat × List Value)) (i : Nat) (w : World) (hbig : (flat cs).length ≤ 1048576) (hcl : cs.length ≤ 1048576) (hi : i < (flat cs).length)
    (c2 : w.cell? ⟨b, 2, none⟩ = some (.slice (some ⟨nb, no, none⟩) cs.length ncap))
    (hends : ∀ i, i < cs.length → w.cell? ⟨nb, no + i, none⟩ = some (.int .i64 (endAt cs (i + 1)))) :
    Calls Try.prog 36 #[.pointer (some ⟨b, 0, none⟩), .int .i64 i] w fun e w' => ∃ (c j : Nat), e = .returned (.tuple #[.int .i64 c, .int .i64 j]) ∧ w' = w ∧ c < cs.length ∧ i = endAt cs c + j ∧ i < endAt cs (c + 1) := by
  have Hends := hide hends
  have hs := search44 nb no cs.length ncap (fun i => (endAt cs (i + 1) : Nat)) ((i : Int) + 1) w hcl hends (fun i j hij _ => by have := endAt_mono cs (show i + 1 ≤ j + 1 by omega); omega)
  have Hs := hide hs
  clear hs hends
  go_enter Try.func36, Try.ntmps36
  go_wp2_with fail
  refine Hs.out.mono ?_
  rintro e w1 ⟨c, q, rfl, hw, hcn, hlo, hhi⟩
  have hw := hw.symm
  subst hw
  have hc : c < cs.length := by
    rcases Nat.lt_or_ge c cs.length with h | h
    · exact h
    · have hc0 : 0 < cs.length := by
        rcases Nat.eq_zero_or_pos cs.length with h0 | h0
        · have := List.length_eq_zero_iff.1 h0; subst this; simp [flat] at hi
        · exact h0
      have h1 : ((endAt cs (cs.length - 1 + 1) : Nat) : Int) < (i : Int) + 1 := hlo (cs.length - 1) (by omega)
      rw [show cs.length - 1 + 1 = cs.length by omega, endAt_all] at h1
      omega
  have hlt : i < endAt cs (c + 1) := by have h1 : (i : Int) + 1 ≤ ((endAt cs (c + 1) : Nat) : Int) := hhi hc; omega
  have hge : endAt cs c ≤ i := by
    rcases Nat.eq_zero_or_pos c with h0 | h0
    · rw [h0, endAt_zero]; omega
    · have h1 : ((endAt cs (c - 1 + 1) : Nat) : Int) < (i : Int) + 1 := hlo (c - 1) (by omega)
      rw [show c - 1 + 1 = c by omega] at h1
      omega
  have Hlt := hide hlt
  clear hlo hhi Hs hlt
  rcases Nat.eq_zero_or_pos c with h0 | h0
  · subst h0
    go_wp2
    go_ret2
    exact ⟨0, i, rfl, rfl, hc, by rw [endAt_zero]; omega, Hlt.out⟩
  · obtain ⟨m, rfl⟩ : ∃ m, c = m + 1 := ⟨c - 1, by omega⟩
    have hce := Hends.out m (by omega)
    generalize hE : endAt cs (m + 1) = E at *
    have HE := hide hE
    clear hE
    have hwm : IntKind.i64.wrap (m : Int) = m := IntWalk.i64_in _ (by omega)
    go_wp2
    go_ret2
    refine ⟨m + 1, i - E, ?_, rfl, hc, by rw [HE.out]; omega, Hlt.out⟩
    show Ending.returned (.tuple #[.int .i64 ((m : Int) + 1), .int .i64 ((i : Int) - (E : Int))]) = _
    rw [show (i : Int) - (E : Int) = ((i - E : Nat) : Int) by omega]
    rfl

end Go.Proofs.Qxb6614221a
