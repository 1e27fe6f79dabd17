import Derived.Test.Qxb6614221aFnHoldsWalk
namespace Go.Proofs.Qxb6614221a
open Go.RowKit

set_option maxRecDepth 100000 in
set_option maxHeartbeats 1000000 in
theorem fnHolds_any (ss : List ByteArray) (a : Option Addr) (cap : Nat) (lo hi : Int) (w : World) (hm : ss.length ≤ maxLen) (hA : StrArg w a ss) :
    Calls Try.prog 5 #[.slice a ss.length cap, .int .i64 lo, .int .i64 hi] w fun e w' => e = .returned (.bool true) ∧ Below w.heap.size w w' := by
  by_cases hmain : ss.length ≤ 65536 ∧ 0 ≤ lo ∧ lo ≤ hi ∧ hi ≤ (ss.length : Int)
  · obtain ⟨h1, h2, h3, h4⟩ := hmain
    obtain ⟨l, rfl⟩ := Int.eq_ofNat_of_zero_le h2
    obtain ⟨h, rfl⟩ := Int.eq_ofNat_of_zero_le (show 0 ≤ hi by omega)
    exact fnHolds_main ss a cap l h w h1 (by omega) (by omega) hA
  · have HA := hide hA
    have Hm := hide hm
    clear hA hm
    by_cases h1 : 65536 < ss.length
    · clear hmain
      have hm2 := Hm.out
      unfold maxLen at hm2
      go_enter Try.func5, Try.ntmps5
      go_wp2_with fail
      refine (bytes12 ss a cap lo hi w Hm.out HA.out).mono ?_
      rintro e w1 ⟨v, rfl, rfl⟩
      cases v
      all_goals
        go_wp2
        go_ret
        exact ⟨rfl, Below.refl _ _⟩
    · have hbad : lo < 0 ∨ (0 ≤ lo ∧ hi < lo) ∨ (0 ≤ lo ∧ lo ≤ hi ∧ (ss.length : Int) < hi) := by omega
      clear hmain
      rcases hbad with h2 | h2 | h2
      all_goals
        go_enter Try.func5, Try.ntmps5
        go_wp2_with fail
        refine (bytes12 ss a cap lo hi w Hm.out HA.out).mono ?_
        rintro e w1 ⟨v, rfl, rfl⟩
        cases v
        · go_wp2
          go_ret
          exact ⟨rfl, Below.refl _ _⟩
        go_wp2_with fail
        refine (tooBig13 ss a cap w (by omega) HA.out).mono ?_
        rintro e w1 ⟨v, rfl, rfl⟩
        cases v
        all_goals
          go_wp2
          go_ret
          exact ⟨rfl, Below.refl _ _⟩

end Go.Proofs.Qxb6614221a
