import Derived.Test.Qxb6614221aDrain
namespace Go.Proofs.Qxb6614221a.FnWalk
open Go.RowKit

set_option maxRecDepth 100000 in
theorem fnWalk_any (x : Int) (ids : Bool) (w : World) : Calls Try.prog 4 #[.int .i64 x, .bool ids] w fun e w' => e = .returned (.bool true) ∧ Below w.heap.size w w' := by
  by_cases h : 0 ≤ x ∧ x ≤ 65536
  · obtain ⟨c, rfl⟩ := Int.eq_ofNat_of_zero_le h.1
    have hc : c ≤ 65536 := by omega
    clear h
    go_enter Try.func4, Try.ntmps4
    go_wp2_with fail
    refine (drain11 c ids w hc).mono ?_
    rintro e w1 ⟨rfl, hb⟩
    have Hb := hide hb
    clear hb
    have h1 : ((c : Int) == (c : Int)) = true := by simp
    rw [show (((c + 31) / 32 : Nat) : Int) = ((c : Int) + 31) / 32 by omega]
    have h2 : (((c : Int) + 31) / 32 == ((c : Int) + 31) / 32) = true := by simp
    go_wp2
    go_ret
    exact ⟨rfl, Hb.out⟩
  · have h2 : x < 0 ∨ (0 ≤ x ∧ 65536 < x) := by omega
    clear h
    rcases h2 with h | h
    all_goals
      go_enter Try.func4, Try.ntmps4
      go_wp2
      go_ret
      exact ⟨rfl, Below.refl _ _⟩

end Go.Proofs.Qxb6614221a.FnWalk
