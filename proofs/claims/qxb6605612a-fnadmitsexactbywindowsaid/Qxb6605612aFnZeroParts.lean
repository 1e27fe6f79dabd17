import Derived.Test.Qxb6605612aTable
namespace Go.Proofs.Qxb6605612a
open Go.RowKit

theorem bytes16 (lim size : Int) (pr : Bool) (h : Nat) (key : ByteArray) (L C P ns n1 n2 : Int) (hk : key.size ≤ maxLen) (w : World) :
    Calls Try.prog 16 #[.int .i64 lim, .int .i64 size, .bool pr, .int .u64 h, .string key, .int .i64 L, .int .i64 C, .int .i64 P, .int .i64 ns, .int .i64 n1, .int .i64 n2] w fun e w' => e = .returned (.bool (decide (key.size ≤ 1048576))) ∧ w = w' := by
  unfold maxLen at hk
  by_cases hs : 1048576 < key.size
  · rw [decide_eq_false (by omega)]
    go_enter Try.func16, Try.ntmps16
    go_wp2_with fail
    go_ret
    exact ⟨rfl, rfl⟩
  · rw [decide_eq_true (by omega)]
    go_enter Try.func16, Try.ntmps16
    go_wp2_with fail
    go_ret
    exact ⟨rfl, rfl⟩
end Go.Proofs.Qxb6605612a
