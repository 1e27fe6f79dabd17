import Derived.Test.Qxb6614221aRows
import Derived.WalkKit
import Derived.WalkSpells
import Derived.WalkLawsBesides
namespace Go.Proofs.Qxb6614221a
open Go.RowKit

theorem bytes7 (s : ByteArray) (k : Int) (hs : s.size ≤ maxLen) (w : World) :
    Calls Try.prog 7 #[.string s, .int .i64 k] w fun e w' => e = .returned (.bool (decide (s.size ≤ 1048576))) ∧ w' = w := by
  unfold maxLen at hs
  by_cases h : s.size ≤ 1048576
  · go_enter Try.func7, Try.ntmps7
    go_wp2
    go_ret
    exact ⟨by simp [h], rfl⟩
  · go_enter Try.func7, Try.ntmps7
    go_wp2
    go_ret
    exact ⟨by simp [h], rfl⟩

theorem as9_31 (v : Value) (w : World) : (Instr.typeAssert (.iface 9 v) 20 31 true).run Try.prog w = .ok (.tuple #[.agg #[.pointer none], .bool false]) w := by kernel_rfl
theorem as9_61 (v : Value) (w : World) : (Instr.typeAssert (.iface 9 v) 20 61 true).run Try.prog w = .ok (.tuple #[.agg #[.pointer none, .pointer none, .int .u32 0, .slice none 0 0], .bool false]) w := by kernel_rfl
theorem as9_9 (v : Value) (w : World) : (Instr.typeAssert (.iface 9 v) 20 9 true).run Try.prog w = .ok (.tuple #[v, .bool true]) w := by kernel_rfl
theorem as31_31 (v : Value) (w : World) : (Instr.typeAssert (.iface 31 v) 20 31 true).run Try.prog w = .ok (.tuple #[v, .bool true]) w := by kernel_rfl

theorem len18_string (s : ByteArray) (w : World) :
    Calls Try.prog 18 #[.iface 9 (.string s)] w fun e w' => e = .returned (.tuple #[.int .i64 s.size, .bool true]) ∧ w' = w := by
  have h1 := as9_31
  have h2 := as9_61
  have h3 := as9_9
  go_enter Try.func18, Try.ntmps18
  go_wp2
  go_ret2
  exact ⟨rfl, rfl⟩

theorem lenString (s : ByteArray) (w : World) :
    Calls Try.prog 8 #[.string s] w fun e w' => e = .returned (.tuple #[.int .i64 s.size, .bool true]) ∧ w' = w := by
  go_enter Try.func8, Try.ntmps8
  go_wp2_with (go_at_call 18; refine (len18_string _ _).mono ?_; rintro e w' ⟨rfl, rfl⟩)
  go_ret2
  exact ⟨rfl, rfl⟩

end Go.Proofs.Qxb6614221a
