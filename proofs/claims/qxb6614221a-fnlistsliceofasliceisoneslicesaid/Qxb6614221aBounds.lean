import Derived.Test.Qxb6614221aNewList
namespace Go.Proofs.Qxb6614221a
open Go.RowKit

/-- A slice of strings that came in: its elements are ss. -/
def StrArg (w : World) (a : Option Addr) (ss : List ByteArray) : Prop :=
  ∀ i, i < ss.length → ∃ b o, a = some ⟨b, o, none⟩ ∧ w.cell? ⟨b, o + i, none⟩ = some (.string (ss.getD i ByteArray.empty))

def BoolOut (w : World) (e : Ending) (w' : World) : Prop := ∃ v : Bool, e = .returned (.bool v) ∧ w = w'

set_option maxRecDepth 100000 in
set_option maxHeartbeats 400000 in
theorem tooBig13 (ss : List ByteArray) (a : Option Addr) (cap : Nat) (w : World) (hl : ss.length ≤ 65536) (hA : StrArg w a ss) :
    Calls Try.prog 13 #[.slice a ss.length cap] w (BoolOut w) := by
  have HA := hide hA
  clear hA
  go_enter Try.func13, Try.ntmps13
  go_wp2_with fail
  go_loop [3, 4] (fun t i => ∃ (k : Nat) (x : Int), k ≤ ss.length ∧ i = .int .i64 k ∧ t = .int .i64 x ∧ 0 ≤ x ∧ x ≤ 1048576) (fun _ i => ss.length - (intOf i).toNat)
  case atStart => exact ⟨0, 0, by omega, rfl, rfl, by omega, by omega⟩
  case round =>
    obtain ⟨k, x, hk, rfl, rfl, hx0, hx1⟩ := hrel
    by_cases hlt : k < ss.length
    · obtain ⟨b, o, rfl, hc⟩ := HA.out k hlt
      generalize ss.getD k ByteArray.empty = s at *
      by_cases h1 : 1048576 < s.size
      · go_wp2
        go_ret
        exact ⟨_, rfl, rfl⟩
      · by_cases h2 : 1048576 < x + (16 + (s.size : Int))
        · go_wp2
          go_ret
          exact ⟨_, rfl, rfl⟩
        · go_wp2
          go_round
          case rel => exact ⟨k + 1, _, by omega, by go_num, rfl, by omega, by omega⟩
          case measure => simp [intOf]; omega
    · go_wp2
      go_ret
      exact ⟨_, rfl, rfl⟩

set_option maxRecDepth 100000 in
set_option maxHeartbeats 400000 in
theorem bytes12 (ss : List ByteArray) (a : Option Addr) (cap : Nat) (lo hi : Int) (w : World) (hm : ss.length ≤ maxLen) (hA : StrArg w a ss) :
    Calls Try.prog 12 #[.slice a ss.length cap, .int .i64 lo, .int .i64 hi] w (BoolOut w) := by
  have HA := hide hA
  unfold maxLen at hm
  clear hA
  by_cases h0 : 1048576 < ss.length
  · go_enter Try.func12, Try.ntmps12
    go_wp2
    go_ret
    exact ⟨_, rfl, rfl⟩
  clear hm
  go_enter Try.func12, Try.ntmps12
  go_wp2_with fail
  go_loop [7, 8] (fun t i => ∃ (k : Nat) (x : Int), k ≤ ss.length ∧ i = .int .i64 k ∧ t = .int .i64 x ∧ 0 ≤ x ∧ x ≤ 1048576) (fun _ i => ss.length - (intOf i).toNat)
  case atStart => exact ⟨0, _, by omega, rfl, rfl, by omega, by omega⟩
  case round =>
    obtain ⟨k, x, hk, rfl, rfl, hx0, hx1⟩ := hrel
    by_cases hlt : k < ss.length
    · obtain ⟨b, o, rfl, hc⟩ := HA.out k hlt
      generalize ss.getD k ByteArray.empty = s at *
      by_cases h1 : 1048576 < s.size
      · go_wp2
        go_ret
        exact ⟨_, rfl, rfl⟩
      · by_cases h2 : 1048576 < x + (s.size : Int)
        · go_wp2
          go_ret
          exact ⟨_, rfl, rfl⟩
        · go_wp2
          go_round
          case rel => exact ⟨k + 1, _, by omega, by go_num, rfl, by omega, by omega⟩
          case measure => simp [intOf]; omega
    · go_wp2
      go_ret
      exact ⟨_, rfl, rfl⟩

set_option maxRecDepth 100000 in
set_option maxHeartbeats 400000 in
theorem bytes17 (ss : List ByteArray) (a : Option Addr) (cap : Nat) (x1 x2 x3 x4 : Int) (w : World) (hm : ss.length ≤ maxLen) (hA : StrArg w a ss) :
    Calls Try.prog 17 #[.slice a ss.length cap, .int .i64 x1, .int .i64 x2, .int .i64 x3, .int .i64 x4] w (BoolOut w) := by
  have HA := hide hA
  unfold maxLen at hm
  clear hA
  by_cases h0 : 1048576 < ss.length
  · go_enter Try.func17, Try.ntmps17
    go_wp2
    go_ret
    exact ⟨_, rfl, rfl⟩
  clear hm
  go_enter Try.func17, Try.ntmps17
  go_wp2_with fail
  go_loop [11, 12] (fun t i => ∃ (k : Nat) (x : Int), k ≤ ss.length ∧ i = .int .i64 k ∧ t = .int .i64 x ∧ 0 ≤ x ∧ x ≤ 1048576) (fun _ i => ss.length - (intOf i).toNat)
  case atStart => exact ⟨0, _, by omega, rfl, rfl, by omega, by omega⟩
  case round =>
    obtain ⟨k, x, hk, rfl, rfl, hx0, hx1⟩ := hrel
    by_cases hlt : k < ss.length
    · obtain ⟨b, o, rfl, hc⟩ := HA.out k hlt
      generalize ss.getD k ByteArray.empty = s at *
      by_cases h1 : 1048576 < s.size
      · go_wp2
        go_ret
        exact ⟨_, rfl, rfl⟩
      · by_cases h2 : 1048576 < x + (s.size : Int)
        · go_wp2
          go_ret
          exact ⟨_, rfl, rfl⟩
        · go_wp2
          go_round
          case rel => exact ⟨k + 1, _, by omega, by go_num, rfl, by omega, by omega⟩
          case measure => simp [intOf]; omega
    · go_wp2
      go_ret
      exact ⟨_, rfl, rfl⟩

end Go.Proofs.Qxb6614221a
