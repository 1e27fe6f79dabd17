import Derived.Test.Qxb6614221aStr
import Derived.Test.Qxb6614221aTree
import Derived.Deep.QuietTactic
import Derived.BigQuiet
import Derived.Lib.SliceRun
namespace Go.Proofs.Qxb6614221a
open Go.RowKit

theorem nil82 (w : World) (a : Option Addr) (n c n' c' : Nat) : (binOp .eql 82 (.slice a n c) (.slice none n' c')).run Try.prog w = .ok (.bool a.isNone) w := Lib.run_eql_slice_nil w _ _ a n c n' c' Try.underlying82

theorem len30_leaf (b n cap : Nat) (a : Option Addr) (w : World) (c0 : w.cell? ⟨b, 0, none⟩ = some (.slice a n cap)) (c1 : w.cell? ⟨b, 1, none⟩ = some (.slice none 0 0)) :
    Calls Try.prog 30 #[.pointer (some ⟨b, 0, none⟩)] w fun e w' => e = .returned (.int .i64 n) ∧ w' = w := by
  have hq := nil82
  go_enter Try.func30, Try.ntmps30
  go_wp2
  go_ret
  exact ⟨rfl, rfl⟩

theorem len30_par (b cb co n ccap nb no ncap : Nat) (x : Int) (hn : 0 < n) (hm : n ≤ maxLen) (w : World) (c1 : w.cell? ⟨b, 1, none⟩ = some (.slice (some ⟨cb, co, none⟩) n ccap))
    (c2 : w.cell? ⟨b, 2, none⟩ = some (.slice (some ⟨nb, no, none⟩) n ncap)) (ce : w.cell? ⟨nb, no + (n - 1), none⟩ = some (.int .i64 x)) :
    Calls Try.prog 30 #[.pointer (some ⟨b, 0, none⟩)] w fun e w' => e = .returned (.int .i64 x) ∧ ∃ q, w' = w.drewN q := by
  have hq := nil82
  unfold maxLen at hm
  obtain ⟨m, rfl⟩ : ∃ m, n = m + 1 := ⟨n - 1, by omega⟩
  rw [show m + 1 - 1 = m from rfl] at ce
  have hb1 : (m : Int) < (m : Int) + 1 := by omega
  have hb2 : (0 : Int) ≤ (m : Int) := by omega
  have hwm : IntKind.i64.wrap (m : Int) = m := IntWalk.i64_in _ (by omega)
  go_enter Try.func30, Try.ntmps30
  go_wp2
  go_quiet (fail)
  go_wp2
  go_ret
  exact ⟨rfl, _, rfl⟩

/-- 'n.len()': how many elements lie under the node. -/
theorem len30 {S : Nat → Prop} (h b : Nat) (es : List Value) (w : World) (hN : Node w S h b es) :
    Calls Try.prog 30 #[.pointer (some ⟨b, 0, none⟩)] w fun e w' => e = .returned (.int .i64 es.length) ∧ ∃ q, w' = w.drewN q := by
  match h, hN with
  | 0, ⟨_, _, eb, eo, cap, c0, c1, _⟩ => exact (len30_leaf b es.length cap _ w c0 c1).mono fun e w' ⟨h1, h2⟩ => ⟨h1, 0, h2⟩
  | h + 1, ⟨_, cs, cb, co, ccap, nb, no, ncap, hne, he, _, c1, c2, l1, l2, _, _, _, _, hends, _⟩ =>
    have hpos : 0 < cs.length := List.length_pos_iff.2 hne
    have hx := hends (cs.length - 1) (by omega)
    rw [show cs.length - 1 + 1 = cs.length by omega, endAt_all, ← he] at hx
    exact len30_par b cb co cs.length ccap nb no ncap es.length hpos (by omega) w c1 c2 hx

end Go.Proofs.Qxb6614221a
