import Derived.Test.Qxb6614221aRows
import Derived.WalkKit
import Derived.WalkSpells
import Derived.WalkLawsBesides
namespace Go.Proofs.Qxb6614221a.FnWalk
open Go.RowKit

/-- The walk behind block b has nothing due, nothing open, and x brackets to write. -/
structure St (w : World) (b : Nat) (x : Int) : Prop where
  open0 : w.cell? ⟨b, 18, none⟩ = some (.int .i64 0)
  due0 : w.cell? ⟨b, 22, none⟩ = some (.bool false)
  closes : w.cell? ⟨b, 23, none⟩ = some (.int .i64 x)
  free : w.frozen? ⟨b, 23, none⟩ = false

/-- A run of n closing brackets. -/
def Brk (p : ByteArray) (n : Nat) : Prop := p.size = n ∧ ∀ j (h : j < p.size), p[j] = 93

def UpOut (b x : Nat) (w : World) (e : Ending) (w' : World) : Prop :=
  ∃ p, e = .returned (.string p) ∧ Brk p (min x 32) ∧ w' = w.setCell ⟨b, 23, none⟩ (.int .i64 ((x - min x 32 : Nat) : Int))

def lit : ByteArray := ⟨#[93, 93, 93, 93, 93, 93, 93, 93, 93, 93, 93, 93, 93, 93, 93, 93, 93, 93, 93, 93, 93, 93, 93, 93, 93, 93, 93, 93, 93, 93, 93, 93]⟩
theorem lit_at : ∀ j (h : j < lit.size), lit[j] = 93 := by decide

theorem brk_lit (n : Nat) (h : n ≤ 32) : Brk (ByteArray.extract ⟨#[93, 93, 93, 93, 93, 93, 93, 93, 93, 93, 93, 93, 93, 93, 93, 93, 93, 93, 93, 93, 93, 93, 93, 93, 93, 93, 93, 93, 93, 93, 93, 93]⟩ 0 n) n := by
  have hsz : (ByteArray.extract lit 0 n).size = n := by
    rw [ByteArray.size_extract]
    have : lit.size = 32 := rfl
    omega
  refine ⟨hsz, fun j hj => ?_⟩
  have e : (ByteArray.extract lit 0 n)[j]'hj = lit[0 + j]'(by have : lit.size = 32 := rfl; have h2 : j < (ByteArray.extract lit 0 n).size := hj; omega) := ByteArray.getElem_extract ..
  exact e.trans (lit_at _ _)

set_option maxRecDepth 100000 in
theorem upTo28_some (b x : Nat) (w : World) (hx : 0 < x) (hm : x ≤ 65536) (hS : St w b x) : Calls Try.prog 28 #[.pointer (some ⟨b, 0, none⟩)] w (UpOut b x w) := by
  obtain ⟨h1, h2, h3, h4⟩ := hS
  by_cases hlt : x ≤ 32
  · go_enter Try.func28, Try.ntmps28
    go_wp2_with fail
    refine wp_loop_rounds 1 ?_
    rw [rounds_succ]
    go_wp2
    go_ret
    exact ⟨_, rfl, by rw [show min x 32 = x by omega]; exact brk_lit x (by omega), by rw [show x - min x 32 = 0 by omega]; rfl⟩
  · go_enter Try.func28, Try.ntmps28
    go_wp2_with fail
    refine wp_loop_rounds 1 ?_
    rw [rounds_succ]
    go_wp2
    go_ret
    refine ⟨_, rfl, ?_, ?_⟩
    · rw [show min x 32 = 32 by omega]; exact brk_lit 32 (by omega)
    · rw [show ((x - min x 32 : Nat) : Int) = (x : Int) - 32 by omega]

set_option maxRecDepth 100000 in
theorem upTo28_none (b : Nat) (w : World) (hS : St w b 0) : Calls Try.prog 28 #[.pointer (some ⟨b, 0, none⟩)] w fun e w' => e = .returned (.string ⟨#[]⟩) ∧ w = w' := by
  obtain ⟨h1, h2, h3, h4⟩ := hS
  go_enter Try.func28, Try.ntmps28
  go_wp2_with fail
  refine wp_loop_rounds 1 ?_
  rw [rounds_succ]
  go_wp2
  go_ret
  exact ⟨rfl, rfl⟩

theorem upTo21_some (b x : Nat) (w : World) (hx : 0 < x) (hm : x ≤ 65536) (hS : St w b x) : Calls Try.prog 21 #[.pointer (some ⟨b, 0, none⟩)] w (UpOut b x w) := by
  have HS : Hid (St w b x) := hS
  clear hS
  go_enter Try.func21, Try.ntmps21
  go_wp2_with fail
  refine (upTo28_some b x w hx hm HS.out).mono ?_
  rintro e w1 ⟨p, rfl, hp, hw⟩
  subst hw
  go_wp2
  go_ret
  exact ⟨p, rfl, hp, rfl⟩

theorem upTo21_none (b : Nat) (w : World) (hS : St w b 0) : Calls Try.prog 21 #[.pointer (some ⟨b, 0, none⟩)] w fun e w' => e = .returned (.string ⟨#[]⟩) ∧ w = w' := by
  have HS : Hid (St w b 0) := hS
  clear hS
  go_enter Try.func21, Try.ntmps21
  go_wp2_with fail
  refine (upTo28_none b w HS.out).mono ?_
  rintro e w1 ⟨rfl, rfl⟩
  go_wp2
  go_ret
  exact ⟨rfl, rfl⟩

theorem closes22 (b : Nat) (x : Int) (w : World) (h : w.cell? ⟨b, 23, none⟩ = some (.int .i64 x)) : Calls Try.prog 22 #[.pointer (some ⟨b, 0, none⟩)] w fun e w' => e = .returned (.int .i64 x) ∧ w = w' := by
  go_enter Try.func22, Try.ntmps22
  go_wp2
  go_ret
  exact ⟨rfl, rfl⟩

def NewOut (x : Int) (w : World) (e : Ending) (w' : World) : Prop := e = .returned (.pointer (some ⟨w.heap.size, 0, none⟩)) ∧ St w' w.heap.size x ∧ Below w.heap.size w w'

theorem new20 (x : Int) (ids : Bool) (w : World) : Calls Try.prog 20 #[.int .i64 x, .bool ids] w (NewOut x w) := by
  go_enter Try.func20, Try.ntmps20
  go_wp2
  go_ret
  refine ⟨rfl, ⟨?_, ?_, ?_, ?_⟩, (Below.refl _ _).alloc (Nat.le_refl _) _⟩ <;> simp

end Go.Proofs.Qxb6614221a.FnWalk
