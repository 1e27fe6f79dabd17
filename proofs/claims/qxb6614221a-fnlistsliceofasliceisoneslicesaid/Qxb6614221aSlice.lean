import Derived.Test.Qxb6614221aClone
import Derived.Test.Qxb6614221aLeaf
import Derived.Deep.DeepCutAuto
import Derived.Deep.RegionWith
namespace Go.Proofs.Qxb6614221a
open Go.RowKit

def SliceOut (S : Nat → Prop) (h : Nat) (seg : List Value) (w : World) (e : Ending) (w' : World) : Prop :=
  ∃ b' : Nat, e = .returned (.pointer (some ⟨b', 0, none⟩)) ∧ Node w' (fun x => S x ∨ w.heap.size ≤ x) h b' seg ∧ Below w.heap.size w w'

def SliceSaid (h : Nat) : Prop := ∀ (S : Nat → Prop) (b lo hi : Nat) (es : List Value) (w : World), es.length ≤ 1048576 → lo < hi → hi ≤ es.length → Node w S h b es →
  Calls Try.prog 35 #[.pointer (some ⟨b, 0, none⟩), .int .i64 lo, .int .i64 hi] w (SliceOut S h ((es.drop lo).take (hi - lo)) w)

theorem Agree.of_drewN {S : Nat → Prop} {w : World} (q : Nat) : Agree S w (w.drewN q) := fun _ _ _ _ => rfl

/-- The whole node: it is handed back. -/
theorem slice_whole {S : Nat → Prop} (h b : Nat) (es : List Value) (w : World) (hN : Node w S h b es) :
    Calls Try.prog 35 #[.pointer (some ⟨b, 0, none⟩), .int .i64 0, .int .i64 es.length] w (SliceOut S h es w) := by
  have HN := hide hN
  clear hN
  go_enter Try.func35, Try.ntmps35
  go_wp2_with fail
  refine (len30 h b es w HN.out).mono ?_
  rintro e w1 ⟨rfl, q, rfl⟩
  go_wp2
  go_ret
  exact ⟨b, rfl, Node.mono (fun _ hx => .inl hx) _ _ _ (Node.frame (Agree.of_drewN q) _ _ _ HN.out), bdrewN (Below.refl _ _) q⟩

/-- A new leaf over a part of a row. -/
theorem leaf_new {S : Nat → Prop} {w : World} {eb eo n : Nat} {seg : List Value} (hA : Arr w S eb eo seg) (hne : seg ≠ []) (hn : n = seg.length) (hm : n ≤ maxLen) :
    Node (w.alloc (.cells #[.slice (some ⟨eb, eo, none⟩) n n, .slice none 0 0, .slice none 0 0] 85)) (fun x => S x ∨ w.heap.size ≤ x) 0 w.heap.size seg := by
  subst hn
  refine ⟨.inr (Nat.le_refl _), hne, eb, eo, seg.length, ?_, ?_, ?_, Nat.le_refl _, hm, ((hA.frame (Agree.of_alloc _)).mono fun _ hx => .inl hx)⟩ <;> rw [cell_new] <;> rfl

set_option maxRecDepth 100000 in
/-- Part of a leaf. -/
theorem slice_leaf {S : Nat → Prop} (b lo hi : Nat) (es : List Value) (w : World) (hbig : es.length ≤ 1048576) (hlt : lo < hi) (hhi : hi ≤ es.length) (hnot : ¬ (lo = 0 ∧ hi = es.length)) (hN : Node w S 0 b es) :
    Calls Try.prog 35 #[.pointer (some ⟨b, 0, none⟩), .int .i64 lo, .int .i64 hi] w (SliceOut S 0 ((es.drop lo).take (hi - lo)) w) := by
  have HN := hide hN
  obtain ⟨hb, hne, eb, eo, cap, c0, c1, c2, hc, hm, ha⟩ := hN
  have hq := nil82
  unfold maxLen at hm
  go_enter Try.func35, Try.ntmps35
  go_upto_region 1 with fail
  go_cut [19] (fun v wc => v = .bool false ∧ ∃ q, wc = w.drewN q)
  case first =>
    by_cases h0 : lo = 0
    · subst h0
      have hneq : ((hi : Int) == (es.length : Int)) = false := by
        rw [beq_eq_false_iff_ne]; intro e; exact hnot ⟨rfl, by omega⟩
      go_wp2_with fail
      refine (len30 0 b es w HN.out).mono ?_
      rintro e w1 ⟨rfl, q, rfl⟩
      go_wp2
      go_meet
      case rel => exact ⟨rfl, q, rfl⟩
    · have hlo : ((lo : Int) == 0) = false := by rw [beq_eq_false_iff_ne]; omega
      go_wp2
      go_meet
      case rel => exact ⟨rfl, 0, rfl⟩
  case rest =>
    obtain ⟨rfl, q, rfl⟩ := hcut
    have Ha := hide ha
    have Hne := hide hne
    clear HN ha hne hnot c2
    go_wp2
    go_ret
    refine ⟨w.heap.size, rfl, leaf_new (w := w.drewN q) ⟨Ha.out.1, fun i v hv => ?_⟩ ?_ ?_ ?_, (bdrewN (Below.refl _ _) q).alloc (Nat.le_refl _) _⟩
    · rw [List.getElem?_take] at hv
      split at hv
      · rw [List.getElem?_drop] at hv
        rw [Nat.add_assoc]
        exact Ha.out.2 _ _ hv
      · simp at hv
    · intro e; have := congrArg List.length e; simp at this; omega
    · simp; omega
    · unfold maxLen; omega

end Go.Proofs.Qxb6614221a
