import Derived.Test.Qxb6614221aSlicePar
namespace Go.Proofs.Qxb6614221a
open Go.RowKit

def RootOut (S : Nat → Prop) (seg : List Value) (w : World) (e : Ending) (w' : World) : Prop :=
  ∃ p, e = .returned (.agg #[.pointer p]) ∧ Root w' (fun x => S x ∨ w.heap.size ≤ x) p seg ∧ Below w.heap.size w w'

theorem Node.below {w w' : World} {S : Nat → Prop} {h b : Nat} {es : List Value} (hN : Node w S h b es) (hb : Below w.heap.size w w') : Node w' (fun x => S x ∧ x < w.heap.size) h b es :=
  Node.frame (Agree.of_below hb) _ _ _ (Node.lt _ _ _ hN)

set_option maxRecDepth 100000 in
set_option maxHeartbeats 400000 in
/-- 's.slice(lo, hi)', something is left. -/
theorem seqSlice29_some {S : Nat → Prop} (h b lo hi : Nat) (es : List Value) (w : World) (hbig : es.length ≤ 1048576) (hlt : lo < hi) (hhi : hi ≤ es.length) (hN : Node w S h b es) :
    Calls Try.prog 29 #[.agg #[.pointer (some ⟨b, 0, none⟩)], .int .i64 lo, .int .i64 hi] w (RootOut S ((es.drop lo).take (hi - lo)) w) := by
  have hneq : ((lo : Int) == (hi : Int)) = false := by rw [beq_eq_false_iff_ne]; omega
  have HN := hide hN
  clear hN
  go_enter Try.func29, Try.ntmps29
  go_wp2_with fail
  refine (slice35 h _ b lo hi es _ hbig hlt hhi (HN.out.below (((Below.refl _ _).alloc (Nat.le_refl _) _).alloc (by simp) _))).mono ?_
  rintro e w2 ⟨b2, rfl, hN2, hb2⟩
  have hres : w2.cell? ⟨w.heap.size + 1, 0, none⟩ = some (.pointer none) := by
    rw [hb2.cell (by simp)]
    simp
  have hfrz : w2.frozen? ⟨w.heap.size + 1, 0, none⟩ = false := by
    rw [hb2.frozen (by simp)]
    simp
  have HN2 := hide hN2
  have Hb2 := hide hb2
  clear hN2 hb2
  go_wp2_with fail
  go_loopg [7] h (fun k p wr => w2 = wr ∧ ∃ b3 : Nat, p = .pointer (some ⟨b3, 0, none⟩) ∧ Node w2 (fun x => (S x ∧ x < w.heap.size) ∨ w.heap.size + 2 ≤ x) k b3 ((es.drop lo).take (hi - lo)))
  case atStart => exact ⟨rfl, b2, rfl, by simpa using HN2.out⟩
  case round =>
    obtain ⟨rfl, b3, rfl, hN3⟩ := hrel
    clear HN2
    have fin : ∃ p, (Ending.returned (.agg #[.pointer (some ⟨b3, 0, none⟩)])) = .returned (.agg #[.pointer p]) ∧ Root (w2.setCell ⟨w.heap.size + 1, 0, none⟩ (.pointer (some ⟨b3, 0, none⟩))) (fun x => S x ∨ w.heap.size ≤ x) p ((es.drop lo).take (hi - lo)) ∧
        Below w.heap.size w (w2.setCell ⟨w.heap.size + 1, 0, none⟩ (.pointer (some ⟨b3, 0, none⟩))) := by
      refine ⟨_, rfl, .inr ⟨gk, b3, rfl, ?_⟩, ?_⟩
      · have hf := Node.frame (Agree.of_setCell (w := w2) (a := ⟨w.heap.size + 1, 0, none⟩) (.pointer (some ⟨b3, 0, none⟩)) (by show ¬ ((S (w.heap.size + 1) ∧ w.heap.size + 1 < w.heap.size) ∨ w.heap.size + 2 ≤ w.heap.size + 1); rintro (⟨_, h⟩ | h) <;> omega)) _ _ _ hN3
        exact Node.mono (fun y hy => hy.elim (fun h => .inl h.1) (fun h => .inr (by omega))) _ _ _ hf
      · exact ((((Below.refl _ _).alloc (Nat.le_refl _) _).alloc (by simp) _).trans (Hb2.out.mono (by simp; omega))).setCell (p := ⟨w.heap.size + 1, 0, none⟩) (by simp) _
    have Hfin := hide fin
    clear fin
    rcases gk with _ | k
    · obtain ⟨_, _, eb, eo, cap, c0, c1, _⟩ := hN3
      go_wp2
      exact bodyPost_ret (v := .agg #[.pointer (some ⟨b3, 0, none⟩)]) (by simp [results, Try.results29, go_sem, hres]) rfl Hfin.out
    · obtain ⟨_, cs, cb, co, ccap, nb, no, ncap, hne, he, _, c1, c2, l1, l2, _, _, hA, _, hends, hk⟩ := hN3
      have hcl : cs.length ≤ (flat cs).length := length_le_flat cs hk
      have hcl2 : cs.length ≤ 1048576 := by rw [← he] at hcl; simp at hcl; omega
      have HA := hide hA
      have Hk := hide hk
      have He := hide he
      clear hA hk he hends hne hcl c2
      by_cases hone : cs.length = 1
      · obtain ⟨c, rfl⟩ := List.length_eq_one_iff.1 hone
        have hce : w2.cell? ⟨cb, co, none⟩ = some (.pointer (some ⟨c.1, 0, none⟩)) := HA.out.2 0 _ rfl
        have hN4 := Hk.out c (by simp)
        have he4 : (es.drop lo).take (hi - lo) = c.2 := by rw [He.out]; simp [flat]
        rw [← he4] at hN4
        have HN4 := hide hN4
        clear hN4 he4 Hk He HA hone
        have c1' : w2.cell? ⟨b3, 1, none⟩ = some (.slice (some ⟨cb, co, none⟩) 1 ccap) := c1
        clear c1
        generalize c.1 = b4 at *
        go_wp2
        go_roundg k
        case measure => omega
        case rel => exact ⟨rfl, b4, rfl, HN4.out⟩
      · have hone2 : ((cs.length : Int) == 1) = false := by rw [beq_eq_false_iff_ne]; omega
        go_wp2
        exact bodyPost_ret (v := .agg #[.pointer (some ⟨b3, 0, none⟩)]) (by simp [results, Try.results29, go_sem, hres]) rfl Hfin.out

/-- 's.slice(lo, lo)': nothing is left. -/
theorem seqSlice29_none {S : Nat → Prop} (p : Option Addr) (lo : Int) (w : World) :
    Calls Try.prog 29 #[.agg #[.pointer p], .int .i64 lo, .int .i64 lo] w (RootOut S [] w) := by
  have hneq : (lo == lo) = true := by simp
  go_enter Try.func29, Try.ntmps29
  go_wp2
  exact bodyPost_ret (v := .agg #[.pointer none]) (by simp [results, Try.results29, go_sem]) rfl ⟨none, rfl, .inl ⟨rfl, rfl⟩, by first | exact (((Below.refl _ _).alloc (Nat.le_refl _) _).alloc (by simp) _) | exact ((((Below.refl _ _).alloc (Nat.le_refl _) _).alloc (by simp) _).setCell (p := ⟨w.heap.size + 1, 0, none⟩) (by simp) _)⟩

theorem seqSlice29 {S : Nat → Prop} (p : Option Addr) (lo hi : Nat) (es : List Value) (w : World) (hbig : es.length ≤ 1048576) (hle : lo ≤ hi) (hhi : hi ≤ es.length) (hR : Root w S p es) :
    Calls Try.prog 29 #[.agg #[.pointer p], .int .i64 lo, .int .i64 hi] w (RootOut S ((es.drop lo).take (hi - lo)) w) := by
  by_cases h : lo = hi
  · subst h
    rw [Nat.sub_self, List.take_zero]
    exact seqSlice29_none p lo w
  · rcases hR with ⟨rfl, rfl⟩ | ⟨k, b, rfl, hN⟩
    · simp at hhi; omega
    · exact seqSlice29_some k b lo hi es w hbig (by omega) hhi hN

theorem RootOut.lift {S : Nat → Prop} {seg : List Value} {w w1 w2 : World} {p : Option Addr} {B : Nat} {u : Value} (hB : w1.heap.size = w.heap.size + 2) (hb1 : Below w.heap.size w w1) (hb2 : Below w1.heap.size w1 w2)
    (hR : Root w2 (fun x => (S x ∧ x < w.heap.size) ∨ w1.heap.size ≤ x) p seg) (hBe : B = w.heap.size + 1) :
    ∃ p', (Ending.returned (.agg #[.pointer p])) = .returned (.agg #[.pointer p']) ∧ Root (w2.setCell ⟨B, 0, none⟩ u) (fun x => S x ∨ w.heap.size ≤ x) p' seg ∧ Below w.heap.size w (w2.setCell ⟨B, 0, none⟩ u) := by
  subst hBe
  refine ⟨p, rfl, (hR.frame (Agree.of_setCell _ ?_)).mono ?_, (hb1.trans (hb2.mono (by omega))).setCell (p := ⟨w.heap.size + 1, 0, none⟩) (by simp) _⟩
  · show ¬ ((S (w.heap.size + 1) ∧ w.heap.size + 1 < w.heap.size) ∨ w1.heap.size ≤ w.heap.size + 1)
    rintro (⟨_, h⟩ | h) <;> omega
  · intro y hy
    rcases hy with h | h
    · exact .inl h.1
    · exact .inr (by omega)

theorem Root.below {w w' : World} {S : Nat → Prop} {p : Option Addr} {es : List Value} (hR : Root w S p es) (hb : Below w.heap.size w w') : Root w' (fun x => S x ∧ x < w.heap.size) p es :=
  hR.lt.frame (Agree.of_below hb)

set_option maxRecDepth 100000 in
/-- 'l.slice(lo, hi)'. -/
theorem listSlice23 {S : Nat → Prop} (p : Option Addr) (lo hi : Nat) (es : List Value) (w : World) (hbig : es.length ≤ 1048576) (hle : lo ≤ hi) (hhi : hi ≤ es.length) (hR : Root w S p es) :
    Calls Try.prog 23 #[.agg #[.pointer p], .int .i64 lo, .int .i64 hi] w (RootOut S ((es.drop lo).take (hi - lo)) w) := by
  have HR := hide hR
  clear hR
  go_enter Try.func23, Try.ntmps23
  go_wp2_with fail
  refine (seqSlice29 p lo hi es _ hbig hle hhi (HR.out.below (((Below.refl _ _).alloc (Nat.le_refl _) _).alloc (by simp) _))).mono ?_
  rintro e w2 ⟨p2, rfl, hR2, hb2⟩
  have hres : w2.cell? ⟨w.heap.size + 1, 0, none⟩ = some (.pointer none) := by
    rw [hb2.cell (by simp)]
    simp
  have hfrz : w2.frozen? ⟨w.heap.size + 1, 0, none⟩ = false := by
    rw [hb2.frozen (by simp)]
    simp
  have HR2 := hide hR2
  have Hb2 := hide hb2
  clear hR2 hb2
  go_wp2
  exact bodyPost_ret (v := .agg #[.pointer p2]) (by simp [results, Try.results23, go_sem, hres]) rfl (RootOut.lift (by simp) (((Below.refl _ _).alloc (Nat.le_refl _) _).alloc (by simp) _) Hb2.out HR2.out rfl)

set_option maxRecDepth 100000 in
/-- 'ZZlistSlice(l, lo, hi)'. -/
theorem listSlice14 {S : Nat → Prop} (p : Option Addr) (lo hi : Nat) (es : List Value) (w : World) (hbig : es.length ≤ 1048576) (hle : lo ≤ hi) (hhi : hi ≤ es.length) (hR : Root w S p es) :
    Calls Try.prog 14 #[.agg #[.pointer p], .int .i64 lo, .int .i64 hi] w (RootOut S ((es.drop lo).take (hi - lo)) w) := by
  have HR := hide hR
  clear hR
  go_enter Try.func14, Try.ntmps14
  go_wp2_with fail
  refine (listSlice23 p lo hi es _ hbig hle hhi (HR.out.below (((Below.refl _ _).alloc (Nat.le_refl _) _).alloc (by simp) _))).mono ?_
  rintro e w2 ⟨p2, rfl, hR2, hb2⟩
  have hres : w2.cell? ⟨w.heap.size + 1, 0, none⟩ = some (.pointer none) := by
    rw [hb2.cell (by simp)]
    simp
  have hfrz : w2.frozen? ⟨w.heap.size + 1, 0, none⟩ = false := by
    rw [hb2.frozen (by simp)]
    simp
  have HR2 := hide hR2
  have Hb2 := hide hb2
  clear hR2 hb2
  go_wp2
  exact bodyPost_ret (v := .agg #[.pointer p2]) (by simp [results, Try.results14, go_sem, hres]) rfl (RootOut.lift (by simp) (((Below.refl _ _).alloc (Nat.le_refl _) _).alloc (by simp) _) Hb2.out HR2.out rfl)

end Go.Proofs.Qxb6614221a
