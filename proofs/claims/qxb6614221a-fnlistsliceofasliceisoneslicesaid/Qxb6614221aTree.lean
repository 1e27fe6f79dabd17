import Derived.WalkKit
import Derived.Deep.Draws
/-! What a tree of 'seqNode's in memory is: plain predicates on worlds. 'S': the blocks that it lies in. -/
namespace Go.Proofs.Qxb6614221a
open Go.RowKit

theorem hide {p : Prop} (h : p) : Hid p := h

/-- The cells from ⟨b, o⟩ on hold xs. -/
def Arr (w : World) (S : Nat → Prop) (b o : Nat) (xs : List Value) : Prop :=
  S b ∧ ∀ i v, xs[i]? = some v → w.cell? ⟨b, o + i, none⟩ = some v

def ptrs (cs : List (Nat × List Value)) : List Value := cs.map fun c => .pointer (some ⟨c.1, 0, none⟩)
def flat (cs : List (Nat × List Value)) : List Value := cs.flatMap (·.2)
def endAt (cs : List (Nat × List Value)) (k : Nat) : Nat := (flat (cs.take k)).length

/-- The block b holds a node of height h over the elements es. -/
def Node (w : World) (S : Nat → Prop) : Nat → Nat → List Value → Prop
  | 0, b, es => S b ∧ es ≠ [] ∧ ∃ eb eo cap, w.cell? ⟨b, 0, none⟩ = some (.slice (some ⟨eb, eo, none⟩) es.length cap) ∧
      w.cell? ⟨b, 1, none⟩ = some (.slice none 0 0) ∧ w.cell? ⟨b, 2, none⟩ = some (.slice none 0 0) ∧ es.length ≤ cap ∧ cap ≤ maxLen ∧ Arr w S eb eo es
  | h + 1, b, es => S b ∧ ∃ (cs : List (Nat × List Value)) (cb co ccap nb no ncap : Nat), cs ≠ [] ∧ es = flat cs ∧ w.cell? ⟨b, 0, none⟩ = some (.slice none 0 0) ∧
      w.cell? ⟨b, 1, none⟩ = some (.slice (some ⟨cb, co, none⟩) cs.length ccap) ∧ w.cell? ⟨b, 2, none⟩ = some (.slice (some ⟨nb, no, none⟩) cs.length ncap) ∧
      cs.length ≤ ccap ∧ ccap ≤ maxLen ∧ cs.length ≤ ncap ∧ ncap ≤ maxLen ∧
      Arr w S cb co (ptrs cs) ∧ S nb ∧ (∀ i, i < cs.length → w.cell? ⟨nb, no + i, none⟩ = some (.int .i64 (endAt cs (i + 1)))) ∧
      ∀ c ∈ cs, Node w S h c.1 c.2

/-- On the blocks of S that are there, w' reads as w. -/
def Agree (S : Nat → Prop) (w w' : World) : Prop := ∀ b o, S b → b < w.heap.size → w'.cell? ⟨b, o, none⟩ = w.cell? ⟨b, o, none⟩

theorem Agree.trans {S : Nat → Prop} {a b c : World} (h : Agree S a b) (k : Agree S b c) (hs : a.heap.size ≤ b.heap.size) : Agree S a c :=
  fun x o hx hl => (k x o hx (by omega)).trans (h x o hx hl)

theorem Agree.get {S : Nat → Prop} {w w' : World} (h : Agree S w w') {b o : Nat} {v : Value} (hb : S b) (hc : w.cell? ⟨b, o, none⟩ = some v) : w'.cell? ⟨b, o, none⟩ = some v :=
  (h b o hb (World.block_lt_of_cell? w _ hc)).trans hc

theorem Agree.mono {S T : Nat → Prop} {w w' : World} (h : Agree T w w') (hs : ∀ b, S b → T b) : Agree S w w' := fun b o hb hl => h b o (hs b hb) hl

theorem Agree.of_below {S : Nat → Prop} {w w' : World} (h : Below w.heap.size w w') : Agree S w w' := fun _ _ _ hl => h.cell hl

theorem Agree.of_grown {S : Nat → Prop} {w w' : World} {g : Nat} (h : w.grownBy w' (some g)) (hg : ∀ b, S b → b ≠ g) : Agree S w w' :=
  fun b _ hb hl => World.cell?_of_block (h.block b hl (by simpa using hg b hb))

theorem Agree.of_grown_none {S : Nat → Prop} {w w' : World} (h : w.grownBy w' none) : Agree S w w' :=
  fun b _ _ hl => World.cell?_of_block (h.block b hl (by simp))

theorem Agree.of_setCell {S : Nat → Prop} {w : World} {a : Addr} (u : Value) (ha : ¬ S a.block) : Agree S w (w.setCell a u) :=
  fun b _ hb _ => World.cell?_of_block (Below.heap_setCell _ _ _ _ (fun e => ha (by have e' : b = a.block := e; rw [← e']; exact hb)))

theorem Agree.of_alloc {S : Nat → Prop} {w : World} (o : Obj) : Agree S w (w.alloc o) :=
  fun _ _ _ hl => World.cell?_of_block (Below.heap_alloc _ _ _ hl)

theorem bdrewN {B : Nat} {a w : World} (h : Below B a w) (n : Nat) : Below B a (w.drewN n) := ⟨h.os, h.tape, h.output, h.size, h.block⟩

theorem Arr.frame {w w' : World} {S : Nat → Prop} {b o : Nat} {xs : List Value} (h : Arr w S b o xs) (hA : Agree S w w') : Arr w' S b o xs :=
  ⟨h.1, fun i v hi => hA.get h.1 (h.2 i v hi)⟩

theorem Arr.mono {w : World} {S T : Nat → Prop} {b o : Nat} {xs : List Value} (h : Arr w S b o xs) (hs : ∀ b, S b → T b) : Arr w T b o xs := ⟨hs _ h.1, h.2⟩

theorem Arr.drewN {w : World} {S : Nat → Prop} {b o : Nat} {xs : List Value} (h : Arr w S b o xs) (n : Nat) : Arr (w.drewN n) S b o xs := h

theorem Node.frame {w w' : World} {S : Nat → Prop} (hA : Agree S w w') : ∀ (h b : Nat) (es : List Value), Node w S h b es → Node w' S h b es := by
  intro h
  induction h with
  | zero =>
    rintro b es ⟨hb, hne, eb, eo, cap, c0, c1, c2, hc, hm, ha⟩
    exact ⟨hb, hne, eb, eo, cap, hA.get hb c0, hA.get hb c1, hA.get hb c2, hc, hm, ha.frame hA⟩
  | succ h ih =>
    rintro b es ⟨hb, cs, cb, co, ccap, nb, no, ncap, hne, he, c0, c1, c2, l1, l2, l3, l4, ha, hn, hends, hk⟩
    exact ⟨hb, cs, cb, co, ccap, nb, no, ncap, hne, he, hA.get hb c0, hA.get hb c1, hA.get hb c2, l1, l2, l3, l4, ha.frame hA, hn, fun i hi => hA.get hn (hends i hi), fun c hc => ih _ _ (hk c hc)⟩

theorem Node.mono {w : World} {S T : Nat → Prop} (hs : ∀ b, S b → T b) : ∀ (h b : Nat) (es : List Value), Node w S h b es → Node w T h b es := by
  intro h
  induction h with
  | zero =>
    rintro b es ⟨hb, hne, eb, eo, cap, c0, c1, c2, hc, hm, ha⟩
    exact ⟨hs _ hb, hne, eb, eo, cap, c0, c1, c2, hc, hm, ha.mono hs⟩
  | succ h ih =>
    rintro b es ⟨hb, cs, cb, co, ccap, nb, no, ncap, hne, he, c0, c1, c2, l1, l2, l3, l4, ha, hn, hends, hk⟩
    exact ⟨hs _ hb, cs, cb, co, ccap, nb, no, ncap, hne, he, c0, c1, c2, l1, l2, l3, l4, ha.mono hs, hs _ hn, hends, fun c hc => ih _ _ (hk c hc)⟩

theorem flat_append (a b : List (Nat × List Value)) : flat (a ++ b) = flat a ++ flat b := by simp [flat]
theorem flat_cons (c : Nat × List Value) (b : List (Nat × List Value)) : flat (c :: b) = c.2 ++ flat b := by simp [flat]
theorem flat_nil : flat [] = [] := rfl
theorem ptrs_append (a b : List (Nat × List Value)) : ptrs (a ++ b) = ptrs a ++ ptrs b := by simp [ptrs]
theorem ptrs_length (a : List (Nat × List Value)) : (ptrs a).length = a.length := by simp [ptrs]

theorem Node.ne_nil {w : World} {S : Nat → Prop} : ∀ (h b : Nat) (es : List Value), Node w S h b es → es ≠ [] := by
  intro h
  induction h with
  | zero => rintro b es ⟨_, hne, _⟩; exact hne
  | succ h ih =>
    rintro b es ⟨hb, cs, cb, co, ccap, nb, no, ncap, hne, he, _, _, _, _, _, _, _, _, _, _, hk⟩
    match cs, hne with
    | c :: cs, _ =>
      have := ih _ _ (hk c (by simp))
      rw [he, flat_cons]
      simp [this]

theorem endAt_succ (cs : List (Nat × List Value)) (k : Nat) (c : Nat × List Value) (h : cs[k]? = some c) : endAt cs (k + 1) = endAt cs k + c.2.length := by
  unfold endAt
  rw [List.take_add_one, h]
  simp [flat]

theorem endAt_zero (cs : List (Nat × List Value)) : endAt cs 0 = 0 := by simp [endAt, flat]

theorem endAt_all (cs : List (Nat × List Value)) : endAt cs cs.length = (flat cs).length := by simp [endAt]

theorem endAt_mono (cs : List (Nat × List Value)) {i j : Nat} (h : i ≤ j) : endAt cs i ≤ endAt cs j := by
  unfold endAt
  have e : cs.take j = cs.take i ++ (cs.take j).drop i := by
    rw [show cs.take i = (cs.take j).take i by rw [List.take_take, Nat.min_eq_left h]]
    exact (List.take_append_drop i _).symm
  rw [e, flat_append]
  simp

theorem endAt_le (cs : List (Nat × List Value)) (k : Nat) : endAt cs k ≤ (flat cs).length := by
  rcases Nat.le_total k cs.length with h | h
  · rw [← endAt_all]; exact endAt_mono cs h
  · unfold endAt; rw [List.take_of_length_le h]; exact Nat.le_refl _

end Go.Proofs.Qxb6614221a
