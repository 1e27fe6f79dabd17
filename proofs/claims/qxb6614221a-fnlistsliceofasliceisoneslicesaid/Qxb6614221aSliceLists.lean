import Derived.Test.Qxb6614221aLeaf
namespace Go.Proofs.Qxb6614221a

theorem flat_one (cs : List (Nat × List Value)) (f a c : Nat) (x : Nat × List Value) (hx : cs[f]? = some x) (hc : c < x.2.length) (_hac : a ≤ c) :
    ((flat cs).drop (endAt cs f + a)).take (c + 1 - a) = (x.2.drop a).take (c + 1 - a) := by
  rw [flat_split cs f x hx, endAt, List.drop_append, List.drop_of_length_le (by omega), List.nil_append, Nat.add_sub_cancel_left, List.drop_append, List.take_append_of_le_length (by simp; omega)]

theorem drop_split (cs : List (Nat × List Value)) (f l : Nat) (y : Nat × List Value) (hfl : f < l) (hy : cs[l]? = some y) : cs.drop (f + 1) = (cs.drop (f + 1)).take (l - f - 1) ++ y :: cs.drop (l + 1) := by
  obtain ⟨hl, rfl⟩ := List.getElem?_eq_some_iff.1 hy
  have e : cs[l] :: cs.drop (l + 1) = (cs.drop (f + 1)).drop (l - f - 1) := by
    rw [List.drop_drop, show f + 1 + (l - f - 1) = l by omega, List.getElem_cons_drop]
  rw [e, List.take_append_drop]

theorem part_split (cs : List (Nat × List Value)) (f l : Nat) (x y : Nat × List Value) (hfl : f < l) (hx : cs[f]? = some x) (hy : cs[l]? = some y) :
    (cs.drop f).take (l + 1 - f) = x :: ((cs.drop (f + 1)).take (l - f - 1) ++ [y]) := by
  obtain ⟨hf, rfl⟩ := List.getElem?_eq_some_iff.1 hx
  have hl := (List.getElem?_eq_some_iff.1 hy).1
  rw [← List.getElem_cons_drop hf, show l + 1 - f = (l - f) + 1 by omega, List.take_succ_cons]
  congr 1
  conv => lhs; rw [drop_split cs f l y hfl hy]
  have hlen : ((cs.drop (f + 1)).take (l - f - 1)).length = l - f - 1 := by simp; omega
  rw [List.take_append, List.take_of_length_le (by omega), hlen, show l - f - (l - f - 1) = 1 by omega]
  rfl

theorem part_one (cs : List (Nat × List Value)) (f : Nat) (x : Nat × List Value) (hx : cs[f]? = some x) : (cs.drop f).take (f + 1 - f) = [x] := by
  obtain ⟨hf, rfl⟩ := List.getElem?_eq_some_iff.1 hx
  rw [← List.getElem_cons_drop hf, show f + 1 - f = 1 by omega]
  rfl

theorem endAt_two (cs : List (Nat × List Value)) (f l : Nat) (x y : Nat × List Value) (hfl : f < l) (hx : cs[f]? = some x) (hy : cs[l]? = some y) :
    endAt cs l = endAt cs f + x.2.length + (flat ((cs.drop (f + 1)).take (l - f - 1))).length := by
  obtain ⟨hf, rfl⟩ := List.getElem?_eq_some_iff.1 hx
  have hl := (List.getElem?_eq_some_iff.1 hy).1
  have e : cs.take l = cs.take f ++ (cs[f] :: (cs.drop (f + 1)).take (l - f - 1)) := by
    have h1 : cs.take l = cs.take f ++ (cs.drop f).take (l - f) := by
      rw [← List.take_add, show f + (l - f) = l by omega]
    rw [h1, ← List.getElem_cons_drop hf, show l - f = (l - f - 1) + 1 by omega, List.take_succ_cons]
    simp
  rw [endAt, e, flat_append, flat_cons, endAt]
  simp
  omega

theorem flat_two (cs : List (Nat × List Value)) (f l a c : Nat) (x y : Nat × List Value) (hfl : f < l) (hx : cs[f]? = some x) (hy : cs[l]? = some y) (ha : a ≤ x.2.length) (hc : c < y.2.length) :
    ((flat cs).drop (endAt cs f + a)).take (endAt cs l + c + 1 - (endAt cs f + a)) = x.2.drop a ++ (flat ((cs.drop (f + 1)).take (l - f - 1)) ++ y.2.take (c + 1)) := by
  have e2 := endAt_two cs f l x y hfl hx hy
  rw [flat_split cs f x hx]
  have e1 : flat (cs.drop (f + 1)) = flat ((cs.drop (f + 1)).take (l - f - 1)) ++ (y.2 ++ flat (cs.drop (l + 1))) := by
    conv => lhs; rw [drop_split cs f l y hfl hy]
    rw [flat_append, flat_cons]
  rw [e1, e2]
  generalize flat ((cs.drop (f + 1)).take (l - f - 1)) = M
  generalize flat (cs.drop (l + 1)) = Q
  rw [show endAt cs f = (flat (cs.take f)).length from rfl]
  generalize flat (cs.take f) = P
  rw [List.drop_append, List.drop_of_length_le (by omega), List.nil_append, Nat.add_sub_cancel_left, List.drop_append, show a - x.2.length = 0 by omega, List.drop_zero]
  rw [show P.length + x.2.length + M.length + c + 1 - (P.length + a) = (x.2.drop a).length + (M.length + (c + 1)) by simp; omega]
  rw [List.take_length_add_append, List.take_length_add_append, List.take_append_of_le_length (by omega)]

end Go.Proofs.Qxb6614221a
