import Derived.Test.Qxb6614221aSearch
import Derived.Test.Qxb6614221aNewList
import Derived.Deep.LoopGhost
namespace Go.Proofs.Qxb6614221a
open Go.RowKit

theorem flat_split (cs : List (Nat × List Value)) (c : Nat) (x : Nat × List Value) (h : cs[c]? = some x) : flat cs = flat (cs.take c) ++ (x.2 ++ flat (cs.drop (c + 1))) := by
  obtain ⟨hc, rfl⟩ := List.getElem?_eq_some_iff.1 h
  rw [← flat_cons, ← flat_append, List.getElem_cons_drop, List.take_append_drop]

theorem flat_get (cs : List (Nat × List Value)) (c j : Nat) (x : Nat × List Value) (h : cs[c]? = some x) (hj : j < x.2.length) : (flat cs)[endAt cs c + j]? = x.2[j]? := by
  rw [flat_split cs c x h, endAt, List.getElem?_append_right (by omega), Nat.add_sub_cancel_left, List.getElem?_append_left hj]

theorem neq82 (w : World) (a : Option Addr) (n c : Nat) : (binOp .neq 82 (.slice a n c) (.slice none 0 0)).run Try.prog w = .ok (.bool (!a.isNone)) w := run_neq_slice_nil w 82 27 a n c Try.underlying82

def LeafOut (S : Nat → Prop) (x : Option Value) (w : World) (e : Ending) (w' : World) : Prop :=
  ∃ (b j : Nat) (v6 v7 : Value) (seg : List Value), e = .returned (.tuple #[.pointer (some ⟨b, 0, none⟩), .int .i64 j, v6, v7]) ∧ w' = w ∧ Node w S 0 b seg ∧ j < seg.length ∧ seg[j]? = x

set_option maxRecDepth 100000 in
set_option maxHeartbeats 400000 in
/-- 'n.leaf(i)'. -/
theorem leaf31 {S : Nat → Prop} (h b i : Nat) (es : List Value) (w : World) (hbig : es.length ≤ 1048576) (hi : i < es.length) (hN : Node w S h b es) :
    Calls Try.prog 31 #[.pointer (some ⟨b, 0, none⟩), .int .i64 i] w (LeafOut S es[i]? w) := by
  have hq := neq82
  have HN := hide hN
  clear hN
  go_enter Try.func31, Try.ntmps31
  go_wp2_with fail
  go_loopg [0, 1, 6, 7] h (fun k p q _ _ wr => w = wr ∧ ∃ (b j : Nat) (seg : List Value), p = .pointer (some ⟨b, 0, none⟩) ∧ q = .int .i64 j ∧ Node w S k b seg ∧ j < seg.length ∧ seg[j]? = es[i]? ∧ seg.length ≤ 1048576)
  case atStart => exact ⟨rfl, b, i, es, rfl, rfl, HN.out, hi, rfl, hbig⟩
  case round =>
    obtain ⟨rfl, b, j, seg, rfl, rfl, hN, hj, hx, hsb⟩ := hrel
    clear HN
    have Hx := hide hx
    clear hx
    rcases gk with _ | k
    · have HN := hide hN
      obtain ⟨_, _, eb, eo, cap, c0, c1, _⟩ := hN
      go_wp2
      exact bodyPost_ret (v := .tuple #[.pointer (some ⟨b, 0, none⟩), .int .i64 j, u6, u7]) (by simp [results, Try.results31, go_sem]) rfl ⟨b, j, u6, u7, seg, rfl, rfl, HN.out, hj, Hx.out⟩
    · obtain ⟨_, cs, cb, co, ccap, nb, no, ncap, hne, he, _, c1, c2, l1, l2, _, _, hA, _, hends, hk⟩ := hN
      have hcl : cs.length ≤ (flat cs).length := length_le_flat cs hk
      have HA := hide hA
      have Hk := hide hk
      have He := hide he
      have Hne := hide hne
      have hp := child36 b nb no ncap cs j w (by rw [← he]; omega) (by rw [← he] at hcl; omega) (by rw [← he]; exact hj) c2 hends
      have Hp := hide hp
      have hcl2 : cs.length ≤ 1048576 := by rw [← he] at hcl; omega
      clear hends hk he hne hA hp hcl c2
      go_wp2_with fail
      refine Hp.out.mono ?_
      rintro e w1 ⟨c, j', rfl, hw, hc, hj1, hj2⟩
      have hw := hw.symm
      subst hw
      have hget : cs[c]? = some cs[c] := List.getElem?_eq_getElem hc
      have hj3 : j' < (cs[c]).2.length := by
        have := endAt_succ cs c _ hget
        omega
      have hce : w.cell? ⟨cb, co + c, none⟩ = some (.pointer (some ⟨(cs[c]).1, 0, none⟩)) := HA.out.2 c _ (by rw [ptrs, List.getElem?_map, hget]; rfl)
      have hx2 : (cs[c]).2[j']? = es[i]? := by
        rw [← Hx.out, He.out, hj1]
        exact (flat_get cs c j' _ hget hj3).symm
      have hl2 : (cs[c]).2.length ≤ 1048576 := by
        have h1 := endAt_succ cs c _ hget
        have h2 := endAt_le cs (c + 1)
        rw [← He.out] at h2
        omega
      have hN2 := Hk.out _ (List.getElem_mem hc)
      have HN2 := hide hN2
      have Hx2 := hide hx2
      clear hget hN2 hx2 hj1 hj2 Hp
      generalize (cs[c]).1 = b2 at *
      generalize (cs[c]).2 = seg2 at *
      go_wp2
      go_roundg k
      case measure => omega
      case rel => exact ⟨rfl, b2, j', seg2, rfl, rfl, HN2.out, hj3, Hx2.out, hl2⟩

def PieceOut (x : Option Value) (w : World) (e : Ending) (w' : World) : Prop :=
  ∃ (eb eo n cap : Nat) (v : Value), e = .returned (.slice (some ⟨eb, eo, none⟩) n cap) ∧ Below w.heap.size w w' ∧ w'.cell? ⟨eb, eo, none⟩ = some v ∧ x = some v ∧ 0 < n

set_option maxRecDepth 100000 in
/-- 's.piece(i)': a slice whose first element is the one at i. -/
theorem piece25 {S : Nat → Prop} (p : Option Addr) (i : Nat) (es : List Value) (w : World) (hbig : es.length ≤ 1048576) (hi : i < es.length) (hR : Root w S p es) :
    Calls Try.prog 25 #[.agg #[.pointer p], .int .i64 i] w (PieceOut es[i]? w) := by
  rcases hR with ⟨rfl, _⟩ | ⟨h, b, rfl, hN⟩
  · simp at hi
  · have HN := hide hN
    clear hN
    go_enter Try.func25, Try.ntmps25
    go_wp2_with fail
    refine (leaf31 h b i es _ hbig hi (Node.frame (Agree.of_alloc _) _ _ _ HN.out)).mono ?_
    rintro e w1 ⟨b2, j, v6, v7, seg, rfl, hw, hN2, hj, hx⟩
    obtain ⟨hb2, hne, eb, eo, cap, c0, c1, c2, hsc, hcm, hsA⟩ := hN2
    have hv : seg[j]? = some seg[j] := List.getElem?_eq_getElem hj
    have hce := hsA.2 j _ hv
    have Hx : Hid (es[i]? = some seg[j]) := by rw [← hx]; exact hv
    have Hw := hide hw
    clear hsA hx hv hne
    rw [← hw] at c0 c1 c2 hce
    clear hw
    generalize seg[j] = v at *
    generalize seg.length = n at *
    unfold maxLen at hcm
    go_wp2
    go_ret
    exact ⟨eb, eo + j, n - j, cap - j, v, rfl, by rw [Hw.out]; exact (Below.refl _ _).alloc (Nat.le_refl _) _, hce, Hx.out, by omega⟩

/-- 'ZZlistAt(l, i)' on a list of strings. -/
theorem listAt16 {S : Nat → Prop} (p : Option Addr) (i : Nat) (es : List Value) (s : ByteArray) (w : World) (hbig : es.length ≤ 1048576) (hi : es[i]? = some (strV s)) (hR : Root w S p es) :
    Calls Try.prog 16 #[.agg #[.pointer p], .int .i64 i] w fun e w' => e = .returned (.string s) ∧ Below w.heap.size w w' := by
  have hil : i < es.length := (List.getElem?_eq_some_iff.1 hi).1
  have has := as9_9
  have Hi := hide hi
  have HR := hide hR
  clear hi hR
  go_enter Try.func16, Try.ntmps16
  go_wp2_with fail
  refine (piece25 p i es _ hbig hil (HR.out.frame (Agree.of_alloc _))).mono ?_
  rintro e w1 ⟨eb, eo, n, cap, v, rfl, hb, hc, hx, hn⟩
  rw [Hi.out, Option.some.injEq] at hx
  rw [← hx, strV] at hc
  have Hb := hide hb
  clear hx hb
  have hn2 : (0 : Int) < (n : Int) := by omega
  go_wp2
  go_ret
  exact ⟨rfl, ((Below.refl _ _).alloc (Nat.le_refl _) _).trans (Hb.out.mono (by simp))⟩

end Go.Proofs.Qxb6614221a
