import Derived.Test.Qxb6614221aSlice
import Derived.Test.Qxb6614221aSliceLists
namespace Go.Proofs.Qxb6614221a
open Go.RowKit

theorem excl {S : Nat → Prop} {B g B1 : Nat} (h1 : B ≤ g) (h2 : g < B1) : ¬ (((S g ∧ g < B) ∨ (B ≤ g ∧ g ≠ g)) ∨ B1 ≤ g) := by
  rintro ((⟨_, h⟩ | ⟨_, h⟩) | h)
  · omega
  · exact h rfl
  · omega
theorem incl {S : Nat → Prop} {B g B1 : Nat} (h1 : B ≤ B1) (y : Nat) : (((S y ∧ y < B) ∨ (B ≤ y ∧ y ≠ g)) ∨ B1 ≤ y) → S y ∨ B ≤ y := by
  rintro ((⟨h, _⟩ | ⟨h, _⟩) | h)
  · exact .inl h
  · exact .inr h
  · exact .inr (by omega)
theorem incl2 {S : Nat → Prop} {B B1 : Nat} (h1 : B ≤ B1) (y : Nat) : ((S y ∨ B ≤ y) ∨ B1 ≤ y) → S y ∨ B ≤ y := by
  rintro (h | h)
  · exact h
  · exact .inr (by omega)

theorem incl3 {S : Nat → Prop} {B g B1 : Nat} (h1 : B ≤ g) (h2 : g < B1) (y : Nat) : (((S y ∧ y < B) ∨ (B ≤ y ∧ y ≠ g)) ∨ B1 ≤ y) → ((S y ∧ y < B) ∨ (B ≤ y ∧ y ≠ g)) := by
  rintro (h | h)
  · exact h
  · exact .inr ⟨by omega, by omega⟩
theorem excl3 {S : Nat → Prop} {B g : Nat} (h1 : B ≤ g) : ¬ ((S g ∧ g < B) ∨ (B ≤ g ∧ g ≠ g)) := by
  rintro (⟨_, h⟩ | ⟨_, h⟩)
  · omega
  · exact h rfl

theorem Agree.of_heap {S : Nat → Prop} {w w' : World} (h : w'.heap = w.heap) : Agree S w w' := fun _ _ _ _ => World.cell?_of_block (by rw [h])

theorem own_heap {w w' : World} {base : Nat} {e : TypeId} {size : Nat} {v : Value} {n : Nat} {xs : List Value} (h : w.ownsRow base e size v n xs) (hh : w'.heap = w.heap) : w'.ownsRow base e size v n xs := by
  unfold World.ownsRow at h ⊢
  rw [hh]; exact h

/-- What the first of the two stores leaves. -/
def Mid (S : Nat → Prop) (h g gc n yb : Nat) (M : List (Nat × List Value)) (seg ys : List Value) (w w1 wc : World) : Prop :=
  ∃ b1 : Nat, wc.ownsRow w.heap.size 27 1 (.slice (some ⟨g, 0, none⟩) (n + 2) gc) (n + 2) (.pointer (some ⟨b1, 0, none⟩) :: (ptrs M ++ [.pointer (some ⟨yb, 0, none⟩)])) ∧
    Node wc (fun y => (S y ∧ y < w.heap.size) ∨ (w.heap.size ≤ y ∧ y ≠ g)) h b1 seg ∧ (∀ x ∈ M, Node wc (fun y => (S y ∧ y < w.heap.size) ∨ (w.heap.size ≤ y ∧ y ≠ g)) h x.1 x.2) ∧
    Node wc (fun y => (S y ∧ y < w.heap.size) ∨ (w.heap.size ≤ y ∧ y ≠ g)) h yb ys ∧ Below w.heap.size w wc ∧ w1.heap.size ≤ wc.heap.size

theorem mid_of {S : Nat → Prop} {h g gc n yb b1 : Nat} {M : List (Nat × List Value)} {seg ys : List Value} {w w1 w1' w2 : World} {x0 : Value} (hgw : w.heap.size ≤ g) (hg1 : g < w1.heap.size) (hh : w1'.heap = w1.heap)
    (ho : w1.ownsRow w.heap.size 27 1 (.slice (some ⟨g, 0, none⟩) (n + 2) gc) (n + 2) (x0 :: (ptrs M ++ [.pointer (some ⟨yb, 0, none⟩)])))
    (hM : ∀ x ∈ M, Node w1 (fun y => (S y ∧ y < w.heap.size) ∨ (w.heap.size ≤ y ∧ y ≠ g)) h x.1 x.2) (hy : Node w1 (fun y => (S y ∧ y < w.heap.size) ∨ (w.heap.size ≤ y ∧ y ≠ g)) h yb ys)
    (hb : Below w.heap.size w w1') (hN : Node w2 (fun y => ((S y ∧ y < w.heap.size) ∨ (w.heap.size ≤ y ∧ y ≠ g)) ∨ w1'.heap.size ≤ y) h b1 seg) (hb2 : Below w1'.heap.size w1' w2) :
    Mid S h g gc n yb M seg ys w w1 (w2.setCell ⟨g, 0, none⟩ (.pointer (some ⟨b1, 0, none⟩))) := by
  have hsz : w1'.heap.size = w1.heap.size := by rw [hh]
  have ho2 := own_below (own_heap ho hh) hb2
  have hA : Agree (fun y => (S y ∧ y < w.heap.size) ∨ (w.heap.size ≤ y ∧ y ≠ g)) w2 (w2.setCell ⟨g, 0, none⟩ (.pointer (some ⟨b1, 0, none⟩))) := Agree.of_setCell _ (excl3 hgw)
  have hA1 : Agree (fun y => (S y ∧ y < w.heap.size) ∨ (w.heap.size ≤ y ∧ y ≠ g)) w1 (w2.setCell ⟨g, 0, none⟩ (.pointer (some ⟨b1, 0, none⟩))) :=
    ((Agree.of_heap hh).trans (Agree.of_below hb2) (by omega)).trans hA (by have := hb2.size; omega)
  refine ⟨b1, (ho2.stored 0 _).1, Node.frame hA _ _ _ (Node.mono (incl3 hgw (by omega)) _ _ _ hN), fun x hx => Node.frame hA1 _ _ _ (hM x hx), Node.frame hA1 _ _ _ hy,
    (hb.trans (hb2.mono (by omega))).setCell (p := ⟨g, 0, none⟩) hgw _, ?_⟩
  have := hb2.size
  simp [World.setCell]
  omega

theorem set_last (x z : Value) (M : List (Nat × List Value)) (b1 b2 : Nat) (n : Nat) (s1 s2 : List Value) (hM : M.length = n) (hx : x = .pointer (some ⟨b1, 0, none⟩)) :
    (x :: (ptrs M ++ [z])).set (n + 1) (.pointer (some ⟨b2, 0, none⟩)) = ptrs ((b1, s1) :: (M ++ [(b2, s2)])) := by
  subst hx
  subst hM
  simp [ptrs]

theorem mid2_of {S : Nat → Prop} {h g gc n yb b1 b2 : Nat} {M : List (Nat × List Value)} {s1 s2 : List Value} {w wc w3 : World} (hgw : w.heap.size ≤ g) (hg1 : g < wc.heap.size) (hM : M.length = n)
    (ho : wc.ownsRow w.heap.size 27 1 (.slice (some ⟨g, 0, none⟩) (n + 2) gc) (n + 2) (.pointer (some ⟨b1, 0, none⟩) :: (ptrs M ++ [.pointer (some ⟨yb, 0, none⟩)])))
    (hN1 : Node wc (fun y => (S y ∧ y < w.heap.size) ∨ (w.heap.size ≤ y ∧ y ≠ g)) h b1 s1) (hMk : ∀ x ∈ M, Node wc (fun y => (S y ∧ y < w.heap.size) ∨ (w.heap.size ≤ y ∧ y ≠ g)) h x.1 x.2)
    (hb : Below w.heap.size w wc) (hN : Node w3 (fun y => ((S y ∧ y < w.heap.size) ∨ (w.heap.size ≤ y ∧ y ≠ g)) ∨ wc.heap.size ≤ y) h b2 s2) (hb3 : Below wc.heap.size wc w3) :
    Arr (w3.setCell ⟨g, n + 1, none⟩ (.pointer (some ⟨b2, 0, none⟩))) (fun x => S x ∨ w.heap.size ≤ x) g 0 (ptrs ((b1, s1) :: (M ++ [(b2, s2)]))) ∧
    (∀ x ∈ (b1, s1) :: (M ++ [(b2, s2)]), Node (w3.setCell ⟨g, n + 1, none⟩ (.pointer (some ⟨b2, 0, none⟩))) (fun x => S x ∨ w.heap.size ≤ x) h x.1 x.2) ∧
    Below w.heap.size w (w3.setCell ⟨g, n + 1, none⟩ (.pointer (some ⟨b2, 0, none⟩))) := by
  have ho2 := own_below ho hb3
  have ho3 := (ho2.stored (n + 1) (.pointer (some ⟨b2, 0, none⟩))).1
  rw [set_last _ _ M b1 b2 n s1 s2 hM rfl] at ho3
  have hA : Agree (fun y => (S y ∧ y < w.heap.size) ∨ (w.heap.size ≤ y ∧ y ≠ g)) w3 (w3.setCell ⟨g, n + 1, none⟩ (.pointer (some ⟨b2, 0, none⟩))) := Agree.of_setCell _ (excl3 hgw)
  have hA1 : Agree (fun y => (S y ∧ y < w.heap.size) ∨ (w.heap.size ≤ y ∧ y ≠ g)) wc (w3.setCell ⟨g, n + 1, none⟩ (.pointer (some ⟨b2, 0, none⟩))) := (Agree.of_below hb3).trans hA hb3.size
  have inc : ∀ y, ((S y ∧ y < w.heap.size) ∨ (w.heap.size ≤ y ∧ y ≠ g)) → S y ∨ w.heap.size ≤ y := fun y hy => hy.elim (fun h => .inl h.1) (fun h => .inr h.1)
  refine ⟨⟨.inr hgw, fun i v hv => ?_⟩, fun x hx => ?_, (hb.trans (hb3.mono (by omega))).setCell (p := ⟨g, n + 1, none⟩) hgw _⟩
  · have hi0 : i < n + 2 := by
      have h1 := (List.getElem?_eq_some_iff.1 hv).1
      rw [ptrs_length] at h1
      simp at h1
      omega
    rw [Nat.zero_add, ho3.cellAt i (by omega)]
    exact hv
  · rcases List.mem_cons.1 hx with rfl | hx
    · exact Node.mono inc _ _ _ (Node.frame hA1 _ _ _ hN1)
    · rcases List.mem_append.1 hx with hx | hx
      · exact Node.mono inc _ _ _ (Node.frame hA1 _ _ _ (hMk x hx))
      · simp only [List.mem_singleton] at hx
        subst hx
        exact Node.mono inc _ _ _ (Node.frame hA _ _ _ (Node.mono (incl3 hgw hg1) _ _ _ hN))

set_option maxRecDepth 100000 in
set_option maxHeartbeats 1000000 in
/-- Part of a parent. -/
theorem slice_par {S : Nat → Prop} (h b lo hi : Nat) (es : List Value) (w : World) (hbig : es.length ≤ 1048576) (hlt : lo < hi) (hhi : hi ≤ es.length) (hnot : ¬ (lo = 0 ∧ hi = es.length))
    (ih : SliceSaid h) (hN : Node w S (h + 1) b es) :
    Calls Try.prog 35 #[.pointer (some ⟨b, 0, none⟩), .int .i64 lo, .int .i64 hi] w (SliceOut S (h + 1) ((es.drop lo).take (hi - lo)) w) := by
  have HN := hide hN
  obtain ⟨hb, cs, cb, co, ccap, nb, no, ncap, hne, he, c0, c1, c2, l1, l2, l3, l4, hA, hn, hends, hk⟩ := hN
  have hcl : cs.length ≤ (flat cs).length := length_le_flat cs hk
  have hcl2 : cs.length ≤ 1048576 := by rw [← he] at hcl; omega
  have hq := nil82
  have Hends := hide hends
  have Hk := hide hk
  have HA := hide hA
  have He := hide he
  clear hends hk hA he hcl hne hn
  unfold maxLen at l2
  go_enter Try.func35, Try.ntmps35
  go_upto_region 1 with fail
  go_cut [19] (fun v wc => v = .bool false ∧ ∃ q, wc = w.drewN q)
  case first =>
    by_cases h0 : lo = 0
    · subst h0
      have hneq : ((hi : Int) == (es.length : Int)) = false := by
        rw [beq_eq_false_iff_ne]; intro e; exact hnot ⟨rfl, by omega⟩
      go_wp2_with fail
      refine (len30 (h + 1) b es w HN.out).mono ?_
      rintro e w1 ⟨rfl, q, rfl⟩
      go_wp2
      go_meet
      case rel => exact ⟨rfl, q, rfl⟩
    · have hlo : ((lo : Int) == 0) = false := by rw [beq_eq_false_iff_ne]; omega
      go_wp2
      go_meet
      case rel => exact ⟨rfl, 0, rfl⟩
  case rest =>
    obtain ⟨rfl, q, rfl⟩ := hcut
    clear HN hnot c0
    go_wp2_with fail
    refine (child36 b nb no ncap cs lo (w.drewN q) (by rw [← He.out]; omega) hcl2 (by rw [← He.out]; omega) c2 Hends.out).mono ?_
    rintro e w1 ⟨f, a, rfl, hw, hf, hfa, hf2⟩
    have hw := hw.symm
    subst hw
    obtain ⟨m, rfl⟩ : ∃ m, hi = m + 1 := ⟨hi - 1, by omega⟩
    have hwm : IntKind.i64.wrap (m : Int) = m := IntWalk.i64_in _ (by omega)
    have Hfa := hide hfa
    have Hf2 := hide hf2
    clear hfa hf2
    go_wp2_with fail
    refine (child36 b nb no ncap cs m (w.drewN q) (by rw [← He.out]; omega) hcl2 (by rw [← He.out]; omega) c2 Hends.out).mono ?_
    rintro e w1 ⟨l, c, rfl, hw, hl, hlc, hl2⟩
    have hw := hw.symm
    subst hw
    have Hlc := hide hlc
    have Hl2 := hide hl2
    have hfl : f ≤ l := by
      rcases Nat.lt_or_ge l f with hx | hx
      · have := endAt_mono cs (show l + 1 ≤ f by omega)
        have := Hfa.out
        omega
      · exact hx
    have hgx : cs[f]? = some cs[f] := List.getElem?_eq_getElem hf
    have hgy : cs[l]? = some cs[l] := List.getElem?_eq_getElem hl
    have ha : a < (cs[f]).2.length := by have := endAt_succ cs f _ hgx; have := Hfa.out; have := Hf2.out; omega
    have hc : c < (cs[l]).2.length := by have := endAt_succ cs l _ hgy; omega
    have hpart : ((cs.drop f).take (l + 1 - f)).length = l + 1 - f := by simp; omega
    have hcells : ∀ i v, (ptrs ((cs.drop f).take (l + 1 - f)))[i]? = some v → (w.drewN q).cell? ⟨cb, co + f + i, none⟩ = some v := by
      intro i v hv
      simp only [ptrs, List.map_take, List.map_drop] at hv
      rw [List.getElem?_take] at hv
      split at hv
      · rw [List.getElem?_drop] at hv
        rw [Nat.add_assoc]
        exact HA.out.2 _ _ hv
      · simp at hv
    have hcp := clone43 ((cs.drop f).take (l + 1 - f)) cb (co + f) (ccap - f) (w.drewN q) (by intro e; rw [e] at hpart; simp at hpart; omega) (by omega) hcells
    rw [hpart] at hcp
    have Hcp := hide hcp
    have Hgx := hide hgx
    have Hgy := hide hgy
    have Hc := hide hc
    have Hih := hide ih
    have Hpart := hide hpart
    clear hpart
    clear hlc hl2 hcells hcp hgx hgy hc Hends c2
    go_wp2_with fail
    refine Hcp.out.mono ?_
    rintro e w1 ⟨g, gc, rfl, hgb, hbel, hown⟩
    rw [Hpart.out] at hown ⊢
    have hgw : w.heap.size ≤ g := hgb
    have hg1 : g < w1.heap.size := (hown.lt _ rfl).2
    have hbel1 : Below w.heap.size w w1 := (bdrewN (Below.refl _ _) q).trans hbel
    have hgc : l + 1 - f ≤ gc ∧ gc ≤ maxLen := by
      rcases hown.2 with ⟨h1, _⟩ | ⟨g', cap', cur, h1, _, _, h3, h4, _⟩
      · simp at h1
      · simp only [Value.slice.injEq] at h1
        omega
    have hk1 : ∀ x ∈ cs, Node w1 (fun y => (S y ∧ y < w.heap.size) ∨ (w.heap.size ≤ y ∧ y ≠ g)) h x.1 x.2 := fun x hx =>
      Node.mono (fun y hy => .inl hy) _ _ _ (Node.frame (Agree.of_below hbel1) _ _ _ (Node.lt _ _ _ (Hk.out x hx)))
    have Hbel1 := hide hbel1
    have Hk1 := hide hk1
    have Hown : Hid (w1.ownsRow w.heap.size 27 1 (.slice (some ⟨g, 0, none⟩) (l + 1 - f) gc) (l + 1 - f) (ptrs ((cs.drop f).take (l + 1 - f)))) := hown
    clear hbel hbel1 hk1 hown Hcp Hk HA hgb
    by_cases hfeq : f = l
    · subst hfeq
      have hsub : f + 1 - f = 1 := by omega
      have ho1 := Hown.out
      rw [part_one cs f _ Hgx.out, hsub] at ho1
      rw [hsub] at hgc ⊢
      have hfr := ho1.frozenAt 0
      have hce : w1.cell? ⟨g, 0, none⟩ = some (.pointer (some ⟨(cs[f]).1, 0, none⟩)) := by rw [ho1.cellAt 0 (by omega)]; rfl
      have Ho1 : Hid (w1.ownsRow w.heap.size 27 1 (.slice (some ⟨g, 0, none⟩) 1 gc) 1 [.pointer (some ⟨(cs[f]).1, 0, none⟩)]) := ho1
      clear ho1 Hown hsub
      have hsl : a ≤ c := by have := Hfa.out; have := Hlc.out; omega
      have hcb : c ≤ 1048576 := by have := Hlc.out; omega
      have hxl : (cs[f]).2.length ≤ 1048576 := by
        have h1 := endAt_succ cs f _ Hgx.out
        have h2 := endAt_le cs (f + 1)
        rw [← He.out] at h2
        omega
      have hp := Hih.out _ (cs[f]).1 a (c + 1) (cs[f]).2 w1 hxl (by omega) Hc.out (Hk1.out _ (List.getElem_mem hf))
      rw [show ((c + 1 : Nat) : Int) = (c : Int) + 1 from rfl] at hp
      have Hp := hide hp
      have Hseg : Hid ((es.drop lo).take (m + 1 - lo) = ((cs[f]).2.drop a).take (c + 1 - a)) := by
        rw [He.out, Hfa.out, show m + 1 - (endAt cs f + a) = c + 1 - a by have := Hlc.out; omega]
        exact flat_one cs f a c _ Hgx.out Hc.out hsl
      have hsegl : (((cs[f]).2.drop a).take (c + 1 - a)).length ≤ 1048576 := by simp; omega
      clear hp
      generalize (cs[f]).1 = xb at *
      generalize ((cs[f]).2.drop a).take (c + 1 - a) = seg at *
      go_wp2_with fail
      refine Hp.out.mono ?_
      rintro e w2 ⟨b1, rfl, hN2, hb2⟩
      have ho2 := own_below Ho1.out hb2
      have hfr2 := ho2.frozenAt 0
      have hce2 : w2.cell? ⟨g, 0, none⟩ = some (.pointer (some ⟨xb, 0, none⟩)) := by rw [ho2.cellAt 0 (by omega)]; rfl
      have ho3 := (ho2.stored 0 (.pointer (some ⟨b1, 0, none⟩))).1
      have hA3 : Arr (w2.setCell ⟨g, 0, none⟩ (.pointer (some ⟨b1, 0, none⟩))) (fun x => S x ∨ w.heap.size ≤ x) g 0 (ptrs [(b1, seg)]) := by
        refine ⟨.inr hgw, fun i v hv => ?_⟩
        have hi0 : i < 1 := by have := (List.getElem?_eq_some_iff.1 hv).1; simpa [ptrs] using this
        rw [Nat.zero_add, ho3.cellAt i (by omega)]
        obtain rfl : i = 0 := by omega
        exact hv
      have hN3 : ∀ x ∈ [(b1, seg)], Node (w2.setCell ⟨g, 0, none⟩ (.pointer (some ⟨b1, 0, none⟩))) (fun x => S x ∨ w.heap.size ≤ x) h x.1 x.2 := by
        intro x hx
        simp only [List.mem_singleton] at hx
        subst hx
        have hf1 := Node.frame (Agree.of_setCell (w := w2) (a := ⟨g, 0, none⟩) (.pointer (some ⟨b1, 0, none⟩)) (excl hgw hg1)) _ _ _ hN2
        exact Node.mono (incl (by omega)) _ _ _ hf1
      have hpp := parent33 h [(b1, seg)] g 0 gc (w2.setCell ⟨g, 0, none⟩ (.pointer (some ⟨b1, 0, none⟩))) (by simp) hgc.1 hgc.2 (by simp) (by simpa [flat] using hsegl) hA3 hN3
      have Hpp := hide hpp
      have hb3 : Below w.heap.size w (w2.setCell ⟨g, 0, none⟩ (.pointer (some ⟨b1, 0, none⟩))) := (Hbel1.out.trans (hb2.mono (by omega))).setCell (p := ⟨g, 0, none⟩) hgw _
      have Hb3 := hide hb3
      clear hpp hb3 hN3 hA3 ho3 ho2 hN2 hb2 Hp
      go_wp2_with fail
      refine Hpp.out.mono ?_
      rintro e w5 ⟨b5, rfl, _, hN5, hb5⟩
      go_wp2
      go_ret
      have hs3 := Hb3.out.size
      refine ⟨b5, rfl, ?_, Hb3.out.trans (hb5.mono hs3)⟩
      rw [Hseg.out]
      rw [show flat [(b1, seg)] = seg by simp [flat]] at hN5
      exact Node.mono (incl2 hs3) _ _ _ hN5
    · have hfl2 : f < l := by omega
      have hfleq : ((f : Int) == (l : Int)) = false := by rw [beq_eq_false_iff_ne]; omega
      have hcb : c ≤ 1048576 := by have := Hlc.out; omega
      have hsum := endAt_two cs f l _ _ hfl2 Hgx.out Hgy.out
      have hxl : (cs[f]).2.length ≤ 1048576 := by
        have h1 := endAt_succ cs f _ Hgx.out
        have h2 := endAt_le cs (f + 1)
        rw [← He.out] at h2
        omega
      have hyl : (cs[l]).2.length ≤ 1048576 := by
        have h1 := endAt_succ cs l _ Hgy.out
        have h2 := endAt_le cs (l + 1)
        rw [← He.out] at h2
        omega
      have Hseg : Hid ((es.drop lo).take (m + 1 - lo) = (cs[f]).2.drop a ++ (flat ((cs.drop (f + 1)).take (l - f - 1)) ++ (cs[l]).2.take (c + 1))) := by
        rw [He.out, Hfa.out, show m + 1 - (endAt cs f + a) = endAt cs l + c + 1 - (endAt cs f + a) by have := Hlc.out; omega]
        exact flat_two cs f l a c _ _ hfl2 Hgx.out Hgy.out (by omega) Hc.out
      have ho1 := Hown.out
      rw [part_split cs f l _ _ hfl2 Hgx.out Hgy.out] at ho1
      have hMl : ((cs.drop (f + 1)).take (l - f - 1)).length = l - f - 1 := by simp; omega
      have hMk : ∀ x ∈ (cs.drop (f + 1)).take (l - f - 1), Node w1 (fun y => (S y ∧ y < w.heap.size) ∨ (w.heap.size ≤ y ∧ y ≠ g)) h x.1 x.2 :=
        fun x hx => Hk1.out x (List.mem_of_mem_drop (List.mem_of_mem_take hx))
      have hxk := Hk1.out _ (List.getElem_mem hf)
      have hyk := Hk1.out _ (List.getElem_mem hl)
      have hesl : ((cs[f]).2.drop a ++ (flat ((cs.drop (f + 1)).take (l - f - 1)) ++ (cs[l]).2.take (c + 1))).length ≤ 1048576 := by
        rw [← Hseg.out]; simp; omega
      obtain ⟨n, hn⟩ : ∃ n, l + 1 - f = n + 2 := ⟨l - f - 1, by omega⟩
      have hnb : n + 2 ≤ 1048576 := by omega
      rw [hn] at hgc ho1 ⊢
      rw [show l - f - 1 = n by omega] at *
      clear Hown Hk1 Hgx Hgy Hf2 Hl2 Hpart hsum hn
      generalize (cs.drop (f + 1)).take n = M at *
      generalize hxs : (cs[f]).2 = xs at *
      generalize hys : (cs[l]).2 = ys at *
      generalize hxb : (cs[f]).1 = xb at *
      generalize hyb : (cs[l]).1 = yb at *
      have ho1 : w1.ownsRow w.heap.size 27 1 (.slice (some ⟨g, 0, none⟩) (n + 2) gc) (n + 2) (.pointer (some ⟨xb, 0, none⟩) :: (ptrs M ++ [.pointer (some ⟨yb, 0, none⟩)])) := by
        rw [← hxb, ← hyb]
        have h1 := ho1
        simp only [ptrs, List.map_cons, List.map_append, List.map_nil] at h1
        exact h1
      have hfr := ho1.frozenAt 0
      have hce : w1.cell? ⟨g, 0, none⟩ = some (.pointer (some ⟨xb, 0, none⟩)) := by rw [ho1.cellAt 0 (by omega)]; rfl
      have Ho1 := hide ho1
      have HMk := hide hMk
      have Hxk := hide hxk
      have Hyk := hide hyk
      have HMl := hide hMl
      clear ho1 hMk hxk hyk hMl hxs hys hxb hyb
      have hp : ∀ W : World, W.heap = w1.heap → Calls Try.prog 35 #[.pointer (some ⟨xb, 0, none⟩), .int .i64 a, .int .i64 xs.length] W (SliceOut (fun y => (S y ∧ y < w.heap.size) ∨ (w.heap.size ≤ y ∧ y ≠ g)) h (xs.drop a) W) := by
        intro W hW
        have h1 := Hih.out _ xb a xs.length xs W hxl ha (Nat.le_refl _) (Node.frame (Agree.of_heap hW) _ _ _ Hxk.out)
        rw [List.take_of_length_le (by simp)] at h1
        exact h1
      have hp0 : ∀ W : World, W.heap = w1.heap → Calls Try.prog 30 #[.pointer (some ⟨xb, 0, none⟩)] W fun e w' => e = .returned (.int .i64 xs.length) ∧ ∃ q, w' = W.drewN q :=
        fun W hW => len30 h xb xs W (Node.frame (Agree.of_heap hW) _ _ _ Hxk.out)
      have Hp := hide hp
      have Hp0 := hide hp0
      have hn2 : (0 : Int) < (n : Int) + 2 := by omega
      clear hp hp0
      go_wp2_with fail
      go_cut [] (fun wc => Mid S h g gc n yb M (xs.drop a) ys w w1 wc)
      case first =>
        go_region_with (first
          | (go_at_call 30; refine (Hp0.out _ ?_).mono ?_; exact rfl; rintro e w' ⟨rfl, q2, rfl⟩)
          | (go_at_call 35; refine (Hp.out _ ?_).mono ?_; exact rfl; rintro e w' ⟨b1, rfl, hN2, hb2⟩; have hfr2 := (own_below (own_heap Ho1.out (by exact rfl)) hb2).frozenAt 0; have hce2 := (own_below (own_heap Ho1.out (by exact rfl)) hb2).cellAt 0 (by omega)))
        all_goals
          go_wp2_with fail
          go_meet
          case rel => exact mid_of hgw hg1 (by exact rfl) Ho1.out HMk.out Hyk.out (bdrewN Hbel1.out _) hN2 hb2
      case rest =>
        obtain ⟨b1, ho2, hN1, hM2, hy2, hb2, hs2⟩ := hcut
        have hgc1 : g < wc.heap.size := by omega
        have hfr2 := ho2.frozenAt (n + 1)
        have hce2 : wc.cell? ⟨g, n + 1, none⟩ = some (.pointer (some ⟨yb, 0, none⟩)) := by
          rw [ho2.cellAt (n + 1) (by omega), List.getElem?_cons_succ, List.getElem?_append_right (by rw [ptrs_length, HMl.out]; omega), ptrs_length, HMl.out]
          simp
        have hp := Hih.out _ yb 0 (c + 1) ys wc hyl (by omega) Hc.out hy2
        rw [show ((c + 1 : Nat) : Int) = (c : Int) + 1 from rfl, List.drop_zero, Nat.sub_zero] at hp
        have Hp2 := hide hp
        have Ho2 := hide ho2
        have HN1 := hide hN1
        have HM2 := hide hM2
        have Hb2 := hide hb2
        have hwn : IntKind.i64.wrap ((n : Int) + 1) = (n : Int) + 1 := IntWalk.i64_in _ (by omega)
        have hwn2 : IntKind.i64.wrap ((n : Int) + 2 - 1) = (n : Int) + 1 := by rw [show (n : Int) + 2 - 1 = (n : Int) + 1 by omega]; exact hwn
        clear hp ho2 hN1 hM2 hy2 hb2 Hp Hp0 Ho1 HMk Hxk Hyk hfr hce
        go_wp2_with fail
        refine Hp2.out.mono ?_
        rintro e w3 ⟨b2, rfl, hN3, hb3⟩
        have ho3 := own_below Ho2.out hb3
        have hfr3 := ho3.frozenAt (n + 1)
        obtain ⟨ov, hce3⟩ : ∃ v, w3.cell? ⟨g, n + 1, none⟩ = some v := ⟨_, (ho3.cellAt (n + 1) (by omega)).trans (List.getElem?_eq_getElem (by have := ho3.1; omega))⟩
        obtain ⟨hA4, hN4, hb4⟩ := mid2_of (s1 := xs.drop a) hgw hgc1 HMl.out Ho2.out HN1.out HM2.out Hb2.out hN3 hb3
        have hfl4 : flat ((b1, xs.drop a) :: (M ++ [(b2, ys.take (c + 1))])) = xs.drop a ++ (flat M ++ ys.take (c + 1)) := by
          rw [flat_cons, flat_append, flat_cons, flat_nil, List.append_nil]
        have hlen4 : ((b1, xs.drop a) :: (M ++ [(b2, ys.take (c + 1))])).length = n + 2 := by have := HMl.out; simp; omega
        have hpp := parent33 h ((b1, xs.drop a) :: (M ++ [(b2, ys.take (c + 1))])) g 0 gc (w3.setCell ⟨g, n + 1, none⟩ (.pointer (some ⟨b2, 0, none⟩))) (by simp) (by omega) hgc.2 (by omega) (by rw [hfl4]; exact hesl) hA4 hN4
        rw [hlen4] at hpp
        have Hpp := hide hpp
        have Hb4 := hide hb4
        have Hfl4 := hide hfl4
        clear hpp hb4 hN4 hA4 ho3 hN3 hb3 hfl4 hlen4 Hp2 Ho2 HN1 HM2 Hb2
        go_wp2_with fail
        refine Hpp.out.mono ?_
        rintro e w5 ⟨b5, rfl, _, hN5, hb5⟩
        go_wp2
        go_ret
        have hs3 := Hb4.out.size
        refine ⟨b5, rfl, ?_, Hb4.out.trans (hb5.mono hs3)⟩
        rw [Hseg.out]
        rw [Hfl4.out] at hN5
        exact Node.mono (incl2 hs3) _ _ _ hN5

theorem slice35 : ∀ h, SliceSaid h := by
  intro h
  induction h with
  | zero =>
    intro S b lo hi es w hbig hlt hhi hN
    by_cases hw : lo = 0 ∧ hi = es.length
    · obtain ⟨rfl, rfl⟩ := hw
      rw [List.drop_zero, Nat.sub_zero, List.take_length]
      exact slice_whole 0 b es w hN
    · exact slice_leaf b lo hi es w hbig hlt hhi hw hN
  | succ h ih =>
    intro S b lo hi es w hbig hlt hhi hN
    by_cases hw : lo = 0 ∧ hi = es.length
    · obtain ⟨rfl, rfl⟩ := hw
      rw [List.drop_zero, Nat.sub_zero, List.take_length]
      exact slice_whole (h + 1) b es w hN
    · exact slice_par h b lo hi es w hbig hlt hhi hw ih hN
end Go.Proofs.Qxb6614221a
