import Derived.Test.Qxb6614221aParent
namespace Go.Proofs.Qxb6614221a
open Go.RowKit

theorem Try.info27 : (Try.prog.info? 27).map (fun i => (i.zero, i.size, i.bytes)) = some (some (.pointer none), 1, 8) := by kernel_rfl

theorem Arr.lt {w : World} {S : Nat → Prop} {b o : Nat} {xs : List Value} (h : Arr w S b o xs) (hne : xs ≠ []) : Arr w (fun x => S x ∧ x < w.heap.size) b o xs := by
  refine ⟨⟨h.1, ?_⟩, h.2⟩
  match xs, hne with
  | v :: xs, _ => exact World.block_lt_of_cell? w _ (h.2 0 v rfl)

theorem Node.lt {w : World} {S : Nat → Prop} : ∀ (h b : Nat) (es : List Value), Node w S h b es → Node w (fun x => S x ∧ x < w.heap.size) h b es := by
  intro h
  induction h with
  | zero =>
    rintro b es ⟨hb, hne, eb, eo, cap, c0, c1, c2, hc, hm, ha⟩
    exact ⟨⟨hb, World.block_lt_of_cell? w _ c0⟩, hne, eb, eo, cap, c0, c1, c2, hc, hm, ha.lt hne⟩
  | succ h ih =>
    rintro b es ⟨hb, cs, cb, co, ccap, nb, no, ncap, hne, he, c0, c1, c2, l1, l2, l3, l4, ha, hn, hends, hk⟩
    have hp : ptrs cs ≠ [] := by intro e; apply hne; simpa [ptrs] using e
    exact ⟨⟨hb, World.block_lt_of_cell? w _ c0⟩, cs, cb, co, ccap, nb, no, ncap, hne, he, c0, c1, c2, l1, l2, l3, l4, ha.lt hp,
      ⟨hn, World.block_lt_of_cell? w _ (hends 0 (List.length_pos_iff.2 hne))⟩, hends, fun c hc => ih _ _ (hk c hc)⟩

/-- A leaf is boxed, its pointer laid in a new cell and appended to the level's row L: the level has one node more. -/
theorem leaf_step {S : Nat → Prop} {wr w1 : World} {cs : List (Nat × List Value)} {L eb eo n : Nat} {seg : List Value} {tmp : Obj} (hS : ∀ x, S x → x ≠ L) (hnew : S wr.heap.size) (heb : S eb)
    (hg : ((wr.alloc (.cells #[.slice (some ⟨eb, eo, none⟩) n n, .slice none 0 0, .slice none 0 0] 85)).alloc tmp).grownBy w1 (some L)) (hkids : ∀ c ∈ cs, Node wr S 0 c.1 c.2)
    (hcells : ∀ i v, seg[i]? = some v → wr.cell? ⟨eb, eo + i, none⟩ = some v) (hne : seg ≠ []) (hn : n = seg.length) (hm : n ≤ maxLen) :
    ∀ c ∈ cs ++ [(wr.heap.size, seg)], Node w1 S 0 c.1 c.2 := by
  have hA2 : Agree S ((wr.alloc (.cells #[.slice (some ⟨eb, eo, none⟩) n n, .slice none 0 0, .slice none 0 0] 85)).alloc tmp) w1 := Agree.of_grown hg hS
  have hA1 : Agree S (wr.alloc (.cells #[.slice (some ⟨eb, eo, none⟩) n n, .slice none 0 0, .slice none 0 0] 85)) w1 := (Agree.of_alloc tmp).trans hA2 (by simp)
  have hA0 : Agree S wr w1 := (Agree.of_alloc _).trans hA1 (by simp)
  intro c hc
  rcases List.mem_append.1 hc with hc | hc
  · exact Node.frame hA0 _ _ _ (hkids c hc)
  · simp only [List.mem_singleton] at hc
    subst hc
    subst hn
    refine ⟨hnew, hne, eb, eo, seg.length, hA1.get hnew ?_, hA1.get hnew ?_, hA1.get hnew ?_, Nat.le_refl _, hm, heb, fun i v hv => hA0.get heb (hcells i v hv)⟩ <;> rw [cell_new] <;> rfl

/-- A parent b has been made; its pointer is laid in a new cell and appended to the row U: one node more. -/
theorem par_step {S T : Nat → Prop} {wr w2 w3 : World} {ups : List (Nat × List Value)} {U h b : Nat} {seg : List Value} {tmp : Obj} (hS : ∀ x, S x → x ≠ U) (hT : ∀ x, T x → S x)
    (hA : Agree S wr w2) (hsz : wr.heap.size ≤ w2.heap.size) (hkids : ∀ c ∈ ups, Node wr S h c.1 c.2) (hN : Node w2 T h b seg) (hg : (w2.alloc tmp).grownBy w3 (some U)) :
    ∀ c ∈ ups ++ [(b, seg)], Node w3 S h c.1 c.2 := by
  have hA2 : Agree S w2 w3 := (Agree.of_alloc tmp).trans (Agree.of_grown hg hS) (by simp)
  intro c hc
  rcases List.mem_append.1 hc with hc | hc
  · exact Node.frame (hA.trans hA2 hsz) _ _ _ (hkids c hc)
  · simp only [List.mem_singleton] at hc
    subst hc
    exact Node.frame hA2 _ _ _ (Node.mono hT _ _ _ hN)

theorem row_lt {w : World} {L : Nat} {us : List (Nat × List Value)} (hne : us ≠ []) (h : ∀ i v, (ptrs us)[i]? = some v → w.cell? ⟨L, 0 + i, none⟩ = some v) : L < w.heap.size := by
  match us, hne with
  | c :: us, _ => exact World.block_lt_of_cell? _ _ (h 0 _ rfl)

theorem own_below {w w' : World} {base : Nat} {e : TypeId} {size : Nat} {v : Value} {n : Nat} {xs : List Value} (h : w.ownsRow base e size v n xs) (hb : Below w.heap.size w w') : w'.ownsRow base e size v n xs :=
  h.kept (row := none) ⟨hb.os, hb.tape, hb.output, hb.size, fun k hk _ => hb.block k hk⟩ (by cases v.ownBlock <;> simp)

def lenOf : Value → Nat | .slice _ n _ => n | _ => 0

theorem take_more {α : Type} (es : List α) (k : Nat) : es.take (32 * k) ++ (es.drop (32 * k)).take 32 = es.take (32 * (k + 1)) := by
  rw [show 32 * (k + 1) = 32 * k + 32 by omega, List.take_add]

theorem length_le_flat {w : World} {S : Nat → Prop} {h : Nat} : ∀ (cs : List (Nat × List Value)), (∀ c ∈ cs, Node w S h c.1 c.2) → cs.length ≤ (flat cs).length
  | [], _ => by simp
  | c :: cs, hk => by
    have h1 := length_le_flat cs fun c hc => hk c (List.mem_cons_of_mem _ hc)
    have h2 := Node.ne_nil _ _ _ (hk c (by simp))
    have h3 : 0 < c.2.length := List.length_pos_iff.2 h2
    rw [flat_cons]
    simp
    omega

set_option maxRecDepth 100000 in
set_option maxHeartbeats 800000 in
theorem seqOf27 (es : List Value) (eb eo cap : Nat) (w : World) (hne : es ≠ []) (hbig : es.length ≤ 1048576) (hl : es.length ≤ cap)
    (hA : ∀ i v, es[i]? = some v → w.cell? ⟨eb, eo + i, none⟩ = some v) :
    Calls Try.prog 27 #[.slice (some ⟨eb, eo, none⟩) es.length cap] w fun e w' => ∃ h b, e = .returned (.agg #[.pointer (some ⟨b, 0, none⟩)]) ∧
      Node w' (fun x => x = eb ∨ w.heap.size < x) h b es ∧ Below w.heap.size w w' := by
  obtain ⟨i0, hi, hz0, hz1, hz2⟩ := info_parts Try.info27
  have hpos : 0 < es.length := List.length_pos_iff.2 hne
  have hne0 : ((es.length : Int) == 0) = false := by simp; omega
  have hebl : eb < w.heap.size := by
    have h0 := hA 0 es[0] (List.getElem?_eq_getElem hpos)
    exact World.block_lt_of_cell? w _ h0
  go_enter Try.func27, Try.ntmps27
  go_wp2_with (at_make; refine wpList_make_own _ rfl _ _ 82 rfl w.heap.size 27 i0 (.pointer none) 1 Try.underlying82 hi hz0 hz1 .i64 .i64 _ ((es.length + 31) / 32) rfl rfl (by omega) (by rw [hz2]; omega) (by unfold maxLen; omega) (by simp) ?_; intro w0 hown0 hgrow0)
  have hb0 : Below (w.heap.size + 1) (w.alloc (.cells #[.pointer none] 29)) w0 := (Below.refl _ _).grown hgrow0 (by simp) (by simp)
  clear hgrow0
  go_loopw [3, 4] (fun v i wr => ∃ (k : Nat) (cs : List (Nat × List Value)), 32 * k ≤ es.length + 31 ∧ i = .int .i64 ((32 * k : Nat) : Int) ∧ v = .slice (some ⟨w.heap.size + 1, 0, none⟩) k ((es.length + 31) / 32) ∧
      wr.ownsRow w.heap.size 27 1 (.slice (some ⟨w.heap.size + 1, 0, none⟩) k ((es.length + 31) / 32)) k (ptrs cs) ∧ flat cs = es.take (32 * k) ∧
      (∀ c ∈ cs, Node wr (fun x => (x = eb ∨ w.heap.size < x) ∧ x ≠ w.heap.size + 1) 0 c.1 c.2) ∧ Below (w.heap.size + 1) (w.alloc (.cells #[.pointer none] 29)) wr)
    (fun _ i _ => es.length + 32 - (intOf i).toNat)
  case atStart => exact ⟨0, [], by omega, rfl, rfl, by simpa [ptrs] using hown0, by simp [flat], by simp, hb0⟩
  case round =>
    obtain ⟨k, cs, hk, rfl, rfl, hown, hflat, hkids, hb⟩ := hrel
    clear hown0 hb0
    have Hflat := hide hflat
    have Hkids := hide hkids
    clear hflat hkids
    have HA := hide hA
    clear hA
    have hL : w.heap.size + 1 < wr.heap.size := (hown.lt _ rfl).2
    by_cases hlt : 32 * k < es.length
    · have fin : ∀ (n : Nat) (w1 : World), n = ((es.drop (32 * k)).take 32).length →
          w1.ownsRow w.heap.size 27 1 (.slice (some ⟨w.heap.size + 1, 0, none⟩) (k + 1) ((es.length + 31) / 32)) (k + 1) (ptrs cs ++ [.pointer (some ⟨wr.heap.size, 0, none⟩)]) →
          ((wr.alloc (.cells #[.slice (some ⟨eb, eo + 32 * k, none⟩) n n, .slice none 0 0, .slice none 0 0] 85)).alloc (.cells #[.pointer (some ⟨wr.heap.size, 0, none⟩)] 27)).grownBy w1 (some (w.heap.size + 1)) →
          ∃ (k' : Nat) (cs : List (Nat × List Value)), 32 * k' ≤ es.length + 31 ∧ Value.int .i64 (32 * (k : Int) + 32) = .int .i64 ((32 * k' : Nat) : Int) ∧
            Value.slice (some ⟨w.heap.size + 1, 0, none⟩) (k + 1) ((es.length + 31) / 32) = .slice (some ⟨w.heap.size + 1, 0, none⟩) k' ((es.length + 31) / 32) ∧
            w1.ownsRow w.heap.size 27 1 (.slice (some ⟨w.heap.size + 1, 0, none⟩) k' ((es.length + 31) / 32)) k' (ptrs cs) ∧ flat cs = es.take (32 * k') ∧
            (∀ c ∈ cs, Node w1 (fun x => (x = eb ∨ w.heap.size < x) ∧ x ≠ w.heap.size + 1) 0 c.1 c.2) ∧ Below (w.heap.size + 1) (w.alloc (.cells #[.pointer none] 29)) w1 := by
        intro n w1 hn hown1 hg1
        have hne1 : (es.drop (32 * k)).take 32 ≠ [] := by
          intro e; have := congrArg List.length e; simp at this; omega
        have hle : ((es.drop (32 * k)).take 32).length ≤ 32 := by simp; omega
        refine ⟨k + 1, cs ++ [(wr.heap.size, (es.drop (32 * k)).take 32)], by omega, by go_num, rfl, ?_, ?_, ?_, ?_⟩
        · rw [ptrs_append]; exact hown1
        · rw [flat_append, Hflat.out, flat_cons, flat_nil, List.append_nil, take_more]
        · refine leaf_step (fun x hx => hx.2) ⟨.inr (by omega), by omega⟩ ⟨.inl rfl, by omega⟩ hg1 Hkids.out ?_ hne1 hn (by unfold maxLen; omega)
          intro i v hv
          rw [List.getElem?_take] at hv
          split at hv
          · rw [List.getElem?_drop] at hv
            have h1 := HA.out _ _ hv
            rw [Nat.add_assoc]
            rw [hb.cell (by show eb < _; omega), World.cell?_of_block (Below.heap_alloc _ _ _ hebl)]
            exact h1
          · simp at hv
        · exact ((hb.alloc (by omega) _).alloc (by simp; omega) _).grown hg1 (by simp; omega) (by simp)
      have Hfin := hide fin
      clear fin
      by_cases hfull : 32 * k + 32 ≤ es.length
      · go_wp2_with (at_builtin; refine wpList_append_fits _ rfl (.tmp 30) (.tmp 38) 82 rfl w.heap.size 27 i0 1 Try.underlying82 hi hz1 (w.heap.size + 1) k ((es.length + 31) / 32) _ rfl ((hown.alloc _).alloc _) ⟨wr.heap.size + 1, 0, none⟩ 1 1 [.pointer (some ⟨wr.heap.size, 0, none⟩)] rfl rfl (by intro j u hj; match j, hj with | 0, hj => simp at hj; subst hj; simp [Addr.add]) (by intro u hu; simp at hu; subst hu; rfl) (by omega) ?_; intro w1 hown1 hgrow1)
        go_roundw
        case rel => exact Hfin.out 32 w1 (by simp; omega) hown1 hgrow1
        case measure => simp [intOf]; omega
      · go_wp2_with (at_builtin; refine wpList_append_fits _ rfl (.tmp 30) (.tmp 38) 82 rfl w.heap.size 27 i0 1 Try.underlying82 hi hz1 (w.heap.size + 1) k ((es.length + 31) / 32) _ rfl ((hown.alloc _).alloc _) ⟨wr.heap.size + 1, 0, none⟩ 1 1 [.pointer (some ⟨wr.heap.size, 0, none⟩)] rfl rfl (by intro j u hj; match j, hj with | 0, hj => simp at hj; subst hj; simp [Addr.add]) (by intro u hu; simp at hu; subst hu; rfl) (by omega) ?_; intro w1 hown1 hgrow1)
        go_roundw
        case rel => exact Hfin.out (es.length - 32 * k) w1 (by simp; omega) hown1 hgrow1
        case measure => simp [intOf]; omega
    · have hkC : k = (es.length + 31) / 32 := by omega
      have hcl : cs.length = k := by have := hown.1; rw [ptrs_length] at this; omega
      have hL2 : ∀ i v, (ptrs cs)[i]? = some v → wr.cell? ⟨w.heap.size + 1, 0 + i, none⟩ = some v := by
        intro i v hv
        have hil : i < k := by have := (List.getElem?_eq_some_iff.1 hv).1; rw [ptrs_length] at this; omega
        rw [Nat.zero_add, hown.cellAt i (by omega)]; exact hv
      have hfl : flat cs = es := by rw [Hflat.out, List.take_of_length_le (by omega)]
      have hkd : ∀ c ∈ cs, Node wr (fun x => x = eb ∨ w.heap.size < x) 0 c.1 c.2 := fun c hc => Node.mono (fun x hx => hx.1) _ _ _ (Hkids.out c hc)
      clear Hflat Hkids hown HA
      have HL := hide hL2
      have Hfl := hide hfl
      have Hkd := hide hkd
      have Hcl := hide hcl
      have HkC := hide hkC
      clear hL2 hfl hkd hcl hkC
      have hd : decide (32 * (k : Int) < (es.length : Int)) = false := by simp; omega
      have hbB := hide hb
      clear hb hL
      go_wp2_with fail
      go_loopw [3] (fun v wq => ∃ (h L lc : Nat) (us : List (Nat × List Value)), v = .slice (some ⟨L, 0, none⟩) us.length lc ∧ us ≠ [] ∧ us.length ≤ lc ∧ lc ≤ maxLen ∧ w.heap.size < L ∧
          (∀ i v, (ptrs us)[i]? = some v → wq.cell? ⟨L, 0 + i, none⟩ = some v) ∧ flat us = es ∧ (∀ c ∈ us, Node wq (fun x => x = eb ∨ w.heap.size < x) h c.1 c.2) ∧ Below (w.heap.size + 1) (w.alloc (.cells #[.pointer none] 29)) wq)
        (fun v _ => lenOf v)
      case atStart =>
        refine ⟨0, w.heap.size + 1, (es.length + 31) / 32, cs, by rw [Hcl.out], ?_, by rw [Hcl.out, HkC.out]; exact Nat.le_refl _, by unfold maxLen; omega, by omega, HL.out, Hfl.out, Hkd.out, hbB.out⟩
        intro e
        have := Hfl.out
        rw [e] at this
        exact hne this.symm
      case round =>
        obtain ⟨h, L, lc, us, rfl, hune, hul, hlc, hLw, hLc, huf, huk, hb⟩ := hrel
        clear HL Hfl Hkd Hcl HkC hbB hd hlt hk
        have hub : us.length ≤ es.length := by rw [← huf]; exact length_le_flat us huk
        have hupos : 0 < us.length := List.length_pos_iff.2 hune
        have HLc := hide hLc
        have Huf := hide huf
        have Huk := hide huk
        have Hb := hide hb
        have Hune := hide hune
        clear hLc huf huk hb hune
        by_cases hone : us.length = 1
        · have hle1 : (us.length : Int) ≤ 1 := by omega
          have h01 : (0 : Int) < (us.length : Int) := by omega
          have hne1 : us = [us[0]] := by
            match us, hone with
            | [c], _ => rfl
          have hfl1 : es = (us[0]).2 := by
            have := Huf.out
            rw [hne1, flat_cons, flat_nil, List.append_nil] at this
            exact this.symm
          have hc1 : wr.cell? ⟨L, 0, none⟩ = some (.pointer (some ⟨(us[0]).1, 0, none⟩)) := HLc.out 0 _ (by rw [ptrs, List.getElem?_map, List.getElem?_eq_getElem hupos]; rfl)
          have hres : wr.cell? ⟨w.heap.size, 0, none⟩ = some (.pointer none) := by rw [Hb.out.cell (by simp)]; rw [cell_new]; rfl
          have hfrz : wr.frozen? ⟨w.heap.size, 0, none⟩ = false := by
            rw [Hb.out.frozen (by simp)]; exact frozen_of_row _ _ _ _ _ (heap_alloc_new _ _)
          have hN1 : Node wr (fun x => x = eb ∨ w.heap.size < x) h (us[0]).1 (us[0]).2 := Huk.out _ (List.getElem_mem hupos)
          rw [← hfl1] at hN1
          have HN1 := hide hN1
          clear hN1 hne1 hfl1 hone
          generalize (us[0]).1 = b1 at *
          go_wp2
          refine bodyPost_ret (v := .agg #[.pointer (some ⟨b1, 0, none⟩)]) (by simp [results, Try.results27, go_sem, hres]) rfl ⟨h, b1, rfl, Node.frame (Agree.of_setCell _ ?_) _ _ _ HN1.out, ?_⟩
          · show ¬ (w.heap.size = eb ∨ w.heap.size < w.heap.size)
            omega
          · exact ((((Below.refl _ _).alloc (Nat.le_refl _) _).trans (Hb.out.mono (by omega))).setCell (p := ⟨w.heap.size, 0, none⟩) (Nat.le_refl _) _)
        · have hgt : (1 : Int) < (us.length : Int) := by omega
          go_wp2_with (at_make; refine wpList_make_own _ rfl _ _ 82 rfl w.heap.size 27 i0 (.pointer none) 1 Try.underlying82 hi hz0 hz1 .i64 .i64 _ ((us.length + 31) / 32) rfl rfl (by omega) (by rw [hz2]; omega) (by unfold maxLen; omega) (by have := Hb.out.size; simp at this; omega) ?_; intro w2 hown2 hgrow2)
          have hU := (hown2.lt _ rfl).2
          have hA2 : Agree (fun x => (x = eb ∨ w.heap.size < x) ∧ x < wr.heap.size) wr w2 := Agree.of_grown_none hgrow2
          have hk2 : ∀ c ∈ us, Node w2 (fun x => (x = eb ∨ w.heap.size < x) ∧ x ≠ wr.heap.size) h c.1 c.2 := fun c hc =>
            Node.mono (fun x hx => ⟨hx.1, by omega⟩) _ _ _ (Node.frame hA2 _ _ _ (Node.lt _ _ _ (Huk.out c hc)))
          have hLn : L < wr.heap.size := row_lt Hune.out HLc.out
          have hL2 : Arr w2 (fun x => (x = eb ∨ w.heap.size < x) ∧ x ≠ wr.heap.size) L 0 (ptrs us) :=
            ⟨⟨.inr hLw, by omega⟩, fun i v hv => hA2.get ⟨.inr hLw, hLn⟩ (HLc.out i v hv)⟩
          have hb2 : Below (w.heap.size + 1) (w.alloc (.cells #[.pointer none] 29)) w2 := Hb.out.grown hgrow2 (by have := Hb.out.size; simp at this; omega) (by simp)
          have hUw : w.heap.size < wr.heap.size := by omega
          clear hgrow2 HLc Huk Hb hA2
          generalize wr.heap.size = U at *
          go_loopw [6, 7] (fun v i wq => ∃ (j : Nat) (ups : List (Nat × List Value)), 32 * j ≤ us.length + 31 ∧ i = .int .i64 ((32 * j : Nat) : Int) ∧ v = .slice (some ⟨U, 0, none⟩) j ((us.length + 31) / 32) ∧
              wq.ownsRow w.heap.size 27 1 (.slice (some ⟨U, 0, none⟩) j ((us.length + 31) / 32)) j (ptrs ups) ∧ flat ups = flat (us.take (32 * j)) ∧
              (∀ c ∈ ups, Node wq (fun x => (x = eb ∨ w.heap.size < x) ∧ x ≠ U) (h + 1) c.1 c.2) ∧ (∀ c ∈ us, Node wq (fun x => (x = eb ∨ w.heap.size < x) ∧ x ≠ U) h c.1 c.2) ∧
              Arr wq (fun x => (x = eb ∨ w.heap.size < x) ∧ x ≠ U) L 0 (ptrs us) ∧ Below (w.heap.size + 1) (w.alloc (.cells #[.pointer none] 29)) wq)
            (fun _ i _ => us.length + 32 - (intOf i).toNat)
          case atStart => exact ⟨0, [], by omega, rfl, rfl, by simpa [ptrs] using hown2, by simp [flat], by simp, hk2, hL2, hb2⟩
          case round =>
            obtain ⟨j, ups, hj, rfl, rfl, hown, hflat, hkids, hkus, hLr, hb⟩ := hrel
            clear hown2 hk2 hL2 hb2
            have hL : U < wr.heap.size := (hown.lt _ rfl).2
            have Hflat := hide hflat
            have Hkids := hide hkids
            have Hkus := hide hkus
            have HLr := hide hLr
            have Hb := hide hb
            clear hflat hkids hkus hLr hb
            by_cases hlt : 32 * j < us.length
            · have hseg : ((us.drop (32 * j)).take 32) ≠ [] := by
                intro e; have := congrArg List.length e; simp at this; omega
              have hsub : ∀ c ∈ (us.drop (32 * j)).take 32, c ∈ us := fun c hc => List.mem_of_mem_drop (List.mem_of_mem_take hc)
              have hslen : ((us.drop (32 * j)).take 32).length ≤ 32 := by simp; omega
              have hstot : (flat ((us.drop (32 * j)).take 32)).length ≤ 1048576 := by
                have e1 : flat us = flat (us.take (32 * j)) ++ (flat ((us.drop (32 * j)).take 32) ++ flat ((us.drop (32 * j)).drop 32)) := by
                  rw [← flat_append, ← flat_append, List.take_append_drop, List.take_append_drop]
                have e2 := congrArg List.length e1
                rw [Huf.out] at e2
                simp at e2
                omega
              have hsA : Arr wr (fun x => (x = eb ∨ w.heap.size < x) ∧ x ≠ U) L (0 + 32 * j) (ptrs ((us.drop (32 * j)).take 32)) := by
                refine ⟨HLr.out.1, fun i v hv => ?_⟩
                rw [Nat.add_assoc]
                apply HLr.out.2
                simp only [ptrs, List.map_take, List.map_drop] at hv ⊢
                rw [List.getElem?_take] at hv
                split at hv
                · rw [List.getElem?_drop] at hv; exact hv
                · simp at hv
              have hp := fun (n : Nat) (hn : ((us.drop (32 * j)).take 32).length = n) => parent33 (S := fun x => (x = eb ∨ w.heap.size < x) ∧ x ≠ U) h ((us.drop (32 * j)).take 32) L (32 * j) n wr hseg (by omega) (by unfold maxLen; omega) (by omega) hstot (by rw [Nat.zero_add] at hsA; exact hsA) (fun c hc => Hkus.out c (hsub c hc))
              have Hp := hide hp
              clear hp hsA hstot
              have fin : ∀ (b : Nat) (w3 w4 : World), wr.heap.size ≤ b → Node w3 (fun x => ((x = eb ∨ w.heap.size < x) ∧ x ≠ U) ∨ wr.heap.size ≤ x) (h + 1) b (flat ((us.drop (32 * j)).take 32)) → Below wr.heap.size wr w3 →
                  w4.ownsRow w.heap.size 27 1 (.slice (some ⟨U, 0, none⟩) (j + 1) ((us.length + 31) / 32)) (j + 1) (ptrs ups ++ [.pointer (some ⟨b, 0, none⟩)]) →
                  (w3.alloc (.cells #[.pointer (some ⟨b, 0, none⟩)] 27)).grownBy w4 (some U) →
                  ∃ (j' : Nat) (ups : List (Nat × List Value)), 32 * j' ≤ us.length + 31 ∧ Value.int .i64 (32 * (j : Int) + 32) = .int .i64 ((32 * j' : Nat) : Int) ∧
                    Value.slice (some ⟨U, 0, none⟩) (j + 1) ((us.length + 31) / 32) = .slice (some ⟨U, 0, none⟩) j' ((us.length + 31) / 32) ∧
                    w4.ownsRow w.heap.size 27 1 (.slice (some ⟨U, 0, none⟩) j' ((us.length + 31) / 32)) j' (ptrs ups) ∧ flat ups = flat (us.take (32 * j')) ∧
                    (∀ c ∈ ups, Node w4 (fun x => (x = eb ∨ w.heap.size < x) ∧ x ≠ U) (h + 1) c.1 c.2) ∧ (∀ c ∈ us, Node w4 (fun x => (x = eb ∨ w.heap.size < x) ∧ x ≠ U) h c.1 c.2) ∧
                    Arr w4 (fun x => (x = eb ∨ w.heap.size < x) ∧ x ≠ U) L 0 (ptrs us) ∧ Below (w.heap.size + 1) (w.alloc (.cells #[.pointer none] 29)) w4 := by
                intro b w3 w4 hbs hN hbel hown4 hg4
                have hA3 : Agree (fun x => (x = eb ∨ w.heap.size < x) ∧ x ≠ U) wr w3 := Agree.of_below hbel
                have hA4 : Agree (fun x => (x = eb ∨ w.heap.size < x) ∧ x ≠ U) w3 w4 := (Agree.of_alloc _).trans (Agree.of_grown hg4 (fun x hx => hx.2)) (by simp)
                have hA5 := hA3.trans hA4 hbel.size
                have hs3 := hbel.size
                refine ⟨j + 1, ups ++ [(b, flat ((us.drop (32 * j)).take 32))], by omega, by go_num, rfl, ?_, ?_, ?_, fun c hc => Node.frame hA5 _ _ _ (Hkus.out c hc), HLr.out.frame hA5, ?_⟩
                · rw [ptrs_append]; exact hown4
                · rw [flat_append, Hflat.out, flat_cons, flat_nil, List.append_nil, ← flat_append, take_more]
                · exact par_step (fun x hx => hx.2) (fun x hx => hx.elim id (fun h => ⟨.inr (by omega), by omega⟩)) hA3 hbel.size Hkids.out hN hg4
                · exact ((Hb.out.trans (hbel.mono (by omega))).alloc (by omega) _).grown hg4 (by simp; omega) (by simp; omega)
              have Hfin := hide fin
              clear fin
              by_cases hfull : 32 * j + 32 ≤ us.length
              · have hlen : ((us.drop (32 * j)).take 32).length = 32 := by simp; omega
                have hp := Hp.out 32 hlen
                rw [hlen] at hp
                clear hlen
                have Hp2 := hide hp
                clear hp
                go_wp2_with fail
                refine Hp2.out.mono ?_
                clear Hp Hp2
                rintro e w3 ⟨b, rfl, hbs, hN, hbel⟩
                have hown3 := own_below hown hbel
                have HN := hide hN
                have Hbel := hide hbel
                clear hN hbel
                go_wp2_with (at_builtin; refine wpList_append_fits _ rfl (.tmp 60) (.tmp 67) 82 rfl w.heap.size 27 i0 1 Try.underlying82 hi hz1 U j ((us.length + 31) / 32) _ rfl (hown3.alloc _) ⟨w3.heap.size, 0, none⟩ 1 1 [.pointer (some ⟨b, 0, none⟩)] rfl rfl (cell_one_new _ _ _) (by intro u hu; simp at hu; subst hu; rfl) (by omega) ?_; intro w4 hown4 hgrow4)
                go_roundw
                case rel => exact Hfin.out b w3 w4 hbs HN.out Hbel.out hown4 hgrow4
                case measure => simp [intOf]; omega
              · have hlen : ((us.drop (32 * j)).take 32).length = us.length - 32 * j := by simp; omega
                have hp := Hp.out (us.length - 32 * j) hlen
                rw [hlen] at hp
                clear hlen
                have Hp2 := hide hp
                clear hp
                go_wp2_with fail
                refine Hp2.out.mono ?_
                clear Hp Hp2
                rintro e w3 ⟨b, rfl, hbs, hN, hbel⟩
                have hown3 := own_below hown hbel
                have HN := hide hN
                have Hbel := hide hbel
                clear hN hbel
                go_wp2_with (at_builtin; refine wpList_append_fits _ rfl (.tmp 60) (.tmp 67) 82 rfl w.heap.size 27 i0 1 Try.underlying82 hi hz1 U j ((us.length + 31) / 32) _ rfl (hown3.alloc _) ⟨w3.heap.size, 0, none⟩ 1 1 [.pointer (some ⟨b, 0, none⟩)] rfl rfl (cell_one_new _ _ _) (by intro u hu; simp at hu; subst hu; rfl) (by omega) ?_; intro w4 hown4 hgrow4)
                go_roundw
                case rel => exact Hfin.out b w3 w4 hbs HN.out Hbel.out hown4 hgrow4
                case measure => simp [intOf]; omega
            · have hkC : j = (us.length + 31) / 32 := by omega
              have hcl : ups.length = j := by have := hown.1; rw [ptrs_length] at this; omega
              have hL2 : ∀ i v, (ptrs ups)[i]? = some v → wr.cell? ⟨U, 0 + i, none⟩ = some v := by
                intro i v hv
                have hil : i < j := by have := (List.getElem?_eq_some_iff.1 hv).1; rw [ptrs_length] at this; omega
                rw [Nat.zero_add, hown.cellAt i (by omega)]; exact hv
              have hfl : flat ups = es := by rw [Hflat.out, List.take_of_length_le (by omega), Huf.out]
              have hkd : ∀ c ∈ ups, Node wr (fun x => x = eb ∨ w.heap.size < x) (h + 1) c.1 c.2 := fun c hc => Node.mono (fun x hx => hx.1) _ _ _ (Hkids.out c hc)
              have hups : ups ≠ [] := by intro e; rw [e] at hcl; simp at hcl; omega
              have HL := hide hL2
              have Hfl := hide hfl
              have Hkd := hide hkd
              have Hcl := hide hcl
              have HkC := hide hkC
              have Hups := hide hups
              clear hL2 hfl hkd hcl hkC hups Hflat Hkids Hkus HLr hown
              go_wp2
              go_roundw
              case rel => exact ⟨h + 1, U, (us.length + 31) / 32, ups, by simp [Hcl.out], Hups.out, by have h1 := Hcl.out; have h2 := HkC.out; omega, by unfold maxLen; omega, by omega, by simpa using HL.out, Hfl.out, by intro a b hc; exact Hkd.out (a, b) hc, Hb.out⟩
              case measure => simp [lenOf]; omega

theorem seqOf27_nil (a : Option Addr) (cap : Nat) (w : World) :
    Calls Try.prog 27 #[.slice a 0 cap] w fun e w' => e = .returned (.agg #[.pointer none]) ∧ Below w.heap.size w w' := by
  go_enter Try.func27, Try.ntmps27
  go_wp2
  exact bodyPost_ret (v := .agg #[.pointer none]) (by simp [results, Try.results27, go_sem]) rfl ⟨rfl, by first | exact ((Below.refl _ _).alloc (Nat.le_refl _) _) | exact ((Below.refl _ _).alloc (Nat.le_refl _) _).setCell (p := ⟨w.heap.size, 0, none⟩) (Nat.le_refl _) _⟩

end Go.Proofs.Qxb6614221a
