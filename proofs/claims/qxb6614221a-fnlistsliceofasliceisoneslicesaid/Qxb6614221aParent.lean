import Derived.Test.Qxb6614221aNodeLen
namespace Go.Proofs.Qxb6614221a
open Go.RowKit

theorem Try.info3 : (Try.prog.info? 3).map (fun i => (i.zero, i.size, i.bytes)) = some (some (.int .i64 0), 1, 8) := by kernel_rfl

/-- What the loop has laid after k rounds. -/
def EndsTo (cs : List (Nat × List Value)) (k : Nat) (xs : List Value) : Prop := ∀ i, i < k → xs[i]? = some (.int .i64 (endAt cs (i + 1)))

theorem cell_new (w : World) (cs : Array Value) (t : TypeId) (j : Nat) : (w.alloc (.cells cs t)).cell? ⟨w.heap.size, j, none⟩ = cs[j]? :=
  cell_of_row _ _ _ cs t (0, 0) (heap_alloc_new w _)

/-- The node that is boxed last is a parent over cs. -/
theorem node_parent {S : Nat → Prop} (h : Nat) (cs : List (Nat × List Value)) (cb co ccap : Nat) (w wr : World) (xs : List Value) (hne : cs ≠ []) (hl : cs.length ≤ ccap) (hcap : ccap ≤ maxLen)
    (hA : Arr w S cb co (ptrs cs)) (hkids : ∀ c ∈ cs, Node w S h c.1 c.2) (hown : wr.ownsRow w.heap.size 3 1 (.slice (some ⟨w.heap.size, 0, none⟩) cs.length cs.length) cs.length xs)
    (hE : EndsTo cs cs.length xs) (hb : Below w.heap.size w wr) :
    Node (wr.alloc (.cells #[.slice none 0 0, .slice (some ⟨cb, co, none⟩) cs.length ccap, .slice (some ⟨w.heap.size, 0, none⟩) cs.length cs.length] 85)) (fun x => S x ∨ w.heap.size ≤ x) (h + 1) wr.heap.size (flat cs) ∧
      Below w.heap.size w (wr.alloc (.cells #[.slice none 0 0, .slice (some ⟨cb, co, none⟩) cs.length ccap, .slice (some ⟨w.heap.size, 0, none⟩) cs.length cs.length] 85)) := by
  have hbel : Below w.heap.size w (wr.alloc (.cells #[.slice none 0 0, .slice (some ⟨cb, co, none⟩) cs.length ccap, .slice (some ⟨w.heap.size, 0, none⟩) cs.length cs.length] 85)) := hb.alloc hb.size _
  refine ⟨⟨.inr hb.size, cs, cb, co, ccap, w.heap.size, 0, cs.length, hne, rfl, ?_, ?_, ?_, hl, hcap, Nat.le_refl _, by omega, ?_, .inr (Nat.le_refl _), ?_, ?_⟩, hbel⟩
  · rw [cell_new]; rfl
  · rw [cell_new]; rfl
  · rw [cell_new]; rfl
  · exact (hA.frame (Agree.of_below hbel)).mono fun _ hx => .inl hx
  · intro i hi
    have h1 := (hown.alloc (.cells #[.slice none 0 0, .slice (some ⟨cb, co, none⟩) cs.length ccap, .slice (some ⟨w.heap.size, 0, none⟩) cs.length cs.length] 85)).cellAt i (by omega)
    rw [Nat.zero_add, h1]
    exact hE i hi
  · intro c hc
    exact Node.mono (fun _ hx => .inl hx) _ _ _ (Node.frame (Agree.of_below hbel) _ _ _ (hkids c hc))

theorem EndsTo.step {cs : List (Nat × List Value)} {k : Nat} {xs : List Value} (hE : EndsTo cs k xs) (hk : k < xs.length) : EndsTo cs (k + 1) (xs.set k (.int .i64 (endAt cs (k + 1)))) := by
  intro i hi
  by_cases e : i = k
  · subst e; simp [hk]
  · rw [List.getElem?_set_ne (by omega)]
    exact hE i (by omega)

set_option maxHeartbeats 400000 in
theorem parent33 {S : Nat → Prop} (h : Nat) (cs : List (Nat × List Value)) (cb co ccap : Nat) (w : World) (hne : cs ≠ []) (hl : cs.length ≤ ccap) (hcap : ccap ≤ maxLen)
    (hbig : cs.length ≤ 1048576) (htot : (flat cs).length ≤ 1048576) (hA : Arr w S cb co (ptrs cs)) (hkids : ∀ c ∈ cs, Node w S h c.1 c.2) :
    Calls Try.prog 33 #[.slice (some ⟨cb, co, none⟩) cs.length ccap] w fun e w' => ∃ b, e = .returned (.pointer (some ⟨b, 0, none⟩)) ∧ w.heap.size ≤ b ∧
      Node w' (fun x => S x ∨ w.heap.size ≤ x) (h + 1) b (flat cs) ∧ Below w.heap.size w w' := by
  obtain ⟨i0, hi, hz0, hz1, hz2⟩ := info_parts Try.info3
  go_enter Try.func33, Try.ntmps33
  go_wp2_with (at_make; refine wpList_make_full _ rfl _ _ 83 rfl w.heap.size 3 i0 (.int .i64 0) 1 Try.underlying83 hi hz0 hz1 .i64 .i64 _ _ cs.length rfl rfl (by first | rfl | simp) (by first | rfl | simp) (by rw [hz2]; omega) (by unfold maxLen; omega) (Nat.le_refl _) ?_; intro w0 hown0 hgrow0)
  have hb0 : Below w.heap.size w w0 := (Below.refl _ _).grown hgrow0 (Nat.le_refl _) (by simp)
  clear hgrow0
  go_loopw [4, 12] (fun t i wr => ∃ k : Nat, ∃ xs, k ≤ cs.length ∧ i = .int .i64 k ∧ t = .int .i64 (endAt cs k) ∧ wr.ownsRow w.heap.size 3 1 (.slice (some ⟨w.heap.size, 0, none⟩) cs.length cs.length) cs.length xs ∧ EndsTo cs k xs ∧ Below w.heap.size w wr)
    (fun _ i _ => cs.length - (intOf i).toNat)
  case atStart => exact ⟨0, _, Nat.zero_le _, rfl, by simp [endAt_zero], hown0, fun i hi => by omega, hb0⟩
  case round =>
    obtain ⟨k, xs, hk, rfl, rfl, hown, hE, hb⟩ := hrel
    clear hown0 hb0
    by_cases hlt : k < cs.length
    · have hget : cs[k]? = some cs[k] := List.getElem?_eq_getElem hlt
      have hcell : wr.cell? ⟨cb, co + k, none⟩ = some (.pointer (some ⟨(cs[k]).1, 0, none⟩)) := by
        have h1 : w.cell? ⟨cb, co + k, none⟩ = some (.pointer (some ⟨(cs[k]).1, 0, none⟩)) := hA.2 k _ (by simp [ptrs, hget])
        rw [hb.cell (World.block_lt_of_cell? w _ h1)]; exact h1
      have hN : Node wr S h (cs[k]).1 (cs[k]).2 := Node.frame (Agree.of_below hb) _ _ _ (hkids _ (List.getElem_mem hlt))
      clear hget
      have he1 := endAt_succ cs k _ (List.getElem?_eq_getElem hlt)
      have he2 := endAt_le cs (k + 1)
      have HE : Hid (endAt cs (k + 1) = endAt cs k + (cs[k]).2.length) := he1
      have hsum : endAt cs k + (cs[k]).2.length ≤ 1048576 := by omega
      clear he1 he2
      have hfr := hown.frozenAt k
      have hce := hown.cellAt k (by omega)
      have hxl : xs.length = cs.length := by have := hown.1; omega
      have hst := hown.stored k (.int .i64 (endAt cs (k + 1)))
      rw [List.getElem?_eq_getElem (by omega)] at hce
      go_wp2_with fail
      refine (len30 h _ _ _ hN).mono ?_
      rintro e w2 ⟨rfl, q, rfl⟩
      go_wp2_with fail
      go_roundw
      case rel =>
        rw [show ((endAt cs k : Nat) : Int) + ((cs[k]).2.length : Nat) = ((endAt cs (k + 1) : Nat) : Int) by rw [HE.out]; omega]
        exact ⟨k + 1, _, by omega, by go_num, rfl, hst.1, hE.step (by omega), (bdrewN hb q).setCell (p := ⟨w.heap.size, k, none⟩) (Nat.le_refl _) _⟩
      case measure => simp [intOf]; omega
    · have hkl : k = cs.length := by omega
      have Hk : Hid (k = cs.length) := hkl
      clear hkl
      go_wp2
      go_ret
      have hkl := Hk.out
      subst hkl
      exact ⟨_, rfl, hb.size, node_parent h cs cb co ccap w wr xs hne hl hcap hA hkids hown hE hb⟩
end Go.Proofs.Qxb6614221a
