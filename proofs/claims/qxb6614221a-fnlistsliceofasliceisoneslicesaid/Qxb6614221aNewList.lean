import Derived.Test.Qxb6614221aSeqOf
namespace Go.Proofs.Qxb6614221a
open Go.RowKit

/-- The pointer p is the root of a sequence of es. -/
def Root (w : World) (S : Nat → Prop) (p : Option Addr) (es : List Value) : Prop :=
  (es = [] ∧ p = none) ∨ ∃ h b, p = some ⟨b, 0, none⟩ ∧ Node w S h b es

theorem Root.frame {w w' : World} {S : Nat → Prop} {p : Option Addr} {es : List Value} (h : Root w S p es) (hA : Agree S w w') : Root w' S p es := by
  rcases h with h | ⟨h, b, e, hN⟩
  · exact .inl h
  · exact .inr ⟨h, b, e, Node.frame hA _ _ _ hN⟩

theorem Root.mono {w : World} {S T : Nat → Prop} {p : Option Addr} {es : List Value} (h : Root w S p es) (hs : ∀ b, S b → T b) : Root w T p es := by
  rcases h with h | ⟨h, b, e, hN⟩
  · exact .inl h
  · exact .inr ⟨h, b, e, Node.mono hs _ _ _ hN⟩

theorem Root.lt {w : World} {S : Nat → Prop} {p : Option Addr} {es : List Value} (h : Root w S p es) : Root w (fun x => S x ∧ x < w.heap.size) p es := by
  rcases h with h | ⟨h, b, e, hN⟩
  · exact .inl h
  · exact .inr ⟨h, b, e, Node.lt _ _ _ hN⟩

theorem seqOf27_any (es : List Value) (eb eo cap : Nat) (w : World) (hbig : es.length ≤ 1048576) (hl : es.length ≤ cap)
    (hA : ∀ i v, es[i]? = some v → w.cell? ⟨eb, eo + i, none⟩ = some v) :
    Calls Try.prog 27 #[.slice (some ⟨eb, eo, none⟩) es.length cap] w fun e w' => ∃ p, e = .returned (.agg #[.pointer p]) ∧ Root w' (fun x => x = eb ∨ w.heap.size < x) p es ∧ Below w.heap.size w w' := by
  by_cases hne : es = []
  · subst hne
    exact (seqOf27_nil _ cap w).mono fun e w' ⟨h1, h2⟩ => ⟨none, h1, .inl ⟨rfl, rfl⟩, h2⟩
  · exact (seqOf27 es eb eo cap w hne hbig hl hA).mono fun e w' ⟨h, b, h1, h2, h3⟩ => ⟨_, h1, .inr ⟨h, b, rfl, h2⟩, h3⟩

/-- 'NewList(elems...)'. -/
theorem newList19 (es : List Value) (eb eo cap : Nat) (w : World) (hbig : es.length ≤ 1048576) (hl : es.length ≤ cap) (heb : eb < w.heap.size)
    (hA : ∀ i v, es[i]? = some v → w.cell? ⟨eb, eo + i, none⟩ = some v) :
    Calls Try.prog 19 #[.slice (some ⟨eb, eo, none⟩) es.length cap] w fun e w' => ∃ p, e = .returned (.agg #[.pointer p]) ∧ Root w' (fun x => x = eb ∨ w.heap.size < x) p es ∧ Below w.heap.size w w' := by
  have HA := hide hA
  clear hA
  go_enter Try.func19, Try.ntmps19
  go_wp2_with fail
  refine (seqOf27_any es eb eo cap _ hbig hl ?_).mono ?_
  · intro i v hv
    rw [World.cell?_of_block (Below.heap_alloc _ _ _ heb)]
    exact HA.out i v hv
  rintro e w1 ⟨p, rfl, hR, hb⟩
  have hres : w1.cell? ⟨w.heap.size, 0, none⟩ = some (.pointer none) := by rw [hb.cell (by simp)]; rw [cell_new]; rfl
  have hfrz : w1.frozen? ⟨w.heap.size, 0, none⟩ = false := by
    rw [hb.frozen (by simp)]; exact frozen_of_row _ _ _ _ _ (heap_alloc_new _ _)
  have HR := hide hR
  have Hb := hide hb
  clear hR hb
  go_wp2
  refine bodyPost_ret (v := .agg #[.pointer p]) (by simp [results, Try.results19, go_sem, hres]) rfl ⟨p, rfl, (HR.out.mono (T := fun x => x = eb ∨ w.heap.size < x) fun x hx => ?_).frame (Agree.of_setCell _ ?_), ?_⟩
  · simp at hx; omega
  · show ¬ (w.heap.size = eb ∨ w.heap.size < w.heap.size)
    omega
  · exact ((((Below.refl _ _).alloc (Nat.le_refl _) _).trans (Hb.out.mono (by simp))).setCell (p := ⟨w.heap.size, 0, none⟩) (Nat.le_refl _) _)

/-- '(value.seq).len'. -/
theorem seqLen24 {S : Nat → Prop} (p : Option Addr) (es : List Value) (w : World) (hR : Root w S p es) :
    Calls Try.prog 24 #[.agg #[.pointer p]] w fun e w' => e = .returned (.int .i64 es.length) ∧ Below w.heap.size w w' := by
  rcases hR with ⟨rfl, rfl⟩ | ⟨h, b, rfl, hN⟩
  · go_enter Try.func24, Try.ntmps24
    go_wp2
    go_ret
    exact ⟨rfl, (Below.refl _ _).alloc (Nat.le_refl _) _⟩
  · have HN := hide hN
    clear hN
    go_enter Try.func24, Try.ntmps24
    go_wp2_with fail
    refine (len30 h b es _ (Node.frame (Agree.of_alloc _) _ _ _ HN.out)).mono ?_
    rintro e w1 ⟨rfl, q, rfl⟩
    go_wp2
    go_ret
    exact ⟨rfl, bdrewN ((Below.refl _ _).alloc (Nat.le_refl _) _) q⟩

/-- '(value.List).Len'. -/
theorem listLen15 {S : Nat → Prop} (p : Option Addr) (es : List Value) (w : World) (hR : Root w S p es) :
    Calls Try.prog 15 #[.agg #[.pointer p]] w fun e w' => e = .returned (.int .i64 es.length) ∧ Below w.heap.size w w' := by
  have HR := hide hR
  clear hR
  go_enter Try.func15, Try.ntmps15
  go_wp2_with fail
  refine (seqLen24 p es _ (HR.out.frame (Agree.of_alloc _))).mono ?_
  rintro e w1 ⟨rfl, hb⟩
  go_wp2
  go_ret
  exact ⟨rfl, ((Below.refl _ _).alloc (Nat.le_refl _) _).trans (hb.mono (by simp))⟩

theorem len18_list {S : Nat → Prop} (p : Option Addr) (es : List Value) (w : World) (hR : Root w S p es) :
    Calls Try.prog 18 #[.iface 31 (.agg #[.pointer p])] w fun e w' => e = .returned (.tuple #[.int .i64 es.length, .bool true]) ∧ Below w.heap.size w w' := by
  have h1 := as31_31
  have HR := hide hR
  clear hR
  go_enter Try.func18, Try.ntmps18
  go_wp2_with fail
  refine (listLen15 p es _ (HR.out.frame (Agree.of_alloc _))).mono ?_
  rintro e w1 ⟨rfl, hb⟩
  go_wp2
  go_ret2
  exact ⟨rfl, ((Below.refl _ _).alloc (Nat.le_refl _) _).trans (hb.mono (by simp))⟩

theorem lenList9 {S : Nat → Prop} (p : Option Addr) (es : List Value) (w : World) (hR : Root w S p es) :
    Calls Try.prog 9 #[.agg #[.pointer p]] w fun e w' => e = .returned (.tuple #[.int .i64 es.length, .bool true]) ∧ Below w.heap.size w w' := by
  have HR := hide hR
  clear hR
  go_enter Try.func9, Try.ntmps9
  go_wp2_with fail
  refine (len18_list p es _ (HR.out.frame (Agree.of_alloc _))).mono ?_
  rintro e w1 ⟨rfl, hb⟩
  go_wp2
  go_ret2
  exact ⟨rfl, ((Below.refl _ _).alloc (Nat.le_refl _) _).trans (hb.mono (by simp))⟩

theorem Try.info20 : (Try.prog.info? 20).map (fun i => (i.zero, i.size, i.bytes)) = some (some .nilIface, 1, 16) := by kernel_rfl

def strV (s : ByteArray) : Value := .iface 9 (.string s)
/-- What the loop of ZZnewStringList has laid after k rounds. -/
def StrsTo (ss : List ByteArray) (k : Nat) (xs : List Value) : Prop := ∀ i, i < k → xs[i]? = some (strV (ss.getD i ByteArray.empty))

theorem StrsTo.step {ss : List ByteArray} {k : Nat} {xs : List Value} (hE : StrsTo ss k xs) (hk : k < xs.length) : StrsTo ss (k + 1) (xs.set k (.iface 9 (.string (ss.getD k ByteArray.empty)))) := by
  intro i hi
  by_cases e : i = k
  · subst e; simp [hk, strV]
  · rw [List.getElem?_set_ne (by omega)]
    exact hE i (by omega)

theorem StrsTo.all {ss : List ByteArray} {xs : List Value} (hE : StrsTo ss ss.length xs) (hl : xs.length = ss.length) : xs = ss.map strV := by
  apply List.ext_getElem?
  intro i
  by_cases h : i < ss.length
  · rw [hE i h, List.getElem?_map, List.getElem?_eq_getElem h]
    simp [List.getD, List.getElem?_eq_getElem h]
  · rw [List.getElem?_eq_none (by omega), List.getElem?_eq_none (by simp; omega)]

set_option maxHeartbeats 400000 in
/-- 'ZZnewStringList(ss)'. -/
theorem newStrings10 (ss : List ByteArray) (a : Option Addr) (cap : Nat) (w : World) (hbig : ss.length ≤ 1048576)
    (hA : ∀ i, i < ss.length → ∃ b o, a = some ⟨b, o, none⟩ ∧ w.cell? ⟨b, o + i, none⟩ = some (.string (ss.getD i ByteArray.empty))) :
    Calls Try.prog 10 #[.slice a ss.length cap] w fun e w' => ∃ p, e = .returned (.agg #[.pointer p]) ∧ Root w' (fun x => w.heap.size < x) p (ss.map strV) ∧ Below w.heap.size w w' := by
  obtain ⟨i0, hi, hz0, hz1, hz2⟩ := info_parts Try.info20
  have HA := hide hA
  clear hA
  go_enter Try.func10, Try.ntmps10
  go_wp2_with (at_make; refine wpList_make_full _ rfl _ _ 43 rfl w.heap.size 20 i0 .nilIface 1 Try.underlying43 hi hz0 hz1 .i64 .i64 _ _ ss.length rfl rfl (by first | rfl | simp) (by first | rfl | simp) (by rw [hz2]; omega) (by unfold maxLen; omega) (by simp) ?_; intro w0 hown0 hgrow0)
  have hb0 : Below (w.heap.size + 1) (w.alloc (.cells #[.pointer none] 31)) w0 := (Below.refl _ _).grown hgrow0 (by simp) (by simp)
  clear hgrow0
  go_loopw [10] (fun i wr => ∃ (k : Nat) (xs : List Value), k ≤ ss.length ∧ i = .int .i64 k ∧ wr.ownsRow w.heap.size 20 1 (.slice (some ⟨w.heap.size + 1, 0, none⟩) ss.length ss.length) ss.length xs ∧
      StrsTo ss k xs ∧ Below (w.heap.size + 1) (w.alloc (.cells #[.pointer none] 31)) wr)
    (fun i _ => ss.length - (intOf i).toNat)
  case atStart => exact ⟨0, _, by omega, rfl, by simpa using hown0, fun i hi => by omega, hb0⟩
  case round =>
    obtain ⟨k, xs, hk, rfl, hown, hE, hb⟩ := hrel
    clear hown0 hb0
    have hxl : xs.length = ss.length := by have := hown.1; omega
    have HE := hide hE
    have Hb := hide hb
    clear hE hb
    by_cases hlt : k < ss.length
    · obtain ⟨b, o, rfl, hc⟩ := HA.out k hlt
      have hbl := World.block_lt_of_cell? _ _ hc
      have hcell : wr.cell? ⟨b, o + k, none⟩ = some (.string (ss.getD k ByteArray.empty)) := by
        rw [Hb.out.cell (by show b < _; simp at hbl; omega), World.cell?_of_block (Below.heap_alloc _ _ _ hbl)]; exact hc
      have hfr := hown.frozenAt k
      obtain ⟨ov, hce⟩ : ∃ v, wr.cell? ⟨w.heap.size + 1, k, none⟩ = some v := ⟨_, (hown.cellAt k (by omega)).trans (List.getElem?_eq_getElem (by omega))⟩
      have Hst := hide (hown.stored k (.iface 9 (.string (ss.getD k ByteArray.empty))))
      have HE2 := hide (HE.out.step (k := k) (by omega))
      clear hc HE
      generalize ss.getD k ByteArray.empty = s0 at *
      go_wp2
      go_roundw
      case rel => exact ⟨k + 1, _, by omega, by go_num, Hst.out.1, HE2.out, Hb.out.setCell (p := ⟨w.heap.size + 1, k, none⟩) (Nat.le_refl _) _⟩
      case measure => simp [intOf]; omega
    · have hkl : k = ss.length := by omega
      have hE2 : StrsTo ss ss.length xs := by rw [← hkl]; exact HE.out
      have hxs : xs = ss.map strV := hE2.all hxl
      have hcells : ∀ i v, (ss.map strV)[i]? = some v → wr.cell? ⟨w.heap.size + 1, 0 + i, none⟩ = some v := by
        intro i v hv
        have hil : i < ss.length := by have := (List.getElem?_eq_some_iff.1 hv).1; simpa using this
        rw [Nat.zero_add, hown.cellAt i (by omega), hxs]
        exact hv
      have hp := newList19 (ss.map strV) (w.heap.size + 1) 0 ss.length wr (by simpa using hbig) (by simp) (hown.lt _ rfl).2 hcells
      rw [List.length_map] at hp
      have Hp := hide hp
      have Hkl := hide hkl
      have hsz : w.heap.size + 1 < wr.heap.size := (hown.lt _ rfl).2
      clear hp hcells hxs hE2 hkl HE hown
      go_wp2_with fail
      refine Hp.out.mono ?_
      rintro e w1 ⟨p, rfl, hR, hb⟩
      have hb1 : Below (w.heap.size + 1) (w.alloc (.cells #[.pointer none] 31)) w1 := Hb.out.trans (hb.mono (by omega))
      have hres : w1.cell? ⟨w.heap.size, 0, none⟩ = some (.pointer none) := by rw [hb1.cell (by simp)]; rw [cell_new]; rfl
      have hfrz : w1.frozen? ⟨w.heap.size, 0, none⟩ = false := by
        rw [hb1.frozen (by simp)]; exact frozen_of_row _ _ _ _ _ (heap_alloc_new _ _)
      have HR := hide hR
      have Hb1 := hide hb1
      clear hR hb hb1 Hp
      go_wp2
      refine bodyPost_ret (v := .agg #[.pointer p]) (by simp [results, Try.results10, go_sem, hres]) rfl ⟨p, rfl, (HR.out.mono (T := fun x => w.heap.size < x) fun x hx => ?_).frame (Agree.of_setCell _ ?_), ?_⟩
      · omega
      · show ¬ (w.heap.size < w.heap.size)
        omega
      · exact ((((Below.refl _ _).alloc (Nat.le_refl _) _).trans (Hb1.out.mono (by omega))).setCell (p := ⟨w.heap.size, 0, none⟩) (Nat.le_refl _) _)

end Go.Proofs.Qxb6614221a
