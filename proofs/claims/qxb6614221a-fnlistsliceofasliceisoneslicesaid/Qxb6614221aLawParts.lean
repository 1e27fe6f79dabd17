import Derived.Test.Qxb6614221aListSlice
import Derived.Test.Qxb6614221aBounds
import Derived.Test.Qxb6614221aFnLenWalk
import Derived.Laws.CopyOwn
import Derived.Laws.IdiomCopy
namespace Go.Proofs.Qxb6614221a
open Go.RowKit

theorem StrArg.below {w w' : World} {a : Option Addr} {ss : List ByteArray} (h : StrArg w a ss) (hb : Below w.heap.size w w') : StrArg w' a ss := by
  intro i hi
  obtain ⟨b, o, e, hc⟩ := h i hi
  exact ⟨b, o, e, (hb.cell (World.block_lt_of_cell? _ _ hc)).trans hc⟩

theorem StrArg.get {ss : List ByteArray} {i : Nat} {v : Value} (hv : (ss.map Value.string)[i]? = some v) : i < ss.length ∧ v = .string (ss.getD i ByteArray.empty) := by
  have hi : i < ss.length := by have := (List.getElem?_eq_some_iff.1 hv).1; simpa using this
  refine ⟨hi, ?_⟩
  rw [List.getElem?_map, List.getElem?_eq_getElem hi] at hv
  simp at hv
  rw [← hv]
  simp [List.getD, List.getElem?_eq_getElem hi]

theorem own_strs {w : World} {B g n cap : Nat} {ss : List ByteArray} (h : w.ownsRow B 9 1 (.slice (some ⟨g, 0, none⟩) n cap) n (ss.map Value.string)) (hn : ss.length = n) : StrArg w (some ⟨g, 0, none⟩) ss := by
  intro i hi
  refine ⟨g, 0, rfl, ?_⟩
  rw [Nat.zero_add, h.cellAt i (by omega), List.getElem?_map, List.getElem?_eq_getElem hi]
  simp [List.getD, List.getElem?_eq_getElem hi]

theorem Try.size9 : (Try.prog.info? 9).map (·.size) = some 1 := by kernel_rfl

/-- 'copy(zzc, strs)', zzc just made. -/
theorem copy_strs {w0 : World} {B g n cap : Nat} {a : Option Addr} {xs : List Value} (ss : List ByteArray) (hn : ss.length = n) (ho : w0.ownsRow B 9 1 (.slice (some ⟨g, 0, none⟩) n n) n xs) (hA : StrArg w0 a ss) :
    ∃ wq, (∀ ty, (Builtin.copy_ #[23, 23] ty #[.slice (some ⟨g, 0, none⟩) n n, .slice a n cap]).run Try.prog w0 = .ok (goInt n) wq) ∧ wq.ownsRow B 9 1 (.slice (some ⟨g, 0, none⟩) n n) n (ss.map Value.string) ∧ w0.grownBy wq (some g) := by
  by_cases h0 : n = 0
  · subst h0
    have hnil : ss = [] := List.length_eq_zero_iff.1 hn
    subst hnil
    have hx : xs = [] := by have := ho.1; exact List.length_eq_zero_iff.1 (by omega)
    subst hx
    exact ⟨w0, fun ty => run_copy_none w0 23 23 ty 9 _ _ _ _ _ _ Try.underlying23 Try.size9 (by simp), ho, World.grownBy.refl _ _⟩
  · obtain ⟨b, o, rfl, _⟩ := hA 0 (by omega)
    rcases ho.2 with ⟨h1, _⟩ | ⟨g', cap', cur, h1, hgb, hg, hnc, hcm, hcs, _⟩
    · simp at h1
    · simp only [Value.slice.injEq, Option.some.injEq, Addr.mk.injEq, and_true, true_and] at h1
      obtain ⟨rfl, rfl⟩ := h1
      have hlen : (ss.map Value.string).length = n := by simpa using hn
      refine ⟨w0.setRow g (cur.toList.take 0 ++ ss.map Value.string ++ cur.toList.drop (0 + (ss.map Value.string).length)).toArray, fun ty => ?_, ⟨by simpa using hn, .inr ⟨g, n, _, rfl, hgb, setRow_heap _ _ _ _ _ _ hg, hnc, hcm, ?_, ?_⟩⟩, ?_⟩
      · have hr := run_copy_row (P := Try.prog) w0 23 23 ty 9 g 0 n n ⟨b, o, none⟩ n cap cur 9 (ss.map Value.string) Try.underlying23 Try.size9 hg (by rw [hlen]; simp) (fun j v hv => ?_) (by rw [hlen]; omega) (fun v hv => ?_)
        · rw [hr, hlen]
        · obtain ⟨hj, rfl⟩ := StrArg.get hv
          obtain ⟨b', o', e, hc⟩ := hA j hj
          simp only [Option.some.injEq, Addr.mk.injEq, and_true] at e
          obtain ⟨rfl, rfl⟩ := e
          rw [show (⟨b, o, none⟩ : Addr).add j = ⟨b, o + j, none⟩ by simp [Addr.add]]
          exact hc
        · simp only [List.mem_map] at hv
          obtain ⟨s, _, rfl⟩ := hv
          rfl
      · simp; omega
      · have : (ss.map Value.string).length = n * 1 := by omega
        simp only [List.take_zero, List.nil_append]
        rw [← this]
        simp
      · exact ⟨rfl, rfl, rfl, by simp, fun k _ hk => setRow_other _ _ _ _ (by simpa using hk)⟩

/-- What the copying loop has laid after k rounds. -/
def CpTo (ss : List ByteArray) (k : Nat) (xs : List Value) : Prop := ∀ i, i < k → xs[i]? = some (.string (ss.getD i ByteArray.empty))

theorem CpTo.step {ss : List ByteArray} {k : Nat} {xs : List Value} (hE : CpTo ss k xs) (hk : k < xs.length) : CpTo ss (k + 1) (xs.set k (.string (ss.getD k ByteArray.empty))) := by
  intro i hi
  by_cases e : i = k
  · subst e; simp [hk]
  · rw [List.getElem?_set_ne (by omega)]
    exact hE i (by omega)

theorem CpTo.all {ss : List ByteArray} {xs : List Value} (hE : CpTo ss ss.length xs) (hl : xs.length = ss.length) : xs = ss.map Value.string := by
  apply List.ext_getElem?
  intro i
  by_cases h : i < ss.length
  · rw [hE i h, List.getElem?_map, List.getElem?_eq_getElem h]
    simp [List.getD, List.getElem?_eq_getElem h]
  · rw [List.getElem?_eq_none (by omega), List.getElem?_eq_none (by simp; omega)]

/-- What stands before the comparing loops: the cells lB and sB hold the list and its slice; G holds the wanted strings. -/
structure Ready (W : World) (lB sB G : Nat) (p p2 : Option Addr) (ss : List ByteArray) (seg : List Value) (w : World) : Prop where
  lc : W.cell? ⟨lB, 0, none⟩ = some (.pointer p)
  sc : W.cell? ⟨sB, 0, none⟩ = some (.pointer p2)
  lR : Root W (fun _ => True) p (ss.map strV)
  sR : Root W (fun _ => True) p2 seg
  wA : StrArg W (some ⟨G, 0, none⟩) ss
  bel : Below w.heap.size w W

theorem Root.any {w : World} {S : Nat → Prop} {p : Option Addr} {es : List Value} (h : Root w S p es) : Root w (fun _ => True) p es := h.mono fun _ _ => trivial

theorem Ready.step {W W' : World} {lB sB G : Nat} {p p2 : Option Addr} {ss : List ByteArray} {seg : List Value} {w : World} (h : Ready W lB sB G p p2 ss seg w) (hb : Below W.heap.size W W') : Ready W' lB sB G p p2 ss seg w := by
  refine ⟨(hb.cell (World.block_lt_of_cell? _ _ h.lc)).trans h.lc, (hb.cell (World.block_lt_of_cell? _ _ h.sc)).trans h.sc, (h.lR.below hb).any, (h.sR.below hb).any, h.wA.below hb, h.bel.trans (hb.mono h.bel.size)⟩

theorem Ready.drewN {W : World} {lB sB G : Nat} {p p2 : Option Addr} {ss : List ByteArray} {seg : List Value} {w : World} (h : Ready W lB sB G p p2 ss seg w) (n : Nat) : Ready (W.drewN n) lB sB G p p2 ss seg w := h.step (bdrewN (Below.refl _ _) n)

theorem Ready.want {W : World} {lB sB G : Nat} {p p2 : Option Addr} {ss : List ByteArray} {seg : List Value} {w : World} (h : Ready W lB sB G p p2 ss seg w) (i : Nat) (hi : i < ss.length) : W.cell? ⟨G, i, none⟩ = some (.string (ss.getD i ByteArray.empty)) := by
  obtain ⟨b, o, e, hc⟩ := h.wA i hi
  simp only [Option.some.injEq, Addr.mk.injEq, and_true] at e
  obtain ⟨rfl, rfl⟩ := e
  rw [Nat.zero_add] at hc
  exact hc

theorem strV_at {ss : List ByteArray} {i : Nat} (hi : i < ss.length) : (ss.map strV)[i]? = some (strV (ss.getD i ByteArray.empty)) := by
  rw [List.getElem?_map, List.getElem?_eq_getElem hi]
  simp [List.getD, List.getElem?_eq_getElem hi]

theorem seg_at {ss : List ByteArray} {lo hi i : Nat} (h1 : lo + i < hi) (h2 : hi ≤ ss.length) : (((ss.map strV).drop lo).take (hi - lo))[i]? = some (strV (ss.getD (lo + i) ByteArray.empty)) := by
  rw [List.getElem?_take, if_pos (by omega), List.getElem?_drop]
  exact strV_at (by omega)

end Go.Proofs.Qxb6614221a
