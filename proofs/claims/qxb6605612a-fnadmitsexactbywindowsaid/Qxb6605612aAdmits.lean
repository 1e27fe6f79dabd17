import Derived.Test.Qxb6605612aFind
import Derived.Test.Qxb6605612aUnix
namespace Go.Proofs.Qxb6605612a
open Go.RowKit

theorem Held.next {w0 w w' : World} {b g i h : Nat} {key : ByteArray} {L C P : Int} (a : Held w0 w b g i h key L C P) (hb : Below w.heap.size w w') : Held w0 w' b g i h key L C P where
  c0 := by rw [hb.cell a.lt]; exact a.c0
  c1 := by rw [hb.cell a.lt]; exact a.c1
  lt := Nat.lt_of_lt_of_le a.lt hb.size
  gl := Nat.lt_of_lt_of_le a.gl hb.size
  ne := a.ne
  m := by rw [hb.cell a.gl]; exact a.m
  k := by rw [hb.cell a.gl]; exact a.k
  s0 := by rw [hb.cell a.gl]; exact a.s0
  s1 := by rw [hb.cell a.gl]; exact a.s1
  s2 := by rw [hb.cell a.gl]; exact a.s2
  oth := fun j h1 h2 => by rw [hb.cell a.gl]; exact a.oth j h1 h2
  sf := fun j => by rw [hb.frozen a.gl]; exact a.sf j
  but := a.but.trans (But.of hb)
  k3 := by rw [hb.cell a.lt]; exact a.k3
  k4 := by rw [hb.cell a.lt]; exact a.k4
  k5 := by rw [hb.cell a.lt]; exact a.k5

theorem Empty0.next {w w' : World} {b : Nat} (a : Empty0 w b) (hb : Below w.heap.size w w') : Empty0 w' b where
  c0 := by rw [hb.cell a.lt]; exact a.c0
  c1 := by rw [hb.cell a.lt]; exact a.c1
  c2 := by rw [hb.cell a.lt]; exact a.c2
  f0 := by rw [hb.frozen a.lt]; exact a.f0
  f1 := by rw [hb.frozen a.lt]; exact a.f1
  f2 := by rw [hb.frozen a.lt]; exact a.f2
  lt := Nat.lt_of_lt_of_le a.lt hb.size

def AdmOut (v : Bool) (w : World) (e : Ending) (w' : World) : Prop := e = .returned (.bool v) ∧ Below w.heap.size w w'

/-- No such key: admitted. -/
theorem admits_none (b hq n : Nat) (keyq : ByteArray) (s cost : Int) (w : World)
    (hf : ∀ W, Below w.heap.size w W → Calls Try.prog 36 #[.pointer (some ⟨b, 0, none⟩), .int .u64 hq, .string keyq] W (FindOut none W)) :
    Calls Try.prog 27 #[.pointer (some ⟨b, 0, none⟩), .int .u64 hq, .string keyq, .agg #[.int .u64 n, .int .i64 s, .pointer none], .int .i64 cost] w (AdmOut true w) := by
  have Hf := hide hf
  clear hf
  go_enter Try.func27, Try.ntmps27
  go_wp2_with fail
  refine (Hf.out _ ((Below.refl _ _).alloc (Nat.le_refl _) _)).mono ?_
  rintro e w1 ⟨rfl, q, rfl⟩
  go_wp2_with fail
  go_ret
  exact ⟨rfl, below_drewN ((Below.refl _ _).alloc (Nat.le_refl _) _) _⟩

theorem pre_alloc {w V w' : World} {o : Obj} (hb : Below V.heap.size V w') (hV : V.heap = ((w.alloc o).alloc (.cells #[.int .i64 0, .int .i64 0, .int .i64 0] 34)).heap) :
    (w'.cell? ⟨w.heap.size + 1, 0, none⟩ = some (.int .i64 0) ∧ w'.cell? ⟨w.heap.size + 1, 1, none⟩ = some (.int .i64 0) ∧ w'.cell? ⟨w.heap.size + 1, 2, none⟩ = some (.int .i64 0)) ∧
    w'.frozen? ⟨w.heap.size + 1, 0, none⟩ = false ∧ w'.frozen? ⟨w.heap.size + 1, 1, none⟩ = false ∧ w'.frozen? ⟨w.heap.size + 1, 2, none⟩ = false := by
  have hs : w.heap.size + 1 < V.heap.size := by rw [hV]; simp
  have hc : ∀ p, V.cell? p = ((w.alloc o).alloc (.cells #[.int .i64 0, .int .i64 0, .int .i64 0] 34)).cell? p := fun p => World.cell?_of_block (by rw [hV])
  have hf : ∀ p, V.frozen? p = ((w.alloc o).alloc (.cells #[.int .i64 0, .int .i64 0, .int .i64 0] 34)).frozen? p := fun p => World.frozen?_of_block (by rw [hV])
  refine ⟨⟨?_, ?_, ?_⟩, ?_, ?_, ?_⟩
  all_goals first
    | (rw [hb.cell hs, hc]; simp)
    | (rw [hb.frozen hs, hf]; simp)

theorem adm1 {w w' : World} {o : Obj} {n : Nat} (hb : Below ((w.alloc o).drewN n).heap.size ((w.alloc o).drewN n) w') (o2 : Obj) : Below w.heap.size w (w'.alloc o2) := by
  have hV : Below w.heap.size w ((w.alloc o).drewN n) := below_drewN ((Below.refl _ _).alloc (Nat.le_refl _) _) _
  exact (hV.trans (hb.mono hV.size)).alloc (Nat.le_trans hV.size hb.size) o2

theorem adm2 {w w' : World} {o o2 : Obj} {n : Nat} (hb : Below (((w.alloc o).drewN n).alloc o2).heap.size (((w.alloc o).drewN n).alloc o2) w') (x y z : Value) :
    Below w.heap.size w (((w'.setCell ⟨w.heap.size + 1, 0, none⟩ x).setCell ⟨w.heap.size + 1, 1, none⟩ y).setCell ⟨w.heap.size + 1, 2, none⟩ z) := by
  have hV : Below w.heap.size w ((w.alloc o).drewN n) := below_drewN ((Below.refl _ _).alloc (Nat.le_refl _) _) _
  have hV2 := hV.alloc hV.size o2
  exact (((hV2.trans (hb.mono hV2.size)).setCell (by simp) _).setCell (by simp) _).setCell (by simp) _

set_option maxHeartbeats 8000000 in
theorem admits_some (b g i n : Nat) (hq : Nat) (keyq : ByteArray) (s cost lim size L C P : Int) (k : Cnt) (ok : Bool) (w : World)
    (hb : b < w.heap.size) (hg : g < w.heap.size)
    (hf : ∀ W, Below w.heap.size w W → Calls Try.prog 36 #[.pointer (some ⟨b, 0, none⟩), .int .u64 hq, .string keyq] W (FindOut (some ⟨g, i * 5 + 2, none⟩) W))
    (ht : ∀ w, Calls Try.prog 9 #[.agg #[.int .i64 lim, .int .i64 size], .agg #[.int .i64 L, .int .i64 C, .int .i64 P], .agg #[.int .u64 n, .int .i64 s, .pointer none], .int .i64 cost] w (TakeOut k ok w))
    (b4 : w.cell? ⟨b, 4, none⟩ = some (.int .i64 lim)) (b5 : w.cell? ⟨b, 5, none⟩ = some (.int .i64 size))
    (s0 : w.cell? ⟨g, i * 5 + 2, none⟩ = some (.int .i64 L)) (s1 : w.cell? ⟨g, i * 5 + 3, none⟩ = some (.int .i64 C)) (s2 : w.cell? ⟨g, i * 5 + 4, none⟩ = some (.int .i64 P)) :
    Calls Try.prog 27 #[.pointer (some ⟨b, 0, none⟩), .int .u64 hq, .string keyq, .agg #[.int .u64 n, .int .i64 s, .pointer none], .int .i64 cost] w (AdmOut ok w) := by
  have Hf := hide hf
  have Ht := hide ht
  clear hf ht
  go_enter Try.func27, Try.ntmps27
  go_wp2_with fail
  refine (Hf.out _ ((Below.refl _ _).alloc (Nat.le_refl _) _)).mono ?_
  rintro e w1 ⟨rfl, q, rfl⟩
  clear Hf
  go_upto_region 4 with fail
  go_cut [13] (fun v wc => v = .bool ok ∧ Below w.heap.size w wc)
  case first =>
    go_region_with (go_at_call 9; refine (Ht.out _).mono ?_; rintro e w' ⟨rfl, hb'⟩; first | (obtain ⟨⟨d0, d1, d2⟩, d3, d4, d5⟩ := pre_alloc (w := w) (o := .cells #[.int .u64 n, .int .i64 s, .pointer none] 31) hb' rfl) | skip)
    all_goals
      go_wp2_with fail
      go_meet
      case rel =>
        first
          | exact ⟨rfl, adm1 hb' _⟩
          | exact ⟨rfl, adm2 hb' _ _ _⟩
  case rest =>
    obtain ⟨rfl, hbel⟩ := hcut
    go_wp2_with fail
    go_ret
    exact ⟨rfl, hbel⟩
end Go.Proofs.Qxb6605612a
