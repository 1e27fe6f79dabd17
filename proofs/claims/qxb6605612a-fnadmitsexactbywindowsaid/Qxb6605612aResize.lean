import Derived.Test.Qxb6605612aTable
import Derived.Laws.MakeOwn
namespace Go.Proofs.Qxb6605612a
open Go.RowKit

/-- Of what was there nothing but block b has turned. -/
structure But (b : Nat) (w w' : World) : Prop where
  os : w'.os = w.os
  tape : w'.tape = w.tape
  output : w'.output = w.output
  size : w.heap.size ≤ w'.heap.size
  block : ∀ k, k < w.heap.size → k ≠ b → w'.heap[k]? = w.heap[k]?

theorem But.refl (b : Nat) (w : World) : But b w w := ⟨rfl, rfl, rfl, Nat.le_refl _, fun _ _ _ => rfl⟩
theorem But.trans {b : Nat} {w w1 w2 : World} (h : But b w w1) (k : But b w1 w2) : But b w w2 :=
  ⟨k.os.trans h.os, k.tape.trans h.tape, k.output.trans h.output, Nat.le_trans h.size k.size, fun n hn hb => (k.block n (Nat.lt_of_lt_of_le hn h.size) hb).trans (h.block n hn hb)⟩
theorem But.cell {b : Nat} {w w' : World} (h : But b w w') {p : Addr} (hp : p.block < w.heap.size) (hb : p.block ≠ b) : w'.cell? p = w.cell? p := World.cell?_of_block (w := w) (h.block p.block hp hb)
theorem But.frozen {b : Nat} {w w' : World} (h : But b w w') {p : Addr} (hp : p.block < w.heap.size) (hb : p.block ≠ b) : w'.frozen? p = w.frozen? p := World.frozen?_of_block (w := w) (h.block p.block hp hb)
theorem But.of {b : Nat} {w w' : World} (h : Below w.heap.size w w') : But b w w' := ⟨h.os, h.tape, h.output, h.size, fun k hk _ => h.block k hk⟩
theorem But.below {b B : Nat} {w w' : World} (h : But b w w') (h1 : B ≤ w.heap.size) (h2 : B ≤ b) : Below B w w' := ⟨h.os, h.tape, h.output, h.size, fun k hk => h.block k (by omega) (by omega)⟩
theorem But.setCell {b : Nat} {a w : World} (h : But b a w) (i : Nat) (u : Value) : But b a (w.setCell ⟨b, i, none⟩ u) :=
  ⟨h.os, h.tape, h.output, by simpa using h.size, fun k hk hb => (Below.heap_setCell w _ u k hb).trans (h.block k hk hb)⟩
theorem But.setOut {b : Nat} {a w : World} (h : But b a w) {p : Addr} (hp : a.heap.size ≤ p.block) (u : Value) : But b a (w.setCell p u) :=
  ⟨h.os, h.tape, h.output, by simpa using h.size, fun k hk hb => (Below.heap_setCell w _ u k (by omega)).trans (h.block k hk hb)⟩
theorem But.alloc {b : Nat} {a w : World} (h : But b a w) (o : Obj) : But b a (w.alloc o) :=
  ⟨h.os, h.tape, h.output, by have := h.size; simp; omega, fun k hk hb => (Below.heap_alloc w o k (Nat.lt_of_lt_of_le hk h.size)).trans (h.block k hk hb)⟩
theorem But.drew {b : Nat} {a w : World} (h : But b a w) : But b a w.drew := ⟨h.os, h.tape, h.output, h.size, h.block⟩
theorem But.drewN {b : Nat} {a w : World} (h : But b a w) (n : Nat) : But b a (w.drewN n) := ⟨h.os, h.tape, h.output, h.size, h.block⟩

/-- Eight empty slots. -/
def Slots0 (C : Array Value) : Prop := C.size = 40 ∧ ∀ i, i < 8 → C[5 * i]? = some (.int .u64 0) ∧ C[5 * i + 1]? = some (.string ByteArray.empty) ∧ C[5 * i + 2]? = some (.int .i64 0) ∧ C[5 * i + 3]? = some (.int .i64 0) ∧ C[5 * i + 4]? = some (.int .i64 0)

theorem info80 : (Try.prog.info? 80).map (fun i => (i.zero, i.size, i.bytes)) = some (some (.agg #[.int .u64 0, .string ByteArray.empty, .int .i64 0, .int .i64 0, .int .i64 0]), 5, 48) := by kernel_rfl

theorem make80 : ∃ C, Slots0 C ∧ ∀ w, (Instr.makeSlice 55 (.int .i64 8) (.int .i64 8)).run Try.prog w = .ok (.slice (some ⟨w.heap.size, 0, none⟩) 8 8) (w.alloc (.cells C 80)) := by
  obtain ⟨i0, hi, hz0, hz1, hz2⟩ := info_parts info80
  refine ⟨_, ?_, fun w => run_makeSlice w 55 80 i0 _ Try.underlying55 hi hz0 .i64 .i64 8 8 (by omega) (by omega) (by rw [hz1]; decide) (by rw [hz2]; omega) (by omega)⟩
  rw [hz1]
  constructor
  · rw [size_madeCells]; rfl
  · intro i hi
    have hz : (Value.agg #[.int .u64 0, .string ByteArray.empty, .int .i64 0, .int .i64 0, .int .i64 0]).cells = #[.int .u64 0, .string ByteArray.empty, .int .i64 0, .int .i64 0, .int .i64 0] := by kernel_rfl
    rw [hz]
    match i, hi with
    | 0, _ | 1, _ | 2, _ | 3, _ | 4, _ | 5, _ | 6, _ | 7, _ => simp [madeCells]

/-- An empty table at ⟨b, 0⟩. -/
structure Empty0 (w : World) (b : Nat) : Prop where
  c0 : w.cell? ⟨b, 0, none⟩ = some (.slice none 0 0)
  c1 : w.cell? ⟨b, 1, none⟩ = some (.int .i64 0)
  c2 : w.cell? ⟨b, 2, none⟩ = some (.int .i64 0)
  f0 : w.frozen? ⟨b, 0, none⟩ = false
  f1 : w.frozen? ⟨b, 1, none⟩ = false
  f2 : w.frozen? ⟨b, 2, none⟩ = false
  lt : b < w.heap.size

/-- A table of eight slots in block g, as laid. -/
structure Laid (w0 w : World) (b g : Nat) : Prop where
  c0 : w.cell? ⟨b, 0, none⟩ = some (.slice (some ⟨g, 0, none⟩) 8 8)
  c1 : w.cell? ⟨b, 1, none⟩ = some (.int .i64 0)
  c2 : w.cell? ⟨b, 2, none⟩ = some (.int .i64 0)
  f0 : w.frozen? ⟨b, 0, none⟩ = false
  f1 : w.frozen? ⟨b, 1, none⟩ = false
  f2 : w.frozen? ⟨b, 2, none⟩ = false
  lt : b < w.heap.size
  gl : g < w.heap.size
  ne : w0.heap.size ≤ g
  s0 : ∀ i, i < 8 → w.cell? ⟨g, i * 5, none⟩ = some (.int .u64 0) ∧ w.cell? ⟨g, i * 5 + 1, none⟩ = some (.string ByteArray.empty) ∧ w.cell? ⟨g, i * 5 + 2, none⟩ = some (.int .i64 0) ∧ w.cell? ⟨g, i * 5 + 3, none⟩ = some (.int .i64 0) ∧ w.cell? ⟨g, i * 5 + 4, none⟩ = some (.int .i64 0)
  sf : ∀ i, w.frozen? ⟨g, i, none⟩ = false
  but : But b w0 w
  k3 : w.cell? ⟨b, 3, none⟩ = w0.cell? ⟨b, 3, none⟩
  k4 : w.cell? ⟨b, 4, none⟩ = w0.cell? ⟨b, 4, none⟩
  k5 : w.cell? ⟨b, 5, none⟩ = w0.cell? ⟨b, 5, none⟩

def LaidOut (b : Nat) (w : World) (e : Ending) (w' : World) : Prop := e = .returned (.tuple #[]) ∧ ∃ g, Laid w w' b g

set_option maxRecDepth 20000 in
theorem resize39 (b : Nat) (w : World) (hE : Empty0 w b) :
    Calls Try.prog 39 #[.pointer (some ⟨b, 0, none⟩), .int .i64 2] w (LaidOut b w) := by
  obtain ⟨c0, c1, c2, f0, f1, f2, lt⟩ := hE
  obtain ⟨C, hC, hmk⟩ := make80
  have HC := hide hC
  clear hC
  go_enter Try.func39, Try.ntmps39
  go_wp2_with fail
  refine (len43 w).mono ?_
  rintro e w1 ⟨rfl, hw⟩
  subst hw
  go_wp2_with fail
  go_loop [31] (fun i => i = .int .i64 0) (fun _ => 0)
  case atStart => exact rfl
  case round =>
    obtain rfl := hrel
    go_wp2_with fail
    go_end0
    refine ⟨rfl, w.heap.size, ?_⟩
    obtain ⟨hc40, hcs⟩ := HC.out
    have ne : ¬ (w.heap.size = b) := by omega
    constructor
    case ne => exact Nat.le_refl _
    case lt => simp; omega
    case gl => simp
    case but => exact (((But.refl b w).setCell 0 _).setCell 2 _).alloc _
    case s0 =>
      intro i hi
      obtain ⟨p0, p1, p2, p3, p4⟩ := hcs i hi
      rw [Nat.mul_comm 5 i] at p0 p1 p2 p3 p4
      refine ⟨?_, ?_, ?_, ?_, ?_⟩ <;> simp [go_sem, *]
    case sf => intro i; simp [go_sem]
    all_goals simp [go_sem, *]
end Go.Proofs.Qxb6605612a
