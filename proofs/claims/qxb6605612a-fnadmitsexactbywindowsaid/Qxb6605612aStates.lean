import Derived.Test.Qxb6605612aTabAdd
namespace Go.Proofs.Qxb6605612a
open Go.RowKit

/-- The states of a fixed window, new: an empty table, the limit and the size. -/
structure Fresh (w : World) (b : Nat) (lim size : Int) : Prop where
  emp : Empty0 w b
  l : w.cell? ⟨b, 4, none⟩ = some (.int .i64 lim)
  s : w.cell? ⟨b, 5, none⟩ = some (.int .i64 size)

def NewOut (lim size : Int) (w : World) (e : Ending) (w' : World) : Prop := e = .returned (.pointer (some ⟨w.heap.size, 0, none⟩)) ∧ Below w.heap.size w w' ∧ Fresh w' w.heap.size lim size

theorem new12 (lim size : Int) (w : World) : Calls Try.prog 12 #[.int .i64 lim, .int .i64 size] w (NewOut lim size w) := by
  go_enter Try.func12, Try.ntmps12
  go_wp2_with fail
  go_ret
  refine ⟨rfl, (Below.refl _ _).alloc (Nat.le_refl _) _, ⟨?_, by simp, by simp⟩⟩
  constructor <;> simp

theorem zadd26 (b h : Nat) (key : ByteArray) (w : World) (hE : Empty0 w b) (hh : h < 18446744073709551616) :
    Calls Try.prog 26 #[.pointer (some ⟨b, 0, none⟩), .int .u64 h, .string key] w (PtrOut b h key w) := by
  have HE := hide hE
  clear hE
  go_enter Try.func26, Try.ntmps26
  go_wp2_with fail
  refine (add35 b h key w HE.out hh).mono ?_
  rintro e w1 ⟨g, rfl, hH⟩
  go_wp2_with fail
  go_ret
  exact ⟨g, rfl, hH⟩

theorem Empty0.of_heap {w W : World} {b : Nat} (h : Empty0 w b) (e : W.heap = w.heap) : Empty0 W b := by
  obtain ⟨c0, c1, c2, f0, f1, f2, lt⟩ := h
  have hc : ∀ p, W.cell? p = w.cell? p := fun p => World.cell?_of_block (w := w) (by rw [e])
  have hf : ∀ p, W.frozen? p = w.frozen? p := fun p => World.frozen?_of_block (w := w) (by rw [e])
  constructor
  case lt => rw [e]; exact lt
  all_goals (first | rw [hc] | rw [hf]) <;> assumption

theorem Empty0.alloc {w : World} {b : Nat} (h : Empty0 w b) (o : Obj) : Empty0 (w.alloc o) b := by
  obtain ⟨c0, c1, c2, f0, f1, f2, lt⟩ := h
  constructor
  case lt => simp; omega
  all_goals simp [go_sem, *]

theorem Held.drewN {w0 w : World} {b g i h : Nat} {key : ByteArray} {L C P : Int} (a : Held w0 w b g i h key L C P) (n : Nat) : Held w0 (w.drewN n) b g i h key L C P :=
  ⟨a.c0, a.c1, a.lt, a.gl, a.ne, a.m, a.k, a.s0, a.s1, a.s2, a.oth, a.sf, a.but.drewN n, a.k3, a.k4, a.k5⟩

theorem box_keep {w W w' : World} {b g i h : Nat} {key : ByteArray} {L C P : Int} (a : Held W w' b g i h key 0 0 0) (hW : W.heap = (w.alloc (.cells #[.int .i64 L, .int .i64 C, .int .i64 P] 34)).heap) (hb : b < w.heap.size) :
    w'.cell? ⟨w.heap.size, 0, none⟩ = some (.int .i64 L) ∧ w'.cell? ⟨w.heap.size, 1, none⟩ = some (.int .i64 C) ∧ w'.cell? ⟨w.heap.size, 2, none⟩ = some (.int .i64 P) := by
  have hs : w.heap.size < W.heap.size := by rw [hW]; simp
  have hc : ∀ p, W.cell? p = (w.alloc (.cells #[.int .i64 L, .int .i64 C, .int .i64 P] 34)).cell? p := fun p => World.cell?_of_block (by rw [hW])
  refine ⟨?_, ?_, ?_⟩ <;> (rw [a.but.cell hs (by simp; omega), hc]; simp)

theorem held_set {w W w' : World} {b g i h : Nat} {key : ByteArray} (L C P : Int) (a : Held W w' b g i h key 0 0 0) (hW : But b w W) (hc : ∀ k, W.cell? ⟨b, k, none⟩ = w.cell? ⟨b, k, none⟩) (hb : b < w.heap.size) :
    Held w (((w'.setCell ⟨g, i * 5 + 2, none⟩ (.int .i64 L)).setCell ⟨g, i * 5 + 3, none⟩ (.int .i64 C)).setCell ⟨g, i * 5 + 4, none⟩ (.int .i64 P)) b g i h key L C P := by
  have hne := Nat.le_trans hW.size a.ne
  obtain ⟨c0, c1, lt, gl, ne, m, k, s0, s1, s2, oth, sf, but, k3, k4, k5⟩ := a
  have n1 : ¬ (g = b) := by omega
  have n2 : ¬ (b = g) := by omega
  rw [hc] at k3 k4 k5
  constructor
  case lt => simpa using lt
  case gl => simpa using gl
  case ne => exact hne
  case but => exact (((hW.trans but).setOut (by simpa using hne) _).setOut (by simpa using hne) _).setOut (by simpa using hne) _
  case oth =>
    intro j hj hji
    have e := oth j hj hji
    have h1 : ¬ (j * 5 = i * 5 + 2) := by omega
    have h2 : ¬ (j * 5 = i * 5 + 3) := by omega
    have h3 : ¬ (j * 5 = i * 5 + 4) := by omega
    simp [go_sem, *]
  case sf => intro j; have e := sf j; simp [go_sem, *]
  all_goals simp [go_sem, *]

def CountsOut (b h : Nat) (key : ByteArray) (L C P : Int) (w : World) (e : Ending) (w' : World) : Prop :=
  e = .returned (.tuple #[]) ∧ ∃ g, Held w w' b g (hm h) h key L C P

set_option maxHeartbeats 4000000 in
theorem addCounts13 (b h : Nat) (key : ByteArray) (L C P : Int) (w : World) (hE : Empty0 w b) (hh : h < 18446744073709551616) :
    Calls Try.prog 13 #[.pointer (some ⟨b, 0, none⟩), .int .u64 h, .string key, .agg #[.int .i64 L, .int .i64 C, .int .i64 P]] w (CountsOut b h key L C P w) := by
  have hb := hE.lt
  have Hb := hide hb
  have HE := hide (hE.alloc (.cells #[.int .i64 L, .int .i64 C, .int .i64 P] 34))
  have Hz : Hid (∀ W : World, W.heap = (w.alloc (.cells #[.int .i64 L, .int .i64 C, .int .i64 P] 34)).heap → Calls Try.prog 26 #[.pointer (some ⟨b, 0, none⟩), .int .u64 h, .string key] W (PtrOut b h key W)) :=
    hide fun W e => zadd26 b h key W (HE.out.of_heap e) hh
  clear hE hb
  obtain ⟨i, hi⟩ : ∃ i, i = hm h := ⟨_, rfl⟩
  have Hi := hide hi
  clear hi
  go_enter Try.func13, Try.ntmps13
  go_upto_region 1 with fail
  go_region_with (go_at_call 26; refine (Hz.out _ ?_).mono ?_; exact rfl; rintro e w' ⟨g, rfl, hH⟩; rw [← Hi.out] at hH ⊢; have hbx := box_keep hH (by exact rfl) Hb.out; obtain ⟨x0, x1, x2⟩ := hbx; have y0 := hH.s0; have y1 := hH.s1; have y2 := hH.s2; have z0 := hH.sf (i * 5 + 2); have z1 := hH.sf (i * 5 + 3); have z2 := hH.sf (i * 5 + 4); have HH := hide hH; clear hH)
  all_goals
    go_end0
    unfold CountsOut
    rw [← Hi.out]
    exact ⟨rfl, g, held_set L C P HH.out (((But.refl b w).alloc _).drew) (fun k => by have := Hb.out; simp [go_sem, this]) Hb.out⟩
end Go.Proofs.Qxb6605612a
