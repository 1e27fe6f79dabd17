import Derived.Test.Qxb6605612aResize
namespace Go.Proofs.Qxb6605612a
open Go.RowKit

theorem Empty0.drewN {w : World} {b : Nat} (h : Empty0 w b) (n : Nat) : Empty0 (w.drewN n) b := ⟨h.c0, h.c1, h.c2, h.f0, h.f1, h.f2, h.lt⟩

/-- A table of eight slots in block g that holds one key, at slot i. -/
structure Held (w0 w : World) (b g i h : Nat) (key : ByteArray) (L C P : Int) : Prop where
  c0 : w.cell? ⟨b, 0, none⟩ = some (.slice (some ⟨g, 0, none⟩) 8 8)
  c1 : w.cell? ⟨b, 1, none⟩ = some (.int .i64 1)
  lt : b < w.heap.size
  gl : g < w.heap.size
  ne : w0.heap.size ≤ g
  m : w.cell? ⟨g, i * 5, none⟩ = some (.int .u64 (mk h))
  k : w.cell? ⟨g, i * 5 + 1, none⟩ = some (.string key)
  s0 : w.cell? ⟨g, i * 5 + 2, none⟩ = some (.int .i64 L)
  s1 : w.cell? ⟨g, i * 5 + 3, none⟩ = some (.int .i64 C)
  s2 : w.cell? ⟨g, i * 5 + 4, none⟩ = some (.int .i64 P)
  oth : ∀ j, j < 8 → j ≠ i → w.cell? ⟨g, j * 5, none⟩ = some (.int .u64 0)
  sf : ∀ j, w.frozen? ⟨g, j, none⟩ = false
  but : But b w0 w
  k3 : w.cell? ⟨b, 3, none⟩ = w0.cell? ⟨b, 3, none⟩
  k4 : w.cell? ⟨b, 4, none⟩ = w0.cell? ⟨b, 4, none⟩
  k5 : w.cell? ⟨b, 5, none⟩ = w0.cell? ⟨b, 5, none⟩

def PtrOut (b h : Nat) (key : ByteArray) (w : World) (e : Ending) (w' : World) : Prop :=
  ∃ g, e = .returned (.pointer (some ⟨g, hm h * 5 + 2, none⟩)) ∧ Held w w' b g (hm h) h key 0 0 0

set_option maxRecDepth 20000 in
set_option maxHeartbeats 1000000 in
theorem add35 (b h : Nat) (key : ByteArray) (w : World) (hE : Empty0 w b) (hh : h < 18446744073709551616) :
    Calls Try.prog 35 #[.pointer (some ⟨b, 0, none⟩), .int .u64 h, .string key] w (PtrOut b h key w) := by
  have HE := hide hE
  have Hh := hide hh
  obtain ⟨c0, c1, c2, f0, f1, f2, lt⟩ := hE
  clear hh
  have hand : bits .and .u64 0 9223372036854775808 = 0 := by decide
  obtain ⟨i, hi⟩ : ∃ i, i = hm h := ⟨_, rfl⟩
  have hi8 : i < 8 := by rw [hi]; unfold hm; omega
  have Hi := hide hi
  clear hi
  go_enter Try.func35, Try.ntmps35
  go_upto_region 1 with fail
  go_quiet (fail)
  go_wp2_with fail
  refine (resize39 b _ (HE.out.drewN _)).mono ?_
  rintro e w1 ⟨rfl, g, hL⟩
  have HL := hide hL
  have hlt0 := lt
  clear HE c0 c1 c2 f0 f1 f2 lt
  obtain ⟨c0, c1, c2, f0, f1, f2, lt, gl, ne, s0, sf, but, -, -, -⟩ := hL
  obtain ⟨p0, p1, p2, p3, p4⟩ := s0 i hi8
  have q0 := sf (i * 5)
  have q1 := sf (i * 5 + 1)
  have ne1 : ¬ (g = b) := by simp at ne; omega
  have ne2 : ¬ (b = g) := by simp at ne; omega
  have hlt0' := hide hlt0
  clear hlt0 ne but s0 sf
  go_wp2_with fail
  have h40 := home40 h Hh.out w1
  rw [← Hi.out] at h40
  refine h40.mono ?_
  rintro e w2 ⟨rfl, hw⟩
  subst hw
  go_wp2_with fail
  go_loop [8] (fun v => v = .int .i64 i) (fun _ => 0)
  case atStart => exact rfl
  case round =>
    obtain rfl := hrel
    go_wp2_with fail
    refine (mark41 h Hh.out w1).mono ?_
    rintro e w3 ⟨rfl, hw⟩
    subst hw
    go_wp2_with fail
    go_ret
    have hL := HL.out
    unfold PtrOut
    rw [← Hi.out]
    refine ⟨g, rfl, ?_⟩
    have hoth : ∀ j, j < 8 → j ≠ i → ¬ (j * 5 = i * 5 + 1) ∧ ¬ (j * 5 = i * 5) := fun j _ hj => ⟨by omega, by omega⟩
    have hb0 : But b w (w.drewN nq) := (But.refl b w).drewN nq
    constructor
    case ne => have := hL.ne; simpa using this
    case lt => simpa using hL.lt
    case gl => simpa using hL.gl
    case but =>
      have hw := hL.ne
      simp at hw
      exact (((hb0.trans hL.but).setOut (by simpa using hw) _).setOut (by simpa using hw) _).setCell 1 _
    case oth =>
      intro j hj hji
      have e := (hL.s0 j hj).1
      obtain ⟨h1, h2⟩ := hoth j hj hji
      simp [go_sem, *]
    case sf =>
      intro j
      have e := hL.sf j
      simp [go_sem, *]
    case k3 =>
      have e := hL.k3
      simp [go_sem, *]
    case k4 =>
      have e := hL.k4
      simp [go_sem, *]
    case k5 =>
      have e := hL.k5
      simp [go_sem, *]
    all_goals simp [go_sem, *]
end Go.Proofs.Qxb6605612a
