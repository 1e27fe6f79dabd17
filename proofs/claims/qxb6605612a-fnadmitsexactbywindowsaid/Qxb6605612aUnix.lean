import Derived.Test.Qxb6605612aFnMaxWalk
namespace Go.Proofs.Qxb6605612a
open Go.RowKit

/-- unixNanosTime's two blocks: the answer at h, the running time at h + 1. -/
structure UMem (w0 : World) (h : Nat) (s : Int) (w : World) : Prop where
  a0 : w.cell? ⟨h + 1, 0, none⟩ = some (.int .u64 0)
  a1 : w.cell? ⟨h + 1, 1, none⟩ = some (.int .i64 s)
  a2 : w.cell? ⟨h + 1, 2, none⟩ = some (.pointer none)
  f0 : w.frozen? ⟨h + 1, 0, none⟩ = false
  f1 : w.frozen? ⟨h + 1, 1, none⟩ = false
  f2 : w.frozen? ⟨h + 1, 2, none⟩ = false
  r0 : w.cell? ⟨h, 0, none⟩ = some (.int .u64 0)
  r1 : w.cell? ⟨h, 1, none⟩ = some (.int .i64 0)
  r2 : w.cell? ⟨h, 2, none⟩ = some (.pointer none)
  g0 : w.frozen? ⟨h, 0, none⟩ = false
  g1 : w.frozen? ⟨h, 1, none⟩ = false
  g2 : w.frozen? ⟨h, 2, none⟩ = false
  bel : Below h w0 w
  siz : h + 2 ≤ w.heap.size

theorem UMem.next {w0 w w' : World} {h : Nat} {s : Int} (m : UMem w0 h s w) (hb : Below (h + 2) w w') : UMem w0 h s w' where
  a0 := by rw [hb.cell (by simp)]; exact m.a0
  a1 := by rw [hb.cell (by simp)]; exact m.a1
  a2 := by rw [hb.cell (by simp)]; exact m.a2
  f0 := by rw [hb.frozen (by simp)]; exact m.f0
  f1 := by rw [hb.frozen (by simp)]; exact m.f1
  f2 := by rw [hb.frozen (by simp)]; exact m.f2
  r0 := by rw [hb.cell (by simp)]; exact m.r0
  r1 := by rw [hb.cell (by simp)]; exact m.r1
  r2 := by rw [hb.cell (by simp)]; exact m.r2
  g0 := by rw [hb.frozen (by simp)]; exact m.g0
  g1 := by rw [hb.frozen (by simp)]; exact m.g1
  g2 := by rw [hb.frozen (by simp)]; exact m.g2
  bel := m.bel.trans (hb.mono (by omega))
  siz := Nat.le_trans m.siz hb.size

theorem UMem.start (w : World) : UMem w w.heap.size 0 ((w.alloc (.cells #[.int .u64 0, .int .i64 0, .pointer none] 31)).alloc (.cells #[.int .u64 0, .int .i64 0, .pointer none] 31)) := by
  constructor
  case bel => exact ((Below.refl _ _).alloc (Nat.le_refl _) _).alloc (by simp) _
  all_goals simp [go_sem]

theorem UMem.set {w0 w : World} {h : Nat} {s : Int} (s' : Int) (m : UMem w0 h s w) :
    UMem w0 h s' (((w.setCell ⟨h + 1, 0, none⟩ (.int .u64 0)).setCell ⟨h + 1, 1, none⟩ (.int .i64 s')).setCell ⟨h + 1, 2, none⟩ (.pointer none)) := by
  obtain ⟨a0, a1, a2, f0, f1, f2, r0, r1, r2, g0, g1, g2, bel, siz⟩ := m
  constructor
  case bel => exact ((bel.setCell (by simp) _).setCell (by simp) _).setCell (by simp) _
  case siz => simpa using siz
  all_goals simp [go_sem, *]

def unixN (ns : Int) : Nat := (ns % 1000000000).toNat
def unixS (ns : Int) : Int := 62135596800 + ns / 1000000000

set_option maxHeartbeats 1000000 in
theorem unix11 (ns : Int) (w : World) (h1 : -9223372036854775808 ≤ ns) (h2 : ns ≤ 9223372036854775807) :
    Calls Try.prog 11 #[.int .i64 ns] w (TimeOut (unixN ns) (unixS ns) (.pointer none) w) := by
  have ta := fun w => add8 0 62135596800 ns none w (by omega) (by omega) (by omega) h1 h2
  have ea : addN' 0 ns = unixN ns := by unfold addN' unixN; simp
  have es : addS 0 62135596800 ns = unixS ns := by unfold addS unixS; simp
  rw [ea, es] at ta
  have TA := hide ta
  have tb : ∀ (k : Nat) (w : World), k ≤ 8 → Calls Try.prog 8 #[.agg #[.int .u64 0, .int .i64 ((k : Int) * 7766949600), .pointer none], .int .i64 7766949600000000000] w (TimeOut 0 (((k + 1 : Nat) : Int) * 7766949600) (.pointer none) w) := by
    intro k w hk
    have e := add8 0 ((k : Int) * 7766949600) 7766949600000000000 none w (by omega) (by omega) (by omega) (by omega) (by omega)
    have e1 : addN' 0 7766949600000000000 = 0 := by decide
    have e2 : addS 0 ((k : Int) * 7766949600) 7766949600000000000 = ((k + 1 : Nat) : Int) * 7766949600 := by unfold addS; omega
    rw [e1, e2] at e
    exact e
  have TB := hide tb
  obtain ⟨N, hN⟩ : ∃ N, N = unixN ns := ⟨_, rfl⟩
  obtain ⟨S, hS⟩ : ∃ S, S = unixS ns := ⟨_, rfl⟩
  rw [← hN, ← hS] at TA ⊢
  clear hN hS ta tb ea es h1 h2
  have hst := UMem.start w
  have Hst := hide hst
  clear hst
  go_enter Try.func11, Try.ntmps11
  go_wp2_with fail
  go_loopw [4] (fun i wr => ∃ k : Nat, k ≤ 8 ∧ i = .int .i64 k ∧ UMem w w.heap.size ((k : Int) * 7766949600) wr) (fun i _ => 8 - (intOf i).toNat)
  case atStart => exact ⟨0, by omega, rfl, Hst.out⟩
  case round =>
    obtain ⟨k, hk, rfl, hm⟩ := hrel
    clear Hst
    have Hm := hide hm
    obtain ⟨a0, a1, a2, f0, f1, f2, r0, r1, r2, g0, g1, g2, -, -⟩ := hm
    by_cases hlt : k < 8
    · obtain ⟨s, hs⟩ : ∃ s : Int, s = (k : Int) * 7766949600 := ⟨_, rfl⟩
      have Hs := hide hs
      rw [← hs] at a1
      clear hs
      go_wp2_with fail
      have tb := TB.out k wr (by omega)
      rw [← Hs.out] at tb
      obtain ⟨s', hs'⟩ : ∃ s' : Int, s' = ((k + 1 : Nat) : Int) * 7766949600 := ⟨_, rfl⟩
      rw [← hs'] at tb
      have Hs' := hide hs'
      clear hs'
      refine tb.mono ?_
      rintro e w2 ⟨rfl, hb⟩
      have hm2 := Hm.out.next (hb.mono Hm.out.siz)
      have Hm2 := hide hm2
      clear Hm a0 a1 a2 f0 f1 f2 r0 r1 r2 g0 g1 g2 hb tb
      obtain ⟨a0, a1, a2, f0, f1, f2, r0, r1, r2, g0, g1, g2, -, -⟩ := hm2
      go_wp2_with fail
      go_round
      case rel =>
        refine ⟨k + 1, by omega, by go_num, ?_⟩
        have e := Hm2.out.set s'
        rw [Hs'.out] at e ⊢
        exact e
      case measure => simp [intOf]; omega
    · obtain rfl : k = 8 := by omega
      have a1' : wr.cell? ⟨w.heap.size + 1, 1, none⟩ = some (.int .i64 62135596800) := a1
      clear a1
      go_wp2_with fail
      refine (TA.out _).mono ?_
      rintro e w2 ⟨rfl, hb⟩
      have hm2 := Hm.out.next (hb.mono Hm.out.siz)
      have Hm2 := hide hm2
      clear Hm a0 a1' a2 f0 f1 f2 r0 r1 r2 g0 g1 g2 hb
      obtain ⟨a0, a1, a2, f0, f1, f2, r0, r1, r2, g0, g1, g2, -, -⟩ := hm2
      clear a0 a1 a2 f0 f1 f2
      go_wp2_with fail
      exact bodyPost_ret (v := .agg #[.int .u64 N, .int .i64 S, .pointer none]) (by simp [results, Try.results11, go_sem, r0, r1, r2]) rfl ⟨rfl, (((Hm2.out.bel.setCell (by simp) _).setCell (by simp) _).setCell (by simp) _)⟩
end Go.Proofs.Qxb6605612a
