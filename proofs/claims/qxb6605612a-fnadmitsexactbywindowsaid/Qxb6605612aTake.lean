import Derived.Test.Qxb6605612aCounts
import Derived.Deep.RegionWith
namespace Go.Proofs.Qxb6605612a
open Go.RowKit

def WinOut (idx : Int) (w : World) (e : Ending) (w' : World) : Prop := ∃ r, e = .returned (.tuple #[.int .i64 idx, r]) ∧ Below w.heap.size w w'

def TakeOut (k : Cnt) (b : Bool) (w : World) (e : Ending) (w' : World) : Prop := e = .returned (.tuple #[k.val, .bool b]) ∧ Below w.heap.size w w'

/-- The cost does not fit. -/
def over (limit : Int) (k : Cnt) (idx cost : Int) : Bool := decide (IntKind.i64.wrap (limit - cin k.l k.c k.p idx limit) < cost)

/-- Take's own four blocks, as they lie in a later world. -/
structure TakeMem (w0 : World) (h : Nat) (limit size L C P : Int) (w : World) : Prop where
  a0 : w.cell? ⟨h, 0, none⟩ = some (.int .i64 limit)
  a1 : w.cell? ⟨h, 1, none⟩ = some (.int .i64 size)
  b0 : w.cell? ⟨h + 1, 0, none⟩ = some (.int .i64 L)
  b1 : w.cell? ⟨h + 1, 1, none⟩ = some (.int .i64 C)
  b2 : w.cell? ⟨h + 1, 2, none⟩ = some (.int .i64 P)
  d0 : w.cell? ⟨h + 1 + 1 + 1, 0, none⟩ = some (.int .i64 0)
  d1 : w.cell? ⟨h + 1 + 1 + 1, 1, none⟩ = some (.int .i64 0)
  d2 : w.cell? ⟨h + 1 + 1 + 1, 2, none⟩ = some (.int .i64 0)
  f0 : w.frozen? ⟨h + 1 + 1 + 1, 0, none⟩ = false
  f1 : w.frozen? ⟨h + 1 + 1 + 1, 1, none⟩ = false
  f2 : w.frozen? ⟨h + 1 + 1 + 1, 2, none⟩ = false
  bel : Below h w0 w
  siz : h + 4 ≤ w.heap.size

theorem takeMem_of {w w1 : World} {limit size L C P s : Int} {n : Nat} {l : Value}
    (hb : Below (w.heap.size + 4) ((((w.alloc (.cells #[.int .i64 limit, .int .i64 size] 27)).alloc (.cells #[.int .i64 L, .int .i64 C, .int .i64 P] 34)).alloc (.cells #[.int .u64 n, .int .i64 s, l] 31)).alloc (.cells #[.int .i64 0, .int .i64 0, .int .i64 0] 34)) w1) :
    TakeMem w w.heap.size limit size L C P w1 := by
  have hsz := hb.size
  simp at hsz
  constructor
  case bel => exact Below.trans (((((Below.refl _ _).alloc (Nat.le_refl _) _).alloc (by simp) _).alloc (by simp; omega) _).alloc (by simp; omega) _) (hb.mono (by omega))
  case siz => omega
  case f0 | f1 | f2 => rw [hb.frozen (by simp)]; simp [go_sem]
  all_goals (rw [hb.cell (by simp)]; simp [go_sem])

theorem TakeMem.next {w0 w w' : World} {h : Nat} {limit size L C P : Int} (m : TakeMem w0 h limit size L C P w) (hb : Below (h + 4) w w') : TakeMem w0 h limit size L C P w' where
  a0 := by rw [hb.cell (by simp)]; exact m.a0
  a1 := by rw [hb.cell (by simp)]; exact m.a1
  b0 := by rw [hb.cell (by simp)]; exact m.b0
  b1 := by rw [hb.cell (by simp)]; exact m.b1
  b2 := by rw [hb.cell (by simp)]; exact m.b2
  d0 := by rw [hb.cell (by simp)]; exact m.d0
  d1 := by rw [hb.cell (by simp)]; exact m.d1
  d2 := by rw [hb.cell (by simp)]; exact m.d2
  f0 := by rw [hb.frozen (by simp)]; exact m.f0
  f1 := by rw [hb.frozen (by simp)]; exact m.f1
  f2 := by rw [hb.frozen (by simp)]; exact m.f2
  bel := m.bel.trans (hb.mono (by omega))
  siz := Nat.le_trans m.siz hb.size

set_option maxHeartbeats 8000000 in
theorem take9 (limit size L C P cost idx : Int) (n : Nat) (s : Int) (l : Option Addr) (w : World)
    (hwin : ∀ w, Calls Try.prog 23 #[.agg #[.int .u64 n, .int .i64 s, .pointer l], .int .i64 size] w (WinOut idx w)) :
    Calls Try.prog 9 #[.agg #[.int .i64 limit, .int .i64 size], .agg #[.int .i64 L, .int .i64 C, .int .i64 P], .agg #[.int .u64 n, .int .i64 s, .pointer l], .int .i64 cost] w
      (TakeOut (if over limit ⟨L, C, P⟩ idx cost then ⟨L, C, P⟩ else cadd ⟨L, C, P⟩ idx cost) (!(over limit ⟨L, C, P⟩ idx cost)) w) := by
  have Hwin := hide hwin
  clear hwin
  obtain ⟨ov, hov⟩ : ∃ ov, ov = over limit ⟨L, C, P⟩ idx cost := ⟨_, rfl⟩
  rw [← hov]
  have Hov := hide hov
  clear hov
  obtain ⟨k, hk⟩ : ∃ k, k = (if ov = true then (⟨L, C, P⟩ : Cnt) else cadd ⟨L, C, P⟩ idx cost) := ⟨_, rfl⟩
  obtain ⟨b, hbb⟩ : ∃ b, b = !ov := ⟨_, rfl⟩
  rw [← hk, ← hbb]
  have Hk := hide hk
  have Hbb := hide hbb
  clear hk hbb
  go_enter Try.func9, Try.ntmps9
  go_wp2_with fail
  refine (Hwin.out _).mono ?_
  rintro e w1 ⟨r, rfl, hb⟩
  have hm := takeMem_of (hb.mono (by simp))
  have Hm := hide hm
  obtain ⟨a0, a1, b0, b1, b2, d0, d1, d2, f0, f1, f2, -, hsz⟩ := hm
  have z0 : w.heap.size < w1.heap.size := by omega
  have z1 : w.heap.size + 1 < w1.heap.size := by omega
  have z3 : w.heap.size + 1 + 1 + 1 < w1.heap.size := by omega
  clear hb hsz
  go_upto_region 2 with fail
  go_cut [28] (fun v wc => v = .bool ov ∧ Below (w.heap.size + 4) w1 wc)
  case first =>
    clear Hwin a1 d0 d1 d2 f0 f1 f2 z3
    go_region_with (go_at_call 24; refine (in24 L C P idx limit _).mono ?_; rintro e w' ⟨rfl, hw⟩; subst hw)
    all_goals
      go_wp2_with fail
      go_meet
      case rel =>
        refine ⟨?_, ?_⟩
        · rw [Hov.out, over]
        · exact ((Below.refl _ _).alloc (by have := Hm.out.siz; omega) _).drew
  case rest =>
    obtain ⟨rfl, hb⟩ := hcut
    have hm := Hm.out.next hb
    have Hm2 := hide hm
    clear Hm Hwin a0 a1 b0 b1 b2 d0 d1 d2 f0 f1 f2 z0 z1 z3
    obtain ⟨a0, a1, b0, b1, b2, d0, d1, d2, f0, f1, f2, -, -⟩ := hm
    cases ov
    · have hk := Hk.out
      have hbb := Hbb.out
      simp only [Bool.false_eq_true, if_false, Bool.not_false] at hk hbb
      have HK := hide hk
      subst hbb
      clear hk
      go_wp2_with fail
      refine (add25 L C P idx cost _).mono ?_
      rintro e w2 ⟨rfl, hb2⟩
      rw [← HK.out]
      have hm := Hm2.out.next (hb2.mono Hm2.out.siz)
      have Hm3 := hide hm
      clear Hm2 HK Hk a0 a1 b0 b1 b2 d0 d1 d2 f0 f1 f2
      obtain ⟨a0, a1, b0, b1, b2, d0, d1, d2, f0, f1, f2, -, -⟩ := hm
      clear a0 a1 b0 b1 b2
      go_wp2_with fail
      exact bodyPost_ret (v := .tuple #[.agg #[.int .i64 k.l, .int .i64 k.c, .int .i64 k.p], .bool true]) (by simp [results, Try.results9, go_sem, d0, d1, d2]) rfl ⟨rfl, (((Hm3.out.bel.setCell (by simp; omega) _).setCell (by simp; omega) _).setCell (by simp; omega) _)⟩
    · have hk := Hk.out
      have hbb := Hbb.out
      simp only [if_true, Bool.not_true] at hk hbb
      subst hbb hk
      go_wp2_with fail
      exact bodyPost_ret (v := .tuple #[.agg #[.int .i64 L, .int .i64 C, .int .i64 P], .bool false]) (by simp [results, Try.results9, go_sem, d0, d1, d2]) rfl ⟨rfl, (((Hm2.out.bel.setCell (by simp; omega) _).setCell (by simp; omega) _).setCell (by simp; omega) _)⟩
end Go.Proofs.Qxb6605612a
