import Derived.Test.Qxb6605612aAdmits
namespace Go.Proofs.Qxb6605612a
open Go.RowKit

theorem zz14 (b hq n : Nat) (keyq : ByteArray) (s cost : Int) (ok : Bool) (w : World)
    (ha : ∀ W, Below w.heap.size w W → Calls Try.prog 27 #[.pointer (some ⟨b, 0, none⟩), .int .u64 hq, .string keyq, .agg #[.int .u64 n, .int .i64 s, .pointer none], .int .i64 cost] W (AdmOut ok W)) :
    Calls Try.prog 14 #[.pointer (some ⟨b, 0, none⟩), .int .u64 hq, .string keyq, .agg #[.int .u64 n, .int .i64 s, .pointer none], .int .i64 cost] w (AdmOut ok w) := by
  have Ha := hide ha
  clear ha
  go_enter Try.func14, Try.ntmps14
  go_wp2_with fail
  refine (Ha.out _ ((Below.refl _ _).alloc (Nat.le_refl _) _)).mono ?_
  rintro e w1 ⟨rfl, hb⟩
  go_wp2_with fail
  go_ret
  exact ⟨rfl, ((Below.refl _ _).alloc (Nat.le_refl _) _).trans (hb.mono (by simp))⟩

/-- No key is held. -/
theorem zz_none (b hq n : Nat) (keyq : ByteArray) (s cost : Int) (w : World) (hE : Empty0 w b) :
    Calls Try.prog 14 #[.pointer (some ⟨b, 0, none⟩), .int .u64 hq, .string keyq, .agg #[.int .u64 n, .int .i64 s, .pointer none], .int .i64 cost] w (AdmOut true w) :=
  zz14 b hq n keyq s cost true w fun W hW => admits_none b hq n keyq s cost W fun V hV => find_none b hq keyq V ((hE.next hW).next hV)

/-- Another key is held. -/
theorem zz_other (b g h hq n : Nat) (key keyq : ByteArray) (s cost L C P : Int) (w0 w : World) (hH : Held w0 w b g (hm h) h key L C P) (hhq : hq < 18446744073709551616) (hk : (key.toList == keyq.toList) = false) :
    Calls Try.prog 14 #[.pointer (some ⟨b, 0, none⟩), .int .u64 hq, .string keyq, .agg #[.int .u64 n, .int .i64 s, .pointer none], .int .i64 cost] w (AdmOut true w) :=
  zz14 b hq n keyq s cost true w fun W hW => admits_none b hq n keyq s cost W fun V hV => find_other b g h hq key keyq L C P w0 V ((hH.next hW).next hV) hhq hk

/-- The key itself is held. -/
theorem zz_same (b g h n : Nat) (key : ByteArray) (s cost lim size L C P idx : Int) (w0 w : World) (hH : Held w0 w b g (hm h) h key L C P) (hh : h < 18446744073709551616)
    (b4 : w0.cell? ⟨b, 4, none⟩ = some (.int .i64 lim)) (b5 : w0.cell? ⟨b, 5, none⟩ = some (.int .i64 size))
    (hwin : ∀ w, Calls Try.prog 23 #[.agg #[.int .u64 n, .int .i64 s, .pointer none], .int .i64 size] w (WinOut idx w)) :
    Calls Try.prog 14 #[.pointer (some ⟨b, 0, none⟩), .int .u64 h, .string key, .agg #[.int .u64 n, .int .i64 s, .pointer none], .int .i64 cost] w (AdmOut (!(over lim ⟨L, C, P⟩ idx cost)) w) :=
  zz14 b h n key s cost _ w fun W hW =>
    have a := hH.next hW
    admits_some b g (hm h) n h key s cost lim size L C P _ _ W a.lt a.gl (fun V hV => find_same b g h key L C P w0 V (a.next hV) hh)
      (fun V => take9 lim size L C P cost idx n s none V hwin) (a.k4.trans b4) (a.k5.trans b5) a.s0 a.s1 a.s2

theorem cin_bounds (L C P idx lim : Int) (h0 : 0 ≤ C) (h1 : C ≤ lim) (h2 : 0 ≤ P) (h3 : P ≤ lim) (h4 : 0 ≤ lim) : 0 ≤ cin L C P idx lim ∧ cin L C P idx lim ≤ lim := by
  unfold cin
  split
  · omega
  · split
    · omega
    · split <;> omega

theorem over_eq (L C P idx lim cost : Int) (h0 : 0 ≤ C) (h1 : C ≤ lim) (h2 : 0 ≤ P) (h3 : P ≤ lim) (h4 : 0 ≤ lim) (h5 : lim ≤ 9223372036854775807) :
    over lim ⟨L, C, P⟩ idx cost = decide (lim - cin L C P idx lim < cost) := by
  have hb := cin_bounds L C P idx lim h0 h1 h2 h3 h4
  unfold over
  rw [IntWalk.i64_in _ (by simp only []; omega)]

/-- The index of the window in which an instant lies, whatever its sign. -/
theorem win_any (ns : Int) (size : Nat) (h1 : -9223372036854775808 ≤ ns) (h2 : ns ≤ 9223372036854775807) (hz : 0 < size) (hz2 : size < 9223372036854775808) :
    ∃ idx, ∀ w, Calls Try.prog 23 #[.agg #[.int .u64 (unixN ns), .int .i64 (unixS ns), .pointer none], .int .i64 size] w (WinOut idx w) := by
  have hn : unixN ns < 1000000000 := by unfold unixN; omega
  by_cases h : ns < 0
  · have hs : unixS ns - 62135596800 = -((-(ns / 1000000000)).toNat : Int) := by unfold unixS; omega
    exact ⟨_, fun w => window_neg (unixN ns) (unixS ns) none size (-(ns / 1000000000)).toNat w hn hs (by omega) (by omega) hz hz2⟩
  · have hs : unixS ns - 62135596800 = ((ns / 1000000000).toNat : Int) := by unfold unixS; omega
    exact ⟨_, fun w => window_pos (unixN ns) (unixS ns) none size (ns / 1000000000).toNat w hn hs (by omega) hz hz2⟩
end Go.Proofs.Qxb6605612a
