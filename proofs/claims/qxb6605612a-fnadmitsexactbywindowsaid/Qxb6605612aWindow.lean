import Derived.Test.Qxb6605612aAdd
import Derived.Test.Qxb6605612aDivBig
namespace Go.Proofs.Qxb6605612a
open Go.RowKit

theorem div34 (hi lo y : Nat) (w : World) (hy : hi < y) (h1 : y < 18446744073709551616) (h2 : lo < 18446744073709551616) :
    Calls Try.prog 34 #[.int .u64 hi, .int .u64 lo, .int .u64 y] w (DivOut ((hi * 18446744073709551616 + lo) / y) ((hi * 18446744073709551616 + lo) % y) w) := by
  by_cases h : hi = 0
  · subst h
    have e := div34_zero lo y w (by omega) h2
    rw [show 0 * 18446744073709551616 + lo = lo by omega]
    exact e
  · exact div34_big hi lo y w (by omega) hy h1 h2

/-- The quotient and the remainder that Window takes, of X nanoseconds. -/
def wq (X size : Nat) : Nat := (X / 18446744073709551616 % size * 18446744073709551616 + X % 18446744073709551616) / size
def wr (X size : Nat) : Nat := (X / 18446744073709551616 % size * 18446744073709551616 + X % 18446744073709551616) % size
def idxNeg (q r : Nat) : Int := if r = 0 then wrap64 (-(wrap64 q)) else wrap64 (wrap64 (-(wrap64 q)) - 1)

theorem neg_prep (mag n : Nat) (hn : n < 1000000000) (hm : 0 < mag) (hm2 : mag ≤ 1000000000000) : ∃ hi0 lo0 lo1 c hi1 : Nat,
    (∀ w, Calls Try.prog 30 #[.int .u64 mag, .int .u64 1000000000] w fun e w' => e = .returned (.tuple #[.int .u64 hi0, .int .u64 lo0]) ∧ w = w') ∧
    (∀ w, (callFunc 31 #[.int .u64 (lo0 : Int), .int .u64 n, .int .u64 0]).run Try.prog w = .ok (.value (.tuple #[.int .u64 lo1, .int .u64 c])) w) ∧
    IntKind.u64.wrap ((hi0 : Int) - (c : Int)) = (hi1 : Int) ∧ lo1 < 18446744073709551616 ∧ hi1 < 18446744073709551616 ∧
    (mag * 1000000000 - n) / 18446744073709551616 = hi1 ∧ (mag * 1000000000 - n) % 18446744073709551616 = lo1 := by
  refine ⟨mag * 1000000000 / 18446744073709551616, mag * 1000000000 % 18446744073709551616, _, _, mag * 1000000000 / 18446744073709551616 - (if mag * 1000000000 % 18446744073709551616 < n then 1 else 0), fun w => ?_, fun w => sub31 _ n w, ?_, ?_, ?_, ?_, ?_⟩
  · exact (mul30 mag 1000000000 (by omega) (by omega) w).mono fun e w' h => h
  · rw [IntKind.wrap_u64]
    split <;> omega
  · omega
  · split <;> omega
  · split <;> omega
  · omega

theorem window_below {w w1 w3 : World} {o : Obj} (h1 : Below (w.alloc o).heap.size (w.alloc o) w1) (h2 : Below w1.heap.size w1 w3) : Below w.heap.size w w3 := by
  have hs := h1.size
  simp at hs
  exact ((Below.refl _ _).alloc (Nat.le_refl _) o).trans ((h1.mono (by simp)).trans (h2.mono (by omega)))

theorem below_drewN {B : Nat} {a w : World} (h : Below B a w) (n : Nat) : Below B a (w.drewN n) := ⟨h.os, h.tape, h.output, h.size, h.block⟩

set_option maxRecDepth 100000 in
set_option maxHeartbeats 1000000 in
theorem window_neg (n : Nat) (s : Int) (l : Option Addr) (size mag : Nat) (w : World) (hn : n < 1000000000) (hs : s - 62135596800 = -(mag : Int)) (hm : 0 < mag) (hm2 : mag ≤ 1000000000000) (hz : 0 < size) (hz2 : size < 9223372036854775808) :
    Calls Try.prog 23 #[.agg #[.int .u64 n, .int .i64 s, .pointer l], .int .i64 size] w fun e w' => ∃ r, e = .returned (.tuple #[.int .i64 (idxNeg (wq (mag * 1000000000 - n) size) (wr (mag * 1000000000 - n) size)), r]) ∧ Below w.heap.size w w' := by
  obtain ⟨hi0, lo0, lo1, c, hi1, hmul, hsub, hhi, hlo1, hhi1, hX1, hX2⟩ := neg_prep mag n hn hm hm2
  have Hmul := hide hmul
  clear hmul
  obtain ⟨q, hq⟩ : ∃ q, q = wq (mag * 1000000000 - n) size := ⟨_, rfl⟩
  obtain ⟨r, hr⟩ : ∃ r, r = wr (mag * 1000000000 - n) size := ⟨_, rfl⟩
  rw [← hq, ← hr]
  unfold wq at hq
  unfold wr at hr
  rw [hX1, hX2] at hq hr
  have Hqr := hide (And.intro hq hr)
  clear hq hr
  have Hs := hide hs
  have Hhi := hide hhi
  have Hlo1 := hide hlo1
  have Hhi1 := hide hhi1
  have Hsub := hide hsub
  have Hn := hide hn
  have Hz2 := hide hz2
  have Hm2 := hide hm2
  have hzi : (size : Int) ≤ 9223372036854775807 := by omega
  have hni : (n : Int) < 1000000000 := by omega
  clear hs hX1 hX2 hhi hlo1 hhi1 hsub hn hz2 hm2
  have hng : IntKind.u64.wrap (-(IntKind.u64.wrap (-(mag : Int)))) = (mag : Int) := by rw [IntKind.wrap_u64, IntKind.wrap_u64]; have := Hm2.out; omega
  go_enter Try.func23, Try.ntmps23
  go_wp2_with fail
  refine (unix29 n s (.pointer l) _ (by have := Hn.out; omega) (by have := Hs.out; have := Hm2.out; omega) (by have := Hs.out; have := Hm2.out; omega)).mono ?_
  rintro e w1 ⟨rfl, hb1⟩
  rw [Hs.out]
  have hlt : -(mag : Int) < 0 := by omega
  have Hb1 := hide hb1
  clear hb1
  go_wp2_with fail
  refine (Hmul.out w1).mono ?_
  rintro e w1 ⟨rfl, hw⟩
  subst hw
  have hhi := Hhi.out
  have hsub := Hsub.out
  have hcell : w1.cell? ⟨w.heap.size, 0, none⟩ = some (.int .u64 n) := by rw [Hb1.out.cell (by simp)]; simp
  have hcell1 : w1.cell? ⟨w.heap.size, 1, none⟩ = some (.int .i64 s) := by rw [Hb1.out.cell (by simp)]; simp
  have hcell2 : w1.cell? ⟨w.heap.size, 2, none⟩ = some (.pointer l) := by rw [Hb1.out.cell (by simp)]; simp
  go_wp2_with fail
  refine (nanosecond32 n s (.pointer l) w1 (by have := Hn.out; omega)).mono ?_
  rintro e w3 ⟨rfl, hb3⟩
  have Hb3 := hide hb3
  clear hb3
  clear hni hzi hng hlt
  have hnw : IntKind.u64.wrap (n : Int) = (n : Int) := wrapN n (by have := Hn.out; omega)
  have hsub := Hsub.out
  have hz0 : ((size : Int) == 0) = false := by rw [beq_eq_false_iff_ne]; omega
  have hwz : IntKind.u64.wrap (size : Int) = (size : Int) := wrapN size (by have := Hz2.out; omega)
  by_cases hge : (size : Int) ≤ hi1
  · have hd : decide ((size : Int) ≤ hi1) = true := by simpa using hge
    go_wp2_with fail
    have hdiv : Calls Try.prog 34 #[.int .u64 ((hi1 % size : Nat) : Int), .int .u64 lo1, .int .u64 size] w3 (DivOut q r w3) := by
      rw [Hqr.out.1, Hqr.out.2]
      exact div34 (hi1 % size) lo1 size w3 (Nat.mod_lt _ hz) (by have := Hz2.out; omega) Hlo1.out
    refine hdiv.mono ?_
    rintro e w4 ⟨rfl, k, rfl⟩
    have hbel : Below w.heap.size w w3 := window_below Hb1.out Hb3.out
    have Hbel := hide hbel
    clear hbel
    have hlt : decide ((0 : Int) ≤ -(mag : Int)) = false := by rw [decide_eq_false_iff_not]; omega
    by_cases hr : r = 0
    · have hi : idxNeg q r = wrap64 (-(wrap64 q)) := if_pos hr
      rw [hr]
      go_wp2_with fail
      go_ret2
      rw [hi]
      exact ⟨_, rfl, below_drewN Hbel.out k⟩
    · have hr0 : ((r : Int) == 0) = false := by rw [beq_eq_false_iff_ne]; omega
      have hi : idxNeg q r = wrap64 (wrap64 (-(wrap64 q)) - 1) := if_neg hr
      go_wp2_with fail
      go_ret2
      rw [hi]
      exact ⟨_, rfl, below_drewN Hbel.out k⟩
  · have hd : decide ((size : Int) ≤ hi1) = false := by simpa using hge
    go_wp2_with fail
    have hdiv : Calls Try.prog 34 #[.int .u64 hi1, .int .u64 lo1, .int .u64 size] w3 (DivOut q r w3) := by
      rw [Hqr.out.1, Hqr.out.2, Nat.mod_eq_of_lt (show hi1 < size by omega)]
      exact div34 hi1 lo1 size w3 (by omega) (by have := Hz2.out; omega) Hlo1.out
    refine hdiv.mono ?_
    rintro e w4 ⟨rfl, k, rfl⟩
    have hbel : Below w.heap.size w w3 := window_below Hb1.out Hb3.out
    have Hbel := hide hbel
    clear hbel
    have hlt : decide ((0 : Int) ≤ -(mag : Int)) = false := by rw [decide_eq_false_iff_not]; omega
    by_cases hr : r = 0
    · have hi : idxNeg q r = wrap64 (-(wrap64 q)) := if_pos hr
      rw [hr]
      go_wp2_with fail
      go_ret2
      rw [hi]
      exact ⟨_, rfl, below_drewN Hbel.out k⟩
    · have hr0 : ((r : Int) == 0) = false := by rw [beq_eq_false_iff_ne]; omega
      have hi : idxNeg q r = wrap64 (wrap64 (-(wrap64 q)) - 1) := if_neg hr
      go_wp2_with fail
      go_ret2
      rw [hi]
      exact ⟨_, rfl, below_drewN Hbel.out k⟩
end Go.Proofs.Qxb6605612a
