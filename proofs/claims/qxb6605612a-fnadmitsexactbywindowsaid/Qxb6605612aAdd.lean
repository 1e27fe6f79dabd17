import Derived.Test.Qxb6605612aTime
namespace Go.Proofs.Qxb6605612a
open Go.RowKit

/-- What Add makes of the nanoseconds and of the seconds. -/
def addN' (n : Nat) (d : Int) : Nat := (((n : Int) + d) % 1000000000).toNat
def addS (n : Nat) (s d : Int) : Int := s + ((n : Int) + d) / 1000000000

def TimeOut (n : Nat) (s : Int) (l : Value) (w : World) (e : Ending) (w' : World) : Prop := e = .returned (.agg #[.int .u64 n, .int .i64 s, l]) ∧ Below w.heap.size w w'

theorem cut_facts (d : Int) : ∃ q r : Int, d.tdiv 1000000000 = q ∧ d.tmod 1000000000 = r ∧ d = q * 1000000000 + r ∧ -1000000000 < r ∧ r < 1000000000 := by
  refine ⟨_, _, rfl, rfl, ?_, ?_, ?_⟩
  · have := Int.tmod_add_mul_tdiv d 1000000000; omega
  · have := Int.lt_tmod_of_pos d (show (0 : Int) < 1000000000 by omega); omega
  · exact Int.tmod_lt_of_pos d (by omega)

set_option maxRecDepth 100000 in
set_option maxHeartbeats 400000 in
/-- '(time.Time).Add' on a Time without a monotonic reading. -/
theorem add8 (n : Nat) (s d : Int) (l : Option Addr) (w : World) (hn : n < 1000000000) (h1 : -100000000000 ≤ s) (h2 : s ≤ 100000000000) (h3 : -9223372036854775808 ≤ d) (h4 : d ≤ 9223372036854775807) :
    Calls Try.prog 8 #[.agg #[.int .u64 n, .int .i64 s, .pointer l], .int .i64 d] w (TimeOut (addN' n d) (addS n s d) (.pointer l) w) := by
  obtain ⟨q, r, hq, hr, hd, hr1, hr2⟩ := cut_facts d
  have hq1 : -9999999990 ≤ q := by omega
  have hq2 : q ≤ 9999999990 := by omega
  have Hd := hide hd
  have hni : (n : Int) < 1000000000 := by omega
  have hni0 : (0 : Int) ≤ (n : Int) := by omega
  clear hd
  have fin : ∀ (m : Nat) (c : Int), (m : Int) = (n : Int) + r - c * 1000000000 → m < 1000000000 → addN' n d = m ∧ addS n s d = s + (q + c) := by
    intro m c e1 e2
    have e3 := Hd.out
    unfold addN' addS
    omega
  have Hfin := hide fin
  clear fin
  by_cases g1 : (1000000000 : Int) ≤ (n : Int) + r
  · obtain ⟨m, hm⟩ := Int.eq_ofNat_of_zero_le (show 0 ≤ (n : Int) + r - 1000000000 by omega)
    obtain ⟨f1, f2⟩ := Hfin.out m 1 (by omega) (by omega)
    rw [f1, f2]
    clear Hfin f1 f2
    have hst := strip30 n (by omega)
    have ho := or0 m (by omega)
    have hmo := mono0 m (by omega)
    go_enter Try.func8, Try.ntmps8
    go_wp2_with fail
    refine (nsec20 w.heap.size n s _ (by omega) (by constructor <;> simp)).mono ?_
    rintro e w1 ⟨rfl, hw⟩
    subst hw
    go_wp2_with fail
    refine (addSec21 w.heap.size m s (q + 1) _ (by omega) (by constructor <;> simp) (by simp) (by omega) (by omega) (by omega) (by omega)).mono ?_
    rintro e w2 ⟨rfl, hw⟩
    subst hw
    go_wp2
    exact bodyPost_ret (v := .agg #[.int .u64 m, .int .i64 (s + (q + 1)), .pointer l]) (by simp [results, Try.results8, go_sem]) rfl ⟨rfl, by repeat (first | exact (Below.refl _ _) | apply Below.setCell | apply Below.alloc | simp)⟩
  · have g1' : (n : Int) + r < 1000000000 := by omega
    have hdf : decide ((1000000000 : Int) ≤ (n : Int) + r) = false := decide_eq_false (by omega)
    clear g1
    by_cases g2 : (n : Int) + r < 0
    · obtain ⟨m, hm⟩ := Int.eq_ofNat_of_zero_le (show 0 ≤ (n : Int) + r + 1000000000 by omega)
      obtain ⟨f1, f2⟩ := Hfin.out m (-1) (by omega) (by omega)
      rw [f1, f2, show q + -1 = q - 1 by omega]
      clear Hfin f1 f2
      have hst := strip30 n (by omega)
      have ho := or0 m (by omega)
      have ho2 : bits .or .u64 0 ((n : Int) + r + 1000000000) = (m : Int) := by rw [hm]; exact ho
      have Hm := hide hm
      have hmn : m < 1000000000 := by omega
      have Hmn := hide hmn
      have Hn := hide hn
      clear hm ho hmn hn
      have hmo := mono0 m (by have := Hmn.out; omega)
      go_enter Try.func8, Try.ntmps8
      go_wp2_with fail
      refine (nsec20 w.heap.size n s _ (by have := Hn.out; omega) (by constructor <;> simp)).mono ?_
      rintro e w1 ⟨rfl, hw⟩
      subst hw
      go_wp2_with fail
      refine (addSec21 w.heap.size m s (q - 1) _ (by have := Hmn.out; omega) (by constructor <;> simp) (by simp) (by omega) (by omega) (by omega) (by omega)).mono ?_
      rintro e w2 ⟨rfl, hw⟩
      subst hw
      go_wp2
      exact bodyPost_ret (v := .agg #[.int .u64 m, .int .i64 (s + (q - 1)), .pointer l]) (by simp [results, Try.results8, go_sem]) rfl ⟨rfl, by repeat (first | exact (Below.refl _ _) | apply Below.setCell | apply Below.alloc | simp)⟩
    · obtain ⟨m, hm⟩ := Int.eq_ofNat_of_zero_le (show 0 ≤ (n : Int) + r by omega)
      obtain ⟨f1, f2⟩ := Hfin.out m 0 (by omega) (by omega)
      rw [f1, f2, Int.add_zero]
      clear Hfin f1 f2
      have hst := strip30 n (by omega)
      have ho := or0 m (by omega)
      have ho2 : bits .or .u64 0 ((n : Int) + r) = (m : Int) := by rw [hm]; exact ho
      have Hm := hide hm
      have hmn : m < 1000000000 := by omega
      have Hmn := hide hmn
      have Hn := hide hn
      clear hn
      have g2' : (0 : Int) ≤ (n : Int) + r := by omega
      have hdf2 : decide ((n : Int) + r < 0) = false := decide_eq_false (by omega)
      clear hm ho hmn g2
      have hmo := mono0 m (by have := Hmn.out; omega)
      go_enter Try.func8, Try.ntmps8
      go_wp2_with fail
      refine (nsec20 w.heap.size n s _ (by have := Hn.out; omega) (by constructor <;> simp)).mono ?_
      rintro e w1 ⟨rfl, hw⟩
      subst hw
      go_wp2_with fail
      refine (addSec21 w.heap.size m s q _ (by have := Hmn.out; omega) (by constructor <;> simp) (by simp) (by omega) (by omega) (by omega) (by omega)).mono ?_
      rintro e w2 ⟨rfl, hw⟩
      subst hw
      go_wp2
      exact bodyPost_ret (v := .agg #[.int .u64 m, .int .i64 (s + q), .pointer l]) (by simp [results, Try.results8, go_sem]) rfl ⟨rfl, by repeat (first | exact (Below.refl _ _) | apply Below.setCell | apply Below.alloc | simp)⟩
end Go.Proofs.Qxb6605612a
