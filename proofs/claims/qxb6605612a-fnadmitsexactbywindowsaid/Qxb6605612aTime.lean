import Derived.Test.Qxb6605612aBits
import Derived.Laws.BitsAllLaws
namespace Go.Proofs.Qxb6605612a
open Go.RowKit

theorem and_high (a M : Nat) (ha : a < 2 ^ 30) (hM : ∀ i, i < 30 → M.testBit i = false) : a &&& M = 0 := by
  apply Nat.eq_of_testBit_eq
  intro i
  rw [Nat.testBit_and, Nat.zero_testBit]
  by_cases h : i < 30
  · rw [hM i h, Bool.and_false]
  · rw [Nat.testBit_lt_two_pow (Nat.lt_of_lt_of_le ha (Nat.pow_le_pow_right (by omega) (by omega))), Bool.false_and]

theorem mono0 (n : Nat) (h : n < 1073741824) : bits .and .u64 (n : Int) 9223372036854775808 = 0 := by
  have h1 := bits_and_u64_nat n 9223372036854775808 (by omega) (by omega)
  rw [and_high n 9223372036854775808 (by simpa using h) (by decide)] at h1
  exact h1

theorem nsec30 (n : Nat) (h : n < 1073741824) : bits .and .u64 (n : Int) 1073741823 = (n : Int) := by
  have h1 := bits_and_u64_nat n 1073741823 (by omega) (by omega)
  rw [show n &&& 1073741823 = n % 2 ^ 30 from Nat.and_two_pow_sub_one_eq_mod n 30, Nat.mod_eq_of_lt (by simpa using h)] at h1
  exact h1

theorem strip30 (n : Nat) (h : n < 1073741824) : bits .andNot .u64 (n : Int) 1073741823 = 0 := by
  have h1 := u64_andNot_nat n 1073741823 (by omega) (by omega)
  rw [and_high n _ (by simpa using h) (by decide)] at h1
  exact h1

theorem or0 (n : Nat) (h : n < 18446744073709551616) : bits .or .u64 0 (n : Int) = (n : Int) := by
  have h1 := bits_or_u64_nat 0 n (by omega) h
  rw [Nat.zero_or] at h1
  exact h1

/-- A Time without a monotonic reading, in block b: its nanoseconds and its seconds. -/
structure TimeAt (w : World) (b n : Nat) (s : Int) : Prop where
  wall : w.cell? ⟨b, 0, none⟩ = some (.int .u64 n)
  ext : w.cell? ⟨b, 1, none⟩ = some (.int .i64 s)

set_option maxRecDepth 100000 in
theorem sec28 (b n : Nat) (s : Int) (w : World) (hn : n < 1073741824) (h : TimeAt w b n s) : Calls Try.prog 28 #[.pointer (some ⟨b, 0, none⟩)] w fun e w' => e = .returned (.int .i64 s) ∧ w = w' := by
  obtain ⟨h1, h2⟩ := h
  have hm := mono0 n hn
  go_enter Try.func28, Try.ntmps28
  go_wp2
  go_ret
  exact ⟨rfl, rfl⟩

theorem nsec20 (b n : Nat) (s : Int) (w : World) (hn : n < 1073741824) (h : TimeAt w b n s) : Calls Try.prog 20 #[.pointer (some ⟨b, 0, none⟩)] w fun e w' => e = .returned (.int .i32 n) ∧ w = w' := by
  obtain ⟨h1, h2⟩ := h
  have hm := nsec30 n hn
  have hi : (n : Int) < 1073741824 := by omega
  clear hn
  go_enter Try.func20, Try.ntmps20
  go_wp2
  go_ret
  exact ⟨rfl, rfl⟩

theorem unixSec37 (b n : Nat) (s : Int) (w : World) (hn : n < 1073741824) (h : TimeAt w b n s) (h1 : -1000000000000 ≤ s) (h2 : s ≤ 1000000000000) :
    Calls Try.prog 37 #[.pointer (some ⟨b, 0, none⟩)] w fun e w' => e = .returned (.int .i64 (s - 62135596800)) ∧ w = w' := by
  have H := hide h
  clear h
  go_enter Try.func37, Try.ntmps37
  go_wp2_with fail
  refine (sec28 b n s w hn H.out).mono ?_
  rintro e w1 ⟨rfl, hw⟩
  subst hw
  go_wp2
  go_ret
  exact ⟨congrArg (fun x => Ending.returned (.int .i64 x)) (by omega), rfl⟩

theorem time_box (w : World) (n : Nat) (s : Int) (l : Value) : TimeAt (w.alloc (.cells #[.int .u64 n, .int .i64 s, l] 31)) w.heap.size n s := by
  constructor <;> simp

theorem unix29 (n : Nat) (s : Int) (l : Value) (w : World) (hn : n < 1073741824) (h1 : -1000000000000 ≤ s) (h2 : s ≤ 1000000000000) :
    Calls Try.prog 29 #[.agg #[.int .u64 n, .int .i64 s, l]] w fun e w' => e = .returned (.int .i64 (s - 62135596800)) ∧ Below w.heap.size w w' := by
  go_enter Try.func29, Try.ntmps29
  go_wp2_with fail
  refine (unixSec37 w.heap.size n s _ hn (time_box w n s l) h1 h2).mono ?_
  rintro e w1 ⟨rfl, hw⟩
  subst hw
  go_wp2
  go_ret
  exact ⟨rfl, (Below.refl _ _).alloc (Nat.le_refl _) _⟩

theorem nanosecond32 (n : Nat) (s : Int) (l : Value) (w : World) (hn : n < 1073741824) :
    Calls Try.prog 32 #[.agg #[.int .u64 n, .int .i64 s, l]] w fun e w' => e = .returned (.int .i64 n) ∧ Below w.heap.size w w' := by
  go_enter Try.func32, Try.ntmps32
  go_wp2_with fail
  refine (nsec20 w.heap.size n s _ hn (time_box w n s l)).mono ?_
  rintro e w1 ⟨rfl, hw⟩
  subst hw
  have hi : (n : Int) < 1073741824 := by omega
  clear hn
  go_wp2
  go_ret
  exact ⟨rfl, (Below.refl _ _).alloc (Nat.le_refl _) _⟩

set_option maxRecDepth 100000 in
theorem addSec21 (b n : Nat) (s d : Int) (w : World) (hn : n < 1073741824) (h : TimeAt w b n s) (hf : w.frozen? ⟨b, 1, none⟩ = false) (h1 : -1000000000000 ≤ s) (h2 : s ≤ 1000000000000) (h3 : -10000000000 ≤ d) (h4 : d ≤ 10000000000) :
    Calls Try.prog 21 #[.pointer (some ⟨b, 0, none⟩), .int .i64 d] w fun e w' => e = .returned (.tuple #[]) ∧ w' = w.setCell ⟨b, 1, none⟩ (.int .i64 (s + d)) := by
  obtain ⟨c1, c2⟩ := h
  have hm := mono0 n hn
  clear hn
  rcases Int.lt_trichotomy d 0 with hd | hd | hd
  · have hbb : (decide (s < s + d) == decide (0 < d)) = true := by rw [decide_eq_false (by omega), decide_eq_false (by omega)]; rfl
    go_enter Try.func21, Try.ntmps21
    go_wp2
    go_end0
    exact ⟨rfl, rfl⟩
  · subst hd
    go_enter Try.func21, Try.ntmps21
    go_wp2
    go_end0
    exact ⟨rfl, by simp⟩
  · go_enter Try.func21, Try.ntmps21
    go_wp2
    go_end0
    exact ⟨rfl, rfl⟩

end Go.Proofs.Qxb6605612a
