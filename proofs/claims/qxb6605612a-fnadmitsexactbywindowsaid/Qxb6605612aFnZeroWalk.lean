import Derived.Test.Qxb6605612aFnZeroParts
import Derived.Test.Qxb6605612aStates
import Derived.Test.Qxb6605612aUnix
namespace Go.Proofs.Qxb6605612a
open Go.RowKit

def BoolOut (v : Bool) (w : World) (e : Ending) (w' : World) : Prop := e = .returned (.bool v) ∧ Below w.heap.size w w'

theorem Held.onward {w0 w w' : World} {b g i h : Nat} {key : ByteArray} {L C P : Int} (a : Held w0 w b g i h key L C P) (hb : Below w.heap.size w w') : Held w0 w' b g i h key L C P where
  c0 := by rw [hb.cell a.lt]; exact a.c0
  c1 := by rw [hb.cell a.lt]; exact a.c1
  lt := Nat.lt_of_lt_of_le a.lt hb.size
  gl := Nat.lt_of_lt_of_le a.gl hb.size
  ne := a.ne
  m := by rw [hb.cell a.gl]; exact a.m
  k := by rw [hb.cell a.gl]; exact a.k
  s0 := by rw [hb.cell a.gl]; exact a.s0
  s1 := by rw [hb.cell a.gl]; exact a.s1
  s2 := by rw [hb.cell a.gl]; exact a.s2
  oth := fun j h1 h2 => by rw [hb.cell a.gl]; exact a.oth j h1 h2
  sf := fun j => by rw [hb.frozen a.gl]; exact a.sf j
  but := a.but.trans (But.of hb)
  k3 := by rw [hb.cell a.lt]; exact a.k3
  k4 := by rw [hb.cell a.lt]; exact a.k4
  k5 := by rw [hb.cell a.lt]; exact a.k5

theorem Empty0.onward {w w' : World} {b : Nat} (a : Empty0 w b) (hb : Below w.heap.size w w') : Empty0 w' b where
  c0 := by rw [hb.cell a.lt]; exact a.c0
  c1 := by rw [hb.cell a.lt]; exact a.c1
  c2 := by rw [hb.cell a.lt]; exact a.c2
  f0 := by rw [hb.frozen a.lt]; exact a.f0
  f1 := by rw [hb.frozen a.lt]; exact a.f1
  f2 := by rw [hb.frozen a.lt]; exact a.f2
  lt := Nat.lt_of_lt_of_le a.lt hb.size

/-- The law's own Time, in block t. -/
structure TimeIn (w : World) (t N : Nat) (S : Int) : Prop where
  t0 : w.cell? ⟨t, 0, none⟩ = some (.int .u64 N)
  t1 : w.cell? ⟨t, 1, none⟩ = some (.int .i64 S)
  t2 : w.cell? ⟨t, 2, none⟩ = some (.pointer none)
  lt : t < w.heap.size

theorem TimeIn.next {w w' : World} {t N : Nat} {S : Int} (a : TimeIn w t N S) (hb : Below w.heap.size w w') : TimeIn w' t N S where
  t0 := by rw [hb.cell a.lt]; exact a.t0
  t1 := by rw [hb.cell a.lt]; exact a.t1
  t2 := by rw [hb.cell a.lt]; exact a.t2
  lt := Nat.lt_of_lt_of_le a.lt hb.size

theorem TimeIn.but {w w' : World} {t N b : Nat} {S : Int} (a : TimeIn w t N S) (hb : But b w w') (hn : t ≠ b) : TimeIn w' t N S where
  t0 := by rw [hb.cell a.lt hn]; exact a.t0
  t1 := by rw [hb.cell a.lt hn]; exact a.t1
  t2 := by rw [hb.cell a.lt hn]; exact a.t2
  lt := Nat.lt_of_lt_of_le a.lt hb.size

theorem timeIn_new {w w' : World} {N : Nat} {S : Int} (hb : Below (w.alloc (.cells #[.int .u64 N, .int .i64 S, .pointer none] 31)).heap.size (w.alloc (.cells #[.int .u64 N, .int .i64 S, .pointer none] 31)) w') : TimeIn w' w.heap.size N S := by
  have hs := hb.size
  simp at hs
  exact ⟨by rw [freshB hb 0]; rfl, by rw [freshB hb 1]; rfl, by rw [freshB hb 2]; rfl, by omega⟩

set_option maxHeartbeats 4000000 in
set_option maxRecDepth 20000 in
theorem fnZero_main (lim size : Int) (pr : Bool) (h : Nat) (key : ByteArray) (L C P ns n1 n2 : Int) (N : Nat) (S : Int) (ad : Int → Bool) (w : World)
    (hk : key.size ≤ 1048576) (g1 : 0 < lim) (g2 : 0 < size) (a1 : 0 ≤ n1) (a2 : n1 ≤ lim) (b1 : 0 ≤ n2) (b2 : n2 ≤ lim) (c1 : 0 ≤ C) (c2 : C ≤ lim) (d1 : 0 ≤ P) (d2 : P ≤ lim)
    (hz : C = 0 → L = 0 ∧ P = 0) (hh : h < 18446744073709551616)
    (hu : ∀ w, Calls Try.prog 11 #[.int .i64 ns] w (TimeOut N S (.pointer none) w))
    (hnone : ∀ b w cost, Empty0 w b → Calls Try.prog 14 #[.pointer (some ⟨b, 0, none⟩), .int .u64 h, .string key, .agg #[.int .u64 N, .int .i64 S, .pointer none], .int .i64 cost] w (BoolOut true w))
    (hsame : ∀ b g w0 w cost, Held w0 w b g (hm h) h key L C P → w0.cell? ⟨b, 4, none⟩ = some (.int .i64 lim) → w0.cell? ⟨b, 5, none⟩ = some (.int .i64 size) →
      Calls Try.prog 14 #[.pointer (some ⟨b, 0, none⟩), .int .u64 h, .string key, .agg #[.int .u64 N, .int .i64 S, .pointer none], .int .i64 cost] w (BoolOut (ad cost) w))
    (p0 : ad 0 = true) (pm : ∀ lo hi, lo ≤ hi → ad hi = true → ad lo = true) :
    Calls Try.prog 5 #[.int .i64 lim, .int .i64 size, .bool pr, .int .u64 h, .string key, .int .i64 L, .int .i64 C, .int .i64 P, .int .i64 ns, .int .i64 n1, .int .i64 n2] w (Yes w) := by
  have Hb16 : Hid (∀ w, Calls Try.prog 16 #[.int .i64 lim, .int .i64 size, .bool pr, .int .u64 h, .string key, .int .i64 L, .int .i64 C, .int .i64 P, .int .i64 ns, .int .i64 n1, .int .i64 n2] w fun e w' => e = .returned (.bool true) ∧ w = w') := hide fun w => by
    have e := bytes16 lim size pr h key L C P ns n1 n2 (by unfold maxLen; omega) w
    rw [decide_eq_true hk] at e
    exact e
  have Hu := hide hu
  have Hnone := hide hnone
  have Hsame := hide hsame
  have Hh := hide hh
  have Hpm := hide pm
  have Hp0 := hide p0
  have e1 : decide (lim ≤ 0) = false := by rw [decide_eq_false_iff_not]; omega
  have e2 : decide (size ≤ 0) = false := by rw [decide_eq_false_iff_not]; omega
  have e3 : decide (n1 < 0) = false := by rw [decide_eq_false_iff_not]; omega
  have e4 : decide (lim < n1) = false := by rw [decide_eq_false_iff_not]; omega
  have e5 : decide (n2 < 0) = false := by rw [decide_eq_false_iff_not]; omega
  have e6 : decide (lim < n2) = false := by rw [decide_eq_false_iff_not]; omega
  have e7 : decide (C < 0) = false := by rw [decide_eq_false_iff_not]; omega
  have e8 : decide (lim < C) = false := by rw [decide_eq_false_iff_not]; omega
  have e9 : decide (P < 0) = false := by rw [decide_eq_false_iff_not]; omega
  have e10 : decide (lim < P) = false := by rw [decide_eq_false_iff_not]; omega
  have hk' : decide (1048576 < (key.size : Int)) = false := by rw [decide_eq_false_iff_not]; omega
  clear hu hnone hsame hh p0 pm g1 g2 a1 a2 b1 b2 c1 c2 d1 d2
  go_enter Try.func5, Try.ntmps5
  go_wp2_with fail
  refine (Hb16.out _).mono ?_
  rintro e w1 ⟨rfl, hw⟩
  subst hw
  clear Hb16
  go_upto_region 11 with fail
  go_cut [93] (fun v wc => v = .bool false ∧ w = wc)
  case first =>
    by_cases hc : C = 0
    · obtain ⟨rfl, rfl⟩ := hz hc
      subst hc
      go_wp2_with fail
      go_meet
      case rel => exact ⟨rfl, rfl⟩
    · have hcb : (C == 0) = false := by simpa using hc
      go_wp2_with fail
      go_meet
      case rel => exact ⟨rfl, rfl⟩
  case rest =>
    obtain ⟨rfl, hw⟩ := hcut
    subst hw
    clear e1 e2 e3 e4 e5 e6 e7 e8 e9 e10 hz
    go_upto_if 98 with fail
    go_cut [23, 24] (fun x y wc => ∃ lo hi : Int, x = .int .i64 lo ∧ y = .int .i64 hi ∧ lo ≤ hi ∧ w = wc)
    case first =>
      by_cases hlt : n2 < n1
      · go_wp2_with fail
        go_meet
        case rel => exact ⟨n2, n1, rfl, rfl, by omega, rfl⟩
      · have hltb : decide (n2 < n1) = false := by rw [decide_eq_false_iff_not]; omega
        go_wp2_with fail
        go_meet
        case rel => exact ⟨n1, n2, rfl, rfl, by omega, rfl⟩
    case rest =>
      obtain ⟨lo, hi, rfl, rfl, hlh, hw⟩ := hcut
      subst hw
      have Hlh := hide hlh
      clear hlh
      go_wp2_with fail
      refine (Hu.out _).mono ?_
      rintro e w1 ⟨rfl, hb1⟩
      have Hb1 := hide hb1
      clear hb1 Hu
      go_wp2_with fail
      refine (new12 lim size _).mono ?_
      rintro e w2 ⟨rfl, hb2, hF⟩
      have hT := timeIn_new hb2
      have hB : Below w.heap.size w w2 := (Hb1.out.alloc Hb1.out.size _).trans (hb2.mono (by have := Hb1.out.size; simp; omega))
      simp only [World.alloc, Array.size_push] at hF
      have HS1 := hide Hb1.out.size
      have HF := hide hF
      have HT0 := hide hT
      have HB0 := hide hB
      obtain ⟨t0, t1, t2, tl⟩ := hT
      clear hF hb2 hB Hb1
      cases pr
      · have HE0 := hide HF.out.emp
        clear HF Hsame
        have Hs0 := hide (Hnone.out (w1.heap.size + 1) w2 0 HE0.out)
        go_wp2_with fail
        refine Hs0.out.mono ?_
        rintro e w3 ⟨rfl, hb0⟩
        have HE1 := hide (HE0.out.onward hb0)
        have HT1 := hide (HT0.out.next hb0)
        have HB1 := hide (HB0.out.trans (hb0.mono HB0.out.size))
        obtain ⟨t0, t1, t2, tl⟩ := HT1.out
        clear hb0 Hs0 HT0 HB0
        have Hs1 := hide (Hnone.out (w1.heap.size + 1) w3 lo HE1.out)
        go_wp2_with fail
        refine Hs1.out.mono ?_
        rintro e w4 ⟨rfl, hb1⟩
        have HE2 := hide (HE1.out.onward hb1)
        have HT2 := hide (HT1.out.next hb1)
        have HB2 := hide (HB1.out.trans (hb1.mono HB1.out.size))
        obtain ⟨t0, t1, t2, tl⟩ := HT2.out
        clear hb1 Hs1 HT1 HB1
        have Hs2 := hide (Hnone.out (w1.heap.size + 1) w4 hi HE2.out)
        go_wp2_with fail
        refine Hs2.out.mono ?_
        rintro e w5 ⟨rfl, hb2⟩
        have HE3 := hide (HE2.out.onward hb2)
        have HT3 := hide (HT2.out.next hb2)
        have HB3 := hide (HB2.out.trans (hb2.mono HB2.out.size))
        obtain ⟨t0, t1, t2, tl⟩ := HT3.out
        clear hb2 Hs2 HT2 HB2
        go_wp2_with fail
        go_ret
        exact ⟨rfl, HB3.out⟩
      · have b4 := HF.out.l
        have b5 := HF.out.s
        have b1 := HF.out.emp.lt
        obtain ⟨vl, hvl⟩ : ∃ v, v = ad lo := ⟨_, rfl⟩
        obtain ⟨vh, hvh⟩ : ∃ v, v = ad hi := ⟨_, rfl⟩
        have Hvl := hide hvl
        have Hvh := hide hvh
        clear hvl hvh
        go_wp2_with fail
        refine (addCounts13 (w1.heap.size + 1) h key L C P _ HF.out.emp Hh.out).mono ?_
        rintro e w3 ⟨rfl, g, hH⟩
        have HT0' := hide (HT0.out.but hH.but (by omega))
        have HB0' := hide (HB0.out.trans (hH.but.below HB0.out.size (by have := HS1.out; omega)))
        have HH0 := hide hH
        clear HT0 HB0 hH t0 t1 t2 tl
        have HT0 := HT0'
        have HB0 := HB0'
        clear HT0' HB0'
        obtain ⟨t0, t1, t2, tl⟩ := HT0.out
        have hs0 := Hsame.out (w1.heap.size + 1) g w2 w3 0 HH0.out b4 b5
        rw [Hp0.out] at hs0
        have Hs0 := hide hs0
        clear hs0
        go_wp2_with fail
        refine Hs0.out.mono ?_
        rintro e w4 ⟨rfl, hb0⟩
        have HH1 := hide (HH0.out.onward hb0)
        have HT1 := hide (HT0.out.next hb0)
        have HB1 := hide (HB0.out.trans (hb0.mono HB0.out.size))
        obtain ⟨t0, t1, t2, tl⟩ := HT1.out
        clear hb0 Hs0 HT0 HB0
        have hs1 := Hsame.out (w1.heap.size + 1) g w2 w4 lo HH1.out b4 b5
        rw [← Hvl.out] at hs1
        have Hs1 := hide hs1
        clear hs1
        go_wp2_with fail
        refine Hs1.out.mono ?_
        rintro e w5 ⟨rfl, hb1⟩
        have HH2 := hide (HH1.out.onward hb1)
        have HT2 := hide (HT1.out.next hb1)
        have HB2 := hide (HB1.out.trans (hb1.mono HB1.out.size))
        obtain ⟨t0, t1, t2, tl⟩ := HT2.out
        clear hb1 Hs1 HT1 HB1
        have hs2 := Hsame.out (w1.heap.size + 1) g w2 w5 hi HH2.out b4 b5
        rw [← Hvh.out] at hs2
        have Hs2 := hide hs2
        clear hs2
        go_wp2_with fail
        refine Hs2.out.mono ?_
        rintro e w6 ⟨rfl, hb2⟩
        have HH3 := hide (HH2.out.onward hb2)
        have HT3 := hide (HT2.out.next hb2)
        have HB3 := hide (HB2.out.trans (hb2.mono HB2.out.size))
        obtain ⟨t0, t1, t2, tl⟩ := HT3.out
        clear hb2 Hs2 HT2 HB2
        cases vh
        · go_wp2_with fail
          go_ret
          exact ⟨rfl, HB3.out⟩
        · have hvl : vl = true := by rw [Hvl.out]; exact Hpm.out lo hi Hlh.out Hvh.out.symm
          subst hvl
          go_wp2_with fail
          go_ret
          exact ⟨rfl, HB3.out⟩

/-- Whatever stands outside the law's domain. -/
theorem fnZero_out (lim size : Int) (pr : Bool) (h : Nat) (key : ByteArray) (L C P ns n1 n2 : Int) (w : World) (hk : key.size ≤ maxLen)
    (hout : 1048576 < key.size ∨ lim ≤ 0 ∨ size ≤ 0 ∨ n1 < 0 ∨ lim < n1 ∨ n2 < 0 ∨ lim < n2 ∨ C < 0 ∨ lim < C ∨ P < 0 ∨ lim < P ∨ (C = 0 ∧ (L ≠ 0 ∨ P ≠ 0))) :
    Calls Try.prog 5 #[.int .i64 lim, .int .i64 size, .bool pr, .int .u64 h, .string key, .int .i64 L, .int .i64 C, .int .i64 P, .int .i64 ns, .int .i64 n1, .int .i64 n2] w (Yes w) := by
  have hb := fun w => bytes16 lim size pr h key L C P ns n1 n2 hk w
  by_cases g0 : 1048576 < key.size
  · rw [decide_eq_false (by omega)] at hb
    have Hb16 := hide hb
    clear hb hk hout g0
    go_enter Try.func5, Try.ntmps5
    go_wp2_with fail
    refine (Hb16.out _).mono ?_
    rintro e w1 ⟨rfl, hw⟩
    subst hw
    go_wp2_with fail
    go_ret
    exact ⟨rfl, Below.refl _ _⟩
  · rw [decide_eq_true (by omega)] at hb
    have Hb16 := hide hb
    have hk' : decide (1048576 < (key.size : Int)) = false := by rw [decide_eq_false_iff_not]; omega
    have hk2 : key.size ≤ 1048576 := by omega
    clear hb hk
    by_cases g1 : lim ≤ 0
    · clear hout g0
      go_enter Try.func5, Try.ntmps5
      go_wp2_with fail
      refine (Hb16.out _).mono ?_
      rintro e w1 ⟨rfl, hw⟩
      subst hw
      go_wp2_with fail
      go_ret
      exact ⟨rfl, Below.refl _ _⟩
    have e1 : decide (lim ≤ 0) = false := by rw [decide_eq_false_iff_not]; omega
    by_cases g2 : size ≤ 0
    · clear hout g0
      go_enter Try.func5, Try.ntmps5
      go_wp2_with fail
      refine (Hb16.out _).mono ?_
      rintro e w1 ⟨rfl, hw⟩
      subst hw
      go_wp2_with fail
      go_ret
      exact ⟨rfl, Below.refl _ _⟩
    have e2 : decide (size ≤ 0) = false := by rw [decide_eq_false_iff_not]; omega
    by_cases g3 : n1 < 0
    · clear hout g0
      go_enter Try.func5, Try.ntmps5
      go_wp2_with fail
      refine (Hb16.out _).mono ?_
      rintro e w1 ⟨rfl, hw⟩
      subst hw
      go_wp2_with fail
      go_ret
      exact ⟨rfl, Below.refl _ _⟩
    have e3 : decide (n1 < 0) = false := by rw [decide_eq_false_iff_not]; omega
    by_cases g4 : lim < n1
    · clear hout g0
      go_enter Try.func5, Try.ntmps5
      go_wp2_with fail
      refine (Hb16.out _).mono ?_
      rintro e w1 ⟨rfl, hw⟩
      subst hw
      go_wp2_with fail
      go_ret
      exact ⟨rfl, Below.refl _ _⟩
    have e4 : decide (lim < n1) = false := by rw [decide_eq_false_iff_not]; omega
    by_cases g5 : n2 < 0
    · clear hout g0
      go_enter Try.func5, Try.ntmps5
      go_wp2_with fail
      refine (Hb16.out _).mono ?_
      rintro e w1 ⟨rfl, hw⟩
      subst hw
      go_wp2_with fail
      go_ret
      exact ⟨rfl, Below.refl _ _⟩
    have e5 : decide (n2 < 0) = false := by rw [decide_eq_false_iff_not]; omega
    by_cases g6 : lim < n2
    · clear hout g0
      go_enter Try.func5, Try.ntmps5
      go_wp2_with fail
      refine (Hb16.out _).mono ?_
      rintro e w1 ⟨rfl, hw⟩
      subst hw
      go_wp2_with fail
      go_ret
      exact ⟨rfl, Below.refl _ _⟩
    have e6 : decide (lim < n2) = false := by rw [decide_eq_false_iff_not]; omega
    by_cases g7 : C < 0
    · clear hout g0
      go_enter Try.func5, Try.ntmps5
      go_wp2_with fail
      refine (Hb16.out _).mono ?_
      rintro e w1 ⟨rfl, hw⟩
      subst hw
      go_wp2_with fail
      go_ret
      exact ⟨rfl, Below.refl _ _⟩
    have e7 : decide (C < 0) = false := by rw [decide_eq_false_iff_not]; omega
    by_cases g8 : lim < C
    · clear hout g0
      go_enter Try.func5, Try.ntmps5
      go_wp2_with fail
      refine (Hb16.out _).mono ?_
      rintro e w1 ⟨rfl, hw⟩
      subst hw
      go_wp2_with fail
      go_ret
      exact ⟨rfl, Below.refl _ _⟩
    have e8 : decide (lim < C) = false := by rw [decide_eq_false_iff_not]; omega
    by_cases g9 : P < 0
    · clear hout g0
      go_enter Try.func5, Try.ntmps5
      go_wp2_with fail
      refine (Hb16.out _).mono ?_
      rintro e w1 ⟨rfl, hw⟩
      subst hw
      go_wp2_with fail
      go_ret
      exact ⟨rfl, Below.refl _ _⟩
    have e9 : decide (P < 0) = false := by rw [decide_eq_false_iff_not]; omega
    by_cases g10 : lim < P
    · clear hout g0
      go_enter Try.func5, Try.ntmps5
      go_wp2_with fail
      refine (Hb16.out _).mono ?_
      rintro e w1 ⟨rfl, hw⟩
      subst hw
      go_wp2_with fail
      go_ret
      exact ⟨rfl, Below.refl _ _⟩
    have e10 : decide (lim < P) = false := by rw [decide_eq_false_iff_not]; omega
    obtain ⟨hC, hLP⟩ : C = 0 ∧ (L ≠ 0 ∨ P ≠ 0) := by omega
    clear hout
    subst hC
    by_cases hL : L = 0
    · have hP : ¬ (P = 0) := by omega
      have hPb : (P == 0) = false := by simpa using hP
      have hPn : (P != 0) = true := by simpa using hP
      subst hL
      clear hLP g0 g1 g2 g3 g4 g5 g6 g7 g8 g9 g10
      go_enter Try.func5, Try.ntmps5
      go_wp2_with fail
      refine (Hb16.out _).mono ?_
      rintro e w1 ⟨rfl, hw⟩
      subst hw
      go_wp2_with fail
      go_ret
      exact ⟨rfl, Below.refl _ _⟩
    · have hLb : (L == 0) = false := by simpa using hL
      have hLn : (L != 0) = true := by simpa using hL
      clear hLP g0 g1 g2 g3 g4 g5 g6 g7 g8 g9 g10
      go_enter Try.func5, Try.ntmps5
      go_wp2_with fail
      refine (Hb16.out _).mono ?_
      rintro e w1 ⟨rfl, hw⟩
      subst hw
      go_wp2_with fail
      go_ret
      exact ⟨rfl, Below.refl _ _⟩
end Go.Proofs.Qxb6605612a
