import Derived.Test.Qxb6605612aFnZeroWalk
import Derived.Test.Qxb6605612aFnExactWin
namespace Go.Proofs.Qxb6605612a
open Go.RowKit

set_option maxHeartbeats 8000000 in
set_option maxRecDepth 20000 in
theorem fnExact_main (lim : Int) (size : Nat) (pr : Bool) (h : Nat) (key : ByteArray) (L C P : Int) (hq : Nat) (keyq : ByteArray) (ns n : Int) (N : Nat) (S : Int) (keq got : Bool) (rm idx : Int) (w : World)
    (hfit : fits key keyq = true) (k1 : key.size ≤ 524288) (k2 : keyq.size ≤ 524288) (g1 : 0 < lim) (g1' : lim ≤ 9223372036854775807) (g2 : 0 < size) (a1 : 0 ≤ n) (a2 : n ≤ lim) (c1 : 0 ≤ C) (c2 : C ≤ lim) (d1 : 0 ≤ P) (d2 : P ≤ lim)
    (hL : L ≤ 9223372036854775807) (hidx : -9223372036854775808 ≤ idx)
    (hz : C = 0 → L = 0 ∧ P = 0) (hh : h < 18446744073709551616) (hkeq : (keyq.toList == key.toList) = keq) (hkh : keq = true → hq = h)
    (hu : ∀ w, Calls Try.prog 11 #[.int .i64 ns] w (TimeOut N S (.pointer none) w))
    (hfd : ∀ w, Calls Try.prog 15 #[.int .i64 ns, .int .i64 size] w fun e w' => e = .returned (.int .i64 idx) ∧ w = w')
    (hnone : pr = false → ∀ b w, Empty0 w b → Calls Try.prog 14 #[.pointer (some ⟨b, 0, none⟩), .int .u64 hq, .string keyq, .agg #[.int .u64 N, .int .i64 S, .pointer none], .int .i64 n] w (BoolOut got w))
    (hheld : pr = true → ∀ b g w0 w, Held w0 w b g (hm h) h key L C P → w0.cell? ⟨b, 4, none⟩ = some (.int .i64 lim) → w0.cell? ⟨b, 5, none⟩ = some (.int .i64 size) → Calls Try.prog 14 #[.pointer (some ⟨b, 0, none⟩), .int .u64 hq, .string keyq, .agg #[.int .u64 N, .int .i64 S, .pointer none], .int .i64 n] w (BoolOut got w))
    (hroom : (¬ (pr = true ∧ keq = true ∧ 0 < C) → rm = lim) ∧ (pr = true ∧ keq = true ∧ 0 < C → rm = room lim L C P idx))
    (hgot : got = decide (n ≤ rm)) :
    Calls Try.prog 4 #[.int .i64 lim, .int .i64 size, .bool pr, .int .u64 h, .string key, .int .i64 L, .int .i64 C, .int .i64 P, .int .u64 hq, .string keyq, .int .i64 ns, .int .i64 n] w (Yes w) := by
  have Hb10 : Hid (∀ w, Calls Try.prog 10 #[.int .i64 lim, .int .i64 size, .bool pr, .int .u64 h, .string key, .int .i64 L, .int .i64 C, .int .i64 P, .int .u64 hq, .string keyq, .int .i64 ns, .int .i64 n] w fun e w' => e = .returned (.bool true) ∧ w = w') := hide fun w => by
    have e := bytes10 lim size pr h key L C P hq keyq ns n (by unfold maxLen; omega) (by unfold maxLen; omega) w
    rw [hfit] at e
    exact e
  have Hu := hide hu
  have Hfd := hide hfd
  have Hnone := hide hnone
  have Hheld := hide hheld
  have Hh := hide hh
  have Hroom := hide hroom
  have Hgot := hide hgot
  have Hlim : Hid (0 < lim ∧ lim ≤ 9223372036854775807 ∧ 0 ≤ C ∧ C ≤ lim ∧ 0 ≤ P ∧ P ≤ lim ∧ L ≤ 9223372036854775807 ∧ -9223372036854775808 ≤ idx) := hide ⟨g1, g1', c1, c2, d1, d2, hL, hidx⟩
  have Hkh := hide hkh
  have e1 : decide (lim ≤ 0) = false := by rw [decide_eq_false_iff_not]; omega
  have e2 : decide (size = 0) = false := by rw [decide_eq_false_iff_not]; omega
  have e3 : decide (n < 0) = false := by rw [decide_eq_false_iff_not]; omega
  have e4 : decide (lim < n) = false := by rw [decide_eq_false_iff_not]; omega
  have e7 : decide (C < 0) = false := by rw [decide_eq_false_iff_not]; omega
  have e8 : decide (lim < C) = false := by rw [decide_eq_false_iff_not]; omega
  have e9 : decide (P < 0) = false := by rw [decide_eq_false_iff_not]; omega
  have e10 : decide (lim < P) = false := by rw [decide_eq_false_iff_not]; omega
  have hk1 : decide (524288 < (key.size : Int)) = false := by rw [decide_eq_false_iff_not]; omega
  have hk2 : decide (524288 < (keyq.size : Int)) = false := by rw [decide_eq_false_iff_not]; omega
  clear hu hfd hnone hheld hh hroom hgot g1 g1' g2 a1 a2 c1 c2 d1 d2 hL hidx hkh hfit
  go_enter Try.func4, Try.ntmps4
  go_wp2_with fail
  refine (Hb10.out _).mono ?_
  rintro e w1 ⟨rfl, hw⟩
  subst hw
  clear Hb10
  go_upto_region 13 with fail
  go_cut [88] (fun v wc => v = .bool false ∧ w = wc)
  case first =>
    by_cases hc : C = 0
    · obtain ⟨rfl, rfl⟩ := hz hc
      subst hc
      go_wp2_with fail
      go_meet
      case rel => exact ⟨rfl, rfl⟩
    · have hcb : (C == 0) = false := by simpa using hc
      go_wp2_with fail
      go_meet
      case rel => exact ⟨rfl, rfl⟩
  case rest =>
    obtain ⟨rfl, hw⟩ := hcut
    subst hw
    clear e1 e2 e3 e4 e7 e8 e9 e10 hz
    go_upto_region 15 with fail
    go_cut [96] (fun v wc => v = .bool false ∧ w = wc)
    case first =>
      cases keq
      · go_wp2_with fail
        go_meet
        case rel => exact ⟨rfl, rfl⟩
      · have e := Hkh.out rfl
        subst e
        go_wp2_with fail
        go_meet
        case rel => exact ⟨rfl, rfl⟩
    case rest =>
      obtain ⟨rfl, hw⟩ := hcut
      subst hw
      go_wp2_with fail
      refine (Hu.out _).mono ?_
      rintro e w1 ⟨rfl, hb1⟩
      have Hb1 := hide hb1
      clear hb1 Hu
      go_wp2_with fail
      refine (new12 lim size _).mono ?_
      rintro e w2 ⟨rfl, hb2, hF⟩
      have hT := timeIn_new hb2
      have hB : Below w.heap.size w w2 := (Hb1.out.alloc Hb1.out.size _).trans (hb2.mono (by have := Hb1.out.size; simp; omega))
      simp only [World.alloc, Array.size_push] at hF
      have HS1 := hide Hb1.out.size
      have HF := hide hF
      have HT0 := hide hT
      have HB0 := hide hB
      obtain ⟨t0, t1, t2, tl⟩ := hT
      clear hF hb2 hB Hb1
      cases pr
      · have HG := hide (Hnone.out rfl (w1.heap.size + 1) w2 HF.out.emp)
        have Hrm := hide (Hroom.out.1 (by simp))
        clear HF HT0 HS1 Hnone Hheld Hroom
        go_wp2_with fail
        refine HG.out.mono ?_
        rintro e w4 ⟨rfl, hb4⟩
        have HB4 := hide (HB0.out.trans (hb4.mono HB0.out.size))
        clear hb4 HB0 HG t0 t1 t2 tl
        obtain ⟨bb, hbb⟩ : ∃ bb, bb = (false && keq && decide (0 < C)) := ⟨_, rfl⟩
        have Hbb := hide hbb
        clear hbb
        go_upto_region 23 with fail
        go_cut [127] (fun v wc => v = .bool bb ∧ w4 = wc)
        case first =>
          go_wp2_with fail
          go_meet
          case rel => exact ⟨by rw [Hbb.out]; rfl, rfl⟩
        case rest =>
          obtain ⟨rfl, hw⟩ := hcut
          subst hw
          go_upto_if 127 with fail
          go_cut [28, 29] (fun v _ wc => v = .int .i64 rm ∧ w4 = wc)
          case first =>
            have hbb : bb = false := Hbb.out
            subst hbb
            go_wp2_with fail
            go_meet
            case rel => exact ⟨by rw [Hrm.out], rfl⟩
          case rest =>
            obtain ⟨rfl, hw⟩ := hcut
            subst hw
            cases got
            · have hd : decide (n ≤ rm) = false := Hgot.out.symm
              go_wp2_with fail
              go_ret
              exact ⟨rfl, HB4.out⟩
            · have hd : decide (n ≤ rm) = true := Hgot.out.symm
              go_wp2_with fail
              go_ret
              exact ⟨rfl, HB4.out⟩
      · have Hr1 : Hid (¬ (keq = true ∧ 0 < C) → rm = lim) := hide fun hx => Hroom.out.1 fun hy => hx ⟨hy.2.1, hy.2.2⟩
        have Hr2 : Hid (keq = true → 0 < C → rm = room lim L C P idx) := hide fun hx hy => Hroom.out.2 ⟨rfl, hx, hy⟩
        have Hhold := hide (Hheld.out rfl)
        clear Hroom Hnone Hheld
        have b4 := HF.out.l
        have b5 := HF.out.s
        have b1 := HF.out.emp.lt
        go_wp2_with fail
        refine (addCounts13 (w1.heap.size + 1) h key L C P _ HF.out.emp Hh.out).mono ?_
        rintro e w3 ⟨rfl, g, hH⟩
        have HT0' := hide (HT0.out.but hH.but (by omega))
        have HB0' := hide (HB0.out.trans (hH.but.below HB0.out.size (by have := HS1.out; omega)))
        have HG := hide (Hhold.out (w1.heap.size + 1) g w2 w3 hH b4 b5)
        clear HT0 HB0 hH t0 t1 t2 tl b4 b5 b1 HF Hhold HS1
        have HB0 := HB0'
        obtain ⟨t0, t1, t2, tl⟩ := HT0'.out
        clear HT0' HB0'
        go_wp2_with fail
        refine HG.out.mono ?_
        rintro e w4 ⟨rfl, hb4⟩
        have HB4 := hide (HB0.out.trans (hb4.mono HB0.out.size))
        clear hb4 HB0 HG t0 t1 t2 tl
        obtain ⟨bb, hbb⟩ : ∃ bb, bb = (true && keq && decide (0 < C)) := ⟨_, rfl⟩
        have Hbb := hide hbb
        clear hbb
        go_upto_region 23 with fail
        go_cut [127] (fun v wc => v = .bool bb ∧ w4 = wc)
        case first =>
          cases keq
          · go_wp2_with fail
            go_meet
            case rel => exact ⟨by rw [Hbb.out]; rfl, rfl⟩
          · by_cases hC : 0 < C
            · have hCd : decide (0 < C) = true := decide_eq_true hC
              go_wp2_with fail
              go_meet
              case rel => exact ⟨by rw [Hbb.out, hCd]; rfl, rfl⟩
            · have hCd : decide (0 < C) = false := decide_eq_false hC
              go_wp2_with fail
              go_meet
              case rel => exact ⟨by rw [Hbb.out, hCd]; rfl, rfl⟩
        case rest =>
          obtain ⟨rfl, hw⟩ := hcut
          subst hw
          go_upto_if 127 with fail
          go_cut [28, 29] (fun v _ wc => v = .int .i64 rm ∧ w4 = wc)
          case first =>
            cases bb
            · have hrm : rm = lim := Hr1.out (by
                intro hx
                have := Hbb.out
                rw [hx.1, decide_eq_true hx.2] at this
                simp at this)
              have Hrm := hide hrm
              clear hrm
              go_wp2_with fail
              go_meet
              case rel => exact ⟨by rw [Hrm.out], rfl⟩
            · have hkc : keq = true ∧ 0 < C := by
                have := Hbb.out
                simpa using this.symm
              have hrm := Hr2.out hkc.1 hkc.2
              unfold room at hrm
              by_cases g1 : L < idx
              · rw [if_pos g1] at hrm
                have Hrm := hide hrm
                clear hrm
                go_wp2_with fail
                refine (Hfd.out _).mono ?_
                rintro e w5 ⟨rfl, hw⟩
                subst hw
                go_wp2_with fail
                go_meet
                case rel => exact ⟨by rw [Hrm.out], rfl⟩
              · have g1b : decide (L < idx) = false := decide_eq_false g1
                rw [if_neg g1] at hrm
                by_cases g2 : idx = L
                · rw [if_pos g2] at hrm
                  have g2b : (idx == L) = true := by simpa using g2
                  have hw' : wrap64 (lim - C) = lim - C := IntWalk.wrap64_in _ (by have := Hlim.out; omega)
                  have Hrm := hide hrm
                  clear hrm
                  clear g2
                  go_wp2_with fail
                  refine (Hfd.out _).mono ?_
                  rintro e w5 ⟨rfl, hw⟩
                  subst hw
                  go_wp2_with fail
                  go_meet
                  case rel => exact ⟨by rw [Hrm.out, hw'], rfl⟩
                · have g2b : (idx == L) = false := by simpa using g2
                  rw [if_neg g2] at hrm
                  have hw1 : wrap64 (idx + 1) = idx + 1 := IntWalk.wrap64_in _ (by have := Hlim.out; omega)
                  by_cases g3 : idx + 1 = L
                  · rw [if_pos g3] at hrm
                    have g3b : (idx + 1 == L) = true := by simpa using g3
                    have hw' : wrap64 (lim - P) = lim - P := IntWalk.wrap64_in _ (by have := Hlim.out; omega)
                    have Hrm := hide hrm
                    clear hrm
                    clear g3
                    go_wp2_with fail
                    refine (Hfd.out _).mono ?_
                    rintro e w5 ⟨rfl, hw⟩
                    subst hw
                    go_wp2_with fail
                    go_meet
                    case rel => exact ⟨by rw [Hrm.out, hw'], rfl⟩
                  · rw [if_neg g3] at hrm
                    have g3b : (idx + 1 == L) = false := by simpa using g3
                    have Hrm := hide hrm
                    clear hrm
                    go_wp2_with fail
                    refine (Hfd.out _).mono ?_
                    rintro e w5 ⟨rfl, hw⟩
                    subst hw
                    go_wp2_with fail
                    go_meet
                    case rel => exact ⟨by rw [Hrm.out], rfl⟩
          case rest =>
            obtain ⟨rfl, hw⟩ := hcut
            subst hw
            cases got
            · have hd : decide (n ≤ rm) = false := Hgot.out.symm
              go_wp2_with fail
              go_ret
              exact ⟨rfl, HB4.out⟩
            · have hd : decide (n ≤ rm) = true := Hgot.out.symm
              go_wp2_with fail
              go_ret
              exact ⟨rfl, HB4.out⟩
end Go.Proofs.Qxb6605612a
