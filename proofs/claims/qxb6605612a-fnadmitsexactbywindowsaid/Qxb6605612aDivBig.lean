import Derived.Test.Qxb6605612aDiv
import Derived.Deep.CutBlock
namespace Go.Proofs.Qxb6605612a
open Go.RowKit DivMath

theorem rhat_eq (N y1 : Nat) (h : N < 18446744073709551616) : IntKind.u64.wrap ((N : Int) - IntKind.u64.wrap ((N : Int) / (y1 : Int) * (y1 : Int))) = ((N % y1 : Nat) : Int) := by
  have e : (N : Int) / (y1 : Int) * (y1 : Int) = ((N / y1 * y1 : Nat) : Int) := by rw [Int.natCast_mul]; rfl
  have hm : N / y1 * y1 ≤ N := Nat.div_mul_le_self _ _
  have hd := Nat.div_add_mod N y1
  rw [Nat.mul_comm] at hd
  rw [e, wrapN _ (by omega)]
  generalize N / y1 * y1 = P at *
  generalize N % y1 = R at *
  rw [IntKind.wrap_u64]
  omega

/-- What a round of the correcting loop reckons. -/
theorem loop_nums (a b y0 d : Nat) (ha : a < 4294967296) (hb : b < 4294967296) (by0 : y0 < 4294967296) (bd : d < 4294967296) :
    IntKind.u64.wrap ((a : Int) * (y0 : Int)) = ((a * y0 : Nat) : Int) ∧ IntKind.u64.wrap (4294967296 * (b : Int)) = ((4294967296 * b : Nat) : Int) ∧ IntKind.u64.wrap (((4294967296 * b : Nat) : Int) + (d : Int)) = ((4294967296 * b + d : Nat) : Int) := by
  have h1 : a * y0 ≤ 4294967295 * 4294967295 := Nat.mul_le_mul (by omega) (by omega)
  refine ⟨?_, ?_, ?_⟩
  · rw [mulN]; exact wrapN _ (by omega)
  · rw [IntKind.wrap_u64]; omega
  · rw [addN]; exact wrapN _ (by omega)

theorem un_eq (N d Y T : Nat) (hT : (N * 4294967296 + d) / Y = T) (hy : Y < 18446744073709551616) (hyp : 0 < Y) :
    IntKind.u64.wrap (IntKind.u64.wrap (IntKind.u64.wrap ((N : Int) * 4294967296) + (d : Int)) - IntKind.u64.wrap ((T : Int) * (Y : Int))) = (((N * 4294967296 + d) % Y : Nat) : Int) := by
  have h := rem_wrap N Y d hy hyp
  rw [hT] at h
  rw [show (N : Int) * 4294967296 = ((N * 4294967296 : Nat) : Int) by omega, wrapM, addN, wrapM, mulN, wrapM, IntKind.wrap_u64]
  exact h

theorem q_eq (T T2 : Nat) (h1 : T < 4294967296) (h2 : T2 < 4294967296) : IntKind.u64.wrap (IntKind.u64.wrap ((T : Int) * 4294967296) + (T2 : Int)) = ((T * 4294967296 + T2 : Nat) : Int) := by
  rw [show (T : Int) * 4294967296 = ((T * 4294967296 : Nat) : Int) by omega, wrapN _ (by omega), addN]
  exact wrapN _ (by omega)

set_option maxRecDepth 100000 in
set_option maxHeartbeats 2000000 in
theorem div34_big (hi lo y : Nat) (w : World) (h0 : 0 < hi) (hy : hi < y) (h1 : y < 18446744073709551616) (h2 : lo < 18446744073709551616) :
    Calls Try.prog 34 #[.int .u64 hi, .int .u64 lo, .int .u64 y] w (DivOut ((hi * 18446744073709551616 + lo) / y) ((hi * 18446744073709551616 + lo) % y) w) := by
  have hy0 : ((y : Int) == 0) = false := by rw [beq_eq_false_iff_ne]; omega
  have hh0 : ((hi : Int) == 0) = false := by rw [beq_eq_false_iff_ne]; omega
  have hyp : (0 : Int) < (y : Int) := by omega
  have hsp := lz_spec y (by omega) (by simpa using h1)
  have Hsp := hide hsp
  clear hsp
  go_enter Try.func34, Try.ntmps34
  go_wp2_with fail
  refine (lz38 y w (by omega)).mono ?_
  rintro e w1 ⟨rfl, hw⟩
  have hw := hw.symm
  subst hw
  have hs : lz y ≤ 63 := Hsp.out.1
  generalize lz y = s at *
  go_upto_region 15 with fail
  obtain ⟨p1, p2, p3, p4, p5, p6, p7⟩ := prep hi lo y s hy h2 Hsp.out.1 Hsp.out.2.1 Hsp.out.2.2
  have hYlo : 9223372036854775808 ≤ y * 2 ^ s := by have := Hsp.out.2.1; simpa using this
  have hYhi : y * 2 ^ s < 18446744073709551616 := by have := Hsp.out.2.2; simpa using this
  have hLhi : lo * 2 ^ s % 18446744073709551616 < 18446744073709551616 := Nat.mod_lt _ (by omega)
  simp only [p1, p2, p3, p4, p5, divN, maskN _ hYhi, maskN _ hLhi]
  have Hfin : Hid (∀ q r : Nat, q = (hi * 18446744073709551616 + lo) * 2 ^ s / (y * 2 ^ s) → r = (hi * 18446744073709551616 + lo) * 2 ^ s % (y * 2 ^ s) / 2 ^ s → q = (hi * 18446744073709551616 + lo) / y ∧ r = (hi * 18446744073709551616 + lo) % y) := by
    intro q r hq hr
    obtain ⟨a, b⟩ := shifted (hi * 18446744073709551616 + lo) y s (by omega)
    exact ⟨hq.trans a, hr.trans b⟩
  rw [← p7] at Hfin
  clear p1 p2 p3 p4 p5 p7 Hsp hy0 hh0 hyp
  generalize y * 2 ^ s = Y at *
  generalize hi * 2 ^ s + lo / 2 ^ (64 - s) = N at *
  generalize hi * 2 ^ s = H at *
  generalize lo * 2 ^ s % 18446744073709551616 = L at *
  generalize lo / 2 ^ (64 - s) = L2 at *
  obtain ⟨y1, hy1⟩ : ∃ k, k = Y / 4294967296 := ⟨_, rfl⟩
  obtain ⟨y0, hy0⟩ : ∃ k, k = Y % 4294967296 := ⟨_, rfl⟩
  obtain ⟨d1, hd1⟩ : ∃ k, k = L / 4294967296 := ⟨_, rfl⟩
  obtain ⟨d0, hd0⟩ : ∃ k, k = L % 4294967296 := ⟨_, rfl⟩
  simp only [← hy1, ← hy0, ← hd1, ← hd0]
  have hYs : Y = y1 * 4294967296 + y0 := by omega
  have hLs : L = d1 * 4294967296 + d0 := by omega
  have by1 : 2147483648 ≤ y1 := by omega
  have by1' : y1 < 4294967296 := by omega
  have by0 : y0 < 4294967296 := by omega
  have bd1 : d1 < 4294967296 := by omega
  have bd0 : d0 < 4294967296 := by omega
  have HYs := hide hYs
  have HLs := hide hLs
  have HYhi := hide hYhi
  have HYlo := hide hYlo
  have HNY := hide p6
  clear hy1 hy0 hd1 hd0 hYs hLs hYhi hYlo hLhi p6 h0 hy h1 h2
  have hyz : ((y1 : Int) == 0) = false := by rw [beq_eq_false_iff_ne]; omega
  have hI := inv_init N Y y1 y0 d1 HYs.out by1 by1' by0 bd1 HNY.out
  have HI := hide hI
  have hNb : N < 18446744073709551616 := by have := HNY.out; have := HYhi.out; omega
  have hq1 : IntKind.u64.wrap ((N : Int) / (y1 : Int)) = ((N / y1 : Nat) : Int) := by
    rw [show (N : Int) / (y1 : Int) = ((N / y1 : Nat) : Int) from rfl]
    exact wrapN _ (Nat.lt_of_le_of_lt (Nat.div_le_self _ _) hNb)
  have hrh := rhat_eq N y1 hNb
  have HB1 := hide by1
  have HB1' := hide by1'
  have HB0 := hide by0
  have HD1 := hide bd1
  have HD0 := hide bd0
  have HNb := hide hNb
  have iy1 : (2147483648 : Int) ≤ (y1 : Int) := by omega
  have iy1' : (y1 : Int) < 4294967296 := by omega
  have iy0 : (y0 : Int) < 4294967296 := by omega
  have id1 : (d1 : Int) < 4294967296 := by omega
  have id0 : (d0 : Int) < 4294967296 := by omega
  clear hI by1 by1' by0 bd1 bd0 hNb
  go_upto_block 0 with fail
  go_cut [15, 16] (fun q _ wc => q = .int .u64 ((N * 4294967296 + d1) / Y : Nat) ∧ w1 = wc)
  case first =>
    clear hq1 hrh
    go_wp2_with fail
    go_loop [15, 16] (fun q r => ∃ a b : Nat, q = .int .u64 a ∧ r = .int .u64 b ∧ Inv N Y y1 d1 a b) (fun q _ => (intOf q).toNat)
    case atStart => exact ⟨N / y1, N % y1, rfl, rfl, HI.out⟩
    case round =>
      obtain ⟨a, b, rfl, rfl, hI⟩ := hrel
      have ha : (a : Int) ≤ 4294967297 := by have := hI.2.2.1; omega
      have hb : (b : Int) < 4294967296 := by have := hI.2.2.2; omega
      have ha0 : (0 : Int) ≤ (a : Int) := by omega
      have hb0 : (0 : Int) ≤ (b : Int) := by omega
      have HI2 := hide hI
      clear hI HI
      by_cases hbig : (4294967296 : Int) ≤ (a : Int)
      · obtain ⟨k1, k2, k3⟩ := inv_step N Y y1 y0 d1 a b HYs.out HB0.out HD1.out HNY.out HI2.out (.inl (by omega))
        have K1 := hide k1
        have K2 := hide k2
        have K3 := hide k3
        clear k1 k2 k3
        by_cases hbr : (4294967296 : Int) ≤ (b : Int) + (y1 : Int)
        · go_wp2_with fail
          go_meet
          case rel => exact ⟨congrArg (Value.int .u64) (by rw [← K3.out (by omega)]; have := K1.out; omega), rfl⟩
        · go_wp2_with fail
          go_round
          case rel => exact ⟨a - 1, b + y1, congrArg (Value.int .u64) (by have := K1.out; omega), congrArg (Value.int .u64) (by omega), K2.out (by omega)⟩
          case measure => simp [intOf]; have := K1.out; omega
      · obtain ⟨m1, m2, m3⟩ := loop_nums a b y0 d1 (by omega) (by omega) HB0.out HD1.out
        by_cases htest : 4294967296 * b + d1 < a * y0
        · obtain ⟨k1, k2, k3⟩ := inv_step N Y y1 y0 d1 a b HYs.out HB0.out HD1.out HNY.out HI2.out (.inr htest)
          have K1 := hide k1
          have K2 := hide k2
          have K3 := hide k3
          clear k1 k2 k3
          generalize a * y0 = P at *
          generalize 4294967296 * b + d1 = Q at *
          generalize 4294967296 * b = Q2 at *
          have it : (Q : Int) < (P : Int) := by omega
          have ha1 : (1 : Int) ≤ (a : Int) := by have := K1.out; omega
          clear htest
          by_cases hbr : (4294967296 : Int) ≤ (b : Int) + (y1 : Int)
          · go_wp2_with fail
            go_meet
            case rel => exact ⟨congrArg (Value.int .u64) (by rw [← K3.out (by omega)]; have := K1.out; omega), rfl⟩
          · go_wp2_with fail
            go_round
            case rel => exact ⟨a - 1, b + y1, congrArg (Value.int .u64) (by have := K1.out; omega), congrArg (Value.int .u64) (by omega), K2.out (by omega)⟩
            case measure => simp [intOf]; have := K1.out; omega
        · have hex := inv_exit N Y y1 y0 d1 a b HYs.out (by have := HYlo.out; omega) HI2.out (by omega)
          have Hex := hide hex
          clear hex
          generalize a * y0 = P at *
          generalize 4294967296 * b + d1 = Q at *
          generalize 4294967296 * b = Q2 at *
          have it : ¬ (Q : Int) < (P : Int) := by omega
          clear htest
          go_wp2_with fail
          go_meet
          case rel => exact ⟨congrArg (Value.int .u64) (by rw [← Hex.out]), rfl⟩
  case rest =>
    obtain ⟨rfl, rfl⟩ := hcut
    clear hq1 hrh
    have hYp : 0 < Y := by have := HYlo.out; omega
    have hT := quo_lt N Y d1 HD1.out HNY.out
    have htwo := two_steps N Y d1 d0 hYp
    have hUY := Nat.mod_lt (N * 4294967296 + d1) hYp
    obtain ⟨T, hTe⟩ : ∃ T, (N * 4294967296 + d1) / Y = T := ⟨_, rfl⟩
    rw [hTe] at hT htwo ⊢
    have hun := un_eq N d1 Y T hTe HYhi.out hYp
    obtain ⟨U, hUe⟩ : ∃ U, (N * 4294967296 + d1) % Y = U := ⟨_, rfl⟩
    rw [hUe] at hun hUY htwo
    have hT2 := quo_lt U Y d0 HD0.out hUY
    have hI3 := inv_init U Y y1 y0 d0 HYs.out HB1.out HB1'.out HB0.out HD0.out hUY
    have hUb : U < 18446744073709551616 := by have := HYhi.out; omega
    have hq2 : IntKind.u64.wrap ((U : Int) / (y1 : Int)) = ((U / y1 : Nat) : Int) := by
      rw [show (U : Int) / (y1 : Int) = ((U / y1 : Nat) : Int) from rfl]
      exact wrapN _ (Nat.lt_of_le_of_lt (Nat.div_le_self _ _) hUb)
    have hrh2 := rhat_eq U y1 hUb
    obtain ⟨T2, hT2e⟩ : ∃ T2, (U * 4294967296 + d0) / Y = T2 := ⟨_, rfl⟩
    rw [hT2e] at hT2 htwo
    have hun2 := un_eq U d0 Y T2 hT2e HYhi.out hYp
    have hqq := q_eq T T2 hT hT2
    have HT := hide hT
    have HT2 := hide hT2
    have Htwo := hide htwo
    have HUY := hide hUY
    have HI3 := hide hI3
    have HTe := hide hTe
    have HUe := hide hUe
    have HT2e := hide hT2e
    have Hun2 := hide hun2
    have Hqq := hide hqq
    clear hT hT2 htwo hUY hI3 hTe hUe hT2e hUb hYp HI hun2 hqq
    go_upto_block 2 with fail
    go_cut [18, 16] (fun q _ wc => q = .int .u64 (T2 : Nat) ∧ w1 = wc)
    case first =>
      clear hq2 hrh2 hun
      go_wp2_with fail
      go_loop [18, 16] (fun q r => ∃ a b : Nat, q = .int .u64 a ∧ r = .int .u64 b ∧ Inv U Y y1 d0 a b) (fun q _ => (intOf q).toNat)
      case atStart => exact ⟨U / y1, U % y1, rfl, rfl, HI3.out⟩
      case round =>
        obtain ⟨a, b, rfl, rfl, hI⟩ := hrel
        have ha : (a : Int) ≤ 4294967297 := by have := hI.2.2.1; omega
        have hb : (b : Int) < 4294967296 := by have := hI.2.2.2; omega
        have ha0 : (0 : Int) ≤ (a : Int) := by omega
        have hb0 : (0 : Int) ≤ (b : Int) := by omega
        have HI2 := hide hI
        clear hI HI3
        by_cases hbig : (4294967296 : Int) ≤ (a : Int)
        · obtain ⟨k1, k2, k3⟩ := inv_step U Y y1 y0 d0 a b HYs.out HB0.out HD0.out HUY.out HI2.out (.inl (by omega))
          have K1 := hide k1
          have K2 := hide k2
          have K3 := hide k3
          clear k1 k2 k3
          by_cases hbr : (4294967296 : Int) ≤ (b : Int) + (y1 : Int)
          · go_wp2_with fail
            go_meet
            case rel => exact ⟨congrArg (Value.int .u64) (by rw [← HT2e.out, ← K3.out (by omega)]; have := K1.out; omega), rfl⟩
          · go_wp2_with fail
            go_round
            case rel => exact ⟨a - 1, b + y1, congrArg (Value.int .u64) (by have := K1.out; omega), congrArg (Value.int .u64) (by omega), K2.out (by omega)⟩
            case measure => simp [intOf]; have := K1.out; omega
        · obtain ⟨m1, m2, m3⟩ := loop_nums a b y0 d0 (by omega) (by omega) HB0.out HD0.out
          by_cases htest : 4294967296 * b + d0 < a * y0
          · obtain ⟨k1, k2, k3⟩ := inv_step U Y y1 y0 d0 a b HYs.out HB0.out HD0.out HUY.out HI2.out (.inr htest)
            have K1 := hide k1
            have K2 := hide k2
            have K3 := hide k3
            clear k1 k2 k3
            generalize a * y0 = P at *
            generalize 4294967296 * b + d0 = Q at *
            generalize 4294967296 * b = Q2 at *
            have it : (Q : Int) < (P : Int) := by omega
            have ha1 : (1 : Int) ≤ (a : Int) := by have := K1.out; omega
            clear htest
            by_cases hbr : (4294967296 : Int) ≤ (b : Int) + (y1 : Int)
            · go_wp2_with fail
              go_meet
              case rel => exact ⟨congrArg (Value.int .u64) (by rw [← HT2e.out, ← K3.out (by omega)]; have := K1.out; omega), rfl⟩
            · go_wp2_with fail
              go_round
              case rel => exact ⟨a - 1, b + y1, congrArg (Value.int .u64) (by have := K1.out; omega), congrArg (Value.int .u64) (by omega), K2.out (by omega)⟩
              case measure => simp [intOf]; have := K1.out; omega
          · have hex := inv_exit U Y y1 y0 d0 a b HYs.out (by have := HYlo.out; omega) HI2.out (by omega)
            have Hex := hide hex
            clear hex
            generalize a * y0 = P at *
            generalize 4294967296 * b + d0 = Q at *
            generalize 4294967296 * b = Q2 at *
            have it : ¬ (Q : Int) < (P : Int) := by omega
            clear htest
            go_wp2_with fail
            go_meet
            case rel => exact ⟨congrArg (Value.int .u64) (by rw [← HT2e.out, ← Hex.out]), rfl⟩
    case rest =>
      obtain ⟨rfl, rfl⟩ := hcut
      have hun2 := Hun2.out
      have hqq := Hqq.out
      clear hq2 hrh2 hun
      go_wp2
      go_ret2
      obtain ⟨f1, f2⟩ := Hfin.out (T * 4294967296 + T2) ((U * 4294967296 + d0) % Y / 2 ^ s) (by rw [HLs.out]; exact Htwo.out.1) (by rw [HLs.out, Htwo.out.2])
      have c1 : ((T * 4294967296 + T2 : Nat) : Int) = (T : Int) * 4294967296 + (T2 : Int) := by omega
      have c2 : (((U * 4294967296 + d0) % Y / 2 ^ s : Nat) : Int) = ((U : Int) * 4294967296 + (d0 : Int)) % (Y : Int) / 2 ^ s := by
        rw [Int.natCast_ediv, Int.natCast_emod, Int.natCast_add, Int.natCast_mul, Int.natCast_pow]; rfl
      refine ⟨?_, 0, rfl⟩
      rw [← f1, ← f2, c1, c2]
      rfl
end Go.Proofs.Qxb6605612a
