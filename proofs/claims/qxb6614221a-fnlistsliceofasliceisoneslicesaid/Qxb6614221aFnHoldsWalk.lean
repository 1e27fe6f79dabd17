import Derived.Test.Qxb6614221aLawParts
import Derived.Deep.DeepCutAuto
namespace Go.Proofs.Qxb6614221a
open Go.RowKit

theorem neq23 (w : World) (a : Option Addr) (n c : Nat) : (binOp .neq 23 (.slice a n c) (.slice none 0 0)).run Try.prog w = .ok (.bool (!a.isNone)) w := run_neq_slice_nil w 23 9 a n c Try.underlying23

set_option maxRecDepth 100000 in
set_option maxHeartbeats 2000000 in
theorem fnHolds_main (ss : List ByteArray) (a : Option Addr) (cap lo hi : Nat) (w : World) (hn : ss.length ≤ 65536) (hlo : lo ≤ hi) (hhi : hi ≤ ss.length) (hA : StrArg w a ss) :
    Calls Try.prog 5 #[.slice a ss.length cap, .int .i64 lo, .int .i64 hi] w fun e w' => e = .returned (.bool true) ∧ Below w.heap.size w w' := by
  obtain ⟨i0, hi0, hz0, hz1, hz2⟩ := info_parts Try.info9
  have hq := neq23
  have HA := hide hA
  clear hA
  go_enter Try.func5, Try.ntmps5
  go_wp2_with fail
  refine (bytes12 ss a cap lo hi w (by unfold maxLen; omega) HA.out).mono ?_
  rintro e w1 ⟨v, rfl, rfl⟩
  cases v
  · go_wp2
    go_ret
    exact ⟨rfl, Below.refl _ _⟩
  go_wp2_with fail
  refine (tooBig13 ss a cap w hn HA.out).mono ?_
  rintro e w1 ⟨v, rfl, rfl⟩
  cases v
  rotate_left
  · go_wp2
    go_ret
    exact ⟨rfl, Below.refl _ _⟩
  go_upto_if 38 with fail
  go_cut [0, 7] (fun v _ wc => ∃ (a' : Option Addr) (cap' : Nat), v = .slice a' ss.length cap' ∧ StrArg wc a' ss ∧ Below w.heap.size w wc)
  case first =>
    rcases a with _ | ad
    · go_wp2
      go_meet
      case rel => exact ⟨none, cap, rfl, HA.out, Below.refl _ _⟩
    · go_wp2_with (at_make; refine wpList_make_full _ rfl _ _ 23 rfl w.heap.size 9 i0 (.string ByteArray.empty) 1 Try.underlying23 hi0 hz0 hz1 .i64 .i64 _ _ ss.length rfl rfl (by first | rfl | simp) (by first | rfl | simp) (by rw [hz2]; omega) (by unfold maxLen; omega) (Nat.le_refl _) ?_; intro w0 hown0 hgrow0; obtain ⟨wq, hcp, hownq, hgq⟩ := copy_strs (cap := cap) (a := some ad) ss rfl hown0 (HA.out.below ((Below.refl _ _).grown hgrow0 (Nat.le_refl _) (by simp))))
      go_wp2
      go_meet
      case rel =>
        exact ⟨_, _, rfl, own_strs hownq rfl, ((Below.refl _ _).grown hgrow0 (Nat.le_refl _) (by simp)).grown hgq hgrow0.size (by simp)⟩
  case rest =>
    obtain ⟨a', cap', rfl, hA', hb⟩ := hcut
    clear HA hq
    have HA := hide hA'
    have Hb := hide hb
    clear hA' hb
    have hwc : w.heap.size ≤ wc.heap.size := Hb.out.size
    go_wp2_with (at_make; refine wpList_make_full _ rfl _ _ 23 rfl wc.heap.size 9 i0 (.string ByteArray.empty) 1 Try.underlying23 hi0 hz0 hz1 .i64 .i64 _ _ ss.length rfl rfl (by first | rfl | simp) (by first | rfl | simp) (by rw [hz2]; omega) (by unfold maxLen; omega) (Nat.le_refl _) ?_; intro w0 hown0 hgrow0)
    have hb0 : Below wc.heap.size wc w0 := (Below.refl _ _).grown hgrow0 (Nat.le_refl _) (by simp)
    clear hgrow0
    go_loopw [9] (fun i wr => ∃ (k : Nat) (xs : List Value), k ≤ ss.length ∧ i = .int .i64 k ∧ wr.ownsRow wc.heap.size 9 1 (.slice (some ⟨wc.heap.size, 0, none⟩) ss.length ss.length) ss.length xs ∧ CpTo ss k xs ∧ Below wc.heap.size wc wr)
      (fun i _ => ss.length - (intOf i).toNat)
    case atStart => exact ⟨0, _, by omega, rfl, hown0, fun i hi => by omega, hb0⟩
    case round =>
      obtain ⟨k, xs, hk, rfl, hown, hE, hb⟩ := hrel
      clear hown0 hb0
      have hxl : xs.length = ss.length := by have := hown.1; omega
      have HE := hide hE
      have Hbw := hide hb
      clear hE hb
      by_cases hlt : k < ss.length
      · obtain ⟨b, o, rfl, hc⟩ := (HA.out.below Hbw.out) k hlt
        have hfr := hown.frozenAt k
        obtain ⟨ov, hce⟩ : ∃ v, wr.cell? ⟨wc.heap.size, k, none⟩ = some v := ⟨_, (hown.cellAt k (by omega)).trans (List.getElem?_eq_getElem (by omega))⟩
        have Hst := hide (hown.stored k (.string (ss.getD k ByteArray.empty)))
        have HE2 := hide (HE.out.step (k := k) (by omega))
        clear HE
        generalize ss.getD k ByteArray.empty = s0 at *
        go_wp2
        go_roundw
        case rel => exact ⟨k + 1, _, by omega, by go_num, Hst.out.1, HE2.out, Hbw.out.setCell (p := ⟨wc.heap.size, k, none⟩) (Nat.le_refl _) _⟩
        case measure => simp [intOf]; omega
      · have hkl : k = ss.length := by omega
        have hE2 : CpTo ss ss.length xs := by rw [← hkl]; exact HE.out
        have hxs : xs = ss.map Value.string := hE2.all hxl
        have hW : StrArg wr (some ⟨wc.heap.size, 0, none⟩) ss := by rw [hxs] at hown; exact own_strs hown rfl
        have hp := newStrings10 ss a' cap' wr (by omega) (HA.out.below Hbw.out)
        have Hp := hide hp
        have HW := hide hW
        have hwr : wc.heap.size < wr.heap.size := (hown.lt _ rfl).2
        have hd1 : decide ((k : Int) < (ss.length : Int)) = false := by simp; omega
        have Hkl := hide hkl
        clear hkl hE2 hxs hW hp HE hxl hown
        go_wp2_with fail
        refine Hp.out.mono ?_
        rintro e w2 ⟨p, rfl, hR, hb2⟩
        have HR := hide hR
        have Hb2 := hide hb2
        clear hR hb2 Hp
        go_wp2_with fail
        refine (listSlice14 p lo hi (ss.map strV) _ (by simp; omega) hlo (by simpa using hhi) (HR.out.frame (Agree.of_alloc _))).mono ?_
        rintro e w4 ⟨p2, rfl, hR4, hb4⟩
        have HR4 := hide hR4
        have Hb4 := hide hb4
        clear hR4 hb4
        have hs4 : w2.heap.size < w4.heap.size := by have := Hb4.out.size; simp at this; omega
        have hlc : w4.cell? ⟨w2.heap.size, 0, none⟩ = some (.pointer p) := by rw [Hb4.out.cell (by simp), cell_new]; rfl
        have hbs : ∀ o : Obj, Below w4.heap.size w4 (w4.alloc o) := fun o => (Below.refl _ _).alloc (Nat.le_refl _) o
        have hrdy : Ready (w4.alloc (.cells #[.pointer p2] 31)) w2.heap.size w4.heap.size wc.heap.size p p2 ss (((ss.map strV).drop lo).take (hi - lo)) w := by
          have hb24 : Below w2.heap.size w2 w4 := ((Below.refl _ _).alloc (Nat.le_refl _) _).trans (Hb4.out.mono (by simp))
          refine ⟨((hbs _).cell (World.block_lt_of_cell? _ _ hlc)).trans hlc, by rw [cell_new]; rfl, ((HR.out.below hb24).any.below (hbs _)).any, (HR4.out.any.below (hbs _)).any, ((HW.out.below Hb2.out).below hb24).below (hbs _), ?_⟩
          exact (((Hb.out.trans (Hbw.out.mono hwc)).trans (Hb2.out.mono (by omega))).trans (hb24.mono (by have := Hb2.out.size; omega))).trans ((hbs _).mono (by have := Hb2.out.size; omega))
        have Hrdy := hide hrdy
        clear hrdy hbs HR HR4 Hb4 Hb2 HW Hbw Hb HA hwr hwc
        go_wp2_with fail
        clear hs4 hlc
        generalize w4.alloc (.cells #[.pointer p2] 31) = W5 at *
        generalize w2.heap.size = lB at *
        generalize w4.heap.size = sB at *
        generalize wc.heap.size = G at *
        have Hsegl : Hid ((((ss.map strV).drop lo).take (hi - lo)).length = hi - lo) := by unfold Hid; simp; omega
        refine (listLen15 p _ W5 Hrdy.out.lR).mono ?_
        rintro e w6 ⟨rfl, hb6⟩
        rw [List.length_map]
        have Hr6 := hide (Hrdy.out.step hb6)
        have hsc6 := Hr6.out.sc
        clear hb6 Hrdy
        have hne1 : ((ss.length : Int) != (ss.length : Int)) = false := by simp
        go_wp2_with fail
        refine (listLen15 p2 _ w6 Hr6.out.sR).mono ?_
        rintro e w7 ⟨rfl, hb7⟩
        rw [Hsegl.out, show ((hi - lo : Nat) : Int) = (hi : Int) - (lo : Int) by omega]
        have Hr7 := hide (Hr6.out.step hb7)
        clear hb7 Hr6 hsc6
        have hne2 : ((hi : Int) - (lo : Int) != (hi : Int) - (lo : Int)) = false := by simp
        go_wp2_with fail
        go_loopw [12] (fun i wr => ∃ k : Nat, k ≤ hi - lo ∧ i = .int .i64 k ∧ Ready wr lB sB G p p2 ss (((ss.map strV).drop lo).take (hi - lo)) w) (fun i _ => hi - lo - (intOf i).toNat)
        case atStart => exact ⟨0, by omega, rfl, Hr7.out⟩
        case round =>
          obtain ⟨j, hj, rfl, hr⟩ := hrel
          have Hr := hide hr
          clear hr Hr7
          by_cases hlt : j < hi - lo
          · have hat : ∀ W, Ready W lB sB G p p2 ss (((ss.map strV).drop lo).take (hi - lo)) w → Calls Try.prog 16 #[.agg #[.pointer p2], .int .i64 j] W fun e w' => e = .returned (.string (ss.getD (lo + j) ByteArray.empty)) ∧ Below W.heap.size W w' :=
              fun W hW => listAt16 p2 j _ _ W (by rw [Hsegl.out]; omega) (seg_at (by omega) hhi) hW.sR
            have hwant := Hr.out.want (lo + j) (by omega)
            have hwant2 : ∀ w', Below wr.heap.size wr.drew w' → w'.cell? ⟨G, lo + j, none⟩ = some (.string (ss.getD (lo + j) ByteArray.empty)) := fun w' hb' => ((Hr.out.drewN 1).step hb').want (lo + j) (by omega)
            have hsc := Hr.out.sc
            have hix : (lo : Int) + (j : Int) < (ss.length : Int) := by omega
            have hix0 : (0 : Int) ≤ (lo : Int) + (j : Int) := by omega
            have hjl : (j : Int) < (hi : Int) - (lo : Int) := by omega
            have hwr1 : IntKind.i64.wrap ((lo : Int) + (j : Int)) = (lo : Int) + (j : Int) := IntWalk.i64_in _ (by omega)
            have htn : ((lo : Int) + (j : Int)).toNat = lo + j := by omega
            have Hat := hide hat
            have Hwant2 := hide hwant2
            clear hat hwant2
            generalize ss.getD (lo + j) ByteArray.empty = s0 at *
            go_wp2_with fail
            go_region_with (go_at_call 16; refine (Hat.out _ ?_).mono ?_; exact Hr.out.drewN 1; rintro e w' ⟨rfl, hb'⟩; have hw2 := Hwant2.out w' hb')
            all_goals
              go_wp2
              go_roundw
              case rel => exact ⟨j + 1, by omega, by go_num, (Hr.out.drewN 1).step hb'⟩
              case measure => simp [intOf]; omega
          · have hjl : ¬ (j : Int) < (hi : Int) - (lo : Int) := by omega
            have hdd : decide ((j : Int) < (hi : Int) - (lo : Int)) = false := by simp; omega
            clear hlt Hsegl hd1 hne1 hne2 Hkl
            go_wp2_with fail
            go_loopw [13] (fun i wr => ∃ m : Nat, m ≤ ss.length ∧ i = .int .i64 m ∧ Ready wr lB sB G p p2 ss (((ss.map strV).drop lo).take (hi - lo)) w) (fun i _ => ss.length - (intOf i).toNat)
            case atStart => exact ⟨0, by omega, rfl, Hr.out⟩
            case round =>
              obtain ⟨m, hm, rfl, hr⟩ := hrel
              clear Hr
              have Hr := hide hr
              clear hr
              by_cases hlt : m < ss.length
              · have hat : ∀ W, Ready W lB sB G p p2 ss (((ss.map strV).drop lo).take (hi - lo)) w → Calls Try.prog 16 #[.agg #[.pointer p], .int .i64 m] W fun e w' => e = .returned (.string (ss.getD m ByteArray.empty)) ∧ Below W.heap.size W w' :=
                  fun W hW => listAt16 p m _ _ W (by simp; omega) (strV_at hlt) hW.lR
                have hwant := Hr.out.want m hlt
                have hwant2 : ∀ w', Below wr.heap.size wr.drew w' → w'.cell? ⟨G, m, none⟩ = some (.string (ss.getD m ByteArray.empty)) := fun w' hb' => ((Hr.out.drewN 1).step hb').want m hlt
                have hlc := Hr.out.lc
                have hix : (m : Int) < (ss.length : Int) := by omega
                have Hat := hide hat
                have Hwant2 := hide hwant2
                clear hat hwant2
                generalize ss.getD m ByteArray.empty = s0 at *
                go_wp2_with fail
                go_region_with (go_at_call 16; refine (Hat.out _ ?_).mono ?_; exact Hr.out.drewN 1; rintro e w' ⟨rfl, hb'⟩; have hw2 := Hwant2.out w' hb')
                all_goals
                  go_wp2
                  go_roundw
                  case rel => exact ⟨m + 1, by omega, by go_num, (Hr.out.drewN 1).step hb'⟩
                  case measure => simp [intOf]; omega
              · go_wp2
                go_ret
                exact ⟨rfl, Hr.out.bel⟩
end Go.Proofs.Qxb6614221a
