import Derived.Test.Qxb6614221aFnHoldsWalk
namespace Go.Proofs.Qxb6614221a
open Go.RowKit

/-- What stands before the comparing loop: the cells xB and yB hold the two slices; G holds the wanted strings. -/
structure Ready2 (W : World) (xB yB G : Nat) (px py : Option Addr) (ss : List ByteArray) (sx sy : List Value) (w : World) : Prop where
  xc : W.cell? ⟨xB, 0, none⟩ = some (.pointer px)
  yc : W.cell? ⟨yB, 0, none⟩ = some (.pointer py)
  xR : Root W (fun _ => True) px sx
  yR : Root W (fun _ => True) py sy
  wA : StrArg W (some ⟨G, 0, none⟩) ss
  bel : Below w.heap.size w W

theorem Ready2.step {W W' : World} {xB yB G : Nat} {px py : Option Addr} {ss : List ByteArray} {sx sy : List Value} {w : World} (h : Ready2 W xB yB G px py ss sx sy w) (hb : Below W.heap.size W W') : Ready2 W' xB yB G px py ss sx sy w :=
  ⟨(hb.cell (World.block_lt_of_cell? _ _ h.xc)).trans h.xc, (hb.cell (World.block_lt_of_cell? _ _ h.yc)).trans h.yc, (h.xR.below hb).any, (h.yR.below hb).any, h.wA.below hb, h.bel.trans (hb.mono h.bel.size)⟩

theorem Ready2.want {W : World} {xB yB G : Nat} {px py : Option Addr} {ss : List ByteArray} {sx sy : List Value} {w : World} (h : Ready2 W xB yB G px py ss sx sy w) (i : Nat) (hi : i < ss.length) : W.cell? ⟨G, i, none⟩ = some (.string (ss.getD i ByteArray.empty)) := by
  obtain ⟨b, o, e, hc⟩ := h.wA i hi
  simp only [Option.some.injEq, Addr.mk.injEq, and_true] at e
  obtain ⟨rfl, rfl⟩ := e
  rw [Nat.zero_add] at hc
  exact hc

theorem seg_at2 {ss : List ByteArray} {A B C D i : Nat} (hB : B ≤ ss.length) (hD : D ≤ B - A) (hi : C + i < D) :
    (((((ss.map strV).drop A).take (B - A)).drop C).take (D - C))[i]? = some (strV (ss.getD (A + C + i) ByteArray.empty)) := by
  rw [List.getElem?_take, if_pos (by omega), List.getElem?_drop, List.getElem?_take, if_pos (by omega), List.getElem?_drop, show A + (C + i) = A + C + i by omega]
  exact strV_at (by omega)

set_option maxRecDepth 100000 in
set_option maxHeartbeats 2000000 in
theorem fnOne_main (ss : List ByteArray) (a : Option Addr) (cap A B C D : Nat) (w : World) (hn : ss.length ≤ 65536) (hAB : A ≤ B) (hB : B ≤ ss.length) (hCD : C ≤ D) (hD : D ≤ B - A) (hA : StrArg w a ss) :
    Calls Try.prog 6 #[.slice a ss.length cap, .int .i64 A, .int .i64 B, .int .i64 C, .int .i64 D] w fun e w' => e = .returned (.bool true) ∧ Below w.heap.size w w' := by
  obtain ⟨i0, hi0, hz0, hz1, hz2⟩ := info_parts Try.info9
  have hq := neq23
  have HA := hide hA
  clear hA
  go_enter Try.func6, Try.ntmps6
  go_wp2_with fail
  refine (bytes17 ss a cap A B C D w (by unfold maxLen; omega) HA.out).mono ?_
  rintro e w1 ⟨v, rfl, rfl⟩
  cases v
  · go_wp2
    go_ret
    exact ⟨rfl, Below.refl _ _⟩
  go_wp2_with fail
  refine (tooBig13 ss a cap w hn HA.out).mono ?_
  rintro e w1 ⟨v, rfl, rfl⟩
  cases v
  rotate_left
  · go_wp2
    go_ret
    exact ⟨rfl, Below.refl _ _⟩
  have hDI : (D : Int) ≤ (B : Int) - (A : Int) := by omega
  go_upto_if 60 with fail
  go_cut [0, 11] (fun v _ wc => ∃ (a' : Option Addr) (cap' : Nat), v = .slice a' ss.length cap' ∧ StrArg wc a' ss ∧ Below w.heap.size w wc)
  case first =>
    rcases a with _ | ad
    · go_wp2
      go_meet
      case rel => exact ⟨none, cap, rfl, HA.out, Below.refl _ _⟩
    · go_wp2_with (at_make; refine wpList_make_full _ rfl _ _ 23 rfl w.heap.size 9 i0 (.string ByteArray.empty) 1 Try.underlying23 hi0 hz0 hz1 .i64 .i64 _ _ ss.length rfl rfl (by first | rfl | simp) (by first | rfl | simp) (by rw [hz2]; omega) (by unfold maxLen; omega) (Nat.le_refl _) ?_; intro w0 hown0 hgrow0; obtain ⟨wq, hcp, hownq, hgq⟩ := copy_strs (cap := cap) (a := some ad) ss rfl hown0 (HA.out.below ((Below.refl _ _).grown hgrow0 (Nat.le_refl _) (by simp))))
      go_wp2
      go_meet
      case rel =>
        exact ⟨_, _, rfl, own_strs hownq rfl, ((Below.refl _ _).grown hgrow0 (Nat.le_refl _) (by simp)).grown hgq hgrow0.size (by simp)⟩
  case rest =>
    obtain ⟨a', cap', rfl, hA', hb⟩ := hcut
    clear HA hq
    have HA := hide hA'
    have Hb := hide hb
    clear hA' hb
    have hwc : w.heap.size ≤ wc.heap.size := Hb.out.size
    go_wp2_with (at_make; refine wpList_make_full _ rfl _ _ 23 rfl wc.heap.size 9 i0 (.string ByteArray.empty) 1 Try.underlying23 hi0 hz0 hz1 .i64 .i64 _ _ ss.length rfl rfl (by first | rfl | simp) (by first | rfl | simp) (by rw [hz2]; omega) (by unfold maxLen; omega) (Nat.le_refl _) ?_; intro w0 hown0 hgrow0)
    have hb0 : Below wc.heap.size wc w0 := (Below.refl _ _).grown hgrow0 (Nat.le_refl _) (by simp)
    clear hgrow0
    go_loopw [13] (fun i wr => ∃ (k : Nat) (xs : List Value), k ≤ ss.length ∧ i = .int .i64 k ∧ wr.ownsRow wc.heap.size 9 1 (.slice (some ⟨wc.heap.size, 0, none⟩) ss.length ss.length) ss.length xs ∧ CpTo ss k xs ∧ Below wc.heap.size wc wr)
      (fun i _ => ss.length - (intOf i).toNat)
    case atStart => exact ⟨0, _, by omega, rfl, hown0, fun i hi => by omega, hb0⟩
    case round =>
      obtain ⟨k, xs, hk, rfl, hown, hE, hb⟩ := hrel
      clear hown0 hb0
      have hxl : xs.length = ss.length := by have := hown.1; omega
      have HE := hide hE
      have Hbw := hide hb
      clear hE hb
      by_cases hlt : k < ss.length
      · obtain ⟨b, o, rfl, hc⟩ := (HA.out.below Hbw.out) k hlt
        have hfr := hown.frozenAt k
        obtain ⟨ov, hce⟩ : ∃ v, wr.cell? ⟨wc.heap.size, k, none⟩ = some v := ⟨_, (hown.cellAt k (by omega)).trans (List.getElem?_eq_getElem (by omega))⟩
        have Hst := hide (hown.stored k (.string (ss.getD k ByteArray.empty)))
        have HE2 := hide (HE.out.step (k := k) (by omega))
        clear HE
        generalize ss.getD k ByteArray.empty = s0 at *
        go_wp2
        go_roundw
        case rel => exact ⟨k + 1, _, by omega, by go_num, Hst.out.1, HE2.out, Hbw.out.setCell (p := ⟨wc.heap.size, k, none⟩) (Nat.le_refl _) _⟩
        case measure => simp [intOf]; omega
      · have hkl : k = ss.length := by omega
        have hE2 : CpTo ss ss.length xs := by rw [← hkl]; exact HE.out
        have hxs : xs = ss.map Value.string := hE2.all hxl
        have hW : StrArg wr (some ⟨wc.heap.size, 0, none⟩) ss := by rw [hxs] at hown; exact own_strs hown rfl
        have hp := newStrings10 ss a' cap' wr (by omega) (HA.out.below Hbw.out)
        have Hp := hide hp
        have HW := hide hW
        have hwr : wc.heap.size < wr.heap.size := (hown.lt _ rfl).2
        have hd1 : decide ((k : Int) < (ss.length : Int)) = false := by simp; omega
        have Hkl := hide hkl
        clear hkl hE2 hxs hW hp HE hxl hown
        go_wp2_with fail
        refine Hp.out.mono ?_
        rintro e w2 ⟨p, rfl, hR, hb2⟩
        have HR := hide hR
        have Hb2 := hide hb2
        clear hR hb2 Hp
        go_wp2_with fail
        refine (listSlice14 p A B (ss.map strV) _ (by simp; omega) hAB (by simpa using hB) (HR.out.frame (Agree.of_alloc _))).mono ?_
        rintro e w4 ⟨p1, rfl, hR4, hb4⟩
        have HR4 := hide hR4
        have Hb4 := hide hb4
        clear hR4 hb4
        have hs4 : w2.heap.size < w4.heap.size := by have := Hb4.out.size; simp at this; omega
        have hlc : w4.cell? ⟨w2.heap.size, 0, none⟩ = some (.pointer p) := by rw [Hb4.out.cell (by simp), cell_new]; rfl
        have hl1 : (((ss.map strV).drop A).take (B - A)).length = B - A := by simp; omega
        have Hl1 := hide hl1
        clear hl1
        go_wp2_with fail
        refine (listSlice14 p1 C D _ w4 (by rw [Hl1.out]; omega) hCD (by rw [Hl1.out]; omega) HR4.out).mono ?_
        rintro e w5 ⟨px, rfl, hR5, hb5⟩
        have HR5 := hide hR5
        have Hb5 := hide hb5
        clear hR5 hb5
        have hs5 : w4.heap.size ≤ w5.heap.size := Hb5.out.size
        have hlc5 : w5.cell? ⟨w2.heap.size, 0, none⟩ = some (.pointer p) := (Hb5.out.cell hs4).trans hlc
        have hs25 : w2.heap.size < w5.heap.size := by omega
        have hb25 : Below w2.heap.size w2 w5 := (((Below.refl _ _).alloc (Nat.le_refl _) _).trans (Hb4.out.mono (by simp))).trans (Hb5.out.mono (by omega))
        have Hb25 := hide hb25
        clear hb25 hlc Hb4 Hb5 HR4
        have hcs : ((A + C : Nat) : Int) = (A : Int) + (C : Int) := rfl
        have hds : ((A + D : Nat) : Int) = (A : Int) + (D : Int) := rfl
        have hp3 : ∀ W, Below w2.heap.size w2 W → Calls Try.prog 14 #[.agg #[.pointer p], .int .i64 ((A : Int) + (C : Int)), .int .i64 ((A : Int) + (D : Int))] W (RootOut (fun x => w2.heap.size ≤ w2.heap.size) (((ss.map strV).drop (A + C)).take (A + D - (A + C))) W) := by
          intro W hW
          rw [← hcs, ← hds]
          exact listSlice14 p (A + C) (A + D) (ss.map strV) W (by simp; omega) (by omega) (by simp; omega) ((HR.out.below hW).mono fun _ _ => Nat.le_refl _)
        have Hp3 := hide hp3
        clear hp3 hcs hds
        go_wp2_with fail
        refine (Hp3.out _ (Hb25.out.trans ((Below.refl _ _).alloc (by omega) _))).mono ?_
        rintro e w7 ⟨py, rfl, hR7, hb7⟩
        have HR7 := hide hR7
        have Hb7 := hide hb7
        clear hR7 hb7 Hp3
        have hs7 : w5.heap.size < w7.heap.size := by have := Hb7.out.size; simp at this; omega
        have hxc : w7.cell? ⟨w5.heap.size, 0, none⟩ = some (.pointer px) := by rw [Hb7.out.cell (by simp), cell_new]; rfl
        have hbs : ∀ o : Obj, Below w7.heap.size w7 (w7.alloc o) := fun o => (Below.refl _ _).alloc (Nat.le_refl _) o
        have hrdy : Ready2 (w7.alloc (.cells #[.pointer py] 31)) w5.heap.size w7.heap.size wc.heap.size px py ss (((((ss.map strV).drop A).take (B - A)).drop C).take (D - C)) (((ss.map strV).drop (A + C)).take (A + D - (A + C))) w := by
          have hb57 : Below w5.heap.size w5 w7 := ((Below.refl _ _).alloc (Nat.le_refl _) _).trans (Hb7.out.mono (by simp))
          refine ⟨((hbs _).cell (World.block_lt_of_cell? _ _ hxc)).trans hxc, by rw [cell_new]; rfl, ((HR5.out.any.below hb57).any.below (hbs _)).any, (HR7.out.any.below (hbs _)).any, (((HW.out.below Hb2.out).below Hb25.out).below hb57).below (hbs _), ?_⟩
          exact ((((Hb.out.trans (Hbw.out.mono hwc)).trans (Hb2.out.mono (by omega))).trans (Hb25.out.mono (by have := Hb2.out.size; omega))).trans (hb57.mono (by have := Hb2.out.size; omega))).trans ((hbs _).mono (by have := Hb2.out.size; omega))
        have Hrdy := hide hrdy
        clear hrdy hbs HR HR5 HR7 Hb25 Hb7 Hb2 HW Hbw Hb HA hwr hwc
        go_wp2_with fail
        clear hs7 hxc hs4 hs5 hlc5 hs25
        generalize w7.alloc (.cells #[.pointer py] 31) = W8 at *
        generalize w2.heap.size = lB at *
        generalize w5.heap.size = xB at *
        generalize w7.heap.size = yB at *
        generalize wc.heap.size = G at *
        have Hlx : Hid ((((((ss.map strV).drop A).take (B - A)).drop C).take (D - C)).length = D - C) := by unfold Hid; simp; omega
        have Hly : Hid ((((ss.map strV).drop (A + C)).take (A + D - (A + C))).length = D - C) := by unfold Hid; simp; omega
        refine (listLen15 px _ W8 Hrdy.out.xR).mono ?_
        rintro e w9 ⟨rfl, hb9⟩
        rw [Hlx.out, show ((D - C : Nat) : Int) = (D : Int) - (C : Int) by omega]
        have Hr9 := hide (Hrdy.out.step hb9)
        have hyc9 := Hr9.out.yc
        clear hb9 Hrdy
        have hne2 : ((D : Int) - (C : Int) != (D : Int) - (C : Int)) = false := by simp
        go_wp2_with fail
        refine (listLen15 py _ w9 Hr9.out.yR).mono ?_
        rintro e w10 ⟨rfl, hb10⟩
        rw [Hly.out, show ((D - C : Nat) : Int) = (D : Int) - (C : Int) by omega]
        have Hr10 := hide (Hr9.out.step hb10)
        clear hb10 Hr9 hyc9
        go_wp2_with fail
        go_loopw [17] (fun i wr => ∃ m : Nat, m ≤ D - C ∧ i = .int .i64 m ∧ Ready2 wr xB yB G px py ss (((((ss.map strV).drop A).take (B - A)).drop C).take (D - C)) (((ss.map strV).drop (A + C)).take (A + D - (A + C))) w) (fun i _ => D - C - (intOf i).toNat)
        case atStart => exact ⟨0, by omega, rfl, Hr10.out⟩
        case round =>
          obtain ⟨m, hm, rfl, hr⟩ := hrel
          clear Hr10
          have Hr := hide hr
          clear hr
          by_cases hlt : m < D - C
          · have hjl : (m : Int) < (D : Int) - (C : Int) := by omega
            have hix : (A : Int) + (C : Int) + (m : Int) < (ss.length : Int) := by omega
            have hix0 : (0 : Int) ≤ (A : Int) + (C : Int) + (m : Int) := by omega
            have htn : ((A : Int) + (C : Int) + (m : Int)).toNat = A + C + m := by omega
            have hxc := Hr.out.xc
            have ex := seg_at2 (ss := ss) (A := A) (B := B) (C := C) (D := D) (i := m) hB hD (by omega)
            have ey := seg_at (ss := ss) (lo := A + C) (hi := A + D) (i := m) (by omega) (by omega)
            have hwt : ∀ W, Ready2 W xB yB G px py ss (((((ss.map strV).drop A).take (B - A)).drop C).take (D - C)) (((ss.map strV).drop (A + C)).take (A + D - (A + C))) w → W.cell? ⟨G, A + C + m, none⟩ = some (.string (ss.getD (A + C + m) ByteArray.empty)) :=
              fun W hW => hW.want (A + C + m) (by omega)
            generalize ss.getD (A + C + m) ByteArray.empty = s0 at *
            have Hex := hide ex
            have Hey := hide ey
            have Hwt := hide hwt
            clear ex ey hwt
            go_wp2_with fail
            refine (listAt16 px m _ _ wr (by rw [Hlx.out]; omega) Hex.out Hr.out.xR).mono ?_
            rintro e w11 ⟨rfl, hb11⟩
            have Hr11 := hide (Hr.out.step hb11)
            have hyc := Hr11.out.yc
            clear hb11 Hr hxc
            go_wp2_with fail
            refine (listAt16 py m _ _ w11 (by rw [Hly.out]; omega) Hey.out Hr11.out.yR).mono ?_
            rintro e w12 ⟨rfl, hb12⟩
            have Hr12 := hide (Hr11.out.step hb12)
            have hwant := Hwt.out w12 Hr12.out
            clear hb12 Hr11 hyc Hex Hey
            go_wp2
            go_roundw
            case rel => exact ⟨m + 1, by omega, by go_num, Hr12.out⟩
            case measure => simp [intOf]; omega
          · have hjl : ¬ (m : Int) < (D : Int) - (C : Int) := by omega
            go_wp2
            go_ret
            exact ⟨rfl, Hr.out.bel⟩

set_option maxRecDepth 100000 in
set_option maxHeartbeats 1000000 in
theorem fnOne_any (ss : List ByteArray) (a : Option Addr) (cap : Nat) (x1 x2 x3 x4 : Int) (w : World) (hm : ss.length ≤ maxLen) (hA : StrArg w a ss) (i1 : -9223372036854775808 ≤ x1 ∧ x1 ≤ 9223372036854775807) (i2 : -9223372036854775808 ≤ x2 ∧ x2 ≤ 9223372036854775807) :
    Calls Try.prog 6 #[.slice a ss.length cap, .int .i64 x1, .int .i64 x2, .int .i64 x3, .int .i64 x4] w fun e w' => e = .returned (.bool true) ∧ Below w.heap.size w w' := by
  by_cases hmain : ss.length ≤ 65536 ∧ 0 ≤ x1 ∧ x1 ≤ x2 ∧ x2 ≤ (ss.length : Int) ∧ 0 ≤ x3 ∧ x3 ≤ x4 ∧ x4 ≤ x2 - x1
  · obtain ⟨h1, h2, h3, h4, h5, h6, h7⟩ := hmain
    obtain ⟨A, rfl⟩ := Int.eq_ofNat_of_zero_le h2
    obtain ⟨B, rfl⟩ := Int.eq_ofNat_of_zero_le (show 0 ≤ x2 by omega)
    obtain ⟨C, rfl⟩ := Int.eq_ofNat_of_zero_le h5
    obtain ⟨D, rfl⟩ := Int.eq_ofNat_of_zero_le (show 0 ≤ x4 by omega)
    exact fnOne_main ss a cap A B C D w h1 (by omega) (by omega) (by omega) (by omega) hA
  · have HA := hide hA
    have Hm := hide hm
    clear hA hm
    by_cases h1 : 65536 < ss.length
    · clear hmain
      have hm2 := Hm.out
      unfold maxLen at hm2
      go_enter Try.func6, Try.ntmps6
      go_wp2_with fail
      refine (bytes17 ss a cap x1 x2 x3 x4 w Hm.out HA.out).mono ?_
      rintro e w1 ⟨v, rfl, rfl⟩
      cases v
      all_goals
        go_wp2
        go_ret
        exact ⟨rfl, Below.refl _ _⟩
    · have hbad : x1 < 0 ∨ (0 ≤ x1 ∧ x2 < x1) ∨ (0 ≤ x1 ∧ x1 ≤ x2 ∧ (ss.length : Int) < x2) ∨ (0 ≤ x1 ∧ x1 ≤ x2 ∧ x2 ≤ (ss.length : Int) ∧ x3 < 0) ∨ (0 ≤ x1 ∧ x1 ≤ x2 ∧ x2 ≤ (ss.length : Int) ∧ 0 ≤ x3 ∧ x4 < x3) ∨
          (0 ≤ x1 ∧ x1 ≤ x2 ∧ x2 ≤ (ss.length : Int) ∧ 0 ≤ x3 ∧ x3 ≤ x4 ∧ x2 - x1 < x4) := by omega
      clear hmain
      rcases hbad with h2 | h2 | h2 | h2 | h2 | h2
      all_goals
        go_enter Try.func6, Try.ntmps6
        go_wp2_with fail
        refine (bytes17 ss a cap x1 x2 x3 x4 w Hm.out HA.out).mono ?_
        rintro e w1 ⟨v, rfl, rfl⟩
        cases v
        · go_wp2
          go_ret
          exact ⟨rfl, Below.refl _ _⟩
        go_wp2_with fail
        refine (tooBig13 ss a cap w (by omega) HA.out).mono ?_
        rintro e w1 ⟨v, rfl, rfl⟩
        cases v
        all_goals
          go_wp2
          go_ret
          exact ⟨rfl, Below.refl _ _⟩

end Go.Proofs.Qxb6614221a
