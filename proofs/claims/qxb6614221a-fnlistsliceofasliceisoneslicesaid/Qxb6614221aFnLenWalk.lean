import Derived.Test.Qxb6614221aNewList
namespace Go.Proofs.Qxb6614221a
open Go.RowKit

theorem Try.info9 : (Try.prog.info? 9).map (fun i => (i.zero, i.size, i.bytes)) = some (some (.string ByteArray.empty), 1, 16) := by kernel_rfl

theorem made_strings (n : Nat) : (madeCells (Value.string ByteArray.empty).cells (n * 1)).toList = (List.replicate n ByteArray.empty).map Value.string := by
  show (madeCells #[Value.string ByteArray.empty] (n * 1)).toList = _
  rw [toList_madeCells_one]
  simp

theorem bytes7_yes (s : ByteArray) (k : Int) (h : s.size ≤ 1048576) (w : World) :
    Calls Try.prog 7 #[.string s, .int .i64 k] w fun e w' => e = .returned (.bool true) ∧ w' = w :=
  (bytes7 s k (by unfold maxLen; omega) w).mono fun e w' ⟨h1, h2⟩ => ⟨by rw [h1, decide_eq_true h], h2⟩
theorem bytes7_no (s : ByteArray) (k : Int) (h : 1048576 < s.size) (hs : s.size ≤ maxLen) (w : World) :
    Calls Try.prog 7 #[.string s, .int .i64 k] w fun e w' => e = .returned (.bool false) ∧ w' = w :=
  (bytes7 s k hs w).mono fun e w' ⟨h1, h2⟩ => ⟨by rw [h1, decide_eq_false (by omega)], h2⟩

set_option maxRecDepth 100000 in
set_option maxHeartbeats 800000 in
theorem fnLen_main (s : ByteArray) (k : Nat) (hs : s.size ≤ 65536) (hk : k ≤ s.size) (w : World) :
    Calls Try.prog 3 #[.string s, .int .i64 k] w fun e w' => e = .returned (.bool true) ∧ Below w.heap.size w w' := by
  obtain ⟨i0, hi, hz0, hz1, hz2⟩ := info_parts Try.info9
  go_enter Try.func3, Try.ntmps3
  go_wp2_with (first | (go_at_call 7; refine (bytes7_yes _ _ (by omega) _).mono ?_; rintro e w' ⟨rfl, hw⟩; have hw := hw.symm; subst hw) | (at_make; refine wpList_make_full _ rfl _ _ 23 rfl w.heap.size 9 i0 (.string ByteArray.empty) 1 Try.underlying23 hi hz0 hz1 .i64 .i64 _ _ s.size rfl rfl (by first | rfl | simp) (by first | rfl | simp) (by rw [hz2]; omega) (by unfold maxLen; omega) (Nat.le_refl _) ?_; intro w0 hown0 hgrow0))
  rw [made_strings] at hown0
  have hb0 : Below w.heap.size w w0 := (Below.refl _ _).grown hgrow0 (Nat.le_refl _) (by simp)
  clear hgrow0
  go_loopw [6] (fun i wr => ∃ (j : Nat) (ss : List ByteArray), j ≤ s.size ∧ i = .int .i64 j ∧ ss.length = s.size ∧ wr.ownsRow w.heap.size 9 1 (.slice (some ⟨w.heap.size, 0, none⟩) s.size s.size) s.size (ss.map Value.string) ∧ Below w.heap.size w wr)
    (fun i _ => s.size - (intOf i).toNat)
  case atStart => exact ⟨0, _, by omega, rfl, by simp, hown0, hb0⟩
  case round =>
    obtain ⟨j, ss, hj, rfl, hsl, hown, hb⟩ := hrel
    clear hown0 hb0
    have Hsl := hide hsl
    clear hsl
    by_cases hlt : j < s.size
    · have hfr := hown.frozenAt j
      obtain ⟨ov, hce⟩ : ∃ v, wr.cell? ⟨w.heap.size, j, none⟩ = some v := ⟨_, (hown.cellAt j (by omega)).trans (List.getElem?_eq_getElem (by have := Hsl.out; simp; omega))⟩
      have Hst : Hid (∀ t, (wr.setCell ⟨w.heap.size, j, none⟩ (.string t)).ownsRow w.heap.size 9 1 (.slice (some ⟨w.heap.size, 0, none⟩) s.size s.size) s.size ((ss.set j t).map Value.string)) := by
        intro t
        rw [List.map_set]
        exact (hown.stored j (.string t)).1
      go_wp2
      go_roundw
      case rel => exact ⟨j + 1, _, by omega, by go_num, by have := Hsl.out; simpa using this, Hst.out _, hb.setCell (p := ⟨w.heap.size, j, none⟩) (Nat.le_refl _) _⟩
      case measure => simp [intOf]; omega
    · have hcells : ∀ i, i < ss.length → ∃ b o, (some ⟨w.heap.size, 0, none⟩ : Option Addr) = some ⟨b, o, none⟩ ∧ wr.cell? ⟨b, o + i, none⟩ = some (.string (ss.getD i ByteArray.empty)) := by
        intro i hi
        refine ⟨_, _, rfl, ?_⟩
        rw [Nat.zero_add, hown.cellAt i (by have := Hsl.out; omega), List.getElem?_map, List.getElem?_eq_getElem hi]
        simp [List.getD, List.getElem?_eq_getElem hi]
      have hp := newStrings10 ss (some ⟨w.heap.size, 0, none⟩) s.size wr (by have := Hsl.out; omega) hcells
      rw [Hsl.out] at hp
      have Hp := hide hp
      have Hb := hide hb
      have hwsz : w.heap.size < wr.heap.size := (hown.lt _ rfl).2
      clear hp hb hown hcells
      go_wp2_with fail
      refine (lenString s wr).mono ?_
      rintro e w1 ⟨rfl, hw⟩
      have hw := hw.symm
      subst hw
      go_wp2_with fail
      refine Hp.out.mono ?_
      rintro e w1 ⟨p, rfl, hR, hb1⟩
      have HR := hide hR
      have Hb1 := hide hb1
      clear hR hb1 Hp
      go_wp2_with fail
      refine (lenList9 p _ w1 HR.out).mono ?_
      rintro e w2 ⟨rfl, hb2⟩
      rw [List.length_map, Hsl.out]
      have Hb2 := hide hb2
      clear hb2 HR
      go_wp2_with fail
      refine (lenString (s.extract 0 k) w2).mono ?_
      rintro e w3 ⟨rfl, hw⟩
      have hw := hw.symm
      subst hw
      rw [show (s.extract 0 k).size = k by simp; omega]
      go_wp2_with fail
      refine (lenString _ w2).mono ?_
      rintro e w3 ⟨rfl, hw⟩
      have hw := hw.symm
      subst hw
      rw [show (s.extract k s.size).size = s.size - k by simp]
      rw [show ((s.size - k : Nat) : Int) = (s.size : Int) - (k : Int) by omega]
      have heq : ((k : Int) + ((s.size : Int) - (k : Int)) == (s.size : Int)) = true := by rw [beq_iff_eq]; omega
      go_wp2
      go_ret
      exact ⟨rfl, (Hb.out.trans (Hb1.out.mono (by omega))).trans (Hb2.out.mono (by have := Hb1.out.size; omega))⟩

set_option maxRecDepth 100000 in
set_option maxHeartbeats 800000 in
theorem fnLen_any (s : ByteArray) (k : Int) (hs : s.size ≤ maxLen) (w : World) :
    Calls Try.prog 3 #[.string s, .int .i64 k] w fun e w' => e = .returned (.bool true) ∧ Below w.heap.size w w' := by
  by_cases h1 : 1048576 < s.size
  · have Hs := hide hs
    clear hs
    go_enter Try.func3, Try.ntmps3
    go_wp2_with (go_at_call 7; refine (bytes7_no _ _ h1 Hs.out _).mono ?_; rintro e w' ⟨rfl, rfl⟩)
    go_ret
    exact ⟨rfl, Below.refl _ _⟩
  · by_cases h2 : 65536 < s.size
    · clear hs
      go_enter Try.func3, Try.ntmps3
      go_wp2_with (go_at_call 7; refine (bytes7_yes _ _ (by omega) _).mono ?_; rintro e w' ⟨rfl, rfl⟩)
      go_ret
      exact ⟨rfl, Below.refl _ _⟩
    · by_cases h3 : k < 0 ∨ (s.size : Int) < k
      · clear hs
        rcases h3 with h3 | h3
        all_goals
          go_enter Try.func3, Try.ntmps3
          go_wp2_with (go_at_call 7; refine (bytes7_yes _ _ (by omega) _).mono ?_; rintro e w' ⟨rfl, rfl⟩)
          go_ret
          exact ⟨rfl, Below.refl _ _⟩
      · obtain ⟨n, rfl⟩ := Int.eq_ofNat_of_zero_le (show 0 ≤ k by omega)
        exact fnLen_main s n (by omega) (by omega) w

end Go.Proofs.Qxb6614221a
