import Derived.Test.Qxb6614221aUpTo
namespace Go.Proofs.Qxb6614221a.FnWalk
open Go.RowKit

theorem hide {p : Prop} (h : p) : Hid p := h

theorem St.set {w : World} {b : Nat} {x y : Int} (h : St w b x) : St (w.setCell ⟨b, 23, none⟩ (.int .i64 y)) b y := by
  obtain ⟨h1, h2, h3, h4⟩ := h
  refine ⟨?_, ?_, ?_, ?_⟩
  · exact (World.cell?_setCell_other _ _ _ _ (by simp)).trans h1
  · exact (World.cell?_setCell_other _ _ _ _ (by simp)).trans h2
  · exact World.cell?_setCell_same _ _ _ h3
  · rw [World.frozen?_setCell]; exact h4

def DrainOut (c : Nat) (w : World) (e : Ending) (w' : World) : Prop := e = .returned (.tuple #[.int .i64 c, .int .i64 (((c + 31) / 32 : Nat) : Int), .bool true]) ∧ Below w.heap.size w w'

set_option maxRecDepth 100000 in
set_option maxHeartbeats 1000000 in
theorem drain11 (c : Nat) (ids : Bool) (w : World) (hc : c ≤ 65536) : Calls Try.prog 11 #[.int .i64 c, .bool ids] w (DrainOut c w) := by
  go_enter Try.func11, Try.ntmps11
  go_wp2_with fail
  refine (new20 c ids w).mono ?_
  rintro e w1 ⟨rfl, hS, hb⟩
  have HS := hide hS
  have Hb := hide hb
  clear hS hb
  go_wp2_with fail
  go_loopw [4, 5, 8] (fun t q k wr => ∃ n m : Nat, k = .int .i64 n ∧ q = .int .i64 n ∧ t = .int .i64 m ∧ m = min (32 * n) c ∧ 32 * n < c + 32 ∧ St wr w.heap.size ((c - m : Nat) : Int) ∧ Below w.heap.size w wr) (fun _ _ k _ => c + 2 - (intOf k).toNat)
  case atStart => exact ⟨0, 0, rfl, rfl, rfl, by omega, by omega, by simpa using HS.out, Hb.out⟩
  case round =>
    obtain ⟨n, m, rfl, rfl, rfl, hm, hn, hS, hb⟩ := hrel
    clear HS Hb
    have Hm := hide hm
    have HS := hide hS
    have Hb := hide hb
    have hkn : (n : Int) ≤ (c : Int) + 1 := by omega
    have hmc : m ≤ c := by omega
    by_cases hlt : m < c
    · have hm32 : m = 32 * n := by omega
      have Hm32 := hide hm32
      clear hm hS hb hm32
      go_wp2_with fail
      refine (upTo21_some w.heap.size (c - m) wr (by omega) (by omega) HS.out).mono ?_
      rintro e w2 ⟨p, rfl, ⟨hp1, hp2⟩, hw⟩
      have hS2 : St w2 w.heap.size ((c - m - min (c - m) 32 : Nat) : Int) := by rw [hw]; exact HS.out.set
      have hb2 : Below w.heap.size w w2 := by rw [hw]; exact Hb.out.setCell (p := ⟨w.heap.size, 23, none⟩) (Nat.le_refl _) _
      have HS2 := hide hS2
      have Hb2 := hide hb2
      have Hp2 := hide hp2
      have Hp1 := hide hp1
      have hpos : 0 < p.size := by omega
      have hple : p.size ≤ 32 := by omega
      have hemp : p.toList.isEmpty = false := by
        rw [ByteArray.toList_eq, List.isEmpty_eq_false_iff]
        intro e
        have h1 : p.data.toList.length = 0 := by rw [e]; rfl
        have h2 : p.data.toList.length = p.size := rfl
        omega
      clear hw hS2 hb2 hp1 hp2 HS Hb
      go_wp2_with fail
      go_loop [4, 5, 10] (fun t q i => ∃ j : Nat, j ≤ p.size ∧ i = .int .i64 j ∧ t = .int .i64 m ∧ q = .int .i64 n) (fun _ _ i => p.size - (intOf i).toNat)
      case atStart => exact ⟨0, by omega, rfl, rfl, rfl⟩
      case round =>
        obtain ⟨j, hj, rfl, rfl, rfl⟩ := hrel
        by_cases hjl : j < p.size
        · have h93 := Hp2.out j hjl
          go_wp2_with fail
          go_round
          case rel => exact ⟨j + 1, by omega, by go_num, rfl, rfl⟩
          case measure => simp [intOf]; omega
        · have hcl := HS2.out.closes
          have fin : ∃ n' m' : Nat, Value.int .i64 ((n : Int) + 1) = .int .i64 n' ∧ Value.int .i64 ((n : Int) + 1) = .int .i64 n' ∧ Value.int .i64 ((m : Int) + (p.size : Int)) = .int .i64 m' ∧ m' = min (32 * n') c ∧ 32 * n' < c + 32 ∧ St w2 w.heap.size ((c - m' : Nat) : Int) ∧ Below w.heap.size w w2 := by
            have h1 := Hp1.out
            have h2 := Hm32.out
            refine ⟨n + 1, m + p.size, rfl, rfl, rfl, by omega, by omega, ?_, Hb2.out⟩
            rw [show c - (m + p.size) = c - m - min (c - m) 32 by omega]
            exact HS2.out
          have Hfin := hide fin
          clear fin
          by_cases h32 : p.size = 32
          · have hn32 : ((p.size : Int) != 32) = false := by simp [h32]
            have H32 := hide h32
            clear h32
            go_wp2_with fail
            go_roundw
            case rel => exact Hfin.out
            case measure => simp [intOf]; omega
          · have hn32 : ((p.size : Int) != 32) = true := by rw [bne_iff_ne]; omega
            have hz : c - m - min (c - m) 32 = 0 := by have := Hp1.out; omega
            rw [hz] at hcl
            have Hz := hide hz
            clear hz h32
            go_wp2_with fail
            refine (closes22 w.heap.size 0 w2 hcl).mono ?_
            rintro e w3 ⟨rfl, rfl⟩
            go_wp2_with fail
            go_roundw
            case rel => exact Hfin.out
            case measure => simp [intOf]; omega
    · have hmc2 : m = c := by omega
      have hcn : n = (c + 31) / 32 := by omega
      have hS0 : St wr w.heap.size 0 := by have h1 := HS.out; rw [show c - m = 0 by omega] at h1; exact h1
      have HS0 := hide hS0
      have hcl := hS0.closes
      have Hmc := hide hmc2
      have Hcn := hide hcn
      clear hm hS hb hmc2 hcn hS0 HS
      go_wp2_with fail
      refine (upTo21_none w.heap.size wr HS0.out).mono ?_
      rintro e w2 ⟨rfl, rfl⟩
      go_wp2_with fail
      refine (closes22 w.heap.size 0 wr hcl).mono ?_
      rintro e w2 ⟨rfl, rfl⟩
      go_wp2_with fail
      refine (upTo21_none w.heap.size wr HS0.out).mono ?_
      rintro e w2 ⟨rfl, rfl⟩
      go_wp2
      go_ret3
      refine ⟨?_, Hb.out⟩
      show Ending.returned (.tuple #[.int .i64 (m : Int), .int .i64 (n : Int), .bool true]) = _
      rw [Hmc.out, Hcn.out]
end Go.Proofs.Qxb6614221a.FnWalk
