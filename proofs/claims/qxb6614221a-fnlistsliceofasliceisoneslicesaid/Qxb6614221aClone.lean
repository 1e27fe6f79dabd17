import Derived.Test.Qxb6614221aSeqOf
namespace Go.Proofs.Qxb6614221a
open Go.RowKit

def CloneOut (us : List (Nat × List Value)) (w : World) (e : Ending) (w' : World) : Prop :=
  ∃ (g cap : Nat), e = .returned (.slice (some ⟨g, 0, none⟩) us.length cap) ∧ w.heap.size ≤ g ∧ Below w.heap.size w w' ∧ w'.ownsRow w.heap.size 27 1 (.slice (some ⟨g, 0, none⟩) us.length cap) us.length (ptrs us)

set_option maxHeartbeats 400000 in
/-- 'slices.Clone(s[lo:hi])': a row of its own with the same pointers. -/
theorem clone43 (us : List (Nat × List Value)) (cb co cap : Nat) (w : World) (hne : us ≠ []) (hbig : us.length ≤ 1048576)
    (hA : ∀ i v, (ptrs us)[i]? = some v → w.cell? ⟨cb, co + i, none⟩ = some v) :
    Calls Try.prog 43 #[.slice (some ⟨cb, co, none⟩) us.length cap] w (CloneOut us w) := by
  obtain ⟨i0, hi, hz0, hz1, hz2⟩ := info_parts Try.info27
  have hq := nil82
  have HA := hide hA
  clear hA
  have hl1 : ∀ u ∈ ptrs us, u.oneCell' = true := by
    intro u hu
    simp only [ptrs, List.mem_map] at hu
    obtain ⟨c, _, rfl⟩ := hu
    rfl
  have Hl1 := hide hl1
  have hpos : 0 < us.length := List.length_pos_iff.2 hne
  clear hl1
  have Hc : Hid (∀ o : Obj, ∀ j u, (ptrs us)[j]? = some u → (w.alloc o).cell? ((⟨cb, co, none⟩ : Addr).add j) = some u) := by
    intro o j u hu
    have h1 := HA.out j u hu
    have h2 := World.block_lt_of_cell? _ _ h1
    rw [show (⟨cb, co, none⟩ : Addr).add j = ⟨cb, co + j, none⟩ by simp [Addr.add]]
    rw [World.cell?_of_block (Below.heap_alloc _ _ _ h2)]
    exact h1
  have Ho : Hid ((w.alloc (.cells #[] 27)).ownsRow w.heap.size 27 1 (.slice (some ⟨w.heap.size, 0, none⟩) 0 0) 0 []) := World.ownsRow_made w #[] 0 (Nat.le_refl _) (by decide) (by simp)
  go_enter Try.func43, Try.ntmps43
  go_wp2_with (at_builtin; refine wpList_append_own _ rfl (.tmp 5) (.tmp 6) 82 rfl w.heap.size 27 i0 (.pointer none) 1 8 Try.underlying82 hi hz0 hz1 hz2 rfl (by decide) (.slice (some ⟨w.heap.size, 0, none⟩) 0 0) 0 [] rfl Ho.out ⟨cb, co, none⟩ us.length cap (ptrs us) rfl (by rw [ptrs_length]; omega) (Hc.out _) Hl1.out (by unfold maxLen; omega) (by omega) (by simp) ?_; intro v' w1 hown1 hg1 hnil)
  go_ret
  have hown2 := hown1
  rw [Nat.zero_add, List.nil_append] at hown2
  rcases hown2.2 with ⟨_, h0⟩ | ⟨g, cp, cur, hv, hgb, _⟩
  · omega
  · refine ⟨g, cp, by rw [← hv]; rfl, hgb, ((Below.refl _ _).alloc (Nat.le_refl _) _).grown hg1 (by simp) ?_, by rw [← hv]; exact hown2⟩
    intro k hk
    simp [Value.ownBlock] at hk
    omega
end Go.Proofs.Qxb6614221a
