import Derived.Test.Qxb6605612aFnZeroWalk
import Derived.Test.Qxb6605612aZZ
namespace Go.Proofs.Qxb6605612a
open Go.RowKit

theorem fnZero_any (lim size : Int) (pr : Bool) (h : Int) (key : ByteArray) (L C P ns n1 n2 : Int) (w : World) (hk : key.size ≤ maxLen)
    (hl : lim ≤ 9223372036854775807) (hs : size ≤ 9223372036854775807) (h0 : 0 ≤ h) (h1 : h ≤ 18446744073709551615) (hn1 : -9223372036854775808 ≤ ns) (hn2 : ns ≤ 9223372036854775807) :
    Calls Try.prog 5 #[.int .i64 lim, .int .i64 size, .bool pr, .int .u64 h, .string key, .int .i64 L, .int .i64 C, .int .i64 P, .int .i64 ns, .int .i64 n1, .int .i64 n2] w (Yes w) := by
  obtain ⟨H, rfl⟩ := Int.eq_ofNat_of_zero_le h0
  by_cases hout : 1048576 < key.size ∨ lim ≤ 0 ∨ size ≤ 0 ∨ n1 < 0 ∨ lim < n1 ∨ n2 < 0 ∨ lim < n2 ∨ C < 0 ∨ lim < C ∨ P < 0 ∨ lim < P ∨ (C = 0 ∧ (L ≠ 0 ∨ P ≠ 0))
  · exact fnZero_out lim size pr H key L C P ns n1 n2 w hk hout
  · obtain ⟨Z, rfl⟩ := Int.eq_ofNat_of_zero_le (show 0 ≤ size by omega)
    obtain ⟨idx, hwin⟩ := win_any ns Z hn1 hn2 (by omega) (by omega)
    have ho := fun cost => over_eq L C P idx lim cost (by omega) (by omega) (by omega) (by omega) (by omega) hl
    have hcb := cin_bounds L C P idx lim (by omega) (by omega) (by omega) (by omega) (by omega)
    refine fnZero_main lim Z pr H key L C P ns n1 n2 (unixN ns) (unixS ns) (fun cost => !(over lim ⟨L, C, P⟩ idx cost)) w (by omega) (by omega) (by omega) (by omega) (by omega) (by omega) (by omega) (by omega) (by omega) (by omega) (by omega)
      (fun hc => by omega) (by omega) (fun w => unix11 ns w hn1 hn2) (fun b w cost hE => zz_none b H (unixN ns) key (unixS ns) cost w hE)
      (fun b g w0 w cost hH b4 b5 => zz_same b g H (unixN ns) key (unixS ns) cost lim Z L C P idx w0 w hH (by omega) b4 b5 hwin) ?_ ?_
    · simp only [ho]
      simp
      omega
    · intro lo hi hlh
      simp only [ho]
      simp
      omega
end Go.Proofs.Qxb6605612a
