/-! The school method's one step in base 2^32, and the two steps together: plain arithmetic, no Go. -/
namespace Go.Proofs.Qxb6605612a.DivMath

/-- What holds at the head of the correcting loop: q is too large by little, r is what it leaves. -/
def Inv (n y y1 d q r : Nat) : Prop := q * y1 + r = n ∧ (n * 4294967296 + d) / y ≤ q ∧ q ≤ 4294967297 ∧ r < 4294967296

theorem mul_split (q y1 y0 : Nat) : q * (y1 * 4294967296 + y0) = q * y1 * 4294967296 + q * y0 := by
  rw [Nat.mul_add, Nat.mul_assoc]

theorem inv_init (n y y1 y0 d : Nat) (hy : y = y1 * 4294967296 + y0) (h1 : 2147483648 ≤ y1) (h1' : y1 < 4294967296) (h0 : y0 < 4294967296) (hd : d < 4294967296) (hn : n < y) :
    Inv n y y1 d (n / y1) (n % y1) := by
  have hpos : 0 < y1 := by omega
  have hm := Nat.mod_lt n hpos
  have hdm := Nat.div_add_mod n y1
  refine ⟨by rw [Nat.mul_comm]; exact hdm, ?_, ?_, by omega⟩
  · rw [Nat.le_div_iff_mul_le hpos]
    have hT : (n * 4294967296 + d) / y * y ≤ n * 4294967296 + d := Nat.div_mul_le_self _ _
    generalize (n * 4294967296 + d) / y = T at *
    rw [hy, mul_split] at hT
    generalize T * y1 = a at *
    generalize T * y0 = b at *
    omega
  · have : n / y1 < 4294967298 := by
      rw [Nat.div_lt_iff_lt_mul hpos]
      omega
    omega

/-- The test says yes: q is too large. -/
theorem lt_of_test (n y y1 y0 d q r : Nat) (hy : y = y1 * 4294967296 + y0) (hd : d < 4294967296) (hn : n < y) (hI : Inv n y y1 d q r)
    (ht : 4294967296 ≤ q ∨ 4294967296 * r + d < q * y0) : (n * 4294967296 + d) / y < q := by
  obtain ⟨h1, h2, h3, h4⟩ := hI
  have hyp : 0 < y := by omega
  rw [Nat.div_lt_iff_lt_mul hyp]
  rcases ht with ht | ht
  · calc n * 4294967296 + d < y * 4294967296 := by omega
      _ = 4294967296 * y := Nat.mul_comm _ _
      _ ≤ q * y := Nat.mul_le_mul_right _ ht
  · rw [hy, mul_split]
    generalize q * y1 = a at *
    generalize q * y0 = b at *
    omega

theorem le_of_exit (n y y1 y0 d q r : Nat) (hy : y = y1 * 4294967296 + y0) (hyp : 0 < y) (h1 : q * y1 + r = n) (h2 : (n * 4294967296 + d) / y ≤ q) (h : q * y0 ≤ 4294967296 * r + d) : q = (n * 4294967296 + d) / y := by
  apply Nat.le_antisymm _ h2
  rw [Nat.le_div_iff_mul_le hyp, hy, mul_split]
  generalize q * y1 = a at *
  generalize q * y0 = b at *
  omega

/-- A round: the loop goes on, or it is left with the quotient. -/
theorem inv_step (n y y1 y0 d q r : Nat) (hy : y = y1 * 4294967296 + y0) (h0 : y0 < 4294967296) (hd : d < 4294967296) (hn : n < y) (hI : Inv n y y1 d q r)
    (ht : 4294967296 ≤ q ∨ 4294967296 * r + d < q * y0) :
    1 ≤ q ∧ (r + y1 < 4294967296 → Inv n y y1 d (q - 1) (r + y1)) ∧ (4294967296 ≤ r + y1 → q - 1 = (n * 4294967296 + d) / y) := by
  have hlt := lt_of_test n y y1 y0 d q r hy hd hn hI ht
  obtain ⟨h1, h2, h3, h4⟩ := hI
  have hq : 0 < q := Nat.lt_of_le_of_lt (Nat.zero_le _) hlt
  obtain ⟨k, rfl⟩ : ∃ k, q = k + 1 := ⟨q - 1, by omega⟩
  rw [Nat.add_mul, Nat.one_mul] at h1
  refine ⟨by omega, fun h => ⟨?_, Nat.le_of_lt_succ hlt, by omega, h⟩, fun h => ?_⟩
  · show k * y1 + (r + y1) = n
    omega
  · show k = _
    apply le_of_exit n y y1 y0 d k (r + y1) hy (by omega) (by omega) (Nat.le_of_lt_succ hlt)
    have hk : k ≤ 4294967296 := by omega
    calc k * y0 ≤ 4294967296 * 4294967295 := Nat.mul_le_mul hk (by omega)
      _ ≤ 4294967296 * (r + y1) + d := by omega

/-- The test says no: q is the quotient. -/
theorem inv_exit (n y y1 y0 d q r : Nat) (hy : y = y1 * 4294967296 + y0) (hyp : 0 < y) (hI : Inv n y y1 d q r) (ht : q * y0 ≤ 4294967296 * r + d) : q = (n * 4294967296 + d) / y :=
  le_of_exit n y y1 y0 d q r hy hyp hI.1 hI.2.1 ht

theorem quo_lt (n y d : Nat) (hd : d < 4294967296) (hn : n < y) : (n * 4294967296 + d) / y < 4294967296 := by
  rw [Nat.div_lt_iff_lt_mul (by omega), Nat.mul_comm 4294967296 y]
  omega

theorem rem_aux (n d P R y : Nat) (h1 : P + R = n * 4294967296 + d) (h2 : R < y) (hy : y < 18446744073709551616) :
    ((((n * 4294967296) % 18446744073709551616 + d) % 18446744073709551616 : Nat) - (P % 18446744073709551616 : Nat) : Int) % 18446744073709551616 = ((R : Nat) : Int) := by
  omega

/-- What the first step leaves, reckoned modulo 2^64. -/
theorem rem_wrap (n y d : Nat) (hy : y < 18446744073709551616) (hyp : 0 < y) :
    ((((n * 4294967296) % 18446744073709551616 + d) % 18446744073709551616 : Nat) - (((n * 4294967296 + d) / y * y) % 18446744073709551616 : Nat) : Int) % 18446744073709551616 = (((n * 4294967296 + d) % y : Nat) : Int) :=
  rem_aux n d _ _ y (by rw [Nat.mul_comm]; exact Nat.div_add_mod _ y) (Nat.mod_lt _ hyp) hy

theorem two_aux (n y d1 d0 q1 u : Nat) (h1 : y * q1 + u = n * 4294967296 + d1) :
    n * 18446744073709551616 + (d1 * 4294967296 + d0) = (u * 4294967296 + d0) + y * (q1 * 4294967296) := by
  rw [← Nat.mul_assoc]
  omega

theorem two_steps (n y d1 d0 : Nat) (hyp : 0 < y) :
    ((n * 4294967296 + d1) / y) * 4294967296 + (((n * 4294967296 + d1) % y) * 4294967296 + d0) / y = (n * 18446744073709551616 + (d1 * 4294967296 + d0)) / y ∧
    (((n * 4294967296 + d1) % y) * 4294967296 + d0) % y = (n * 18446744073709551616 + (d1 * 4294967296 + d0)) % y := by
  have e := two_aux n y d1 d0 _ _ (Nat.div_add_mod (n * 4294967296 + d1) y)
  rw [e, Nat.add_mul_div_left _ _ hyp, Nat.add_mul_mod_self_left]
  exact ⟨Nat.add_comm _ _, rfl⟩

/-- Both numbers moved by s places: the quotient is the same, the remainder is moved. -/
theorem shifted (x y s : Nat) (_hyp : 0 < y) : (x * 2 ^ s) / (y * 2 ^ s) = x / y ∧ (x * 2 ^ s) % (y * 2 ^ s) / 2 ^ s = x % y := by
  have hp := Nat.two_pow_pos s
  refine ⟨Nat.mul_div_mul_right _ _ hp, ?_⟩
  rw [Nat.mul_mod_mul_right, Nat.mul_div_cancel _ hp]

end Go.Proofs.Qxb6605612a.DivMath
