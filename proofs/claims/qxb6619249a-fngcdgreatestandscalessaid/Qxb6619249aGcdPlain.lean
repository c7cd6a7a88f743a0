/-
  THE PLAIN LAW OF THE GREATEST COMMON DIVISOR over Int: no Go in sight. 'gcdI a b': the greatest common divisor as an Int. 'topU': the greatest uint64.
-/
namespace Go.Proofs.Qxb6619249a.Gcd

def gcdI (a b : Int) : Int := ((Int.gcd a b : Nat) : Int)

theorem gcdI_nil (a : Int) (h : 0 ≤ a) : gcdI a 0 = a := by
  unfold gcdI
  rw [Int.gcd_zero_right]
  omega

theorem gcdI_step (a b : Int) (ha : 0 ≤ a) (hb : 0 ≤ b) : gcdI b (a % b) = gcdI a b := by
  unfold gcdI
  obtain ⟨m, rfl⟩ := Int.eq_ofNat_of_zero_le ha
  obtain ⟨n, rfl⟩ := Int.eq_ofNat_of_zero_le hb
  have e : ((m : Int) % (n : Int)) = ((m % n : Nat) : Int) := by simp
  rw [e]
  have h1 : Int.gcd (n : Int) ((m % n : Nat) : Int) = Nat.gcd n (m % n) := by rw [Int.gcd, Int.natAbs_natCast, Int.natAbs_natCast]
  have h2 : Int.gcd (m : Int) (n : Int) = Nat.gcd m n := by rw [Int.gcd, Int.natAbs_natCast, Int.natAbs_natCast]
  rw [h1, h2, Nat.gcd_comm m n, Nat.gcd_rec n m, Nat.gcd_comm n]

theorem gcdI_flip (a b : Int) : gcdI b a = gcdI a b := by
  unfold gcdI
  rw [Int.gcd_comm]

theorem gcdI_pos (a b : Int) (h : a ≠ 0 ∨ b ≠ 0) : 1 ≤ gcdI a b := by
  unfold gcdI
  have := Int.gcd_pos_iff.2 h
  omega

theorem gcdI_nonneg (a b : Int) : 0 ≤ gcdI a b := by
  unfold gcdI
  omega

theorem gcdI_left (a b : Int) : a % gcdI a b = 0 := Int.emod_eq_zero_of_dvd (Int.gcd_dvd_left a b)

theorem gcdI_right (a b : Int) : b % gcdI a b = 0 := Int.emod_eq_zero_of_dvd (Int.gcd_dvd_right a b)

/-- the divisor is at most whatever bounds both -/
theorem gcdI_le (a b m : Int) (ha : 0 ≤ a) (hb : 0 ≤ b) (h1 : a ≤ m) (h2 : b ≤ m) : gcdI a b ≤ m := by
  by_cases h : a = 0
  · subst h
    rw [← gcdI_flip, gcdI_nil b hb]
    exact h2
  · exact Int.le_trans (Int.le_of_dvd (by omega) (Int.gcd_dvd_left a b)) h1

theorem gcdI_greatest (a b d : Int) (h1 : a % d = 0) (h2 : b % d = 0) : gcdI a b % d = 0 :=
  Int.emod_eq_zero_of_dvd (Int.dvd_coe_gcd (Int.dvd_of_emod_eq_zero h1) (Int.dvd_of_emod_eq_zero h2))

theorem gcdI_scale (a b k : Int) (hk : 0 ≤ k) : gcdI (k * a) (k * b) = k * gcdI a b := by
  unfold gcdI
  rw [Int.gcd_mul_left]
  simp only [Int.natCast_mul]
  rw [show ((k.natAbs : Nat) : Int) = k by omega]

/-- 'k <= top / a' (or a = 0): the product fits -/
theorem fits (a k m : Int) (ha : 0 ≤ a) (hm : 0 ≤ m) (h : a = 0 ∨ k ≤ m / a) : k * a ≤ m := by
  by_cases h0 : a = 0
  · subst h0; simpa using hm
  · exact Int.mul_le_of_le_ediv (by omega) (by omega)

/-- the scaled divisor fits too -/
theorem fits_gcd (a b k m : Int) (ha : 0 ≤ a) (hb : 0 ≤ b) (hk : 0 ≤ k) (h1 : k * a ≤ m) (h2 : k * b ≤ m) : k * gcdI a b ≤ m := by
  rw [← gcdI_scale a b k hk]
  exact gcdI_le _ _ m (Int.mul_nonneg hk ha) (Int.mul_nonneg hk hb) h1 h2

end Go.Proofs.Qxb6619249a.Gcd
