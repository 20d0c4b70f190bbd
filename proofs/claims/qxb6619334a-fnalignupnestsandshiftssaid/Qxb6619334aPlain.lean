/-
  The plain law of AlignUp: no Go in sight.
-/
namespace Go.Proofs.Qxb6619334a.Plain

/-- n rounded up to a multiple of a, for 1 <= a. -/
def au (n a : Int) : Int := (n + a - 1) / a * a

theorem au_spec (n a : Int) (ha : 1 ≤ a) : n ≤ au n a ∧ au n a < n + a := by
  unfold au
  have h1 := Int.emod_add_mul_ediv (n + a - 1) a
  have h2 := Int.emod_nonneg (n + a - 1) (b := a) (by omega)
  have h3 := Int.emod_lt_of_pos (n + a - 1) (b := a) (by omega)
  rw [Int.mul_comm] at h1
  omega

theorem au_mod (n a : Int) : au n a % a = 0 := by
  unfold au
  exact Int.mul_emod_left _ _

theorem au_dvd (n a : Int) : a ∣ au n a := by
  unfold au
  exact Int.dvd_mul_left _ _

/-- The least multiple at or above is the only multiple in [n, n + a). -/
theorem au_unique (n a r : Int) (ha : 1 ≤ a) (hd : a ∣ r) (h1 : n ≤ r) (h2 : r < n + a) : au n a = r := by
  have hs := au_spec n a ha
  obtain ⟨c, hc⟩ := au_dvd n a
  obtain ⟨d, hd⟩ := hd
  by_cases h : c < d
  · exfalso
    have : a * (c + 1) ≤ a * d := Int.mul_le_mul_of_nonneg_left (by omega) (by omega)
    rw [Int.mul_add] at this
    omega
  · by_cases h' : d < c
    · exfalso
      have : a * (d + 1) ≤ a * c := Int.mul_le_mul_of_nonneg_left (by omega) (by omega)
      rw [Int.mul_add] at this
      omega
    · have : c = d := by omega
      rw [hc, hd, this]

theorem au_idem (n a : Int) (ha : 1 ≤ a) : au (au n a) a = au n a :=
  au_unique _ _ _ ha (au_dvd n a) (by omega) (by omega)

theorem au_one (n : Int) : au n 1 = n := by
  unfold au; omega

theorem au_shift (n a : Int) (ha : 1 ≤ a) : au (n + a) a = au n a + a := by
  have hs := au_spec n a ha
  exact au_unique _ _ _ ha (Int.dvd_add (au_dvd n a) (Int.dvd_refl a)) (by omega) (by omega)

theorem au_nest (n a k : Int) (ha : 1 ≤ a) (hk : 1 ≤ k) : au (au n a) (a * k) = au n (a * k) := by
  have hm : a ≤ a * k := by
    have : a * 1 ≤ a * k := Int.mul_le_mul_of_nonneg_left hk (by omega)
    omega
  have hs := au_spec n a ha
  have hM := au_spec n (a * k) (by omega)
  have hle : au n a ≤ au n (a * k) := by
    obtain ⟨c, hc⟩ := au_dvd n a
    obtain ⟨d, hd⟩ := au_dvd n (a * k)
    rw [Int.mul_assoc] at hd
    by_cases h : k * d < c
    · exfalso
      have : a * (k * d + 1) ≤ a * c := Int.mul_le_mul_of_nonneg_left (by omega) (by omega)
      rw [Int.mul_add] at this
      omega
    · have : a * c ≤ a * (k * d) := Int.mul_le_mul_of_nonneg_left (by omega) (by omega)
      omega
  exact au_unique _ _ _ (by omega) (au_dvd n (a * k)) hle (by omega)

theorem au_dist (n a : Int) (ha : 1 ≤ a) : au n a = n + (a - n % a) % a := by
  have h2 := Int.emod_nonneg n (b := a) (by omega)
  have h3 := Int.emod_lt_of_pos n (b := a) (by omega)
  have h4 := Int.emod_nonneg (a - n % a) (b := a) (by omega)
  have h5 := Int.emod_lt_of_pos (a - n % a) (b := a) (by omega)
  refine au_unique _ _ _ ha ?_ (by omega) (by omega)
  apply Int.dvd_of_emod_eq_zero
  rw [Int.add_emod, Int.emod_emod_of_dvd _ (Int.dvd_refl a), ← Int.add_emod, Int.add_sub_assoc .. |>.symm]
  have : n + a - n % a = a * (n / a + 1) := by
    have := Int.emod_add_mul_ediv n a
    rw [Int.mul_add]; omega
  rw [this]
  exact Int.mul_emod_right _ _

theorem mul_bound (a k M : Int) (hk : 1 ≤ k) (h : a ≤ M / k) : a * k ≤ M := by
  have := Int.mul_le_of_le_ediv (by omega) h
  exact this

theorem mul_ge (a k : Int) (ha : 1 ≤ a) (hk : 1 ≤ k) : a ≤ a * k := by
  have : a * 1 ≤ a * k := Int.mul_le_mul_of_nonneg_left hk (by omega)
  omega
end Go.Proofs.Qxb6619334a.Plain
