/-
  A scan over a list of bytes, no Go in sight: from place k on, as long as P holds.
-/
namespace Go.Proofs.Qxb6619430a.Scan

/-- The least place at or behind k that is the end or does not fit P. -/
def scan (P : Int → Bool) (zs : List Int) (k : Nat) : Nat := k + ((zs.drop k).takeWhile P).length

variable {P : Int → Bool} {zs : List Int} {k : Nat}

theorem scan_ge : k ≤ scan P zs k := by unfold scan; omega

theorem scan_step (h : k < zs.length) (hp : P (zs.getD k 0) = true) : scan P zs (k + 1) = scan P zs k := by
  have e : zs.drop k = zs.getD k 0 :: zs.drop (k + 1) := by
    rw [List.drop_eq_getElem_cons h]; simp [List.getD, h]
  unfold scan
  rw [e, List.takeWhile_cons, if_pos hp]
  simp; omega

theorem scan_stop (h : k < zs.length) (hp : P (zs.getD k 0) = false) : scan P zs k = k := by
  have e : zs.drop k = zs.getD k 0 :: zs.drop (k + 1) := by
    rw [List.drop_eq_getElem_cons h]; simp [List.getD, h]
  unfold scan
  rw [e, List.takeWhile_cons, if_neg (by rw [hp]; exact Bool.false_ne_true)]
  simp

theorem scan_out (h : zs.length ≤ k) : scan P zs k = k := by
  unfold scan
  rw [List.drop_eq_nil_of_le h]
  simp

theorem scan_le (h : k ≤ zs.length) : scan P zs k ≤ zs.length := by
  unfold scan
  have h1 := (List.takeWhile_prefix P (l := zs.drop k)).length_le
  rw [List.length_drop] at h1
  omega

/-- All that is known of the scan's end, by going up from k. -/
theorem scan_ind (n : Nat) : ∀ k, zs.length - k = n → (∀ j, k ≤ j → j < scan P zs k → P (zs.getD j 0) = true) ∧ (scan P zs k < zs.length → P (zs.getD (scan P zs k) 0) = false) := by
  induction n with
  | zero =>
    intro k hk
    rw [scan_out (by omega)]
    exact ⟨fun j h1 h2 => by omega, fun h => by omega⟩
  | succ n ih =>
    intro k hk
    cases hp : P (zs.getD k 0) with
    | false =>
      rw [scan_stop (by omega) hp]
      exact ⟨fun j h1 h2 => by omega, fun _ => hp⟩
    | true =>
      obtain ⟨i1, i2⟩ := ih (k + 1) (by omega)
      rw [scan_step (by omega) hp] at i1 i2
      refine ⟨fun j h1 h2 => ?_, i2⟩
      by_cases e : j = k
      · rw [e]; exact hp
      · exact i1 j (by omega) h2

theorem scan_all {j : Nat} (h1 : k ≤ j) (h2 : j < scan P zs k) : P (zs.getD j 0) = true := (scan_ind _ k rfl).1 j h1 h2
theorem scan_end (h : scan P zs k < zs.length) : P (zs.getD (scan P zs k) 0) = false := (scan_ind _ k rfl).2 h

/-- What has these three marks is the scan's end. -/
theorem scan_unique {q : Nat} (h0 : k ≤ q) (h1 : ∀ j, k ≤ j → j < q → P (zs.getD j 0) = true) (hq : q ≤ zs.length) (h2 : q < zs.length → P (zs.getD q 0) = false) : scan P zs k = q := by
  have g := scan_ge (P := P) (zs := zs) (k := k)
  by_cases a : scan P zs k < q
  · have e1 := scan_end (P := P) (zs := zs) (k := k) (by omega)
    rw [h1 _ g a] at e1
    cases e1
  · by_cases b : q < scan P zs k
    · have e1 := scan_all (P := P) (zs := zs) h0 b
      have hl := scan_le (P := P) (zs := zs) (k := k) (by omega)
      rw [h2 (by omega)] at e1
      cases e1
    · omega

theorem scan_again : scan P zs (scan P zs k) = scan P zs k := by
  by_cases h : scan P zs k < zs.length
  · exact scan_stop h (scan_end h)
  · exact scan_out (by omega)

theorem getD_take {c j : Nat} (h : j < c) : (zs.take c).getD j 0 = zs.getD j 0 := by
  simp [List.getD, h]

/-- A cut: the scan of what lies ahead of it stops there, or goes on behind it. -/
theorem scan_cut {c : Nat} (hk : k ≤ c) (hc : c ≤ zs.length) :
    (scan P (zs.take c) k < c ∧ scan P (zs.take c) k = scan P zs k) ∨ (scan P (zs.take c) k = c ∧ scan P zs c = scan P zs k) := by
  have hlen : (zs.take c).length = c := by rw [List.length_take]; omega
  have hle := scan_le (P := P) (zs := zs.take c) (k := k) (by omega)
  rw [hlen] at hle
  have hge := scan_ge (P := P) (zs := zs.take c) (k := k)
  have hall : ∀ j, k ≤ j → j < scan P (zs.take c) k → P (zs.getD j 0) = true := fun j h1 h2 => by
    rw [← getD_take (c := c) (by omega)]; exact scan_all h1 h2
  by_cases h : scan P (zs.take c) k < c
  · refine Or.inl ⟨h, (scan_unique hge hall (by omega) (fun _ => ?_)).symm⟩
    rw [← getD_take h]
    exact scan_end (by omega)
  · have e : scan P (zs.take c) k = c := by omega
    refine Or.inr ⟨e, ?_⟩
    rw [e] at hall
    have g := scan_ge (P := P) (zs := zs) (k := c)
    refine (scan_unique (by omega) (fun j h1 h2 => ?_) (scan_le hc) (fun h => scan_end h)).symm
    by_cases hj : j < c
    · exact hall j h1 hj
    · exact scan_all (by omega) h2
end Go.Proofs.Qxb6619430a.Scan
