/-
  The walk of FnOrNoneIsTheNoneLabel (3).
-/
import Derived.Test.Qxb6619476aOrNone
namespace Go.Proofs.Qxb6619476a
open Go.ChangeShapes Go.WideShapes Go.ChangeAt Go.RowKit

theorem ret_bool {a : Bool} (h : a = true) : Ending.returned (.bool a) = .returned (.bool true) := by rw [h]

theorem orN_full (l : List UInt8) : (orN l).isEmpty = false := by
  unfold orN
  cases h : l.isEmpty
  · exact h
  · rfl

theorem orN_again (l : List UInt8) : orN (orN l) = orN l := orN_other (orN_full l)

/-- The plain law. -/
theorem orN_law (l m : List UInt8) : (orN l == orN m) = (l == m || (l.isEmpty && m == none4) || (l == none4 && m.isEmpty)) := by
  rw [Bool.eq_iff_iff]
  simp only [beq_iff_eq, Bool.or_eq_true, Bool.and_eq_true, List.isEmpty_iff]
  by_cases hl : l = []
  · subst hl
    by_cases hm : m = []
    · subst hm
      simp
    · rw [orN_empty, orN_other (by simpa using hm)]
      constructor
      · intro h
        exact .inl (.inr ⟨rfl, h.symm⟩)
      · rintro ((h | h) | h)
        · exact absurd h.symm hm
        · exact h.2.symm
        · exact absurd h.2 hm
  · rw [orN_other (by simpa using hl)]
    by_cases hm : m = []
    · subst hm
      rw [orN_empty]
      constructor
      · intro h
        exact .inr ⟨h, rfl⟩
      · rintro ((h | h) | h)
        · exact absurd h hl
        · exact absurd h.1 hl
        · exact h.1
    · rw [orN_other (by simpa using hm)]
      constructor
      · intro h
        exact .inl (.inl h)
      · rintro ((h | h) | h)
        · exact h
        · exact absurd h.1 hl
        · exact absurd h.2 hm

set_option maxHeartbeats 1000000 in
theorem label_walk (l m : List UInt8) (ha : l.length ≤ 9223372036854775807) (hb : m.length ≤ 9223372036854775807) (w : World) :
    Calls Try.prog 3 #[.string ⟨l.toArray⟩, .string ⟨m.toArray⟩] w fun e w' => e = .returned (.bool true) ∧ w = w' := by
  go_enter Try.func3, Try.ntmps3
  go_wp2_with fail
  refine (bytes_any _ _ (by simpa [ByteArray.size] using ha) (by simpa [ByteArray.size] using hb) _).mono ?_
  rintro e w' ⟨⟨t, rfl⟩, rfl⟩
  cases t
  · go_wp2
    go_ret
    exact ⟨rfl, rfl⟩
  by_cases h1 : 524288 < l.length
  · go_wp2
    go_ret
    exact ⟨rfl, rfl⟩
  by_cases h2 : 524288 < m.length
  · go_wp2
    go_ret
    exact ⟨rfl, rfl⟩
  go_wp2_with fail
  refine (zzOrNone_any l _).mono ?_
  rintro e w' ⟨rfl, rfl⟩
  go_wp2_with fail
  refine (zzOrNone_any m _).mono ?_
  rintro e w' ⟨rfl, rfl⟩
  have hx := orN_full l
  have hy := orN_full m
  have HX : Hid (orN (orN l) = orN l) := orN_again l
  have HY : Hid (orN (orN m) = orN m) := orN_again m
  have HF : Hid ((orN l == orN m) = (l == m || (l.isEmpty && m == none4) || (l == none4 && m.isEmpty))) := orN_law l m
  obtain ⟨x, ex⟩ : ∃ x, orN l = x := ⟨_, rfl⟩
  obtain ⟨y, ey⟩ : ∃ y, orN m = y := ⟨_, rfl⟩
  rw [ex] at hx HX HF ⊢
  rw [ey] at hy HY HF ⊢
  clear ex ey
  go_wp2_with fail
  refine (zzOrNone_any x _).mono ?_
  rintro e w' ⟨rfl, rfl⟩
  rw [HX.out]
  go_wp2_with fail
  refine (zzOrNone_any y _).mono ?_
  rintro e w' ⟨rfl, rfl⟩
  rw [HY.out]
  clear HX HY
  go_wp2
  all_goals
    go_ret
    refine ⟨ret_bool ?_, rfl⟩
    have hF := HF.out
    clear HF
    simp_all [none4]
    try (rw [Bool.eq_iff_iff]; simp_all)
end Go.Proofs.Qxb6619476a
