/-
  'bs begins with cs', no walk in sight.
-/
import Derived.Test.Qxb6619430aPrefix
namespace Go.Proofs.Qxb6619430a

theorem hp_iff (bs cs : List UInt8) : hp bs cs = true ↔ cs <+: bs := by
  unfold hp
  rw [List.prefix_iff_eq_take]
  simp only [Bool.and_eq_true, decide_eq_true_eq, beq_iff_eq]
  constructor
  · rintro ⟨_, h⟩
    exact h.symm
  · intro h
    refine ⟨?_, h.symm⟩
    have := congrArg List.length h
    rw [List.length_take] at this
    omega

/-- Byte by byte. -/
theorem hp_bytes (bs cs : List UInt8) : hp bs cs = true ↔ cs.length ≤ bs.length ∧ ∀ j, j < cs.length → bs.getD j 0 = cs.getD j 0 := by
  rw [hp_iff]
  constructor
  · rintro ⟨t, rfl⟩
    refine ⟨by simp, fun j hj => ?_⟩
    simp [List.getD, List.getElem?_append_left hj]
  · rintro ⟨hl, h⟩
    rw [List.prefix_iff_eq_take]
    apply List.ext_getElem?
    intro j
    by_cases hj : j < cs.length
    · have := h j hj
      rw [List.getElem?_take_of_lt hj, List.getElem?_eq_getElem hj, List.getElem?_eq_getElem (by omega)]
      simpa [List.getD, hj, show j < bs.length by omega] using this.symm
    · rw [List.getElem?_eq_none (by omega), List.getElem?_eq_none (by rw [List.length_take]; omega)]

/-- A word in two parts. -/
theorem hp_parts (bs cs : List UInt8) (c : Nat) (hc : c ≤ cs.length) : hp bs cs = (hp bs (cs.take c) && hp (bs.drop c) (cs.drop c)) := by
  rw [Bool.eq_iff_iff, Bool.and_eq_true, hp_iff, hp_iff, hp_iff]
  have hl : (cs.take c).length = c := by rw [List.length_take]; omega
  constructor
  · rintro ⟨t, rfl⟩
    refine ⟨⟨cs.drop c ++ t, by rw [← List.append_assoc, List.take_append_drop]⟩, ⟨t, ?_⟩⟩
    rw [List.drop_append_of_le_length hc]
  · rintro ⟨⟨t, ht⟩, ⟨u, hu⟩⟩
    refine ⟨u, ?_⟩
    have e : bs.drop c = t := by rw [← ht, List.drop_append_of_le_length (by omega), List.drop_eq_nil_of_le (by omega), List.nil_append]
    rw [e] at hu
    rw [← ht, ← hu, ← List.append_assoc, List.take_append_drop]

theorem hp_take_le (bs cs : List UInt8) (h : hp bs cs = true) : cs.length ≤ bs.length := ((hp_bytes bs cs).1 h).1
end Go.Proofs.Qxb6619430a
