/-
  Contracts of sameValue, ZZSameValue (functions 10, 7) and of the guards on lengths (5, 6, 9).
-/
import Derived.Test.Qxb6619409aRows
import Derived.WalkKit
import Derived.ProofKit
import Derived.OpenShut
import Derived.ShutString
import Derived.ChangeOld
import Derived.Below
import Derived.WalkSmall
import Derived.Deep.QuietTactic
import Derived.BigQuiet
namespace Go.Proofs.Qxb6619409a
open Go.ChangeShapes Go.WideShapes Go.ChangeAt Go.RowKit

/-- What a pointer to a string reads as: nil, or a cell that holds a string. -/
def IsStr (w : World) (p : Option Addr) (o : Option ByteArray) : Prop :=
  (p = none ∧ o = none) ∨ ∃ b off s, p = some ⟨b, off, none⟩ ∧ o = some s ∧ w.cell? ⟨b, off, none⟩ = some (.string s) ∧ b < w.heap.size ∧ s.size ≤ maxLen

/-- sameValue on what the pointers read as. -/
def sv (x y : Option ByteArray) : Bool := decide (x = y)

theorem IsStr.drewN {w : World} {p o} (h : IsStr w p o) (n : Nat) : IsStr (w.drewN n) p o := h

theorem sv_str (x y : ByteArray) : (x.toList == y.toList) = sv (some x) (some y) := by
  unfold sv
  rw [Bool.eq_iff_iff]
  simp only [beq_iff_eq, decide_eq_true_eq, Option.some.injEq, ByteArray.toList_eq]
  exact ⟨fun h => bytes_inj h, fun h => by rw [h]⟩

theorem sv_refl (x : Option ByteArray) : sv x x = true := by simp [sv]
theorem sv_symm (x y : Option ByteArray) : sv y x = sv x y := by unfold sv; rw [Bool.eq_iff_iff]; simp; exact eq_comm
theorem sv_trans {x y z : Option ByteArray} (h1 : sv x y = true) (h2 : sv y z = true) : sv x z = true := by
  unfold sv at *; simp only [decide_eq_true_eq] at *; rw [h1, h2]

theorem IsStr.alloc {w : World} {p o} (h : IsStr w p o) (c : Array Value) (t : TypeId) : IsStr (w.alloc (.cells c t)) p o := by
  rcases h with ⟨rfl, rfl⟩ | ⟨b, off, s, rfl, rfl, hc, hb, hs⟩
  · exact .inl ⟨rfl, rfl⟩
  · exact .inr ⟨b, off, s, rfl, rfl, by rw [World.cell?_of_block (w := w) (Below.heap_alloc w _ b hb)]; exact hc, by simp; omega, hs⟩

theorem IsStr.fresh (w : World) (s : ByteArray) (hs : s.size ≤ maxLen) (t : TypeId) : IsStr (w.alloc (.cells #[.string s] t)) (some ⟨w.heap.size, 0, none⟩) (some s) :=
  .inr ⟨_, _, _, rfl, rfl, by simp, by simp, hs⟩

/-- The five ways in which three registers can agree. -/
theorem five (x y z : Option ByteArray) : (sv x y = true ∧ sv y z = true ∧ sv x z = true) ∨ (sv x y = true ∧ sv y z = false ∧ sv x z = false) ∨ (sv x y = false ∧ sv y z = true ∧ sv x z = false) ∨ (sv x y = false ∧ sv y z = false ∧ sv x z = true) ∨ (sv x y = false ∧ sv y z = false ∧ sv x z = false) := by
  unfold sv
  by_cases h1 : x = y <;> by_cases h2 : y = z <;> by_cases h3 : x = z <;> simp_all

/-- Go's == of a nil pointer and one that is not nil. -/
theorem run_eql_nil_ptr {P : Program} {t e : TypeId} (ht : P.underlying t = some (.pointer e)) (a : Addr) (w : World) :
    (binOp .eql t (.pointer none) (.pointer (some a))).run P w = .ok (.bool false) w := by
  have h : ∀ d : Nat, (Op.equalIn (d + 1) t (.pointer none) (.pointer (some a))).run P w = .ok false w := fun d => by
    simp [Op.equalIn, run_underlying ht]
  simp only [binOp]
  simp [Op.equal, Op.maxDepth, h 9999]

set_option maxHeartbeats 400000 in
theorem same_any (p q : Option Addr) (x y : Option ByteArray) (w : World) (hx : IsStr w p x) (hy : IsStr w q y) :
    Calls Try.prog 10 #[.pointer p, .pointer q] w fun e w' => e = .returned (.bool (sv x y)) ∧ ∃ n, w' = w.drewN n := by
  rcases hx with ⟨rfl, rfl⟩ | ⟨b, off, s, rfl, rfl, hc, _, _⟩
  · rcases hy with ⟨rfl, rfl⟩ | ⟨b2, off2, s2, rfl, rfl, hc2, _, _⟩
    · go_enter Try.func10, Try.ntmps10
      go_wp2
      go_ret
      exact ⟨rfl, 0, rfl⟩
    · have hn := run_eql_nil_ptr Try.underlying22 (⟨b2, off2, none⟩ : Addr)
      go_enter Try.func10, Try.ntmps10
      go_wp2
      go_ret
      exact ⟨rfl, 0, rfl⟩
  · rcases hy with ⟨rfl, rfl⟩ | ⟨b2, off2, s2, rfl, rfl, hc2, _, _⟩
    · go_enter Try.func10, Try.ntmps10
      go_wp2
      go_ret
      exact ⟨rfl, 0, rfl⟩
    · rw [← sv_str]
      go_enter Try.func10, Try.ntmps10
      go_wp2
      go_quiet (fail)
      go_wp2
      go_ret
      exact ⟨rfl, _, rfl⟩

theorem zzSame_any (p q : Option Addr) (x y : Option ByteArray) (w : World) (hx : IsStr w p x) (hy : IsStr w q y) :
    Calls Try.prog 7 #[.pointer p, .pointer q] w fun e w' => e = .returned (.bool (sv x y)) ∧ ∃ n, w' = w.drewN n := by
  go_enter Try.func7, Try.ntmps7
  go_wp2_with (go_at_call 10; refine (same_any p q x y _ hx hy).mono ?_; rintro e w' ⟨rfl, n, rfl⟩)
  go_ret
  exact ⟨rfl, _, rfl⟩

set_option maxHeartbeats 400000 in
theorem bytes3_any (p q r : Option Addr) (x y z : Option ByteArray) (w : World) (hx : IsStr w p x) (hy : IsStr w q y) (hz : IsStr w r z) :
    Calls Try.prog 9 #[.pointer p, .pointer q, .pointer r] w fun e w' => (∃ t : Bool, e = .returned (.bool t)) ∧ w' = w := by
  rcases hx with ⟨rfl, rfl⟩ | ⟨b, off, s, rfl, rfl, hc, _, h1⟩ <;> rcases hy with ⟨rfl, rfl⟩ | ⟨b2, off2, s2, rfl, rfl, hc2, _, h2⟩ <;> rcases hz with ⟨rfl, rfl⟩ | ⟨b3, off3, s3, rfl, rfl, hc3, _, h3⟩
  all_goals
    go_enter Try.func9, Try.ntmps9
    go_wp2
    all_goals
      go_ret
      exact ⟨⟨_, rfl⟩, rfl⟩

set_option maxHeartbeats 400000 in
theorem ptrs_any (p q r : Option Addr) (x y z : Option ByteArray) (w : World) (hx : IsStr w p x) (hy : IsStr w q y) (hz : IsStr w r z) :
    Calls Try.prog 6 #[.pointer p, .pointer q, .pointer r] w fun e w' => (∃ t : Bool, e = .returned (.bool t)) ∧ w' = w := by
  rcases hx with ⟨rfl, rfl⟩ | ⟨b, off, s, rfl, rfl, hc, _, h1⟩ <;> rcases hy with ⟨rfl, rfl⟩ | ⟨b2, off2, s2, rfl, rfl, hc2, _, h2⟩ <;> rcases hz with ⟨rfl, rfl⟩ | ⟨b3, off3, s3, rfl, rfl, hc3, _, h3⟩
  all_goals
    go_enter Try.func6, Try.ntmps6
    go_wp2
    all_goals
      go_ret
      exact ⟨⟨_, rfl⟩, rfl⟩
end Go.Proofs.Qxb6619409a
