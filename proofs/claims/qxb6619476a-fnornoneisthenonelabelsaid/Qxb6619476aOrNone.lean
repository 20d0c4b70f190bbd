/-
  Contracts of orNone (6), ZZOrNone (5), zzBytes (4).
-/
import Derived.Test.Qxb6619476aRows
import Derived.WalkKit
import Derived.ProofKit
import Derived.OpenShut
import Derived.ShutString
namespace Go.Proofs.Qxb6619476a
open Go.ChangeShapes Go.WideShapes Go.ChangeAt Go.RowKit

/-- The label. -/
def none4 : List UInt8 := [110, 111, 110, 101]
/-- orNone on the bytes. -/
def orN (l : List UInt8) : List UInt8 := if l.isEmpty then none4 else l

theorem orN_empty : orN [] = none4 := rfl
theorem orN_other {l : List UInt8} (h : l.isEmpty = false) : orN l = l := by unfold orN; rw [h]; rfl

theorem orNone_any (l : List UInt8) (w : World) : Calls Try.prog 6 #[.string ⟨l.toArray⟩] w fun e w' => e = .returned (.string ⟨(orN l).toArray⟩) ∧ w = w' := by
  cases h : l.isEmpty
  · rw [orN_other h]
    go_enter Try.func6, Try.ntmps6
    go_wp2
    go_ret
    exact ⟨rfl, rfl⟩
  · obtain rfl : l = [] := List.isEmpty_iff.1 h
    go_enter Try.func6, Try.ntmps6
    go_wp2
    go_ret
    exact ⟨rfl, rfl⟩

theorem zzOrNone_any (l : List UInt8) (w : World) : Calls Try.prog 5 #[.string ⟨l.toArray⟩] w fun e w' => e = .returned (.string ⟨(orN l).toArray⟩) ∧ w = w' := by
  go_enter Try.func5, Try.ntmps5
  go_wp2_with fail
  refine (orNone_any l w).mono ?_
  rintro e w' ⟨rfl, rfl⟩
  go_wp2
  go_ret
  exact ⟨rfl, rfl⟩

theorem bytes_any (a b : ByteArray) (ha : a.size ≤ 9223372036854775807) (hb : b.size ≤ 9223372036854775807) (w : World) :
    Calls Try.prog 4 #[.string a, .string b] w fun e w' => (∃ t : Bool, e = .returned (.bool t)) ∧ w = w' := by
  go_enter Try.func4, Try.ntmps4
  go_wp2
  all_goals
    go_ret
    exact ⟨⟨_, rfl⟩, rfl⟩
end Go.Proofs.Qxb6619476a
