/-
  The contract of gorelease.AlignUp (function 5), and of the two laws' walks what they share.
-/
import Derived.Test.Qxb6619334aRows
import Derived.Test.Qxb6619334aPlain
import Derived.WalkKit
import Derived.ProofKit
import Derived.OpenShut
namespace Go.Proofs.Qxb6619334a
open Go.ChangeShapes Go.WideShapes Go.ChangeAt Go.RowKit
open Plain

theorem ret_int {k : IntKind} {a b : Int} (h : a = b) : Ending.returned (.int k a) = .returned (.int k b) := by rw [h]

theorem align_low (n a : Int) (h : a ≤ 1) (w : World) :
    Calls Try.prog 5 #[.int .i64 n, .int .i64 a] w fun e w' => e = .returned (.int .i64 n) ∧ w' = w := by
  go_enter Try.func5, Try.ntmps5
  go_wp2
  go_ret
  exact ⟨rfl, rfl⟩

theorem align_any (n a : Int) (ha : 1 ≤ a) (hn : 0 ≤ n) (hb : n + a - 1 ≤ 9223372036854775807) (w : World) :
    Calls Try.prog 5 #[.int .i64 n, .int .i64 a] w fun e w' => e = .returned (.int .i64 (au n a)) ∧ w' = w := by
  by_cases h1 : a ≤ 1
  · have e1 : a = 1 := by omega
    have e2 : au n a = n := by rw [e1]; exact au_one n
    rw [e2]
    exact align_low n a h1 w
  · have hs := au_spec n a ha
    unfold au at hs
    obtain ⟨hs1, hs2⟩ := hs
    have hq : 0 ≤ (n + a - 1) / a := Int.ediv_nonneg (by omega) (by omega)
    have hq2 : (n + a - 1) / a ≤ n + a - 1 := Int.ediv_le_self _ (by omega)
    have h2 : 1 < a := by omega
    have E1 : wrap64 (wrap64 (n + a) - 1) = n + a - 1 := by unfold wrap64; omega
    have E2 : (n + a - 1).tdiv a = (n + a - 1) / a := Int.tdiv_eq_ediv_of_nonneg (by omega)
    have E3 : wrap64 ((n + a - 1) / a) = (n + a - 1) / a := IntWalk.wrap64_in _ ⟨by omega, by omega⟩
    have E4 : wrap64 ((n + a - 1) / a * a) = (n + a - 1) / a * a := IntWalk.wrap64_in _ ⟨by omega, by omega⟩
    have E : Hid (wrap64 (wrap64 ((wrap64 (wrap64 (n + a) - 1)).tdiv a) * a) = au n a) := by
      unfold au
      exact (by rw [E1, E2, E3, E4] : wrap64 (wrap64 ((wrap64 (wrap64 (n + a) - 1)).tdiv a) * a) = (n + a - 1) / a * a)
    clear h1 hs1 hs2 hq hq2 E1 E2 E3 E4 hb
    go_enter Try.func5, Try.ntmps5
    go_wp2
    go_ret
    exact ⟨ret_int E.out, rfl⟩
end Go.Proofs.Qxb6619334a
