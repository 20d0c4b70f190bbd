/-
  Contracts of bytes.Equal (18) and bytes.HasPrefix (17), as this program's own text has them.
-/
import Derived.Test.Qxb6619430aBytes
import Derived.Laws.BytesArg
import Derived.Laws.IdiomStrings
namespace Go.Proofs.Qxb6619430a
open Go.ChangeShapes Go.WideShapes Go.ChangeAt Go.RowKit
open Scan

/-- Bytes as the cells hold them. -/
def ints (bs : List UInt8) : List Int := bs.map fun b => (b.toNat : Int)
theorem ints_length (bs : List UInt8) : (ints bs).length = bs.length := by simp [ints]
theorem ints_take (bs : List UInt8) (n : Nat) : ints (bs.take n) = (ints bs).take n := by simp [ints]
theorem ints_drop (bs : List UInt8) (n : Nat) : ints (bs.drop n) = (ints bs).drop n := by simp [ints]
theorem ints_getD (bs : List UInt8) (i : Nat) (h : i < bs.length) : (ints bs).getD i 0 = (bs[i].toNat : Int) := by simp [ints, List.getD, h]

theorem strOfNums_ints (bs : List UInt8) : strOfNums (ints bs) = ⟨bs.toArray⟩ := by
  unfold strOfNums ints
  rw [List.map_map]
  congr 2
  rw [show ((fun n : Int => UInt8.ofNat n.toNat) ∘ fun b : UInt8 => (b.toNat : Int)) = id from by funext b; simp]
  simp

/-- string(b). -/
theorem conv_bytes {w : World} {a : Option Addr} {bs : List UInt8} {n : Nat} (h : Bs w a (ints bs)) (hn : bs.length = n) (c : Nat) :
    (convert 22 9 (.slice a n c)).run Try.prog w = .ok (.string ⟨bs.toArray⟩) w := by
  rcases h with h0 | ⟨g, off, rfl, hg, hc⟩
  · obtain rfl : bs = [] := by simpa [ints] using h0
    subst hn
    rw [run_convert_bytes_string w 22 9 5 _ _ c Try.underlying22 Try.underlying5 Try.underlying9]
    cases a <;> simp [Conv.bytesToString, loadCells]
    all_goals rfl
  · have := run_convert_bytes_arg (P := Try.prog) w 22 5 Try.underlying22 Try.underlying5 g off n c (ints bs) (by rw [ints_length]; exact hn) (fun i hi => hc i (by rw [ints_length]; omega)) 9 Try.underlying9
    rw [strOfNums_ints] at this
    exact this

theorem equal_any (a b : Option Addr) (n m c d : Nat) (bs cs : List UInt8) (w : World) (hn : bs.length = n) (hm : cs.length = m) (ha : Bs w a (ints bs)) (hb : Bs w b (ints cs)) :
    Calls Try.prog 18 #[.slice a n c, .slice b m d] w fun e w' => e = .returned (.bool (bs == cs)) ∧ w = w' := by
  have g1 := conv_bytes ha hn c
  have g2 := conv_bytes hb hm d
  clear ha hb
  go_enter Try.func18, Try.ntmps18
  go_wp2
  go_ret
  exact ⟨by simp, rfl⟩

/-- Does bs begin with cs? -/
def hp (bs cs : List UInt8) : Bool := decide (cs.length ≤ bs.length) && (bs.take cs.length == cs)

theorem hasPrefix_any (a b : Option Addr) (n m c d : Nat) (bs cs : List UInt8) (w : World) (hn : bs.length = n) (hm : cs.length = m) (hnc : n ≤ c) (hmd : m ≤ 1048576) (ha : Bs w a (ints bs)) (hb : Bs w b (ints cs)) :
    Calls Try.prog 17 #[.slice a n c, .slice b m d] w fun e w' => e = .returned (.bool (hp bs cs)) ∧ w = w' := by
  unfold hp
  by_cases h : m ≤ n
  · rw [hm, hn, decide_eq_true h, Bool.true_and]
    have ht : (bs.take m).length = m := by rw [List.length_take]; omega
    have hat : Bs w a (ints (bs.take m)) := by rw [ints_take]; exact ha.take m
    go_enter Try.func17, Try.ntmps17
    go_wp2_with (go_at_call 18; refine (equal_any _ _ _ _ _ _ _ _ _ ht hm hat hb).mono ?_; rintro e w2 ⟨rfl, rfl⟩)
    go_ret
    exact ⟨rfl, rfl⟩
  · rw [hm, hn, decide_eq_false h, Bool.false_and]
    go_enter Try.func17, Try.ntmps17
    go_wp2
    go_ret
    exact ⟨rfl, rfl⟩
end Go.Proofs.Qxb6619430a
