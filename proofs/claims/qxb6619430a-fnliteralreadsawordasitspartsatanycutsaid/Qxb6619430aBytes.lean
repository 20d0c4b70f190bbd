/-
  Slices of bytes as the walks speak of them; the copy that each law makes first.
-/
import Derived.Test.Qxb6619430aRows
import Derived.Test.Qxb6619430aScan
import Derived.WalkKit
import Derived.ProofKit
import Derived.OpenShut
import Derived.ShutString
import Derived.ChangeOld
import Derived.Below
import Derived.WalkSmall
import Derived.Deep.QuietTactic
import Derived.BigQuiet
import Derived.Laws.CopyOwn
import Derived.OwnWalk
import Derived.Laws.Rows
namespace Go.Proofs.Qxb6619430a
open Go.ChangeShapes Go.WideShapes Go.ChangeAt Go.RowKit
open Scan

/-- The bytes zs lie where a slice at address a leads: nil (or wherever) where there is none. -/
def Bs (w : World) (a : Option Addr) (zs : List Int) : Prop :=
  zs = [] ∨ ∃ g off, a = some ⟨g, off, none⟩ ∧ g < w.heap.size ∧ ∀ i, i < zs.length → w.cell? ⟨g, off + i, none⟩ = some (.int .u8 (zs.getD i 0))

theorem Bs.below {w w' : World} {a : Option Addr} {zs : List Int} {B : Nat} (h : Bs w a zs) (hb : Below B w w') (hB : w.heap.size ≤ B) : Bs w' a zs := by
  rcases h with rfl | ⟨g, off, rfl, hg, hc⟩
  · exact .inl rfl
  · exact .inr ⟨g, off, rfl, by have := hb.size; omega, fun i hi => (hb.cell (p := ⟨g, off + i, none⟩) (by simp; omega)).trans (hc i hi)⟩

theorem Bs.take {w : World} {a : Option Addr} {zs : List Int} (h : Bs w a zs) (c : Nat) : Bs w a (zs.take c) := by
  rcases h with rfl | ⟨g, off, rfl, hg, hc⟩
  · exact .inl (by simp)
  · exact .inr ⟨g, off, rfl, hg, fun i hi => by rw [List.length_take] at hi; rw [hc i (by omega), Scan.getD_take (by omega)]⟩

theorem cell_set_off {w : World} {p q : Addr} {v : Value} (h : p ≠ q) : (w.setCell p v).cell? q = w.cell? q := by
  simp [World.cell?_setCell_other, h]
theorem cell_set_on {w : World} {p : Addr} {u v : Value} (h : w.cell? p = some u) : (w.setCell p v).cell? p = some v := by
  simp [World.cell?_setCell_same, h]

/-- What a walk is told of the slice of bytes that came in. -/
def Src (w : World) (a : Option Addr) (zs : List Int) : Prop :=
  (a = none ∧ zs = []) ∨ ∃ x, a = some x ∧ ∀ i, i < zs.length → w.cell? (x.add i) = some (.int .u8 (zs.getD i 0))

theorem info5 : (Try.prog.info? 5).map (fun i => (i.zero, i.size, i.bytes)) = some (some (.int .u8 0), 1, 1) := by kernel_rfl

/-- make([]byte, len). -/
theorem make_bytes (len : Nat) (h : len ≤ 1048576) (w : World) :
    (Instr.makeSlice 22 (.int .i64 len) (.int .i64 len)).run Try.prog w = .ok (.slice (some ⟨w.heap.size, 0, none⟩) len len) (w.alloc (.cells (madeCells #[.int .u8 0] len) 5)) := by
  obtain ⟨i, hi, hz, hs, hb⟩ := info_parts info5
  have := run_make (P := Try.prog) w 22 5 i _ Try.underlying22 hi hz .i64 .i64 len len (by omega) (Int.le_refl _) (by rw [hb]; omega) (by omega)
  rw [hs] at this
  simpa [Value.cells] using this

/-- copy(zzc, data) behind it. -/
theorem copy_made (x : Addr) (len cap : Nat) (zs : List Int) (w : World) (hl : zs.length = len) (hc : ∀ i, i < zs.length → w.cell? (x.add i) = some (.int .u8 (zs.getD i 0))) :
    ∃ W2, (Builtin.copy_ #[22, 22] 3 #[.slice (some ⟨w.heap.size, 0, none⟩) len len, .slice (some x) len cap]).run Try.prog (w.alloc (.cells (madeCells #[.int .u8 0] len) 5)) = .ok (.int .i64 len) W2 ∧
      Bs W2 (some ⟨w.heap.size, 0, none⟩) (zs) ∧ Below w.heap.size w W2 ∧ w.heap.size < W2.heap.size := by
  have hn : (zs.map (Value.int .u8)).length = len := by simp [hl]
  have hrun := run_copy_row (P := Try.prog) (w.alloc (.cells (madeCells #[.int .u8 0] len) 5)) 22 22 3 5 w.heap.size 0 len len x len cap (madeCells #[.int .u8 0] len) 5 (zs.map (Value.int .u8)) Try.underlying22 (by kernel_rfl) (heap_alloc_new w _) (by rw [hn]; simp)
    (fun j v hj => by
      have hlt : j < len := by
        have := (List.getElem?_eq_some_iff.1 hj).1
        omega
      have hv : v = .int .u8 (zs.getD j 0) := by
        rw [List.getElem?_map, List.getElem?_eq_getElem (by omega)] at hj
        simp at hj
        simp [List.getD, ← hj, show j < zs.length by omega]
      have hcj := hc j (by omega)
      rw [hv, ← hcj]
      exact World.cell?_of_block (w := w) (Below.heap_alloc w _ _ (World.block_lt_of_cell? _ _ hcj)))
    (by rw [hn, size_madeCells]; omega) (fun v hv => by obtain ⟨n, _, rfl⟩ := List.mem_map.1 hv; rfl)
  rw [hn] at hrun
  have hrow := setRow_heap (w.alloc (.cells (madeCells #[.int .u8 0] len) 5)) w.heap.size (madeCells #[.int .u8 0] len) (((madeCells #[.int .u8 0] len).toList.take 0 ++ zs.map (Value.int .u8) ++ (madeCells #[.int .u8 0] len).toList.drop (0 + len)).toArray) 5 (0, 0) (heap_alloc_new w _)
  refine ⟨_, hrun, ?_, below_setRow ((Below.refl _ _).alloc (Nat.le_refl _) _) (Nat.le_refl _) _, by simp [World.setRow]⟩
  refine .inr ⟨_, 0, rfl, by simp [World.setRow], fun i hi => ?_⟩
  rw [cell_of_row _ _ _ _ _ _ hrow, Nat.zero_add i]
  rw [List.getElem?_toArray, List.take_zero, List.nil_append, List.getElem?_append_left (by simpa using hi), List.getElem?_map, List.getElem?_eq_getElem hi]
  simp [List.getD, hi]
end Go.Proofs.Qxb6619430a
