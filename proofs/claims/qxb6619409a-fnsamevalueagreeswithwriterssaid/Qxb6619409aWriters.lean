/-
  Contracts of writers (11) and ZZWriters (8) on a slice of two sets.
-/
import Derived.Test.Qxb6619409aSame
import Derived.Maps.OwnRows
import Derived.Maps.OwnSet
import Derived.Maps.GroupsBeside
import Derived.Deep.RegionHeld3
import Derived.Deep.AppendLies
import Derived.OwnWalk
namespace Go.Proofs.Qxb6619409a
open Go.RowKit Go.WideMaps Go.Maps
open Go.WideElems (Fit)

theorem law : Keyed Try.prog 9 := string_keyed Try.underlying9
theorem info3 : (Try.prog.info? 3).map (fun i => (i.zero, i.size, i.bytes)) = some (some (.int .i64 0), 1, 8) := by kernel_rfl
theorem zero32 (w : World) : (zeroValue 32).run Try.prog w = .ok (.slice none 0 0) w := by kernel_rfl

/-- D is what comes of an empty map when the keys (the last first) have been put into it. -/
def Filled : List Lit → DataW Unit → Prop
  | [], D => D = .map []
  | k :: ks, D => ∃ D' d, Filled ks D' ∧ D = D'.put k d

/-- The two operations' cells. -/
def opCells (p q : Addr) : List Value :=
  [.int .i64 0, .string ⟨#[115, 101, 116]⟩, .string ⟨#[]⟩, .pointer (some p), .int .i64 0, .pointer none,
   .int .i64 0, .string ⟨#[115, 101, 116]⟩, .string ⟨#[]⟩, .pointer (some q), .int .i64 0, .pointer none]

theorem grownBy_drew (w : World) (row : Option Nat) : w.grownBy w.drew row := ⟨rfl, rfl, rfl, Nat.le_refl _, fun _ _ _ => rfl⟩

/-- Where a new slice lies, as the way back asks it. -/
theorem lies_at {v : Value} {g H n cap N : Nat} (h : v.ownBlock = some g ∨ g = H) (hN : N ≤ H) : (Value.slice (some ⟨g, 0, none⟩) n cap).ownBlock = v.ownBlock ∨ ∃ k, (Value.slice (some ⟨g, 0, none⟩) n cap).ownBlock = some k ∧ N ≤ k := by
  rcases h with h | h
  · exact Or.inl h.symm
  · exact Or.inr ⟨g, rfl, by omega⟩

/-- The look-up in a world that has grown since by new blocks alone: as ownsGroups.at, and where the slice lies. -/
theorem look_later {w w' : World} {base b n : Nat} {D : DataW Unit} {key : Value} {kl : Lit} (h : w.ownsGroups Try.prog 9 base 3 .i64 b n D) (hg : w.grownBy w' none) (hn : n < maxLen) (hkey : keyOf Try.prog 9 key = some kl) :
    ∃ v zs, (Instr.lookup 30 (.map (some b)) key false).run Try.prog w' = .ok v w' ∧ w'.ownsInts base 3 .i64 v zs ∧ zs.length ≤ n ∧ w'.groupBack Try.prog 30 9 base 3 .i64 b n D key kl v ∧ ∀ g, v.ownBlock = some g → base ≤ g ∧ g < w.heap.size := by
  have h' := h.kept hg (by simp) (h.rowsAbove (by simp))
  obtain ⟨v, zs, hrun, _, hoi, hzl, hback⟩ := h'.at law Try.underlying30 (zero32 _) hn hkey
  refine ⟨v, zs, hrun, hoi, hzl, hback, ?_⟩
  obtain ⟨es, clock, hb, F, _⟩ := h
  have hlt : b < w.heap.size := (Array.getElem?_eq_some_iff.1 hb).1
  have hb' := (hg.block b hlt (by simp)).trans hb
  rcases Maps.fit_look false law Try.underlying30 (zero32 w') hb' F hkey with ⟨hrun', _, _⟩ | ⟨e0, y, hm0, _, hrun', hR, _, _⟩
  · rw [hrun] at hrun'
    obtain rfl : v = .slice none 0 0 := by simpa using hrun'
    intro g hg'
    cases hg'
  · rw [hrun] at hrun'
    obtain rfl : v = e0.val := by simpa using hrun'
    intro g hg'
    obtain ⟨ys, ho, _⟩ := rowElem_inv hR
    exact ho.1.lt g hg'

set_option maxRecDepth 100000 in
set_option maxHeartbeats 1000000 in
theorem writers_two (g b off b2 off2 : Nat) (s s2 : ByteArray) (w : World) (hg : g < w.heap.size) (hrow : ∀ i v, (opCells ⟨b, off, none⟩ ⟨b2, off2, none⟩)[i]? = some v → w.cell? ⟨g, i, none⟩ = some v)
    (hc : w.cell? ⟨b, off, none⟩ = some (.string s)) (hc2 : w.cell? ⟨b2, off2, none⟩ = some (.string s2)) (hs : s.size ≤ maxLen) (hs2 : s2.size ≤ maxLen) :
    Calls Try.prog 11 #[.slice (some ⟨g, 0, none⟩) 2 2] w fun e w' => ∃ D : DataW Unit, e = .returned (.map (some w.heap.size)) ∧ w'.ownsGroups Try.prog 9 (w.heap.size + 1) 3 .i64 w.heap.size 2 D ∧ Filled [.string s2.data.toList, .string s.data.toList] D ∧ Below w.heap.size w w' := by
  have hmm := @run_makeMap Try.prog
  obtain ⟨i0, hi, hz0, hz1, hz2⟩ := info_parts info3
  go_enter Try.func11, Try.ntmps11
  go_wp2
  go_loopw [9] (fun i wr => ∃ k : Nat, k ≤ 2 ∧ i = .int .i64 k ∧ ∃ D : DataW Unit, wr.ownsGroups Try.prog 9 (w.heap.size + 1) 3 .i64 w.heap.size k D ∧ Filled (([.string s.data.toList, .string s2.data.toList].take k).reverse) D ∧ Below w.heap.size w wr ∧ w.heap.size + 1 ≤ wr.heap.size)
    (fun i _ => 2 - (intOf i).toNat)
  case atStart => exact ⟨0, Nat.zero_le _, rfl, _, World.ownsGroups_made _ _ _ _ _, rfl, (Below.refl _ _).alloc (Nat.le_refl _) _, by simp⟩
  case round =>
    obtain ⟨k, hk, rfl, D, hown, hfl, hnx, hws⟩ := hrel
    have hb : b < w.heap.size := World.block_lt_of_cell? _ _ hc
    have hb2 : b2 < w.heap.size := World.block_lt_of_cell? _ _ hc2
    have hcw := (hnx.cell (p := ⟨b, off, none⟩) hb).trans hc
    have hcw2 := (hnx.cell (p := ⟨b2, off2, none⟩) hb2).trans hc2
    have hr : ∀ i v, (opCells ⟨b, off, none⟩ ⟨b2, off2, none⟩)[i]? = some v → wr.cell? ⟨g, i, none⟩ = some v := fun i v h => (hnx.cell (p := ⟨g, i, none⟩) hg).trans (hrow i v h)
    match k, hk with
    | 0, _ =>
      have q0 := hr 0 _ rfl
      have q1 := hr 1 _ rfl
      have q2 := hr 2 _ rfl
      have q3 := hr 3 _ rfl
      have q4 := hr 4 _ rfl
      have q5 := hr 5 _ rfl
      have hgA : wr.grownBy (wr.alloc (Obj.cells #[.int .i64 0, .string ⟨#[115, 101, 116]⟩, .string ⟨#[]⟩, .pointer (some ⟨b, off, none⟩), .int .i64 0, .pointer none] 28)).drew none := (World.grownBy_alloc _ _ _).trans (grownBy_drew _ _)
      have hgB : wr.grownBy ((wr.alloc (Obj.cells #[.int .i64 0, .string ⟨#[115, 101, 116]⟩, .string ⟨#[]⟩, .pointer (some ⟨b, off, none⟩), .int .i64 0, .pointer none] 28)).alloc (Obj.cells #[.int .i64 0] 3)).drew none := ((World.grownBy_alloc _ _ _).trans (World.grownBy_alloc _ _ _)).trans (grownBy_drew _ _)
      have hnxA : Below w.heap.size w (wr.alloc (Obj.cells #[.int .i64 0, .string ⟨#[115, 101, 116]⟩, .string ⟨#[]⟩, .pointer (some ⟨b, off, none⟩), .int .i64 0, .pointer none] 28)).drew := hnx.grown hgA hnx.size (by simp)
      have hnxB : Below w.heap.size w ((wr.alloc (Obj.cells #[.int .i64 0, .string ⟨#[115, 101, 116]⟩, .string ⟨#[]⟩, .pointer (some ⟨b, off, none⟩), .int .i64 0, .pointer none] 28)).alloc (Obj.cells #[.int .i64 0] 3)).drew := hnx.grown hgB hnx.size (by simp)
      have hXM : w.heap.size + 1 ≤ (((wr.alloc (Obj.cells #[.int .i64 0, .string ⟨#[115, 101, 116]⟩, .string ⟨#[]⟩, .pointer (some ⟨b, off, none⟩), .int .i64 0, .pointer none] 28)).alloc (Obj.cells #[.int .i64 0] 3)).drew).heap.size := Nat.le_trans hws hgB.size
      have x3 : (((wr.alloc (Obj.cells #[.int .i64 0, .string ⟨#[115, 101, 116]⟩, .string ⟨#[]⟩, .pointer (some ⟨b, off, none⟩), .int .i64 0, .pointer none] 28)).alloc (Obj.cells #[.int .i64 0] 3)).drew).cell? ⟨wr.heap.size, 3, none⟩ = some (.pointer (some ⟨b, off, none⟩)) := by simp
      have xb : (((wr.alloc (Obj.cells #[.int .i64 0, .string ⟨#[115, 101, 116]⟩, .string ⟨#[]⟩, .pointer (some ⟨b, off, none⟩), .int .i64 0, .pointer none] 28)).alloc (Obj.cells #[.int .i64 0] 3)).drew).cell? ⟨b, off, none⟩ = some (.string s) := hgB.cell hcw (by simp)
      have nM : some wr.heap.size ≠ some w.heap.size := by simp; omega
      have bM : some b ≠ some w.heap.size := by simp; omega
      have hnews : ∀ (j : Nat) (u : Value), [Value.int .i64 0][j]? = some u → (((wr.alloc (Obj.cells #[.int .i64 0, .string ⟨#[115, 101, 116]⟩, .string ⟨#[]⟩, .pointer (some ⟨b, off, none⟩), .int .i64 0, .pointer none] 28)).alloc (Obj.cells #[.int .i64 0] 3)).drew).cell? ((⟨wr.heap.size + 1, 0, none⟩ : Addr).add j) = some u := by
        intro j u hu
        match j with
        | 0 => simp at hu; subst hu; simp [Addr.add]
        | j + 1 => simp at hu
      obtain ⟨vA, zsA, hrunA, hoiA, hzlA, hbackA, hblA⟩ := look_later hown hgA (by unfold maxLen; omega) (keyOf_string_mk Try.underlying9 hs)
      obtain ⟨vB, zsB, hrunB, hoiB, hzlB, hbackB, hblB⟩ := look_later hown hgB (by unfold maxLen; omega) (keyOf_string_mk Try.underlying9 hs)
      have nA : some wr.heap.size ≠ vA.ownBlock := fun e => by have := hblA _ e.symm; omega
      have nB : some wr.heap.size ≠ vB.ownBlock := fun e => by have := hblB _ e.symm; omega
      have mA : some b ≠ vA.ownBlock := fun e => by have := hblA _ e.symm; omega
      have mB : some b ≠ vB.ownBlock := fun e => by have := hblB _ e.symm; omega
      clear hr hrow
      go_wp2_with fail
      go_region_held3 (fun w' => w'.cell? ⟨wr.heap.size, 3, none⟩ = some (.pointer (some ⟨b, off, none⟩)) ∧ w'.cell? ⟨b, off, none⟩ = some (.string s))
        (go_keep)
        (first
          | ((refine step_append_lies _ (by rfl) _ _ _ (by rfl) (w.heap.size + 1) 3 i0 _ 1 8 Try.underlying32 hi hz0 hz1 hz2 rfl (by omega) vA zsA.length (zsA.map (Value.int .i64)) (by rfl) (by exact hoiA.1.alloc _) ⟨wr.heap.size + 1, 0, none⟩ 1 1 [.int .i64 0] (by rfl) (by rfl) hnews (by simp [Value.oneCell']) (by omega) (by unfold maxLen; omega) (by omega) hXM (wr.heap.size + 1 + 1) (by simp) ?_; intro g' cap w1 hown1 hgrow hat hlt; obtain ⟨w2, hrun2, hown2, hgrow2⟩ := hbackA w1 _ _ (by exact (World.grownBy_alloc _ _ _).trans hgrow) (hoiA.appended hown1 (by decide)) (by rw [List.length_append]; simp only [List.length_cons, List.length_nil]; omega) (lies_at hat (by simp)); have y3 := hgrow.cell x3 nA; have yb := hgrow.cell xb mA; have z3 := hgrow2.cell y3 nM; have zb := hgrow2.cell yb bM; have hbel : Below w.heap.size w w2 := hnxA.groups hoiA (by exact (World.grownBy_alloc _ _ _).trans hgrow) hgrow2 hnxA.size (Nat.le_succ _) (Nat.le_refl _); have hsz2 := Nat.le_trans hXM (Nat.le_trans hgrow.size hgrow2.size)))
          | ((refine step_append_lies _ (by rfl) _ _ _ (by rfl) (w.heap.size + 1) 3 i0 _ 1 8 Try.underlying32 hi hz0 hz1 hz2 rfl (by omega) vB zsB.length (zsB.map (Value.int .i64)) (by rfl) hoiB.1 ⟨wr.heap.size + 1, 0, none⟩ 1 1 [.int .i64 0] (by rfl) (by rfl) hnews (by simp [Value.oneCell']) (by omega) (by unfold maxLen; omega) (by omega) hXM (wr.heap.size + 1 + 1) (by simp) ?_; intro g' cap w1 hown1 hgrow hat hlt; obtain ⟨w2, hrun2, hown2, hgrow2⟩ := hbackB w1 _ _ hgrow (hoiB.appended hown1 (by decide)) (by rw [List.length_append]; simp only [List.length_cons, List.length_nil]; omega) (lies_at hat (by simp)); have y3 := hgrow.cell x3 nB; have yb := hgrow.cell xb mB; have z3 := hgrow2.cell y3 nM; have zb := hgrow2.cell yb bM; have hbel : Below w.heap.size w w2 := hnxB.groups hoiB hgrow hgrow2 hnxB.size (Nat.le_succ _) (Nat.le_refl _); have hsz2 := Nat.le_trans hXM (Nat.le_trans hgrow.size hgrow2.size))))
      all_goals
        go_wp2
        go_roundw
        case rel => exact ⟨1, by omega, by go_num, _, hown2, ⟨D, _, hfl, rfl⟩, hbel, hsz2⟩
        case measure => simp [intOf]
    | 1, _ =>
      have q0 := hr 6 _ rfl
      have q1 := hr 7 _ rfl
      have q2 := hr 8 _ rfl
      have q3 := hr 9 _ rfl
      have q4 := hr 10 _ rfl
      have q5 := hr 11 _ rfl
      have hgA : wr.grownBy (wr.alloc (Obj.cells #[.int .i64 0, .string ⟨#[115, 101, 116]⟩, .string ⟨#[]⟩, .pointer (some ⟨b2, off2, none⟩), .int .i64 0, .pointer none] 28)).drew none := (World.grownBy_alloc _ _ _).trans (grownBy_drew _ _)
      have hgB : wr.grownBy ((wr.alloc (Obj.cells #[.int .i64 0, .string ⟨#[115, 101, 116]⟩, .string ⟨#[]⟩, .pointer (some ⟨b2, off2, none⟩), .int .i64 0, .pointer none] 28)).alloc (Obj.cells #[.int .i64 1] 3)).drew none := ((World.grownBy_alloc _ _ _).trans (World.grownBy_alloc _ _ _)).trans (grownBy_drew _ _)
      have hnxA : Below w.heap.size w (wr.alloc (Obj.cells #[.int .i64 0, .string ⟨#[115, 101, 116]⟩, .string ⟨#[]⟩, .pointer (some ⟨b2, off2, none⟩), .int .i64 0, .pointer none] 28)).drew := hnx.grown hgA hnx.size (by simp)
      have hnxB : Below w.heap.size w ((wr.alloc (Obj.cells #[.int .i64 0, .string ⟨#[115, 101, 116]⟩, .string ⟨#[]⟩, .pointer (some ⟨b2, off2, none⟩), .int .i64 0, .pointer none] 28)).alloc (Obj.cells #[.int .i64 1] 3)).drew := hnx.grown hgB hnx.size (by simp)
      have hXM : w.heap.size + 1 ≤ (((wr.alloc (Obj.cells #[.int .i64 0, .string ⟨#[115, 101, 116]⟩, .string ⟨#[]⟩, .pointer (some ⟨b2, off2, none⟩), .int .i64 0, .pointer none] 28)).alloc (Obj.cells #[.int .i64 1] 3)).drew).heap.size := Nat.le_trans hws hgB.size
      have x3 : (((wr.alloc (Obj.cells #[.int .i64 0, .string ⟨#[115, 101, 116]⟩, .string ⟨#[]⟩, .pointer (some ⟨b2, off2, none⟩), .int .i64 0, .pointer none] 28)).alloc (Obj.cells #[.int .i64 1] 3)).drew).cell? ⟨wr.heap.size, 3, none⟩ = some (.pointer (some ⟨b2, off2, none⟩)) := by simp
      have xb : (((wr.alloc (Obj.cells #[.int .i64 0, .string ⟨#[115, 101, 116]⟩, .string ⟨#[]⟩, .pointer (some ⟨b2, off2, none⟩), .int .i64 0, .pointer none] 28)).alloc (Obj.cells #[.int .i64 1] 3)).drew).cell? ⟨b2, off2, none⟩ = some (.string s2) := hgB.cell hcw2 (by simp)
      have nM : some wr.heap.size ≠ some w.heap.size := by simp; omega
      have bM : some b2 ≠ some w.heap.size := by simp; omega
      have hnews : ∀ (j : Nat) (u : Value), [Value.int .i64 1][j]? = some u → (((wr.alloc (Obj.cells #[.int .i64 0, .string ⟨#[115, 101, 116]⟩, .string ⟨#[]⟩, .pointer (some ⟨b2, off2, none⟩), .int .i64 0, .pointer none] 28)).alloc (Obj.cells #[.int .i64 1] 3)).drew).cell? ((⟨wr.heap.size + 1, 0, none⟩ : Addr).add j) = some u := by
        intro j u hu
        match j with
        | 0 => simp at hu; subst hu; simp [Addr.add]
        | j + 1 => simp at hu
      obtain ⟨vA, zsA, hrunA, hoiA, hzlA, hbackA, hblA⟩ := look_later hown hgA (by unfold maxLen; omega) (keyOf_string_mk Try.underlying9 hs2)
      obtain ⟨vB, zsB, hrunB, hoiB, hzlB, hbackB, hblB⟩ := look_later hown hgB (by unfold maxLen; omega) (keyOf_string_mk Try.underlying9 hs2)
      have nA : some wr.heap.size ≠ vA.ownBlock := fun e => by have := hblA _ e.symm; omega
      have nB : some wr.heap.size ≠ vB.ownBlock := fun e => by have := hblB _ e.symm; omega
      have mA : some b2 ≠ vA.ownBlock := fun e => by have := hblA _ e.symm; omega
      have mB : some b2 ≠ vB.ownBlock := fun e => by have := hblB _ e.symm; omega
      clear hr hrow
      go_wp2_with fail
      go_region_held3 (fun w' => w'.cell? ⟨wr.heap.size, 3, none⟩ = some (.pointer (some ⟨b2, off2, none⟩)) ∧ w'.cell? ⟨b2, off2, none⟩ = some (.string s2))
        (go_keep)
        (first
          | ((refine step_append_lies _ (by rfl) _ _ _ (by rfl) (w.heap.size + 1) 3 i0 _ 1 8 Try.underlying32 hi hz0 hz1 hz2 rfl (by omega) vA zsA.length (zsA.map (Value.int .i64)) (by rfl) (by exact hoiA.1.alloc _) ⟨wr.heap.size + 1, 0, none⟩ 1 1 [.int .i64 1] (by rfl) (by rfl) hnews (by simp [Value.oneCell']) (by omega) (by unfold maxLen; omega) (by omega) hXM (wr.heap.size + 1 + 1) (by simp) ?_; intro g' cap w1 hown1 hgrow hat hlt; obtain ⟨w2, hrun2, hown2, hgrow2⟩ := hbackA w1 _ _ (by exact (World.grownBy_alloc _ _ _).trans hgrow) (hoiA.appended hown1 (by decide)) (by rw [List.length_append]; simp only [List.length_cons, List.length_nil]; omega) (lies_at hat (by simp)); have y3 := hgrow.cell x3 nA; have yb := hgrow.cell xb mA; have z3 := hgrow2.cell y3 nM; have zb := hgrow2.cell yb bM; have hbel : Below w.heap.size w w2 := hnxA.groups hoiA (by exact (World.grownBy_alloc _ _ _).trans hgrow) hgrow2 hnxA.size (Nat.le_succ _) (Nat.le_refl _); have hsz2 := Nat.le_trans hXM (Nat.le_trans hgrow.size hgrow2.size)))
          | ((refine step_append_lies _ (by rfl) _ _ _ (by rfl) (w.heap.size + 1) 3 i0 _ 1 8 Try.underlying32 hi hz0 hz1 hz2 rfl (by omega) vB zsB.length (zsB.map (Value.int .i64)) (by rfl) hoiB.1 ⟨wr.heap.size + 1, 0, none⟩ 1 1 [.int .i64 1] (by rfl) (by rfl) hnews (by simp [Value.oneCell']) (by omega) (by unfold maxLen; omega) (by omega) hXM (wr.heap.size + 1 + 1) (by simp) ?_; intro g' cap w1 hown1 hgrow hat hlt; obtain ⟨w2, hrun2, hown2, hgrow2⟩ := hbackB w1 _ _ hgrow (hoiB.appended hown1 (by decide)) (by rw [List.length_append]; simp only [List.length_cons, List.length_nil]; omega) (lies_at hat (by simp)); have y3 := hgrow.cell x3 nB; have yb := hgrow.cell xb mB; have z3 := hgrow2.cell y3 nM; have zb := hgrow2.cell yb bM; have hbel : Below w.heap.size w w2 := hnxB.groups hoiB hgrow hgrow2 hnxB.size (Nat.le_succ _) (Nat.le_refl _); have hsz2 := Nat.le_trans hXM (Nat.le_trans hgrow.size hgrow2.size))))
      all_goals
        go_wp2
        go_roundw
        case rel => exact ⟨2, by omega, by go_num, _, hown2, ⟨D, _, hfl, rfl⟩, hbel, hsz2⟩
        case measure => simp [intOf]
    | 2, _ =>
      go_wp2_with fail
      go_ret
      exact ⟨D, rfl, hown, hfl, hnx⟩

/-- How many groups two values make. -/
def cnt (s s2 : ByteArray) : Nat := if sv (some s) (some s2) then 1 else 2

theorem size_filled {s s2 : ByteArray} {D : DataW Unit} (h : Filled [.string s2.data.toList, .string s.data.toList] D) : Maps.size D = cnt s s2 := by
  obtain ⟨D1, d1, ⟨D0, d0, h0, rfl⟩, rfl⟩ := h
  obtain rfl : D0 = .map [] := h0
  have ht0 : Tidy (.map [] : DataW Unit) := tidy_empty
  have hk : WideAt.IsKeyLit (.string s.data.toList) := by trivial
  have ht1 : Tidy ((.map [] : DataW Unit).put (.string s.data.toList) d0) := ht0.put hk d0
  have z1 : Maps.size ((.map [] : DataW Unit).put (.string s.data.toList) d0) = 1 := by rw [size_put ht0]; rfl
  rw [size_put ht1, z1]
  unfold cnt sv
  by_cases e : s = s2
  · subst e
    rw [has_put_same ht0.isMap hk]
    simp
  · have hne : (Lit.string s2.data.toList) ≠ .string s.data.toList := fun h => e (WideShapes.bytes_inj (by simpa using h.symm))
    rw [has_put_other hne]
    simp [e, Maps.has]

theorem zzWriters_two (g b off b2 off2 : Nat) (s s2 : ByteArray) (w : World) (hg : g < w.heap.size) (hrow : ∀ i v, (opCells ⟨b, off, none⟩ ⟨b2, off2, none⟩)[i]? = some v → w.cell? ⟨g, i, none⟩ = some v)
    (hc : w.cell? ⟨b, off, none⟩ = some (.string s)) (hc2 : w.cell? ⟨b2, off2, none⟩ = some (.string s2)) (hs : s.size ≤ maxLen) (hs2 : s2.size ≤ maxLen) :
    Calls Try.prog 8 #[.slice (some ⟨g, 0, none⟩) 2 2] w fun e w' => ∃ m es clk, e = .returned (.map (some m)) ∧ w'.heap[m]? = some (.map es clk) ∧ es.size = cnt s s2 ∧ Below w.heap.size w w' := by
  go_enter Try.func8, Try.ntmps8
  go_wp2_with fail
  refine (writers_two g b off b2 off2 s s2 w hg hrow hc hc2 hs hs2).mono ?_
  rintro e w' ⟨D, rfl, hown, hfl, hb⟩
  obtain ⟨es, clk, hh, _, _, hD, _⟩ := hown
  have hz := size_filled hfl
  rw [hD, Maps.size_eq, length_read] at hz
  have HZ : Hid (es.size = cnt s s2) := hz
  clear hz hD hfl hrow
  go_wp2
  go_ret
  exact ⟨_, es, clk, rfl, hh, HZ.out, hb⟩
end Go.Proofs.Qxb6619409a
