/-
  Rows.FnSameValueAgreesWithWritersSaid: the walk, and the row's step.
-/
import Derived.Test.Qxb6619409aSame
import Derived.Test.Qxb6619409aWriters
import Derived.Deep.DeepCutAuto
namespace Go.Proofs.Qxb6619409a.fnSameValueAgreesWithWriters
open Go.ChangeShapes Go.WideShapes Go.ChangeAt Go.RowKit
set_option linter.unusedVariables false

set_option maxHeartbeats 400000 in
theorem bytes2_any (p q : Option Addr) (x y : Option ByteArray) (w : World) (hx : IsStr w p x) (hy : IsStr w q y) :
    Calls Try.prog 5 #[.pointer p, .pointer q] w fun e w' => (∃ t : Bool, e = .returned (.bool t)) ∧ w' = w := by
  rcases hx with ⟨rfl, rfl⟩ | ⟨b, off, s, rfl, rfl, hc, _, h1⟩ <;> rcases hy with ⟨rfl, rfl⟩ | ⟨b2, off2, s2, rfl, rfl, hc2, _, h2⟩
  all_goals
    go_enter Try.func5, Try.ntmps5
    go_wp2
    all_goals
      go_ret
      exact ⟨⟨_, rfl⟩, rfl⟩

/-- len of a map that is known whole. -/
theorem run_len_map {w : World} {m clk : Nat} {es : Array MapEntry} (hb : w.heap[m]? = some (.map es clk)) : (Builtin.len_ #[30] 3 #[.map (some m)]).run Try.prog w = .ok (.int .i64 es.size) w := by
  simp [Builtin.len_, run_underlying Try.underlying30, MapKept.run_getObj_map hb, goInt, Result.andThen]

set_option maxRecDepth 100000 in
set_option maxHeartbeats 1000000 in
theorem walk (p q : Option Addr) (x y : Option ByteArray) (w : World) (hx : IsStr w p x) (hy : IsStr w q y) :
    Calls Try.prog 3 #[.pointer p, .pointer q] w fun e w' => e = .returned (.bool true) ∧ Below w.heap.size w w' := by
  go_enter Try.func3, Try.ntmps3
  go_wp2_with fail
  refine (bytes2_any _ _ _ _ _ hx hy).mono ?_
  rintro e w' ⟨⟨t, rfl⟩, rfl⟩
  cases t
  · go_wp2
    go_ret
    exact ⟨rfl, Below.refl _ _⟩
  go_wp2_with fail
  refine (ptrs_any _ _ _ _ _ _ _ hx hy (.inl ⟨rfl, rfl⟩)).mono ?_
  rintro e w' ⟨⟨t, rfl⟩, rfl⟩
  cases t
  · go_wp2
    go_ret
    exact ⟨rfl, Below.refl _ _⟩
  go_upto_if 20 with fail
  go_cut [0] from 11 (fun s0 wx => ∃ p', s0 = .pointer p' ∧ IsStr wx p' x ∧ IsStr wx q y ∧ Below w'.heap.size w' wx)
  case first =>
    rcases hx with ⟨rfl, rfl⟩ | ⟨b, off, s, rfl, rfl, hc, hb, hs⟩
    · go_wp2
      go_meet
      exact ⟨_, rfl, .inl ⟨rfl, rfl⟩, hy, Below.refl _ _⟩
    · go_wp2
      go_meet
      exact ⟨_, rfl, IsStr.fresh _ _ hs _, hy.alloc _ _, (Below.refl _ _).alloc (Nat.le_refl _) _⟩
  case rest =>
    clear hx hy
    obtain ⟨p', rfl, hx, hy, hbl⟩ := hcut
    go_upto_if 25 with fail
    go_cut [1] from 11 (fun s1 wx => ∃ q', s1 = .pointer q' ∧ IsStr wx p' x ∧ IsStr wx q' y ∧ Below w'.heap.size w' wx)
    case first =>
      rcases hy with ⟨rfl, rfl⟩ | ⟨b, off, s, rfl, rfl, hc, hb, hs⟩
      · go_wp2
        go_meet
        exact ⟨_, rfl, hx, .inl ⟨rfl, rfl⟩, hbl⟩
      · go_wp2
        go_meet
        exact ⟨_, rfl, hx.alloc _ _, IsStr.fresh _ _ hs _, hbl.alloc hbl.size _⟩
    case rest =>
      clear hx hy hbl
      obtain ⟨q', rfl, hx, hy, hbl⟩ := hcut
      go_wp2_with fail
      refine (zzSame_any _ _ _ _ _ hx hy).mono ?_
      rintro e w1 ⟨rfl, n1, rfl⟩
      go_wp2_with fail
      refine (zzSame_any _ _ _ _ _ (hy.drewN _) (hx.drewN _)).mono ?_
      rintro e w1 ⟨rfl, n2, rfl⟩
      rw [sv_symm x y]
      rcases hx with ⟨rfl, rfl⟩ | ⟨b, off, s, rfl, rfl, hc, hb, hs⟩
      · rcases hy with ⟨rfl, rfl⟩ | ⟨b2, off2, s2, rfl, rfl, hc2, hb2, hs2⟩
        · have e1 : sv none none = true := rfl
          go_wp2
          go_ret
          exact ⟨rfl, below_drewN hbl _⟩
        · have e1 : sv none (some s2) = false := rfl
          go_wp2
          go_ret
          exact ⟨rfl, below_drewN hbl _⟩
      · rcases hy with ⟨rfl, rfl⟩ | ⟨b2, off2, s2, rfl, rfl, hc2, hb2, hs2⟩
        · have e1 : sv (some s) none = false := rfl
          go_wp2
          go_ret
          exact ⟨rfl, below_drewN hbl _⟩
        · go_wp2_with fail
          have hcA : ((wc.drewN (n1 + n2)).alloc (Obj.cells (opCells ⟨b, off, none⟩ ⟨b2, off2, none⟩).toArray 28)).cell? ⟨b, off, none⟩ = some (.string s) := by rw [World.cell?_of_block (w := wc) (Below.heap_alloc (wc.drewN (n1 + n2)) _ b hb)]; exact hc
          have hcB : ((wc.drewN (n1 + n2)).alloc (Obj.cells (opCells ⟨b, off, none⟩ ⟨b2, off2, none⟩).toArray 28)).cell? ⟨b2, off2, none⟩ = some (.string s2) := by rw [World.cell?_of_block (w := wc) (Below.heap_alloc (wc.drewN (n1 + n2)) _ b2 hb2)]; exact hc2
          have hrow : ∀ i v, (opCells ⟨b, off, none⟩ ⟨b2, off2, none⟩)[i]? = some v → ((wc.drewN (n1 + n2)).alloc (Obj.cells (opCells ⟨b, off, none⟩ ⟨b2, off2, none⟩).toArray 28)).cell? ⟨wc.heap.size, i, none⟩ = some v := by
            intro i v h
            rw [cell_of_row _ wc.heap.size i _ _ _ (heap_alloc_new (wc.drewN (n1 + n2)) (Obj.cells (opCells ⟨b, off, none⟩ ⟨b2, off2, none⟩).toArray 28))]
            simpa using h
          have hbl2 : Below w'.heap.size w' ((wc.drewN (n1 + n2)).alloc (Obj.cells (opCells ⟨b, off, none⟩ ⟨b2, off2, none⟩).toArray 28)) := (below_drewN hbl _).alloc hbl.size _
          refine (zzWriters_two wc.heap.size b off b2 off2 s s2 _ (by simp) hrow hcA hcB hs hs2).mono ?_
          rintro e w1 ⟨m, es, clk, rfl, hh, hz, hbl3⟩
          have hbl4 : Below w'.heap.size w' w1 := hbl2.trans (hbl3.mono (by have := hbl.size; simp; omega))
          have c1 : w1.cell? ⟨b, off, none⟩ = some (.string s) := (hbl3.cell (p := ⟨b, off, none⟩) (by simp; omega)).trans hcA
          have c2 : w1.cell? ⟨b2, off2, none⟩ = some (.string s2) := (hbl3.cell (p := ⟨b2, off2, none⟩) (by simp; omega)).trans hcB
          clear hrow hcA hcB hbl2 hbl3 hc hc2
          have hst := sv_str s s2
          unfold cnt at hz
          cases hsv : sv (some s) (some s2)
          · rw [hsv] at hst hz
            simp only [Bool.false_eq_true, if_false] at hz
            have hlen := fun nq => run_len_map (w := w1.drewN nq) hh
            rw [hz] at hlen
            clear hz hh
            go_wp2
            go_quiet (fail)
            go_wp2
            go_ret
            exact ⟨rfl, below_drewN hbl4 _⟩
          · rw [hsv] at hst hz
            simp only [if_true] at hz
            have hlen := fun nq => run_len_map (w := w1.drewN nq) hh
            rw [hz] at hlen
            clear hz hh
            go_wp2
            go_quiet (fail)
            go_wp2
            go_ret
            exact ⟨rfl, below_drewN hbl4 _⟩

theorem own : ownKnob Try.prog.godebug = none := by kernel_rfl
theorem laidOut : laidOutB Try.prog = true := by kernel_rfl
theorem cells9 : Try.prog.cellsOf 9 = 1 := by kernel_rfl

/-- A pointer to a string that came in, as the walk is told of it. -/
theorem isStr_of {H : Type} {enc : TypeId × Value → H} {W : World} {r : Reach} {b0 : Nat} {a : Option Addr} {d : DataW H} {ps : List MemPlace} (hv : Value.okWide Try.prog W r b0 22 (.pointer a)) (h : DataW.Trod enc Try.prog W 0 (fun _ => true) true 22 (.pointer a) d ps) : ∃ o, IsStr W a o := by
  rcases open_ptr Try.underlying22 (by rw [cells9]; omega) hv h with ⟨e, _, _⟩ | ⟨b, off, cs, y, fuel, e, _, _, hlen, hcell, hy⟩
  · simp only [Value.pointer.injEq] at e
    exact ⟨none, .inl ⟨e, rfl⟩⟩
  · simp only [Value.pointer.injEq] at e
    obtain ⟨s, hcs, _, hs⟩ := DataW.trod_string Try.underlying9 hy
    have hc := hcell 0 (by rw [cells9]; omega)
    subst hcs
    exact ⟨some s, .inr ⟨b, off, s, e, rfl, by simpa using hc, World.block_lt_of_cell? _ ⟨b, off, none⟩ (by simpa using hc), hs⟩⟩

set_option maxRecDepth 100000 in
theorem lifted (os : Os) (started : os.Started) (H : Type) (enc : TypeId × Value → H) :
    ReturnsInHanded {} Try.checked os 3 .any (Rows.fnSameValueAgreesWithWritersSpec.pre6 enc Try.prog Try.f3 Rows.fnSameValueAgreesWithWritersRow.domain false) (Rows.fnSameValueAgreesWithWritersSpec.post enc Try.prog Try.f3 false true false false) := by
  refine returnsInHanded_of_change (C := Try.checked) own started (by kernel_rfl) Try.func3
    (ChangeSpec.witness6 (enc := enc) (C := Try.checked) false ⟨#[], #[.pointer none, .pointer none], []⟩ 8 (by kernel_rfl) (by kernel_rfl) (by kernel_rfl) (by kernel_rfl)) ?_
  intro W base args ds gs before hval0 hW hcnd _
  have hval : ∀ (j : Nat) t v, Try.f3.params[j]? = some t → args[j]? = some v → Value.okWide Try.prog W .any base t v := hval0
  have hW' := hW
  obtain ⟨p, q, hA0, hV, rfl, hfz, hnd⟩ := hW
  have hA : DataW.TrodAll enc Try.prog W 0 (fun _ => true) true Try.f3.params.toList args.toList ds p := hA0
  rw [Try.params3] at hA hval
  obtain ⟨v0, vs0, d0, ds0, p0, q0, hargs, rfl, rfl, h0, r0⟩ := trodAll_cons hA
  obtain ⟨v1, vs1, d1, ds1, p1, q1, rfl, rfl, rfl, h1, r1⟩ := trodAll_cons r0
  obtain ⟨rfl, rfl, rfl⟩ := trodAll_nil r1
  obtain rfl : args = #[v0, v1] := by cases args; simp_all
  obtain ⟨rfl, rfl⟩ := trodVars_none hV
  obtain ⟨a0, rfl⟩ := okWide_pointer Try.underlying22 (hval 0 22 v0 rfl rfl)
  have lt0 : ∀ x ∈ p0, x.block < W.heap.size := by obtain ⟨m, hm⟩ := h0; exact DataW.trod_lt m _ _ _ hm
  obtain ⟨x0, w0⟩ := isStr_of (hval 0 22 _ rfl rfl) h0
  obtain ⟨a1, rfl⟩ := okWide_pointer Try.underlying22 (hval 1 22 v1 rfl rfl)
  have lt1 : ∀ x ∈ p1, x.block < W.heap.size := by obtain ⟨m, hm⟩ := h1; exact DataW.trod_lt m _ _ _ hm
  obtain ⟨x1, w1⟩ := isStr_of (hval 1 22 _ rfl rfl) h1
  clear hA0 hval0
  refine (walk a0 a1 x0 x1 W w0 w1).mono fun e W' ⟨he, bel⟩ => ?_
  subst he
  exact ⟨_, rfl, _, _, _, [], _, [], hW', trodAll_mk1 (shut_bool Try.underlying4 _), (trodAll_cons_mk (Below.trod laidOut (by kernel_rfl) (of_decide_eq_true (by kernel_rfl)) h0 bel lt0) (trodAll_cons_mk (Below.trod laidOut (by kernel_rfl) (of_decide_eq_true (by kernel_rfl)) h1 bel lt1) trodAll_mk0)), rfl, bel.frame _, fun h => by cases h⟩

theorem over : Rows.fnSameValueAgreesWithWritersRow.holds Try.pinned (OpenSpec.ofChange Rows.fnSameValueAgreesWithWritersSpec) :=
  OpenClaim.holds_of_wide 3 Try.f3 rfl rfl rfl rfl rfl rfl rfl ⟨rfl, rfl, rfl, rfl, rfl⟩ rfl rfl rfl rfl rfl (by kernel_rfl) Try.func3 (by kernel_rfl)
    (of_decide_eq_true (by kernel_rfl)) (by unfold Func.isWrapper; first | (rw [if_pos (by decide +kernel)]; kernel_rfl) | (rw [if_neg (by decide +kernel)]; exact ⟨rfl, rfl⟩))
    (fun os started H enc _ => lifted os started H enc)

/-- THE STATEMENT -/
theorem proved : Rows.FnSameValueAgreesWithWritersSaid := over
#print axioms proved
end Go.Proofs.Qxb6619409a.fnSameValueAgreesWithWriters
