/-
  Rows.FnSameValueIsEquivalenceSaid: the walk (cut behind each 'if', so that its ways meet again), and the row's step.
-/
import Derived.Test.Qxb6619409aSame
import Derived.Deep.DeepCutAuto
namespace Go.Proofs.Qxb6619409a.fnSameValueIsEquivalence
open Go.ChangeShapes Go.WideShapes Go.ChangeAt Go.RowKit
set_option linter.unusedVariables false

set_option maxRecDepth 100000 in
set_option maxHeartbeats 1000000 in
theorem walk (p q r : Option Addr) (x y z : Option ByteArray) (w : World) (hx : IsStr w p x) (hy : IsStr w q y) (hz : IsStr w r z) :
    Calls Try.prog 4 #[.pointer p, .pointer q, .pointer r] w fun e w' => e = .returned (.bool true) ∧ Below w.heap.size w w' := by
  go_enter Try.func4, Try.ntmps4
  go_wp2_with fail
  refine (bytes3_any _ _ _ _ _ _ _ hx hy hz).mono ?_
  rintro e w' ⟨⟨t, rfl⟩, rfl⟩
  cases t
  · go_wp2
    go_ret
    exact ⟨rfl, Below.refl _ _⟩
  go_wp2_with fail
  refine (ptrs_any _ _ _ _ _ _ _ hx hy hz).mono ?_
  rintro e w' ⟨⟨t, rfl⟩, rfl⟩
  cases t
  · go_wp2
    go_ret
    exact ⟨rfl, Below.refl _ _⟩
  go_upto_if 29 with fail
  go_cut [0] from 18 (fun s0 wx => ∃ p', s0 = .pointer p' ∧ IsStr wx p' x ∧ IsStr wx q y ∧ IsStr wx r z ∧ Below w'.heap.size w' wx)
  case first =>
    rcases hx with ⟨rfl, rfl⟩ | ⟨b, off, s, rfl, rfl, hc, hb, hs⟩
    · go_wp2
      go_meet
      exact ⟨_, rfl, .inl ⟨rfl, rfl⟩, hy, hz, Below.refl _ _⟩
    · go_wp2
      go_meet
      exact ⟨_, rfl, IsStr.fresh _ _ hs _, hy.alloc _ _, hz.alloc _ _, (Below.refl _ _).alloc (Nat.le_refl _) _⟩
  case rest =>
    clear hx hy hz
    obtain ⟨p', rfl, hx, hy, hz, hbl⟩ := hcut
    go_upto_if 34 with fail
    go_cut [1] from 18 (fun s1 wx => ∃ q', s1 = .pointer q' ∧ IsStr wx p' x ∧ IsStr wx q' y ∧ IsStr wx r z ∧ Below w'.heap.size w' wx)
    case first =>
      have hz' := hz
      rcases hy with ⟨rfl, rfl⟩ | ⟨b, off, s, rfl, rfl, hc, hb, hs⟩
      · go_wp2
        go_meet
        exact ⟨_, rfl, hx, .inl ⟨rfl, rfl⟩, hz, hbl⟩
      · go_wp2
        go_meet
        exact ⟨_, rfl, hx.alloc _ _, IsStr.fresh _ _ hs _, hz.alloc _ _, hbl.alloc hbl.size _⟩
    case rest =>
      clear hx hy hz hbl
      obtain ⟨q', rfl, hx, hy, hz, hbl⟩ := hcut
      go_upto_if 39 with fail
      go_cut [2] from 18 (fun s1 wx => ∃ r', s1 = .pointer r' ∧ IsStr wx p' x ∧ IsStr wx q' y ∧ IsStr wx r' z ∧ Below w'.heap.size w' wx)
      case first =>
        rcases hz with ⟨rfl, rfl⟩ | ⟨b, off, s, rfl, rfl, hc, hb, hs⟩
        · go_wp2
          go_meet
          exact ⟨_, rfl, hx, hy, .inl ⟨rfl, rfl⟩, hbl⟩
        · go_wp2
          go_meet
          exact ⟨_, rfl, hx.alloc _ _, hy.alloc _ _, IsStr.fresh _ _ hs _, hbl.alloc hbl.size _⟩
      case rest =>
        clear hx hy hz hbl
        obtain ⟨r', rfl, hx, hy, hz, hbl⟩ := hcut
        go_upto_if 45 with fail
        go_cut [10] from 18 (fun s10 wx => ∃ c', s10 = .pointer c' ∧ IsStr wx p' x ∧ IsStr wx q' y ∧ IsStr wx r' z ∧ IsStr wx c' x ∧ Below w'.heap.size w' wx)
        case first =>
          have hx' := hx
          rcases hx with ⟨rfl, rfl⟩ | ⟨b, off, s, rfl, rfl, hc, hb, hs⟩
          · go_wp2
            go_meet
            exact ⟨_, rfl, hx', hy, hz, hx', hbl⟩
          · go_wp2
            go_meet
            exact ⟨_, rfl, hx'.alloc _ _, hy.alloc _ _, hz.alloc _ _, IsStr.fresh _ _ hs _, hbl.alloc hbl.size _⟩
        case rest =>
          clear hx hy hz hbl
          obtain ⟨c', rfl, hx, hy, hz, hc, hbl⟩ := hcut
          rcases five x y z with ⟨e1, e2, e3⟩ | ⟨e1, e2, e3⟩ | ⟨e1, e2, e3⟩ | ⟨e1, e2, e3⟩ | ⟨e1, e2, e3⟩
          all_goals
            go_wp2_with fail
            refine (zzSame_any _ _ _ _ _ hx hx).mono ?_
            rintro e w1 ⟨rfl, n, rfl⟩
            rw [sv_refl]
            go_wp2_with fail
            refine (zzSame_any _ _ _ _ _ (hy.drewN _) (hy.drewN _)).mono ?_
            rintro e w1 ⟨rfl, n, rfl⟩
            rw [sv_refl]
            go_wp2_with fail
            refine (zzSame_any _ _ _ _ _ (hz.drewN _) (hz.drewN _)).mono ?_
            rintro e w1 ⟨rfl, n, rfl⟩
            rw [sv_refl]
            go_wp2_with fail
            refine (zzSame_any _ _ _ _ _ (hx.drewN _) (hc.drewN _)).mono ?_
            rintro e w1 ⟨rfl, n, rfl⟩
            rw [sv_refl]
            go_wp2_with fail
            refine (zzSame_any _ _ _ _ _ (hc.drewN _) (hx.drewN _)).mono ?_
            rintro e w1 ⟨rfl, n, rfl⟩
            rw [sv_refl]
            go_wp2_with fail
            refine (zzSame_any _ _ _ _ _ (hx.drewN _) (hy.drewN _)).mono ?_
            rintro e w1 ⟨rfl, n, rfl⟩
            go_wp2_with fail
            refine (zzSame_any _ _ _ _ _ (hy.drewN _) (hz.drewN _)).mono ?_
            rintro e w1 ⟨rfl, n, rfl⟩
            go_wp2_with fail
            refine (zzSame_any _ _ _ _ _ (hx.drewN _) (hz.drewN _)).mono ?_
            rintro e w1 ⟨rfl, n, rfl⟩
            go_wp2_with fail
            refine (zzSame_any _ _ _ _ _ (hy.drewN _) (hx.drewN _)).mono ?_
            rintro e w1 ⟨rfl, n, rfl⟩
            rw [sv_symm x y]
            go_wp2_with fail
            refine (zzSame_any _ _ _ _ _ (hz.drewN _) (hy.drewN _)).mono ?_
            rintro e w1 ⟨rfl, n, rfl⟩
            rw [sv_symm y z]
            go_wp2_with fail
            refine (zzSame_any _ _ _ _ _ (hz.drewN _) (hx.drewN _)).mono ?_
            rintro e w1 ⟨rfl, n, rfl⟩
            rw [sv_symm x z]
            go_wp2
            go_ret
            exact ⟨rfl, below_drewN hbl _⟩

theorem own : ownKnob Try.prog.godebug = none := by kernel_rfl
theorem laidOut : laidOutB Try.prog = true := by kernel_rfl
theorem cells9 : Try.prog.cellsOf 9 = 1 := by kernel_rfl

/-- A pointer to a string that came in, as the walk is told of it. -/
theorem isStr_of {H : Type} {enc : TypeId × Value → H} {W : World} {r : Reach} {b0 : Nat} {a : Option Addr} {d : DataW H} {ps : List MemPlace} (hv : Value.okWide Try.prog W r b0 22 (.pointer a)) (h : DataW.Trod enc Try.prog W 0 (fun _ => true) true 22 (.pointer a) d ps) : ∃ o, IsStr W a o := by
  rcases open_ptr Try.underlying22 (by rw [cells9]; omega) hv h with ⟨e, _, _⟩ | ⟨b, off, cs, y, fuel, e, _, _, hlen, hcell, hy⟩
  · simp only [Value.pointer.injEq] at e
    exact ⟨none, .inl ⟨e, rfl⟩⟩
  · simp only [Value.pointer.injEq] at e
    obtain ⟨s, hcs, _, hs⟩ := DataW.trod_string Try.underlying9 hy
    have hc := hcell 0 (by rw [cells9]; omega)
    subst hcs
    exact ⟨some s, .inr ⟨b, off, s, e, rfl, by simpa using hc, World.block_lt_of_cell? _ ⟨b, off, none⟩ (by simpa using hc), hs⟩⟩

set_option maxRecDepth 100000 in
theorem lifted (os : Os) (started : os.Started) (H : Type) (enc : TypeId × Value → H) :
    ReturnsInHanded {} Try.checked os 4 .any (Rows.fnSameValueIsEquivalenceSpec.pre6 enc Try.prog Try.f4 Rows.fnSameValueIsEquivalenceRow.domain false) (Rows.fnSameValueIsEquivalenceSpec.post enc Try.prog Try.f4 false true false false) := by
  refine returnsInHanded_of_change (C := Try.checked) own started (by kernel_rfl) Try.func4
    (ChangeSpec.witness6 (enc := enc) (C := Try.checked) false ⟨#[], #[.pointer none, .pointer none, .pointer none], []⟩ 8 (by kernel_rfl) (by kernel_rfl) (by kernel_rfl) (by kernel_rfl)) ?_
  intro W base args ds gs before hval0 hW hcnd _
  have hval : ∀ (j : Nat) t v, Try.f4.params[j]? = some t → args[j]? = some v → Value.okWide Try.prog W .any base t v := hval0
  have hW' := hW
  obtain ⟨p, q, hA0, hV, rfl, hfz, hnd⟩ := hW
  have hA : DataW.TrodAll enc Try.prog W 0 (fun _ => true) true Try.f4.params.toList args.toList ds p := hA0
  rw [Try.params4] at hA hval
  obtain ⟨v0, vs0, d0, ds0, p0, q0, hargs, rfl, rfl, h0, r0⟩ := trodAll_cons hA
  obtain ⟨v1, vs1, d1, ds1, p1, q1, rfl, rfl, rfl, h1, r1⟩ := trodAll_cons r0
  obtain ⟨v2, vs2, d2, ds2, p2, q2, rfl, rfl, rfl, h2, r2⟩ := trodAll_cons r1
  obtain ⟨rfl, rfl, rfl⟩ := trodAll_nil r2
  obtain rfl : args = #[v0, v1, v2] := by cases args; simp_all
  obtain ⟨rfl, rfl⟩ := trodVars_none hV
  obtain ⟨a0, rfl⟩ := okWide_pointer Try.underlying22 (hval 0 22 v0 rfl rfl)
  have lt0 : ∀ x ∈ p0, x.block < W.heap.size := by obtain ⟨m, hm⟩ := h0; exact DataW.trod_lt m _ _ _ hm
  obtain ⟨x0, w0⟩ := isStr_of (hval 0 22 _ rfl rfl) h0
  obtain ⟨a1, rfl⟩ := okWide_pointer Try.underlying22 (hval 1 22 v1 rfl rfl)
  have lt1 : ∀ x ∈ p1, x.block < W.heap.size := by obtain ⟨m, hm⟩ := h1; exact DataW.trod_lt m _ _ _ hm
  obtain ⟨x1, w1⟩ := isStr_of (hval 1 22 _ rfl rfl) h1
  obtain ⟨a2, rfl⟩ := okWide_pointer Try.underlying22 (hval 2 22 v2 rfl rfl)
  have lt2 : ∀ x ∈ p2, x.block < W.heap.size := by obtain ⟨m, hm⟩ := h2; exact DataW.trod_lt m _ _ _ hm
  obtain ⟨x2, w2⟩ := isStr_of (hval 2 22 _ rfl rfl) h2
  clear hA0 hval0
  refine (walk a0 a1 a2 x0 x1 x2 W w0 w1 w2).mono fun e W' ⟨he, bel⟩ => ?_
  subst he
  exact ⟨_, rfl, _, _, _, [], _, [], hW', trodAll_mk1 (shut_bool Try.underlying4 _), (trodAll_cons_mk (Below.trod laidOut (by kernel_rfl) (of_decide_eq_true (by kernel_rfl)) h0 bel lt0) (trodAll_cons_mk (Below.trod laidOut (by kernel_rfl) (of_decide_eq_true (by kernel_rfl)) h1 bel lt1) (trodAll_cons_mk (Below.trod laidOut (by kernel_rfl) (of_decide_eq_true (by kernel_rfl)) h2 bel lt2) trodAll_mk0))), rfl, bel.frame _, fun h => by cases h⟩

theorem over : Rows.fnSameValueIsEquivalenceRow.holds Try.pinned (OpenSpec.ofChange Rows.fnSameValueIsEquivalenceSpec) :=
  OpenClaim.holds_of_wide 4 Try.f4 rfl rfl rfl rfl rfl rfl rfl ⟨rfl, rfl, rfl, rfl, rfl⟩ rfl rfl rfl rfl rfl (by kernel_rfl) Try.func4 (by kernel_rfl)
    (of_decide_eq_true (by kernel_rfl)) (by unfold Func.isWrapper; first | (rw [if_pos (by decide +kernel)]; kernel_rfl) | (rw [if_neg (by decide +kernel)]; exact ⟨rfl, rfl⟩))
    (fun os started H enc _ => lifted os started H enc)

/-- THE STATEMENT -/
theorem proved : Rows.FnSameValueIsEquivalenceSaid := over
#print axioms proved
end Go.Proofs.Qxb6619409a.fnSameValueIsEquivalence
