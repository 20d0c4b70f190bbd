/-
  The walk of FnNextSkipsWhiteSpaceAtAnyCut (5), cut behind each 'if', so that its ways meet again.
-/
import Derived.Test.Qxb6619430aNext
import Derived.Deep.DeepCutAuto
import Derived.WalkSpells
namespace Go.Proofs.Qxb6619430a
open Go.ChangeShapes Go.WideShapes Go.ChangeAt Go.RowKit
open Scan

set_option maxRecDepth 100000 in
set_option maxHeartbeats 1000000 in
theorem next_walk (a0 : Option Addr) (zs : List Int) (cap0 : Nat) (a1 a2 a3 : Int) (w : World) (hsrc : Src w a0 zs) (b11 : -9223372036854775808 ≤ a1) (b12 : a1 ≤ 9223372036854775807) :
    Calls Try.prog 5 #[.slice a0 zs.length cap0, .int .i64 a1, .int .i64 a2, .int .i64 a3] w fun e w' => e = .returned (.bool true) ∧ Below w.heap.size w w' := by
  go_enter Try.func5, Try.ntmps5
  go_wp2_with fail
  refine (nbytes_any _ _ _ _ _ _ _).mono ?_
  rintro e w' ⟨⟨t, rfl⟩, rfl⟩
  cases t
  · go_wp2
    go_ret
    exact ⟨rfl, Below.refl _ _⟩
  by_cases hlen : 1048576 < zs.length
  · go_wp2
    go_ret
    exact ⟨rfl, Below.refl _ _⟩
  by_cases hpos : a1 < 0
  · go_wp2
    go_ret
    exact ⟨rfl, Below.refl _ _⟩
  obtain ⟨p, rfl⟩ := Int.eq_ofNat_of_zero_le (show 0 ≤ a1 by omega)
  have hlen' : zs.length ≤ 1048576 := by omega
  clear hlen hpos
  have hnn := fun w a => run_neq_slice_nil_any (P := Try.prog) w 22 5 a zs.length cap0 0 0 Try.underlying22
  have hmk := make_bytes zs.length hlen'
  go_upto_if 36 with fail
  go_cut [0] from 24 (fun s0 wx => ∃ a' cap', s0 = .slice a' zs.length cap' ∧ zs.length ≤ cap' ∧ Bs wx a' zs ∧ Hid (∀ x, a' = some x → x.block < wx.heap.size) ∧ Hid (Below w'.heap.size w' wx))
  case first =>
    rcases hsrc with ⟨rfl, rfl⟩ | ⟨x, rfl, hc⟩
    · go_wp2
      go_meet
      exact ⟨none, cap0, rfl, Nat.zero_le _, .inl rfl, (fun x hx => by cases hx), Below.refl _ _⟩
    · obtain ⟨W2, hcopy, hbs, hbl, hlt⟩ := copy_made x zs.length cap0 zs w' rfl hc
      clear hc
      go_wp2
      go_meet
      exact ⟨_, _, rfl, Nat.le_refl _, hbs, fun x hx => by cases hx; exact hlt, hbl⟩
  case rest =>
    clear hsrc hnn hmk
    obtain ⟨a, cap, rfl, hcap, hbs, Ha, Hb⟩ := hcut
    go_wp2_with fail
    refine (zzNext_any a zs _ rfl cap p a2 _ hlen' hbs Ha.out).mono ?_
    rintro e w1 ⟨rfl, hb1⟩
    have hbs1 := hbs.below hb1 (Nat.le_refl _)
    have Ha1 : Hid (∀ x, a = some x → x.block < w1.heap.size) := fun x hx => Nat.lt_of_lt_of_le (Ha.out x hx) hb1.size
    have Hb1 : Hid (Below w'.heap.size w' w1) := Hb.out.trans (hb1.mono Hb.out.size)
    have q1 := scan_ge (P := iss) (zs := zs) (k := p)
    have q2 : p ≤ zs.length → scan iss zs p ≤ zs.length := fun h => scan_le h
    have Q3 : Hid (∀ j, p ≤ j → j < scan iss zs p → iss (zs.getD j 0) = true) := fun j h1 h2 => scan_all h1 h2
    have Q4 : Hid (scan iss zs p < zs.length → iss (zs.getD (scan iss zs p) 0) = false) := fun h => scan_end h
    have Q5 : Hid (zs.length ≤ p → scan iss zs p = p) := fun h => scan_out h
    obtain ⟨q, hq⟩ : ∃ q, scan iss zs p = q := ⟨_, rfl⟩
    rw [hq] at q1 q2 Q3 Q4 Q5 ⊢
    have Hq : Hid (scan iss zs p = q) := hq
    obtain ⟨ch, hch⟩ : ∃ ch, zs.getD q 0 = ch := ⟨_, rfl⟩
    rw [hch] at Q4 ⊢
    have Hch : Hid (zs.getD q 0 = ch) := hch
    have Q6 : Hid (zs.length ≤ q → ch = 0) := fun h => by rw [← hch]; simp [List.getD, List.getElem?_eq_none h]
    clear hch hq hbs Ha Hb hb1
    go_upto_if 59 with fail
    go_cut [] from 24 (fun wx => wx = w1)
    case first =>
      by_cases hpn : zs.length ≤ p
      · obtain rfl : q = p := Q5.out hpn
        obtain rfl : ch = 0 := Q6.out hpn
        go_wp2
        go_meet
        exact rfl
      · have q2' := q2 (by omega)
        rcases hbs1 with rfl | ⟨g, off, rfl, hg, hc⟩
        · simp at hpn
        have HC : Hid (∀ i, i < zs.length → w1.cell? ⟨g, off + i, none⟩ = some (.int .u8 (zs.getD i 0))) := hc
        clear hc q2
        have hd1 : decide (zs.length ≤ p) = false := decide_eq_false (by omega)
        have hd2 : decide (q < p) = false := decide_eq_false (by omega)
        have hd3 : decide (zs.length < q) = false := decide_eq_false (by omega)
        simp only [hd1]
        go_wp2_with fail
        go_loop [14] (fun i => ∃ k : Nat, p ≤ k ∧ k ≤ q ∧ i = .int .i64 k) (fun i => q - (intOf i).toNat)
        case atStart => exact ⟨p, Nat.le_refl _, q1, rfl⟩
        case round =>
          obtain ⟨k, hk1, hk2, rfl⟩ := hrel
          by_cases hlt : k < q
          · have hcell := HC.out k (by omega)
            have hz := Q3.out k hk1 hlt
            obtain ⟨z, ez⟩ : ∃ z, zs.getD k 0 = z := ⟨_, rfl⟩
            rw [ez] at hcell hz
            clear ez
            go_wp2_with (go_at_call 13; refine (isSpace_any _ _).mono ?_; rintro e w2 ⟨rfl, rfl⟩)
            go_round
            case rel => exact ⟨k + 1, by omega, by omega, by go_num⟩
            case measure => simp [intOf]; omega
          · by_cases hqn : q < zs.length
            · have hcell := HC.out q hqn
              have hz := Q4.out hqn
              rw [Hch.out] at hcell
              have hqe : ((q : Int) == (zs.length : Int)) = false := beq_eq_false_iff_ne.2 (by omega)
              go_wp2_with (go_at_call 13; refine (isSpace_any _ _).mono ?_; rintro e w2 ⟨rfl, rfl⟩)
              go_meet
              exact rfl
            · obtain rfl : ch = 0 := Q6.out (by omega)
              have hqe : ((q : Int) == (zs.length : Int)) = true := beq_iff_eq.2 (by omega)
              go_wp2_with (go_at_call 13; refine (isSpace_any _ _).mono ?_; rintro e w2 ⟨rfl, rfl⟩)
              go_meet
              exact rfl
    case rest =>
      subst hcut
      have S4 : Hid (scan iss zs q = q) := by show _ = _; rw [← Hq.out]; exact scan_again
      by_cases hc1 : a3 < (p : Int)
      · go_wp2_with fail
        refine (zzNext_any a zs _ rfl cap q a2 _ hlen' hbs1 Ha1.out).mono ?_
        rintro e w2 ⟨rfl, hb2⟩
        have Hb2 : Hid (Below w'.heap.size w' w2) := Hb1.out.trans (hb2.mono Hb1.out.size)
        rw [S4.out, Hch.out]
        clear hb2 hbs1
        go_wp2
        go_ret
        exact ⟨rfl, Hb2.out⟩
      by_cases hc2 : (zs.length : Int) < a3
      · go_wp2_with fail
        refine (zzNext_any a zs _ rfl cap q a2 _ hlen' hbs1 Ha1.out).mono ?_
        rintro e w2 ⟨rfl, hb2⟩
        have Hb2 : Hid (Below w'.heap.size w' w2) := Hb1.out.trans (hb2.mono Hb1.out.size)
        rw [S4.out, Hch.out]
        clear hb2 hbs1
        go_wp2
        go_ret
        exact ⟨rfl, Hb2.out⟩
      obtain ⟨c, rfl⟩ := Int.eq_ofNat_of_zero_le (show 0 ≤ a3 by omega)
      have c1 : p ≤ c := by omega
      have c2 : c ≤ zs.length := by omega
      have hcl : (zs.take c).length = c := by rw [List.length_take]; omega
      have S5 : Hid (∀ wx, Bs wx a zs → Hid (∀ x, a = some x → x.block < wx.heap.size) → Calls Try.prog 12 #[.slice a zs.length cap, .int .i64 q, .int .i64 a2] wx fun e w' => e = .returned (.tuple #[.int .u8 ch, .int .i64 q, .int .i64 a2]) ∧ Below wx.heap.size wx w') := fun wx h1 h2 => by
        have := zzNext_any a zs _ rfl cap q a2 wx hlen' h1 h2.out
        rw [S4.out, Hch.out] at this
        exact this
      go_wp2_with fail
      refine (zzNext_any a (zs.take c) c hcl cap p a2 _ (by omega) (hbs1.take c) Ha1.out).mono ?_
      rintro e w2 ⟨rfl, hb2⟩
      have hbs2 := hbs1.below hb2 (Nat.le_refl _)
      have Ha2 : Hid (∀ x, a = some x → x.block < w2.heap.size) := fun x hx => Nat.lt_of_lt_of_le (Ha1.out x hx) hb2.size
      have Hb2 : Hid (Below w'.heap.size w' w2) := Hb1.out.trans (hb2.mono Hb1.out.size)
      clear hbs1 Ha1 Hb1 hb2 hcl
      rcases scan_cut (P := iss) (zs := zs) (k := p) c1 c2 with ⟨h1, h2⟩ | ⟨h1, h2⟩
      · rw [h2, Hq.out] at h1
        rw [h2, Hq.out, getD_take h1, Hch.out]
        clear h2
        go_wp2_with fail
        refine (S5.out _ hbs2 Ha2).mono ?_
        rintro e w3 ⟨rfl, hb3⟩
        have Hb3 : Hid (Below w'.heap.size w' w3) := Hb2.out.trans (hb3.mono Hb2.out.size)
        clear hb3 hbs2
        go_wp2
        go_ret
        exact ⟨rfl, Hb3.out⟩
      · have h0 : (zs.take c).getD c 0 = 0 := by rw [List.getD, List.getElem?_eq_none (by rw [List.length_take]; omega)]; rfl
        rw [h1, h0]
        clear h0
        have S6 : Hid (scan iss zs c = q) := by show _ = _; rw [h2]; exact Hq.out
        clear h1 h2
        go_wp2_with fail
        refine (zzNext_any a zs _ rfl cap c a2 _ hlen' hbs2 Ha2.out).mono ?_
        rintro e w3 ⟨rfl, hb3⟩
        have hbs3 := hbs2.below hb3 (Nat.le_refl _)
        have Ha3 : Hid (∀ x, a = some x → x.block < w3.heap.size) := fun x hx => Nat.lt_of_lt_of_le (Ha2.out x hx) hb3.size
        have Hb3 : Hid (Below w'.heap.size w' w3) := Hb2.out.trans (hb3.mono Hb2.out.size)
        rw [S6.out, Hch.out]
        clear hbs2 Ha2 Hb2 hb3
        go_wp2_with fail
        refine (S5.out _ hbs3 Ha3).mono ?_
        rintro e w4 ⟨rfl, hb4⟩
        have Hb4 : Hid (Below w'.heap.size w' w4) := Hb3.out.trans (hb4.mono Hb3.out.size)
        clear hb4 hbs3
        go_wp2
        go_ret
        exact ⟨rfl, Hb4.out⟩
end Go.Proofs.Qxb6619430a
