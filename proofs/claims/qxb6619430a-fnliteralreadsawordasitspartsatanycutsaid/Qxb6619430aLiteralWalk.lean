/-
  The walk of FnLiteralReadsAWordAsItsPartsAtAnyCut (3), cut behind each 'if' and behind the loop, so that its ways meet again.
-/
import Derived.Test.Qxb6619430aLiteral
import Derived.Test.Qxb6619430aHp
import Derived.Deep.DeepCutAuto
import Derived.Deep.CutBlock
import Derived.WalkSpells
import Derived.Lib.IndexBytes
namespace Go.Proofs.Qxb6619430a
open Go.ChangeShapes Go.WideShapes Go.ChangeAt Go.RowKit
open Scan

/-- 1 where a slot holds true. -/
def trueOf : Value → Nat | .bool true => 1 | _ => 0

theorem byte_eq (bs : List UInt8) (p k : Nat) (s : ByteArray) (h1 : p + k < bs.length) (h2 : k < s.size) : ((bs[p + k].toNat : Int) != (s[k].toNat : Int)) = false ↔ (bs.drop p).getD k 0 = s.data.toList.getD k 0 := by
  have e1 : (bs.drop p).getD k 0 = bs[p + k] := by simp [List.getD, List.getElem?_drop, h1]
  have e2 : s.data.toList.getD k 0 = s[k] := by
    have h3 : k < s.data.toList.length := by simpa using h2
    rw [List.getD, List.getElem?_eq_getElem h3]
    rfl
  rw [e1, e2, bne_eq_false_iff_eq]
  constructor
  · intro h
    exact UInt8.toNat_inj.1 (by omega)
  · intro h
    rw [h]

set_option maxRecDepth 100000 in
set_option maxHeartbeats 1000000 in
theorem literal_walk (a0 : Option Addr) (bs : List UInt8) (cap0 : Nat) (a1 a2 a4 : Int) (s : ByteArray) (w : World) (hsrc : Src w a0 (ints bs)) (b11 : -9223372036854775808 ≤ a1) (b12 : a1 ≤ 9223372036854775807) (hs : s.size ≤ 9223372036854775807) :
    Calls Try.prog 3 #[.slice a0 bs.length cap0, .int .i64 a1, .int .i64 a2, .string s, .int .i64 a4] w fun e w' => e = .returned (.bool true) ∧ Below w.heap.size w w' := by
  go_enter Try.func3, Try.ntmps3
  go_wp2_with fail
  refine (lbytes_any _ _ _ _ _ _ _ hs _).mono ?_
  rintro e w' ⟨⟨t, rfl⟩, rfl⟩
  cases t
  · go_wp2
    go_ret
    exact ⟨rfl, Below.refl _ _⟩
  by_cases hlen : 1048576 < bs.length
  · go_wp2
    go_ret
    exact ⟨rfl, Below.refl _ _⟩
  by_cases hsl : 1048576 - (bs.length : Int) < (s.size : Int)
  · go_wp2
    go_ret
    exact ⟨rfl, Below.refl _ _⟩
  by_cases hpos : a1 < 0
  · go_wp2
    go_ret
    exact ⟨rfl, Below.refl _ _⟩
  by_cases hpos2 : (bs.length : Int) < a1
  · go_wp2
    go_ret
    exact ⟨rfl, Below.refl _ _⟩
  obtain ⟨p, rfl⟩ := Int.eq_ofNat_of_zero_le (show 0 ≤ a1 by omega)
  have hlen' : bs.length ≤ 1048576 := by omega
  have hsl' : s.size ≤ 1048576 := by omega
  have hp1 : p ≤ bs.length := by omega
  have hsum : s.size + bs.length ≤ 1048576 := by omega
  clear hlen hpos hpos2 hsl hs
  have hnn := fun w a => run_neq_slice_nil_any (P := Try.prog) w 22 5 a bs.length cap0 0 0 Try.underlying22
  have hmk := make_bytes bs.length hlen'
  go_upto_if 50 with fail
  go_cut [0] from 25 (fun s0 wx => ∃ a' cap', s0 = .slice a' bs.length cap' ∧ bs.length ≤ cap' ∧ Bs wx a' (ints bs) ∧ Hid (Below w'.heap.size w' wx))
  case first =>
    rcases hsrc with ⟨rfl, h0⟩ | ⟨x, rfl, hc⟩
    · obtain rfl : bs = [] := by simpa [ints] using h0
      go_wp2
      go_meet
      exact ⟨none, cap0, rfl, Nat.zero_le _, .inl rfl, Below.refl _ _⟩
    · obtain ⟨W2, hcopy, hbs, hbl, hlt⟩ := copy_made x bs.length cap0 (ints bs) w' (ints_length bs) hc
      clear hc
      go_wp2
      go_meet
      exact ⟨_, _, rfl, Nat.le_refl _, hbs, hbl⟩
  case rest =>
    clear hsrc hnn hmk
    obtain ⟨a, cap, rfl, hcap, hbs, Hb⟩ := hcut
    go_wp2_with fail
    refine (zzLiteral_any a bs _ rfl cap p a2 s _ hlen' hsl' hp1 hcap hbs).mono ?_
    rintro e w1 ⟨rfl, hb1⟩
    have hbs1 := hbs.below hb1 (Nat.le_refl _)
    have Hb1 : Hid (Below w'.heap.size w' w1) := Hb.out.trans (hb1.mono Hb.out.size)
    clear hbs Hb hb1
    obtain ⟨ok, hok⟩ : ∃ ok, hp (bs.drop p) s.data.toList = ok := ⟨_, rfl⟩
    rw [hok]
    have Hok : Hid (hp (bs.drop p) s.data.toList = ok) := hok
    obtain ⟨q, hq⟩ : ∃ q : Int, (if ok = true then ((p : Int) + s.size) else p) = q := ⟨_, rfl⟩
    rw [hq]
    have Hq : Hid ((if ok = true then ((p : Int) + s.size) else p) = q) := hq
    clear hok hq
    obtain ⟨wt, hwt⟩ : ∃ wt, decide ((s.size : Int) ≤ (bs.length : Int) - (p : Int)) = wt := ⟨_, rfl⟩
    go_upto_block 0 with fail
    have Hwt : Hid (decide ((s.size : Int) ≤ (bs.length : Int) - (p : Int)) = wt) := hwt
    clear hwt
    go_cut [15, 16] from 25 (fun s15 _ wx => s15 = .bool ok ∧ ∃ m, wx = w1.drewN m)
    case first =>
      go_wp2_with fail
      go_loopw [15, 16] (fun b15 i wr => ∃ (k m : Nat) (b : Bool), b15 = .bool b ∧ i = .int .i64 k ∧ wr = w1.drewN m ∧ k ≤ s.size ∧ Hid (b = true → s.size ≤ bs.length - p ∧ ∀ j, j < k → (bs.drop p).getD j 0 = s.data.toList.getD j 0) ∧ Hid (b = false → ok = false))
        (fun b15 i _ => trueOf b15 * (s.size + 1 - (intOf i).toNat))
      case atStart =>
        refine ⟨0, 0, wt, rfl, rfl, rfl, Nat.zero_le _, fun h => ?_, fun h => ?_⟩
        · have := Hwt.out
          rw [h, decide_eq_true_eq] at this
          exact ⟨by omega, fun j hj => by omega⟩
        · have := Hwt.out
          rw [h, decide_eq_false_iff_not] at this
          cases ok
          · rfl
          · have h1 := hp_take_le _ _ Hok.out
            rw [List.length_drop] at h1
            simp at h1
            omega
      case round =>
        obtain ⟨k, m, b, rfl, rfl, rfl, hk, Ht, Hf⟩ := hrel
        cases b
        · obtain rfl : ok = false := Hf.out rfl
          go_wp2
          go_meet
          exact ⟨rfl, m, rfl⟩
        · obtain ⟨t1, t2⟩ := Ht.out rfl
          have T2 : Hid (∀ j, j < k → (bs.drop p).getD j 0 = s.data.toList.getD j 0) := t2
          clear t2 Ht Hf
          by_cases hlt : k < s.size
          · rcases hbs1 with h0 | ⟨g, off, rfl, hg, hc⟩
            · have : bs = [] := by simpa [ints] using h0
              subst this
              simp only [List.length_nil] at t1
              omega
            have hcell := hc (p + k) (by rw [ints_length]; omega)
            rw [ints_getD _ _ (by omega)] at hcell
            clear hc
            have i1 : (0 : Int) ≤ (p : Int) + (k : Int) := by omega
            have i2 : (p : Int) + (k : Int) < (bs.length : Int) := by omega
            have i3 : (k : Int) < (s.size : Int) := by omega
            go_wp2_with fail
            go_quiet (fail)
            go_wp2_with fail
            · have hx := byte_eq bs p k s (by omega) hlt
              rw [show ((bs[p + k].toNat : Int) != (s[k].toNat : Int)) = true from ‹_›] at hx
              have Hx : Hid ((bs.drop p).getD k 0 ≠ s.data.toList.getD k 0) := fun e => by cases hx.2 e
              clear hx
              go_roundw
              case rel =>
                refine ⟨k + 1, _, false, rfl, by go_num, rfl, by omega, fun h => (by cases h), fun _ => ?_⟩
                rw [← Hok.out]
                cases hh : hp (bs.drop p) s.data.toList
                · rfl
                · exact absurd (((hp_bytes _ _).1 hh).2 k (by simpa using hlt)) Hx.out
              case measure => simp [trueOf, intOf]; omega
            · have hx := byte_eq bs p k s (by omega) hlt
              rw [show ((bs[p + k].toNat : Int) != (s[k].toNat : Int)) = false from ‹_›] at hx
              have Hx : Hid ((bs.drop p).getD k 0 = s.data.toList.getD k 0) := hx.1 rfl
              clear hx
              go_roundw
              case rel =>
                refine ⟨k + 1, _, true, rfl, by go_num, rfl, by omega, fun _ => ⟨t1, fun j hj => ?_⟩, fun h => (by cases h)⟩
                by_cases e : j = k
                · rw [e]; exact Hx.out
                · exact T2.out j (by omega)
              case measure => simp [trueOf, intOf]; omega
          · have hkk : k = s.size := by omega
            obtain rfl : ok = true := by
              rw [← Hok.out, hp_bytes, List.length_drop]
              refine ⟨by simpa using t1, fun j hj => T2.out j (by simp at hj; omega)⟩
            clear hkk
            go_wp2
            go_meet
            exact ⟨rfl, m, rfl⟩
    case rest =>
      obtain ⟨rfl, m, rfl⟩ := hcut
      have hbs2 : Bs (w1.drewN m) a (ints bs) := hbs1
      have Hb2 : Hid (Below w'.heap.size w' (w1.drewN m)) := below_drewN Hb1.out m
      clear hbs1 Hb1 Hwt
      by_cases hc1 : a4 < 0
      · cases ok
        · obtain rfl : (p : Int) = q := by simpa using Hq.out
          go_wp2
          go_ret
          exact ⟨rfl, Hb2.out⟩
        · obtain rfl : (p : Int) + s.size = q := by simpa using Hq.out
          go_wp2
          go_ret
          exact ⟨rfl, Hb2.out⟩
      by_cases hc2 : (s.size : Int) < a4
      · cases ok
        · obtain rfl : (p : Int) = q := by simpa using Hq.out
          go_wp2
          go_ret
          exact ⟨rfl, Hb2.out⟩
        · obtain rfl : (p : Int) + s.size = q := by simpa using Hq.out
          go_wp2
          go_ret
          exact ⟨rfl, Hb2.out⟩
      obtain ⟨c, rfl⟩ := Int.eq_ofNat_of_zero_le (show 0 ≤ a4 by omega)
      have c2 : c ≤ s.size := by omega
      clear hc1 hc2
      have HP : Hid (hp (bs.drop p) s.data.toList = (hp (bs.drop p) (s.data.toList.take c) && hp (bs.drop (p + c)) (s.data.toList.drop c))) := by
        show _ = _
        rw [hp_parts _ _ c (by simpa using c2), List.drop_drop]
      have HA2 : Hid ((s.extract 0 c).data.toList = s.data.toList.take c) := by
        show _ = _
        rw [Lib.extract_data, List.drop_zero, Nat.sub_zero]
      have HA3 : Hid ((s.extract 0 c).size = c) := by
        show _ = _
        rw [ByteArray.size_extract]; omega
      have HA4 : Hid ((s.extract c s.size).data.toList = s.data.toList.drop c) := Lib.extract_to_end s c
      have HA5 : Hid ((s.extract c s.size).size = s.size - c) := by
        show _ = _
        rw [ByteArray.size_extract]; omega
      cases ok
      · obtain rfl : (p : Int) = q := by simpa using Hq.out
        clear Hq
        go_wp2_with fail
        refine (zzLiteral_any a bs _ rfl cap p a2 (s.extract 0 c) _ hlen' (by rw [HA3.out]; omega) hp1 hcap hbs2).mono ?_
        rintro e w2 ⟨rfl, hb2⟩
        rw [HA2.out, HA3.out]
        have hbs3 := hbs2.below hb2 (Nat.le_refl _)
        have Hb3 : Hid (Below w'.heap.size w' w2) := Hb2.out.trans (hb2.mono Hb2.out.size)
        clear hbs2 Hb2 hb2
        obtain ⟨okA, hokA⟩ : ∃ okA, hp (bs.drop p) (s.data.toList.take c) = okA := ⟨_, rfl⟩
        rw [hokA]
        have HokA : Hid (hp (bs.drop p) (s.data.toList.take c) = okA) := hokA
        clear hokA
        cases okA
        · simp only [Bool.false_eq_true, if_false]
          go_wp2
          go_ret
          exact ⟨rfl, Hb3.out⟩
        · have hB : hp (bs.drop (p + c)) (s.data.toList.drop c) = false := by
            have := HP.out
            rw [Hok.out, HokA.out, Bool.true_and] at this
            exact this.symm
          have hpc : p + c ≤ bs.length := by
            have := hp_take_le _ _ HokA.out
            rw [List.length_take, List.length_drop] at this
            simp at this
            omega
          have HB : Hid (hp (bs.drop (p + c)) (s.data.toList.drop c) = false) := hB
          clear hB HP HokA Hok
          simp only [if_true]
          go_wp2_with fail
          rw [show ((p : Int) + (c : Int)) = ((p + c : Nat) : Int) from by omega]
          refine (zzLiteral_any a bs _ rfl cap (p + c) a2 (s.extract c s.size) _ hlen' (by rw [HA5.out]; omega) hpc hcap hbs3).mono ?_
          rintro e w3 ⟨rfl, hb3⟩
          rw [HA4.out, HA5.out, HB.out]
          simp only [Bool.false_eq_true, if_false]
          have Hb4 : Hid (Below w'.heap.size w' w3) := Hb3.out.trans (hb3.mono Hb3.out.size)
          clear hb3 hbs3
          go_wp2
          go_ret
          exact ⟨rfl, Hb4.out⟩
      · obtain rfl : (p : Int) + s.size = q := by simpa using Hq.out
        clear Hq
        go_wp2_with fail
        refine (zzLiteral_any a bs _ rfl cap p a2 (s.extract 0 c) _ hlen' (by rw [HA3.out]; omega) hp1 hcap hbs2).mono ?_
        rintro e w2 ⟨rfl, hb2⟩
        rw [HA2.out, HA3.out]
        have hbs3 := hbs2.below hb2 (Nat.le_refl _)
        have Hb3 : Hid (Below w'.heap.size w' w2) := Hb2.out.trans (hb2.mono Hb2.out.size)
        clear hbs2 Hb2 hb2
        obtain ⟨okA, hokA⟩ : ∃ okA, hp (bs.drop p) (s.data.toList.take c) = okA := ⟨_, rfl⟩
        rw [hokA]
        have HokA : Hid (hp (bs.drop p) (s.data.toList.take c) = okA) := hokA
        clear hokA
        cases okA
        · simp only [Bool.false_eq_true, if_false]
          have := HP.out
          rw [Hok.out, HokA.out] at this
          simp at this
        · have hB : hp (bs.drop (p + c)) (s.data.toList.drop c) = true := by
            have := HP.out
            rw [Hok.out, HokA.out, Bool.true_and] at this
            exact this.symm
          have hpc : p + c ≤ bs.length := by
            have := hp_take_le _ _ HokA.out
            rw [List.length_take, List.length_drop] at this
            simp at this
            omega
          have HB : Hid (hp (bs.drop (p + c)) (s.data.toList.drop c) = true) := hB
          clear hB HP HokA Hok
          simp only [if_true]
          go_wp2_with fail
          rw [show ((p : Int) + (c : Int)) = ((p + c : Nat) : Int) from by omega]
          refine (zzLiteral_any a bs _ rfl cap (p + c) a2 (s.extract c s.size) _ hlen' (by rw [HA5.out]; omega) hpc hcap hbs3).mono ?_
          rintro e w3 ⟨rfl, hb3⟩
          rw [HA4.out, HA5.out, HB.out]
          simp only [if_true]
          rw [show (((p + c : Nat) : Int) + ((s.size - c : Nat) : Int)) = (p : Int) + (s.size : Int) from by omega]
          have Hb4 : Hid (Below w'.heap.size w' w3) := Hb3.out.trans (hb3.mono Hb3.out.size)
          clear hb3 hbs3
          go_wp2
          go_ret
          exact ⟨rfl, Hb4.out⟩
end Go.Proofs.Qxb6619430a
