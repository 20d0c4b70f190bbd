/-
  Contracts of Reader.next (16), ZZNext (12), isJSONSpace (13), zzBytes (11).
-/
import Derived.Test.Qxb6619430aRows
import Derived.Test.Qxb6619430aScan
import Derived.Test.Qxb6619430aBytes
import Derived.WalkKit
import Derived.ProofKit
import Derived.OpenShut
import Derived.ShutString
import Derived.ChangeOld
import Derived.Below
import Derived.WalkSmall
import Derived.Deep.QuietTactic
import Derived.BigQuiet
namespace Go.Proofs.Qxb6619430a
open Go.ChangeShapes Go.WideShapes Go.ChangeAt Go.RowKit
open Scan

/-- A byte of JSON's white space. -/
def iss (z : Int) : Bool := z == 32 || (z == 9 || (z == 10 || z == 13))

theorem isSpace_any (z : Int) (w : World) : Calls Try.prog 13 #[.int .u8 z] w fun e w' => e = .returned (.bool (iss z)) ∧ w = w' := by
  unfold iss
  cases h1 : z == 32
  · cases h2 : z == 9
    · cases h3 : z == 10
      · cases h4 : z == 13
        all_goals
          go_enter Try.func13, Try.ntmps13
          go_wp2
          go_ret
          exact ⟨rfl, rfl⟩
      · go_enter Try.func13, Try.ntmps13
        go_wp2
        go_ret
        exact ⟨rfl, rfl⟩
    · go_enter Try.func13, Try.ntmps13
      go_wp2
      go_ret
      exact ⟨rfl, rfl⟩
  · go_enter Try.func13, Try.ntmps13
    go_wp2
    go_ret
    exact ⟨rfl, rfl⟩

theorem nbytes_any (a : Option Addr) (len cap : Nat) (p d c : Int) (w : World) :
    Calls Try.prog 11 #[.slice a len cap, .int .i64 p, .int .i64 d, .int .i64 c] w fun e w' => (∃ t : Bool, e = .returned (.bool t)) ∧ w' = w := by
  go_enter Try.func11, Try.ntmps11
  go_wp2
  all_goals
    go_ret
    exact ⟨⟨_, rfl⟩, rfl⟩

set_option maxRecDepth 100000 in
set_option maxHeartbeats 1000000 in
theorem next_any (rb cap p : Nat) (a : Option Addr) (zs : List Int) (d : Int) (w : World) (hlen : zs.length ≤ 1048576)
    (hbs : Bs w a zs) (hne : ∀ x, a = some x → x.block ≠ rb)
    (h0 : w.cell? ⟨rb, 0, none⟩ = some (.slice a zs.length cap)) (h1 : w.cell? ⟨rb, 1, none⟩ = some (.int .i64 p)) (h2 : w.cell? ⟨rb, 2, none⟩ = some (.int .i64 d)) (hf : w.frozen? ⟨rb, 1, none⟩ = false) :
    Calls Try.prog 16 #[.pointer (some ⟨rb, 0, none⟩)] w fun e w' => e = .returned (.int .u8 (zs.getD (scan iss zs p) 0)) ∧ w'.cell? ⟨rb, 1, none⟩ = some (.int .i64 (scan iss zs p)) ∧ w'.cell? ⟨rb, 2, none⟩ = some (.int .i64 d) ∧ Below rb w w' := by
  obtain ⟨c, hc⟩ : ∃ c, zs.getD (scan iss zs p) 0 = c := ⟨_, rfl⟩
  rw [hc]
  have HCc : Hid (zs.getD (scan iss zs p) 0 = c) := hc
  clear hc
  go_enter Try.func16, Try.ntmps16
  go_wp2_with fail
  go_loopw [3] (fun _ wr => ∃ k : Nat, p ≤ k ∧ (k ≤ zs.length ∨ k = p) ∧ Hid (scan iss zs k = scan iss zs p) ∧ wr.cell? ⟨rb, 0, none⟩ = some (.slice a zs.length cap) ∧ wr.cell? ⟨rb, 1, none⟩ = some (.int .i64 k) ∧ wr.cell? ⟨rb, 2, none⟩ = some (.int .i64 d) ∧ wr.frozen? ⟨rb, 1, none⟩ = false ∧ Bs wr a zs ∧ Hid (Below rb w wr))
    (fun _ wr => zs.length - (intOf ((wr.cell? ⟨rb, 1, none⟩).getD undef)).toNat)
  case atStart => exact ⟨p, Nat.le_refl _, .inr rfl, rfl, h0, h1, h2, hf, hbs, Below.refl _ _⟩
  case round =>
    obtain ⟨k, hk1, hk2, hsc, g0, g1, g2, gf, gbs, gbl⟩ := hrel
    clear hbs h0 h1 h2 hf
    by_cases hlt : k < zs.length
    · rcases gbs with rfl | ⟨g, off, rfl, hg, hc⟩
      · simp at hlt
      · have hcell := hc k hlt
        have hgr : g ≠ rb := hne _ rfl
        obtain ⟨z, hz⟩ : ∃ z, zs.getD k 0 = z := ⟨_, rfl⟩
        rw [hz] at hcell
        have HZ : Hid (zs.getD k 0 = z) := hz
        have HC : Hid (∀ i, i < zs.length → wr.cell? ⟨g, off + i, none⟩ = some (.int .u8 (zs.getD i 0))) := hc
        clear hc hz hne
        have b1 : (0 : Int) ≤ (k : Int) := by omega
        have b2 : (k : Int) < (zs.length : Int) := by omega
        have b3 : decide ((k : Int) < (zs.length : Int)) = true := decide_eq_true b2
        cases hi : iss z
        · have HS : Hid (scan iss zs p = k) := by
            show _ = _
            rw [← hsc.out, scan_stop hlt (by rw [HZ.out]; exact hi)]
          have HZc : Hid (z = c) := by
            show _ = _
            rw [← HCc.out, HS.out, HZ.out]
          unfold iss at hi
          simp only [Bool.or_eq_false_iff] at hi
          obtain ⟨i1, i2, i3, i4⟩ := hi
          go_wp2_with fail
          go_quiet (fail)
          go_wp2_with fail
          go_quiet (fail)
          go_wp2
          go_ret
          refine ⟨?_, ?_, ?_, ?_⟩
          · rw [← HZc.out]; rfl
          · rw [HS.out]; exact g1
          · exact g2
          · exact below_drewN gbl.out _
        · have HS : Hid (scan iss zs (k + 1) = scan iss zs p) := by
            show _ = _
            rw [scan_step hlt (by rw [HZ.out]; exact hi)]
            exact hsc.out
          unfold iss at hi
          have HI : Hid ((z == 32 || (z == 9 || (z == 10 || z == 13))) = true) := hi
          clear hi
          go_wp2_with fail
          go_quiet (fail)
          go_wp2_with fail
          go_quiet (fail)
          cases i1 : z == 32
          · cases i2 : z == 9
            · cases i3 : z == 10
              · cases i4 : z == 13
                · have := HI.out
                  rw [i1, i2, i3, i4] at this
                  cases this
                · go_wp2
                  go_roundw
                  case rel =>
                    refine ⟨k + 1, by omega, .inl (by omega), HS, ?_, ?_, ?_, ?_, ?_, ?_⟩
                    · rw [cell_set_off (by simp)]; exact g0
                    · rw [cell_set_on (w := wr.drewN _) (u := .int .i64 k) (by exact g1)]; rfl
                    · rw [cell_set_off (by simp)]; exact g2
                    · rw [World.frozen?_setCell]; exact gf
                    · exact .inr ⟨g, off, rfl, by simpa [World.setCell] using hg, fun i hi => by rw [cell_set_off (fun e => hgr (congrArg Addr.block e).symm)]; exact HC.out i hi⟩
                    · exact (below_drewN gbl.out _).setCell (Nat.le_refl _) _
                  case measure =>
                    rw [cell_set_on (w := wr.drewN _) (u := .int .i64 k) (by exact g1), g1]
                    simp [intOf]
                    omega
              · go_wp2
                go_roundw
                case rel =>
                  refine ⟨k + 1, by omega, .inl (by omega), HS, ?_, ?_, ?_, ?_, ?_, ?_⟩
                  · rw [cell_set_off (by simp)]; exact g0
                  · rw [cell_set_on (w := wr.drewN _) (u := .int .i64 k) (by exact g1)]; rfl
                  · rw [cell_set_off (by simp)]; exact g2
                  · rw [World.frozen?_setCell]; exact gf
                  · exact .inr ⟨g, off, rfl, by simpa [World.setCell] using hg, fun i hi => by rw [cell_set_off (fun e => hgr (congrArg Addr.block e).symm)]; exact HC.out i hi⟩
                  · exact (below_drewN gbl.out _).setCell (Nat.le_refl _) _
                case measure =>
                  rw [cell_set_on (w := wr.drewN _) (u := .int .i64 k) (by exact g1), g1]
                  simp [intOf]
                  omega
            · go_wp2
              go_roundw
              case rel =>
                refine ⟨k + 1, by omega, .inl (by omega), HS, ?_, ?_, ?_, ?_, ?_, ?_⟩
                · rw [cell_set_off (by simp)]; exact g0
                · rw [cell_set_on (w := wr.drewN _) (u := .int .i64 k) (by exact g1)]; rfl
                · rw [cell_set_off (by simp)]; exact g2
                · rw [World.frozen?_setCell]; exact gf
                · exact .inr ⟨g, off, rfl, by simpa [World.setCell] using hg, fun i hi => by rw [cell_set_off (fun e => hgr (congrArg Addr.block e).symm)]; exact HC.out i hi⟩
                · exact (below_drewN gbl.out _).setCell (Nat.le_refl _) _
              case measure =>
                rw [cell_set_on (w := wr.drewN _) (u := .int .i64 k) (by exact g1), g1]
                simp [intOf]
                omega
          · go_wp2
            go_roundw
            case rel =>
              refine ⟨k + 1, by omega, .inl (by omega), HS, ?_, ?_, ?_, ?_, ?_, ?_⟩
              · rw [cell_set_off (by simp)]; exact g0
              · rw [cell_set_on (w := wr.drewN _) (u := .int .i64 k) (by exact g1)]; rfl
              · rw [cell_set_off (by simp)]; exact g2
              · rw [World.frozen?_setCell]; exact gf
              · exact .inr ⟨g, off, rfl, by simpa [World.setCell] using hg, fun i hi => by rw [cell_set_off (fun e => hgr (congrArg Addr.block e).symm)]; exact HC.out i hi⟩
              · exact (below_drewN gbl.out _).setCell (Nat.le_refl _) _
            case measure =>
              rw [cell_set_on (w := wr.drewN _) (u := .int .i64 k) (by exact g1), g1]
              simp [intOf]
              omega
    · have HS : Hid (scan iss zs p = k) := by
        show _ = _
        rw [← hsc.out, scan_out (by omega)]
      have HZc : Hid (0 = c) := by
        show _ = _
        rw [← HCc.out, HS.out]
        simp [List.getD, List.getElem?_eq_none (show zs.length ≤ k by omega)]
      have b3 : decide ((k : Int) < (zs.length : Int)) = false := decide_eq_false (by omega)
      clear gbs hne
      go_wp2_with fail
      go_quiet (fail)
      go_wp2
      go_ret
      refine ⟨?_, ?_, ?_, ?_⟩
      · rw [← HZc.out]; rfl
      · rw [HS.out]; exact g1
      · exact g2
      · exact below_drewN gbl.out _

set_option maxRecDepth 100000 in
set_option maxHeartbeats 1000000 in
theorem zzNext_any (a : Option Addr) (zs : List Int) (n : Nat) (hn : zs.length = n) (cap p : Nat) (d : Int) (w : World) (hlen : zs.length ≤ 1048576) (hbs : Bs w a zs) (ha : ∀ x, a = some x → x.block < w.heap.size) :
    Calls Try.prog 12 #[.slice a n cap, .int .i64 p, .int .i64 d] w fun e w' => e = .returned (.tuple #[.int .u8 (zs.getD (scan iss zs p) 0), .int .i64 (scan iss zs p), .int .i64 d]) ∧ Below w.heap.size w w' := by
  subst hn
  obtain ⟨c, hc⟩ : ∃ c, zs.getD (scan iss zs p) 0 = c := ⟨_, rfl⟩
  rw [hc]
  have HCc : Hid (zs.getD (scan iss zs p) 0 = c) := hc
  clear hc
  go_enter Try.func12, Try.ntmps12
  go_wp2_with fail
  have hb0 : Below w.heap.size w (w.alloc (.cells #[.slice a zs.length cap, .int .i64 p, .int .i64 d] 33)) := (Below.refl _ _).alloc (Nat.le_refl _) _
  refine (next_any w.heap.size cap p a zs d _ hlen (hbs.below hb0 (Nat.le_refl _)) (fun x hx => by have := ha x hx; omega) (by simp) (by simp) (by simp) (by simp)).mono ?_
  rintro e w1 ⟨rfl, g1, g2, hb1⟩
  have hb2 := hb0.trans hb1
  clear hbs ha hb0 hb1
  rw [HCc.out]
  go_wp2_with fail
  go_quiet (fail)
  go_wp2
  go_ret3
  exact ⟨rfl, below_drewN hb2 _⟩
end Go.Proofs.Qxb6619430a
