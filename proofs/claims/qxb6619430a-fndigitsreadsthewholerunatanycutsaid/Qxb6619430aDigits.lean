/-
  Contracts of Reader.digits (15), ZZDigits (9), isDecimalDigit (10), zzBytes (8).
-/
import Derived.Test.Qxb6619430aRows
import Derived.Test.Qxb6619430aScan
import Derived.Test.Qxb6619430aBytes
import Derived.WalkKit
import Derived.ProofKit
import Derived.OpenShut
import Derived.ShutString
import Derived.ChangeOld
import Derived.Below
import Derived.WalkSmall
import Derived.Deep.QuietTactic
import Derived.BigQuiet
namespace Go.Proofs.Qxb6619430a
open Go.ChangeShapes Go.WideShapes Go.ChangeAt Go.RowKit
open Scan

/-- A decimal digit. -/
def isd (z : Int) : Bool := decide (48 ≤ z) && decide (z ≤ 57)

theorem isDigit_any (z : Int) (w : World) : Calls Try.prog 10 #[.int .u8 z] w fun e w' => e = .returned (.bool (isd z)) ∧ w = w' := by
  unfold isd
  by_cases h1 : 48 ≤ z
  · by_cases h2 : z ≤ 57
    · rw [decide_eq_true h1, decide_eq_true h2]
      go_enter Try.func10, Try.ntmps10
      go_wp2
      go_ret
      exact ⟨rfl, rfl⟩
    · rw [decide_eq_true h1, decide_eq_false h2]
      go_enter Try.func10, Try.ntmps10
      go_wp2
      go_ret
      exact ⟨rfl, rfl⟩
  · rw [decide_eq_false h1]
    have h1' : decide (48 ≤ z) = false := decide_eq_false h1
    go_enter Try.func10, Try.ntmps10
    go_wp2
    go_ret
    exact ⟨rfl, rfl⟩

theorem bytes_any (a : Option Addr) (len cap : Nat) (p d c : Int) (w : World) :
    Calls Try.prog 8 #[.slice a len cap, .int .i64 p, .int .i64 d, .int .i64 c] w fun e w' => (∃ t : Bool, e = .returned (.bool t)) ∧ w' = w := by
  go_enter Try.func8, Try.ntmps8
  go_wp2
  all_goals
    go_ret
    exact ⟨⟨_, rfl⟩, rfl⟩

set_option maxRecDepth 100000 in
set_option maxHeartbeats 1000000 in
theorem digits_any (rb cap p : Nat) (a : Option Addr) (zs : List Int) (d : Int) (w : World) (hlen : zs.length ≤ 1048576)
    (hbs : Bs w a zs) (hne : ∀ x, a = some x → x.block ≠ rb)
    (h0 : w.cell? ⟨rb, 0, none⟩ = some (.slice a zs.length cap)) (h1 : w.cell? ⟨rb, 1, none⟩ = some (.int .i64 p)) (h2 : w.cell? ⟨rb, 2, none⟩ = some (.int .i64 d)) (hf : w.frozen? ⟨rb, 1, none⟩ = false) :
    Calls Try.prog 15 #[.pointer (some ⟨rb, 0, none⟩)] w fun e w' => e = .returned (.bool (decide (p < scan isd zs p))) ∧ w'.cell? ⟨rb, 1, none⟩ = some (.int .i64 (scan isd zs p)) ∧ w'.cell? ⟨rb, 2, none⟩ = some (.int .i64 d) ∧ Below rb w w' := by
  go_enter Try.func15, Try.ntmps15
  go_wp2_with fail
  go_loopw [43] (fun _ wr => ∃ k : Nat, p ≤ k ∧ (k ≤ zs.length ∨ k = p) ∧ Hid (scan isd zs k = scan isd zs p) ∧ wr.cell? ⟨rb, 0, none⟩ = some (.slice a zs.length cap) ∧ wr.cell? ⟨rb, 1, none⟩ = some (.int .i64 k) ∧ wr.cell? ⟨rb, 2, none⟩ = some (.int .i64 d) ∧ wr.frozen? ⟨rb, 1, none⟩ = false ∧ Bs wr a zs ∧ Hid (Below rb w wr))
    (fun _ wr => zs.length - (intOf ((wr.cell? ⟨rb, 1, none⟩).getD undef)).toNat)
  case atStart => exact ⟨p, Nat.le_refl _, .inr rfl, rfl, h0, h1, h2, hf, hbs, Below.refl _ _⟩
  case round =>
    obtain ⟨k, hk1, hk2, hsc, g0, g1, g2, gf, gbs, gbl⟩ := hrel
    have hs := scan_ge (P := isd) (zs := zs) (k := p)
    clear hbs h0 h1 h2 hf
    by_cases hlt : k < zs.length
    · rcases gbs with rfl | ⟨g, off, rfl, hg, hc⟩
      · simp at hlt
      · have hcell := hc k hlt
        have hgr : g ≠ rb := hne _ rfl
        obtain ⟨z, hz⟩ : ∃ z, zs.getD k 0 = z := ⟨_, rfl⟩
        rw [hz] at hcell
        have HZ : Hid (zs.getD k 0 = z) := hz
        have HC : Hid (∀ i, i < zs.length → wr.cell? ⟨g, off + i, none⟩ = some (.int .u8 (zs.getD i 0))) := hc
        clear hc hz hne
        have b1 : (0 : Int) ≤ (k : Int) := by omega
        have b2 : (k : Int) < (zs.length : Int) := by omega
        have b3 : decide ((k : Int) < (zs.length : Int)) = true := decide_eq_true b2
        by_cases c1 : 48 ≤ z
        · by_cases c2 : z ≤ 57
          · have HS : Hid (scan isd zs (k + 1) = scan isd zs p) := by
              show _ = _
              rw [scan_step hlt (by rw [HZ.out]; simp [isd, c1, c2])]
              exact hsc.out
            go_wp2_with fail
            go_quiet (fail)
            go_wp2
            go_roundw
            case rel =>
              refine ⟨k + 1, by omega, .inl (by omega), HS, ?_, ?_, ?_, ?_, ?_, ?_⟩
              · rw [cell_set_off (by simp)]; exact g0
              · rw [cell_set_on (w := wr.drewN nq) (u := .int .i64 k) (by exact g1)]; rfl
              · rw [cell_set_off (by simp)]; exact g2
              · rw [World.frozen?_setCell]; exact gf
              · exact .inr ⟨g, off, rfl, by simpa [World.setCell] using hg, fun i hi => by rw [cell_set_off (fun e => hgr (congrArg Addr.block e).symm)]; exact HC.out i hi⟩
              · exact (below_drewN gbl.out _).setCell (Nat.le_refl _) _
            case measure =>
              rw [cell_set_on (w := wr.drewN nq) (u := .int .i64 k) (by exact g1), g1]
              simp [intOf]
              omega
          · have HS : Hid (scan isd zs p = k) := by
              show _ = _
              rw [← hsc.out, scan_stop hlt (by rw [HZ.out]; simp [isd, c2])]
            go_wp2_with fail
            go_quiet (fail)
            go_wp2
            go_ret
            refine ⟨?_, ?_, ?_, ?_⟩
            · rw [HS.out]; simp
            · rw [HS.out]; exact g1
            · exact g2
            · exact below_drewN gbl.out _
        · have HS : Hid (scan isd zs p = k) := by
            show _ = _
            rw [← hsc.out, scan_stop hlt (by rw [HZ.out]; simp [isd, c1])]
          have c1' : decide (48 ≤ z) = false := decide_eq_false c1
          go_wp2_with fail
          go_quiet (fail)
          go_wp2
          go_ret
          refine ⟨?_, ?_, ?_, ?_⟩
          · rw [HS.out]; simp
          · rw [HS.out]; exact g1
          · exact g2
          · exact below_drewN gbl.out _
    · have HS : Hid (scan isd zs p = k) := by
        show _ = _
        rw [← hsc.out, scan_out (by omega)]
      have b3 : decide ((k : Int) < (zs.length : Int)) = false := decide_eq_false (by omega)
      clear gbs hne
      go_wp2_with fail
      go_quiet (fail)
      go_wp2
      go_ret
      refine ⟨?_, ?_, ?_, ?_⟩
      · rw [HS.out]; simp
      · rw [HS.out]; exact g1
      · exact g2
      · exact below_drewN gbl.out _

set_option maxRecDepth 100000 in
set_option maxHeartbeats 1000000 in
theorem zzDigits_any (a : Option Addr) (zs : List Int) (n : Nat) (hn : zs.length = n) (cap p : Nat) (d : Int) (w : World) (hlen : zs.length ≤ 1048576) (hbs : Bs w a zs) (ha : ∀ x, a = some x → x.block < w.heap.size) :
    Calls Try.prog 9 #[.slice a n cap, .int .i64 p, .int .i64 d] w fun e w' => e = .returned (.tuple #[.bool (decide (p < scan isd zs p)), .int .i64 (scan isd zs p), .int .i64 d]) ∧ Below w.heap.size w w' := by
  subst hn
  go_enter Try.func9, Try.ntmps9
  go_wp2_with fail
  have hb0 : Below w.heap.size w (w.alloc (.cells #[.slice a zs.length cap, .int .i64 p, .int .i64 d] 33)) := (Below.refl _ _).alloc (Nat.le_refl _) _
  refine (digits_any w.heap.size cap p a zs d _ hlen (hbs.below hb0 (Nat.le_refl _)) (fun x hx => by have := ha x hx; omega) (by simp) (by simp) (by simp) (by simp)).mono ?_
  rintro e w1 ⟨rfl, g1, g2, hb1⟩
  have hb2 := hb0.trans hb1
  clear hbs ha hb0 hb1
  go_wp2_with fail
  go_quiet (fail)
  go_wp2
  go_ret3
  exact ⟨rfl, below_drewN hb2 _⟩
end Go.Proofs.Qxb6619430a
