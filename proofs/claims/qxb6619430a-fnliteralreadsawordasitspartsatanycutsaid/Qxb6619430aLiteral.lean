/-
  Contracts of Reader.literal (14), ZZLiteral (7), zzBytes (6).
-/
import Derived.Test.Qxb6619430aPrefix
import Derived.Deep.RegionWith
namespace Go.Proofs.Qxb6619430a
open Go.ChangeShapes Go.WideShapes Go.ChangeAt Go.RowKit
open Scan

theorem lbytes_any (a : Option Addr) (len cap : Nat) (p d c : Int) (s : ByteArray) (hs : s.size ≤ 9223372036854775807) (w : World) :
    Calls Try.prog 6 #[.slice a len cap, .int .i64 p, .int .i64 d, .string s, .int .i64 c] w fun e w' => (∃ t : Bool, e = .returned (.bool t)) ∧ w' = w := by
  go_enter Try.func6, Try.ntmps6
  go_wp2
  all_goals
    go_ret
    exact ⟨⟨_, rfl⟩, rfl⟩

theorem add_plain (g off j : Nat) : (⟨g, off, none⟩ : Addr).add j = ⟨g, off + j, none⟩ := by unfold Addr.add; split <;> simp_all

/-- s[p:]. -/
theorem Bs.from {w : World} {a : Option Addr} {bs : List UInt8} {p cap : Nat} (h : Bs w a (ints bs)) (hcap : bs.length ≤ cap) : Bs w (if cap = p then a else Option.map (fun x => x.add p) a) (ints (bs.drop p)) := by
  by_cases hp : bs.length ≤ p
  · exact .inl (by rw [List.drop_eq_nil_of_le hp]; rfl)
  · rcases h with h0 | ⟨g, off, rfl, hg, hc⟩
    · have : bs = [] := by simpa [ints] using h0
      subst this
      simp at hp
    · refine .inr ⟨g, off + p, by rw [if_neg (by omega)]; simp [add_plain], hg, fun i hi => ?_⟩
      rw [ints_length, List.length_drop] at hi
      have := hc (p + i) (by rw [ints_length]; omega)
      rw [show off + p + i = off + (p + i) by omega, this, ints_drop]
      simp [List.getD, List.getElem?_drop]

set_option maxRecDepth 100000 in
set_option maxHeartbeats 4000000 in
theorem literal_any (rb cap p : Nat) (a : Option Addr) (bs : List UInt8) (d : Int) (s : ByteArray) (w : World) (hlen : bs.length ≤ 1048576) (hsl : s.size ≤ 1048576) (hp1 : p ≤ bs.length) (hcap : bs.length ≤ cap)
    (hbs : Bs w a (ints bs))
    (h0 : w.cell? ⟨rb, 0, none⟩ = some (.slice a bs.length cap)) (h1 : w.cell? ⟨rb, 1, none⟩ = some (.int .i64 p)) (h2 : w.cell? ⟨rb, 2, none⟩ = some (.int .i64 d)) (hf : w.frozen? ⟨rb, 1, none⟩ = false) :
    Calls Try.prog 14 #[.pointer (some ⟨rb, 0, none⟩), .string s] w fun e w' => e = .returned (.bool (hp (bs.drop p) s.data.toList)) ∧ w'.cell? ⟨rb, 1, none⟩ = some (.int .i64 (if hp (bs.drop p) s.data.toList then p + s.size else p)) ∧ w'.cell? ⟨rb, 2, none⟩ = some (.int .i64 d) ∧ Below rb w w' := by
  have b1 : (0 : Int) ≤ (p : Int) := by omega
  have b2 : (p : Int) ≤ (bs.length : Int) := by omega
  have b3 : (bs.length : Int) ≤ (cap : Int) := by omega
  have hconv := fun w => run_bytes_of_string (P := Try.prog) w 9 22 5 s Try.underlying9 Try.underlying22 Try.underlying5
  obtain ⟨C, hC⟩ : ∃ C, grownCap w.drew s.size 0 5 = C := ⟨_, rfl⟩
  have hcv : (convert 9 22 (.string s)).run Try.prog w.drew = .ok (.slice (some ⟨w.heap.size, 0, none⟩) s.size C) (w.alloc (.cells (bytesRow s C) 5 ((bytesRow s C).size, (bytesRow s C).size + 1))).drew.drew := by
    have := hconv w.drew
    rw [hC] at this
    exact this
  clear hconv hC
  obtain ⟨W, hW⟩ : ∃ W, (w.alloc (.cells (bytesRow s C) 5 ((bytesRow s C).size, (bytesRow s C).size + 1))).drew.drew = W := ⟨_, rfl⟩
  have hbl : Below w.heap.size w W := by rw [← hW]; exact (((Below.refl _ _).alloc (Nat.le_refl _) _).drew).drew
  have hsz : w.heap.size < W.heap.size := by rw [← hW]; simp
  have hbw : Bs W (some ⟨w.heap.size, 0, none⟩) (ints s.data.toList) := by
    refine .inr ⟨_, 0, rfl, hsz, fun i hi => ?_⟩
    rw [ints_length] at hi
    rw [← hW]
    show (w.alloc _).cell? _ = _
    rw [cell_of_row _ _ _ _ _ _ (heap_alloc_new w _), Nat.zero_add i, ints_getD _ _ hi]
    unfold bytesRow
    rw [Array.getElem?_append_left (by simpa using hi)]
    simp at hi
    simp [hi]
  rw [hW] at hcv
  clear hW
  have hrb : rb < w.heap.size := World.block_lt_of_cell? _ _ h0
  have g0 : W.cell? ⟨rb, 0, none⟩ = some (.slice a bs.length cap) := (hbl.cell (p := ⟨rb, 0, none⟩) hrb).trans h0
  have g1 : W.cell? ⟨rb, 1, none⟩ = some (.int .i64 p) := (hbl.cell (p := ⟨rb, 1, none⟩) hrb).trans h1
  have g2 : W.cell? ⟨rb, 2, none⟩ = some (.int .i64 d) := (hbl.cell (p := ⟨rb, 2, none⟩) hrb).trans h2
  have gf : W.frozen? ⟨rb, 1, none⟩ = false := (hbl.frozen (p := ⟨rb, 1, none⟩) hrb).trans hf
  have hB1 : Bs W (if cap = p then a else Option.map (fun x => x.add p) a) (ints (bs.drop p)) := (hbs.below hbl (Nat.le_refl _)).from hcap
  have hL1 : (bs.drop p).length = bs.length - p := by rw [List.length_drop]
  have hL2 : s.data.toList.length = s.size := by simp
  have HB : Hid (Below rb w W) := hbl.mono (by omega)
  clear hbs h2 hf hbl hsz
  obtain ⟨ok, hok⟩ : ∃ ok, hp (bs.drop p) s.data.toList = ok := ⟨_, rfl⟩
  rw [hok]
  have HH : Hid (hp (bs.drop p) s.data.toList = ok) := hok
  clear hok
  by_cases hcp : cap = p
  · subst hcp
    rw [if_pos rfl] at hB1
    rw [show bs.length - cap = 0 by omega] at hL1
    cases ok
    · go_enter Try.func14, Try.ntmps14
      go_wp2_with fail
      go_region_with (go_at_call 17; refine (hasPrefix_any _ _ _ _ _ _ (bs.drop cap) s.data.toList _ hL1 hL2 (by omega) hsl hB1 hbw).mono ?_; rintro e w2 ⟨rfl, rfl⟩; rw [HH.out])
      all_goals
        go_wp2
        go_ret
        exact ⟨rfl, g1, g2, HB.out⟩
    · go_enter Try.func14, Try.ntmps14
      go_wp2_with fail
      go_region_with (go_at_call 17; refine (hasPrefix_any _ _ _ _ _ _ (bs.drop cap) s.data.toList _ hL1 hL2 (by omega) hsl hB1 hbw).mono ?_; rintro e w2 ⟨rfl, rfl⟩; rw [HH.out])
      all_goals
        go_wp2
        go_ret
        refine ⟨rfl, ?_, ?_, ?_⟩
        · rw [cell_set_on g1]
        · rw [cell_set_off (by simp)]; exact g2
        · exact HB.out.setCell (Nat.le_refl _) _
  · rw [if_neg hcp] at hB1
    cases ok
    · go_enter Try.func14, Try.ntmps14
      go_wp2_with fail
      go_region_with (go_at_call 17; refine (hasPrefix_any _ _ _ _ _ _ (bs.drop p) s.data.toList _ hL1 hL2 (by omega) hsl hB1 hbw).mono ?_; rintro e w2 ⟨rfl, rfl⟩; rw [HH.out])
      all_goals
        go_wp2
        go_ret
        exact ⟨rfl, g1, g2, HB.out⟩
    · go_enter Try.func14, Try.ntmps14
      go_wp2_with fail
      go_region_with (go_at_call 17; refine (hasPrefix_any _ _ _ _ _ _ (bs.drop p) s.data.toList _ hL1 hL2 (by omega) hsl hB1 hbw).mono ?_; rintro e w2 ⟨rfl, rfl⟩; rw [HH.out])
      all_goals
        go_wp2
        go_ret
        refine ⟨rfl, ?_, ?_, ?_⟩
        · rw [cell_set_on g1]
        · rw [cell_set_off (by simp)]; exact g2
        · exact HB.out.setCell (Nat.le_refl _) _

set_option maxRecDepth 100000 in
set_option maxHeartbeats 1000000 in
theorem zzLiteral_any (a : Option Addr) (bs : List UInt8) (n : Nat) (hn : bs.length = n) (cap p : Nat) (d : Int) (s : ByteArray) (w : World) (hlen : bs.length ≤ 1048576) (hsl : s.size ≤ 1048576) (hp1 : p ≤ bs.length) (hcap : bs.length ≤ cap) (hbs : Bs w a (ints bs)) :
    Calls Try.prog 7 #[.slice a n cap, .int .i64 p, .int .i64 d, .string s] w fun e w' => e = .returned (.tuple #[.bool (hp (bs.drop p) s.data.toList), .int .i64 (if hp (bs.drop p) s.data.toList then p + s.size else p), .int .i64 d]) ∧ Below w.heap.size w w' := by
  subst hn
  obtain ⟨ok, hok⟩ : ∃ ok, hp (bs.drop p) s.data.toList = ok := ⟨_, rfl⟩
  rw [hok]
  have HH : Hid (hp (bs.drop p) s.data.toList = ok) := hok
  clear hok
  obtain ⟨q, hq⟩ : ∃ q : Int, (if ok = true then ((p : Int) + s.size) else p) = q := ⟨_, rfl⟩
  rw [hq]
  have HQ : Hid ((if ok = true then ((p : Int) + s.size) else p) = q) := hq
  clear hq
  go_enter Try.func7, Try.ntmps7
  go_wp2_with fail
  have hb0 : Below w.heap.size w (w.alloc (.cells #[.slice a bs.length cap, .int .i64 p, .int .i64 d] 33)) := (Below.refl _ _).alloc (Nat.le_refl _) _
  refine (literal_any w.heap.size cap p a bs d s _ hlen hsl hp1 hcap (hbs.below hb0 (Nat.le_refl _)) (by simp) (by simp) (by simp) (by simp)).mono ?_
  rintro e w1 ⟨rfl, g1, g2, hb1⟩
  rw [HH.out] at g1 ⊢
  rw [HQ.out] at g1
  have hb2 := hb0.trans hb1
  clear hbs hb0 hb1
  go_wp2_with fail
  go_quiet (fail)
  go_wp2
  go_ret3
  exact ⟨rfl, below_drewN hb2 _⟩
end Go.Proofs.Qxb6619430a
