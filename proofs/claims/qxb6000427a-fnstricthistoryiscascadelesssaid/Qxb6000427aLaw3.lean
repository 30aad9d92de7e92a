/-
  Own work: the walk of FnStrictHistoryIsCascadeless.
-/
import Derived.Test.Qxb6000427aRecov
import Derived.Test.Qxb6000427aLaw1
import Derived.Test.Qxb6000427aPlain3
namespace Go.Proofs.Qxb6000427a
open Go.RowKit

set_option maxHeartbeats 400000 in
theorem bytes16 (a0 a1 a2 : Option Addr) (l0 c0 l1 c1 l2 c2 : Nat) (w : World) (h0 : l0 ≤ maxLen) (h1 : l1 ≤ maxLen) (h2 : l2 ≤ maxLen) :
    Calls Try.prog 16 #[.slice a0 l0 c0, .slice a1 l1 c1, .slice a2 l2 c2] w fun e w' => ∃ b, e = .returned (.bool b) ∧ w' = w := by
  unfold maxLen at h0 h1 h2
  go_enter Try.func16, Try.ntmps16
  go_wp2
  all_goals
    go_ret
    exact ⟨_, rfl, rfl⟩

set_option maxRecDepth 100000 in
set_option maxHeartbeats 400000 in
theorem recov15' (Bo n : Nat) (z0 z1 : List Int) (z2 : List UInt8) (w : World) (hN : n ≤ 4096) (hb : Built w Bo n n z0 z1 z2) :
    Calls Try.prog 15 #[.slice (some ⟨Bo, 0, none⟩) n n] w fun e w' => ∃ a b, e = .returned (.tuple #[.bool a, .bool b]) ∧ Hid ((a, b) = ((rst (hist z0 z1 z2) n).rc, (rst (hist z0 z1 z2) n).cl)) ∧ Below w.heap.size w w' := by
  go_enter Try.func15, Try.ntmps15
  go_wp2_with (go_at_call 31; refine (recov_any Bo n z0 z1 z2 w hN hb).mono ?_; rintro e w' ⟨rfl, hbel⟩)
  go_ret2
  exact ⟨_, _, rfl, rfl, hbel⟩

theorem zero_eq' {h : Hist} {ra rb : Bool} (HR : Hid ((ra, rb) = ((rst h 0).rc, (rst h 0).cl))) : true = ra ∧ true = rb := by
  have := HR.out
  simp [rst, Rc.start] at this
  simp [this]

set_option maxRecDepth 100000 in
set_option maxHeartbeats 1000000 in
theorem once_zero' (a0 a1 : Option Addr) (c0 c1 : Nat) (w : World) : Calls Try.prog 17 #[.slice a0 0 c0, .slice a1 0 c1] w fun e w' => e = .returned (.bool true) ∧ w' = w := by
  go_enter Try.func17, Try.ntmps17
  go_wp2
  go_loop [5] (fun si => si = .int .i64 0) (fun _ => 0)
  case atStart => rfl
  case round =>
    subst hrel
    go_wp2
    go_ret
    exact ⟨rfl, rfl⟩

theorem Built.below {w w' : World} {B n k : Nat} {z0 z1 : List Int} {z2 : List UInt8} (h : Built w B n k z0 z1 z2) (hb : Below w.heap.size w w') : Built w' B n k z0 z1 z2 := by
  obtain ⟨cur, h1, h2⟩ := h
  have hlt : B < w.heap.size := (Array.getElem?_eq_some_iff.1 h1).1
  exact ⟨cur, (hb.block B hlt).trans h1, h2⟩

theorem strict_all {z0 z1 : List Int} {z2 : List UInt8} {n : Nat} {sa sb ra rb : Bool} (HS : Hid ((sa, sb) = srun (opsOf z0 z1 z2 n) St.start)) (HR : Hid ((ra, rb) = ((rst (hist z0 z1 z2) n).rc, (rst (hist z0 z1 z2) n).cl))) (HO : Hid (Once (hist z0 z1 z2) n)) : (!sa || (ra && rb)) = true := by
  have h1 := HS.out
  have h2 := HR.out
  cases sa
  · rfl
  · obtain ⟨q1, q2⟩ := strict_both HO.out (by rw [← h1])
    rw [q1, q2] at h2
    cases h2
    rfl

set_option maxRecDepth 100000 in
set_option maxHeartbeats 10000000 in
theorem law3_pos (b0 o0 b1 o1 b2 o2 n c0 c1 c2 : Nat) (z0 z1 : List Int) (z2 : List UInt8) (w : World) (hn : 0 < n) (hN : n ≤ 4096) (hc2 : n ≤ c2)
   (h0 : ∀ i, i < n → w.cell? ⟨b0, o0 + i, none⟩ = some (.int .i64 (z0.getD i 0)))
   (h1 : ∀ i, i < n → w.cell? ⟨b1, o1 + i, none⟩ = some (.int .i64 (z1.getD i 0)))
   (h2 : ∀ i, i < n → w.cell? ⟨b2, o2 + i, none⟩ = some (.int .u8 (z2.getD i 0).toNat)) :
    Calls Try.prog 5 #[.slice (some ⟨b0, o0, none⟩) n c0, .slice (some ⟨b1, o1, none⟩) n c1, .slice (some ⟨b2, o2, none⟩) n c2] w fun e w' => e = .returned (.bool true) ∧ Below w.heap.size w w' := by
  have hB0 : b0 < w.heap.size := World.block_lt_of_cell? w ⟨b0, o0 + 0, none⟩ (h0 0 hn)
  have hB1 : b1 < w.heap.size := World.block_lt_of_cell? w ⟨b1, o1 + 0, none⟩ (h1 0 hn)
  have hB2 : b2 < w.heap.size := World.block_lt_of_cell? w ⟨b2, o2 + 0, none⟩ (h2 0 hn)
  go_enter Try.func5, Try.ntmps5
  go_wp2_with (first
    | (go_at_call 16; refine (bytes16 _ _ _ _ _ _ _ _ _ _ (by unfold maxLen; omega) (by unfold maxLen; omega) (by unfold maxLen; omega)).mono ?_; rintro e w' ⟨b, rfl, rfl⟩))
  · go_ret
    exact ⟨rfl, Below.refl _ _⟩
  refine (once_pos b0 o0 b1 o1 n c0 c1 z0 z1 z2 w' hN h0 h1).mono ?_
  rintro e w1 ⟨bb, rfl, HO, HD⟩
  cases bb
  · obtain ⟨d, rfl⟩ := HD
    clear HO
    go_wp2
    go_ret
    exact ⟨rfl, below_drewN (Below.refl _ _) _⟩
  · have HOnce : Hid (Once (hist z0 z1 z2) n) := HO rfl
    have hsame : Below w'.heap.size w' w1 := by obtain ⟨d, rfl⟩ := HD; exact below_drewN (Below.refl _ _) _
    have hsz : w1.heap.size = w'.heap.size := by obtain ⟨d, rfl⟩ := HD; rfl
    have HSZ : Hid (w1.heap.size = w'.heap.size) := hsz
    clear HO HD hsz
    have HK : Hid ((∀ i, i < n → w'.cell? ⟨b0, o0 + i, none⟩ = some (.int .i64 (z0.getD i 0))) ∧ (∀ i, i < n → w'.cell? ⟨b1, o1 + i, none⟩ = some (.int .i64 (z1.getD i 0))) ∧ (∀ i, i < n → w'.cell? ⟨b2, o2 + i, none⟩ = some (.int .u8 (z2.getD i 0).toNat))) := ⟨h0, h1, h2⟩
    clear h0 h1 h2
    go_wp2_with (first
      | (go_at_call 12; refine (build_pos b0 o0 b1 o1 b2 o2 n c0 c1 c2 z0 z1 z2 _ hn hN hc2 (fun i hi => (hsame.cell hB0).trans (HK.out.1 i hi)) (fun i hi => (hsame.cell hB1).trans (HK.out.2.1 i hi)) (fun i hi => (hsame.cell hB2).trans (HK.out.2.2 i hi))).mono ?_; rintro e w2 ⟨rfl, hbuilt, hbel2⟩)
      | (go_at_call 13; refine (strict13 _ n z0 z1 z2 _ hN hbuilt).mono ?_; rintro e w3 ⟨sa, sb, rfl, HS, hbel3⟩; have hbuilt3 := hbuilt.below hbel3; have hbel : Below w'.heap.size w' w3 := hsame.trans ((hbel2.trans (hbel3.mono hbel2.size)).mono (Nat.le_of_eq HSZ.out.symm)); clear hbel2 hbel3 hsame hbuilt)
      | (go_at_call 15; refine (recov15' _ n z0 z1 z2 _ hN hbuilt3).mono ?_; rintro e w4 ⟨ra, rb, rfl, HR, hbel4⟩; have hall : (!sa || (ra && rb)) = true := strict_all HS HR HOnce; clear HS HR hbuilt3))
    all_goals go_ret
    all_goals exact ⟨by clear HSZ; cases sa <;> cases ra <;> cases rb <;> first | rfl | exact absurd hall (by decide) | contradiction, hbel.trans (hbel4.mono hbel.size)⟩

set_option maxRecDepth 100000 in
set_option maxHeartbeats 1000000 in
theorem law3_zero (a0 a1 a2 : Option Addr) (c0 c1 c2 : Nat) (w : World) :
    Calls Try.prog 5 #[.slice a0 0 c0, .slice a1 0 c1, .slice a2 0 c2] w fun e w' => e = .returned (.bool true) ∧ Below w.heap.size w w' := by
  go_enter Try.func5, Try.ntmps5
  go_wp2_with (first
    | (go_at_call 16; refine (bytes16 _ _ _ _ _ _ _ _ _ _ (by unfold maxLen; omega) (by unfold maxLen; omega) (by unfold maxLen; omega)).mono ?_; rintro e w' ⟨b, rfl, rfl⟩)
    | (go_at_call 17; refine (once_zero' _ _ _ _ _).mono ?_; rintro e w1 ⟨rfl, rfl⟩)
    | (go_at_call 12; refine (build_zero _ _ _ _ _ _ _).mono ?_; rintro e w2 ⟨rfl, hbuilt, hbel2⟩)
    | (go_at_call 13; refine (strict13 _ 0 [] [] [] _ (by omega) hbuilt).mono ?_; rintro e w3 ⟨sa, sb, rfl, HS, hbel3⟩; have hbuilt3 := hbuilt.below hbel3)
    | (go_at_call 15; refine (recov15' _ 0 [] [] [] _ (by omega) hbuilt3).mono ?_; rintro e w4 ⟨ra, rb, rfl, HR, hbel4⟩; obtain ⟨rfl, rfl⟩ := zero_eq' HR))
  · go_ret
    exact ⟨rfl, Below.refl _ _⟩
  all_goals
    go_ret
    exact ⟨by cases sa <;> rfl, (hbel2.trans (hbel3.mono hbel2.size)).trans (hbel4.mono (Nat.le_trans hbel2.size hbel3.size))⟩

set_option maxRecDepth 100000 in
set_option maxHeartbeats 1000000 in
theorem law3_off (a0 a1 a2 : Option Addr) (l0 l1 l2 c0 c1 c2 : Nat) (w : World) (h0 : l0 ≤ maxLen) (h1 : l1 ≤ maxLen) (h2 : l2 ≤ maxLen) (hoff : ¬ (l0 ≤ 4096 ∧ l1 = l0 ∧ l2 = l0)) :
    Calls Try.prog 5 #[.slice a0 l0 c0, .slice a1 l1 c1, .slice a2 l2 c2] w fun e w' => e = .returned (.bool true) ∧ Below w.heap.size w w' := by
  have m0 := h0
  have m1 := h1
  have m2 := h2
  unfold maxLen at h0 h1 h2
  go_enter Try.func5, Try.ntmps5
  go_wp2_with (first
    | (go_at_call 16; refine (bytes16 _ _ _ _ _ _ _ _ _ _ m0 m1 m2).mono ?_; rintro e w' ⟨b, rfl, rfl⟩))
  all_goals
    go_ret
    exact ⟨rfl, Below.refl _ _⟩
end Go.Proofs.Qxb6000427a
