/-
  Own work: the walk of FnRecoverabilityMatchesDefinition.
-/
import Derived.Test.Qxb6000427aRecov
import Derived.Test.Qxb6000427aModel
import Derived.Test.Qxb6000427aLaw1
namespace Go.Proofs.Qxb6000427a
open Go.RowKit

set_option maxHeartbeats 400000 in
theorem bytes18 (a0 a1 a2 : Option Addr) (l0 c0 l1 c1 l2 c2 : Nat) (w : World) (h0 : l0 ≤ maxLen) (h1 : l1 ≤ maxLen) (h2 : l2 ≤ maxLen) :
    Calls Try.prog 18 #[.slice a0 l0 c0, .slice a1 l1 c1, .slice a2 l2 c2] w fun e w' => ∃ b, e = .returned (.bool b) ∧ w' = w := by
  unfold maxLen at h0 h1 h2
  go_enter Try.func18, Try.ntmps18
  go_wp2
  all_goals
    go_ret
    exact ⟨_, rfl, rfl⟩

set_option maxRecDepth 100000 in
set_option maxHeartbeats 400000 in
theorem recov15 (Bo n : Nat) (z0 z1 : List Int) (z2 : List UInt8) (w : World) (hN : n ≤ 4096) (hb : Built w Bo n n z0 z1 z2) :
    Calls Try.prog 15 #[.slice (some ⟨Bo, 0, none⟩) n n] w fun e w' => ∃ a b, e = .returned (.tuple #[.bool a, .bool b]) ∧ Hid ((a, b) = ((rst (hist z0 z1 z2) n).rc, (rst (hist z0 z1 z2) n).cl)) ∧ Below w.heap.size w w' := by
  go_enter Try.func15, Try.ntmps15
  go_wp2_with (go_at_call 31; refine (recov_any Bo n z0 z1 z2 w hN hb).mono ?_; rintro e w' ⟨rfl, hbel⟩)
  go_ret2
  exact ⟨_, _, rfl, rfl, hbel⟩

theorem below_of_drewN {w w' : World} {d : Nat} (h : Below (w.drewN d).heap.size (w.drewN d) w') : Below w.heap.size w w' := ⟨h.os, h.tape, h.output, h.size, h.block⟩

theorem two_eq {h : Hist} {n : Nat} {ra rb ma mb : Bool} (HR : Hid ((ra, rb) = ((rst h n).rc, (rst h n).cl))) (HM : Hid (mst h n n = (ma, mb))) (HO : Hid (Once h n)) : ra = ma ∧ rb = mb := by
  have := HR.out.trans ((rst_mst HO.out).trans HM.out)
  simpa using this
theorem zero_eq {h : Hist} {ra rb : Bool} (HR : Hid ((ra, rb) = ((rst h 0).rc, (rst h 0).cl))) : true = ra ∧ true = rb := by
  have := HR.out
  simp [rst, Rc.start] at this
  simp [this]

set_option maxRecDepth 100000 in
set_option maxHeartbeats 10000000 in
theorem law2_pos (b0 o0 b1 o1 b2 o2 n c0 c1 c2 : Nat) (z0 z1 : List Int) (z2 : List UInt8) (w : World) (hn : 0 < n) (hN : n ≤ 4096) (hc2 : n ≤ c2)
   (h0 : ∀ i, i < n → w.cell? ⟨b0, o0 + i, none⟩ = some (.int .i64 (z0.getD i 0)))
   (h1 : ∀ i, i < n → w.cell? ⟨b1, o1 + i, none⟩ = some (.int .i64 (z1.getD i 0)))
   (h2 : ∀ i, i < n → w.cell? ⟨b2, o2 + i, none⟩ = some (.int .u8 (z2.getD i 0).toNat)) :
    Calls Try.prog 6 #[.slice (some ⟨b0, o0, none⟩) n c0, .slice (some ⟨b1, o1, none⟩) n c1, .slice (some ⟨b2, o2, none⟩) n c2] w fun e w' => e = .returned (.bool true) ∧ Below w.heap.size w w' := by
  have hB0 : b0 < w.heap.size := World.block_lt_of_cell? w ⟨b0, o0 + 0, none⟩ (h0 0 hn)
  have hB1 : b1 < w.heap.size := World.block_lt_of_cell? w ⟨b1, o1 + 0, none⟩ (h1 0 hn)
  have hB2 : b2 < w.heap.size := World.block_lt_of_cell? w ⟨b2, o2 + 0, none⟩ (h2 0 hn)
  go_enter Try.func6, Try.ntmps6
  go_wp2_with (first
    | (go_at_call 18; refine (bytes18 _ _ _ _ _ _ _ _ _ _ (by unfold maxLen; omega) (by unfold maxLen; omega) (by unfold maxLen; omega)).mono ?_; rintro e w' ⟨b, rfl, rfl⟩))
  · go_ret
    exact ⟨rfl, Below.refl _ _⟩
  refine (once_pos b0 o0 b1 o1 n c0 c1 z0 z1 z2 w' hN h0 h1).mono ?_
  rintro e w1 ⟨bb, rfl, HO, HD⟩
  cases bb
  · obtain ⟨d, rfl⟩ := HD
    clear HO
    go_wp2
    go_ret
    exact ⟨rfl, below_drewN (Below.refl _ _) _⟩
  · have HOnce : Hid (Once (hist z0 z1 z2) n) := HO rfl
    have hsame : Below w'.heap.size w' w1 := by obtain ⟨d, rfl⟩ := HD; exact below_drewN (Below.refl _ _) _
    have hsz : w1.heap.size = w'.heap.size := by obtain ⟨d, rfl⟩ := HD; rfl
    have HSZ : Hid (w1.heap.size = w'.heap.size) := hsz
    clear HO HD hsz
    have HK : Hid ((∀ i, i < n → w'.cell? ⟨b0, o0 + i, none⟩ = some (.int .i64 (z0.getD i 0))) ∧ (∀ i, i < n → w'.cell? ⟨b1, o1 + i, none⟩ = some (.int .i64 (z1.getD i 0))) ∧ (∀ i, i < n → w'.cell? ⟨b2, o2 + i, none⟩ = some (.int .u8 (z2.getD i 0).toNat))) := ⟨h0, h1, h2⟩
    clear h0 h1 h2
    go_wp2_with (first
      | (go_at_call 12; refine (build_pos b0 o0 b1 o1 b2 o2 n c0 c1 c2 z0 z1 z2 _ hn hN hc2 (fun i hi => (hsame.cell hB0).trans (HK.out.1 i hi)) (fun i hi => (hsame.cell hB1).trans (HK.out.2.1 i hi)) (fun i hi => (hsame.cell hB2).trans (HK.out.2.2 i hi))).mono ?_; rintro e w2 ⟨rfl, hbuilt, hbel2⟩)
      | (go_at_call 15; refine (recov15 _ n z0 z1 z2 _ hN hbuilt).mono ?_; rintro e w3 ⟨ra, rb, rfl, HR, hbel3⟩; have hbel : Below w'.heap.size w' w3 := hsame.trans ((hbel2.trans (hbel3.mono hbel2.size)).mono (Nat.le_of_eq HSZ.out.symm)); clear hbel2 hbel3 hsame hbuilt)
      | (go_at_call 19; refine (model_pos b0 o0 b1 o1 b2 o2 n c0 c1 c2 z0 z1 z2 _ hn hN (fun i hi => (hbel.cell hB0).trans (HK.out.1 i hi)) (fun i hi => (hbel.cell hB1).trans (HK.out.2.1 i hi)) (fun i hi => (hbel.cell hB2).trans (HK.out.2.2 i hi))).mono ?_; rintro e w4 ⟨ma, mb, rfl, HM, hbel4⟩; obtain ⟨rfl, rfl⟩ := two_eq HR HM HOnce))
    go_ret
    exact ⟨by simp, hbel.trans (hbel4.mono hbel.size)⟩

set_option maxRecDepth 100000 in
set_option maxHeartbeats 1000000 in
theorem once_zero (a0 a1 : Option Addr) (c0 c1 : Nat) (w : World) : Calls Try.prog 17 #[.slice a0 0 c0, .slice a1 0 c1] w fun e w' => e = .returned (.bool true) ∧ w' = w := by
  go_enter Try.func17, Try.ntmps17
  go_wp2
  go_loop [5] (fun si => si = .int .i64 0) (fun _ => 0)
  case atStart => rfl
  case round =>
    subst hrel
    go_wp2
    go_ret
    exact ⟨rfl, rfl⟩

set_option maxRecDepth 100000 in
set_option maxHeartbeats 1000000 in
theorem model_zero (a0 a1 a2 : Option Addr) (c0 c1 c2 : Nat) (w : World) : Calls Try.prog 19 #[.slice a0 0 c0, .slice a1 0 c1, .slice a2 0 c2] w fun e w' => e = .returned (.tuple #[.bool true, .bool true]) ∧ Below w.heap.size w w' := by
  obtain ⟨i3, hi, hz0, hz1, hz2⟩ := info_parts Try.info3'
  go_enter Try.func19, Try.ntmps19
  go_wp2_with (at_make; refine wpList_make_full _ rfl _ _ 22 rfl w.heap.size 3 i3 _ 1 Try.underlying22 hi hz0 hz1 .i64 .i64 _ _ 0 rfl rfl rfl rfl (by omega) (by unfold maxLen; omega) (Nat.le_refl _) ?_; intro w1 hown1 hgrow1)
  have hbel1 : Below w.heap.size w w1 := (Below.refl _ _).grown hgrow1 (Nat.le_refl _) (fun k hk => by cases hk)
  clear hown1 hgrow1 hi hz0 hz1 hz2
  go_loop [10] (fun si => si = .int .i64 0) (fun _ => 0)
  case atStart => rfl
  case round =>
    subst hrel
    go_wp2
    go_loop [12, 13, 14] (fun sr sc sj => sr = .bool true ∧ sc = .bool true ∧ sj = .int .i64 0) (fun _ _ _ => 0)
    case atStart => exact ⟨rfl, rfl, rfl⟩
    case round =>
      obtain ⟨rfl, rfl, rfl⟩ := hrel
      go_wp2
      go_ret2
      exact ⟨rfl, hbel1⟩

set_option maxRecDepth 100000 in
set_option maxHeartbeats 1000000 in
theorem law2_zero (a0 a1 a2 : Option Addr) (c0 c1 c2 : Nat) (w : World) :
    Calls Try.prog 6 #[.slice a0 0 c0, .slice a1 0 c1, .slice a2 0 c2] w fun e w' => e = .returned (.bool true) ∧ Below w.heap.size w w' := by
  go_enter Try.func6, Try.ntmps6
  go_wp2_with (first
    | (go_at_call 18; refine (bytes18 _ _ _ _ _ _ _ _ _ _ (by unfold maxLen; omega) (by unfold maxLen; omega) (by unfold maxLen; omega)).mono ?_; rintro e w' ⟨b, rfl, rfl⟩)
    | (go_at_call 17; refine (once_zero _ _ _ _ _).mono ?_; rintro e w1 ⟨rfl, rfl⟩)
    | (go_at_call 12; refine (build_zero _ _ _ _ _ _ _).mono ?_; rintro e w2 ⟨rfl, hbuilt, hbel2⟩)
    | (go_at_call 15; refine (recov15 _ 0 [] [] [] _ (by omega) hbuilt).mono ?_; rintro e w3 ⟨ra, rb, rfl, HR, hbel3⟩; obtain ⟨rfl, rfl⟩ := zero_eq HR)
    | (go_at_call 19; refine (model_zero _ _ _ _ _ _ _).mono ?_; rintro e w4 ⟨rfl, hbel4⟩))
  · go_ret
    exact ⟨rfl, Below.refl _ _⟩
  · go_ret
    exact ⟨rfl, (hbel2.trans (hbel3.mono hbel2.size)).trans (hbel4.mono (Nat.le_trans hbel2.size hbel3.size))⟩

set_option maxRecDepth 100000 in
set_option maxHeartbeats 1000000 in
theorem law2_off (a0 a1 a2 : Option Addr) (l0 l1 l2 c0 c1 c2 : Nat) (w : World) (h0 : l0 ≤ maxLen) (h1 : l1 ≤ maxLen) (h2 : l2 ≤ maxLen) (hoff : ¬ (l0 ≤ 4096 ∧ l1 = l0 ∧ l2 = l0)) :
    Calls Try.prog 6 #[.slice a0 l0 c0, .slice a1 l1 c1, .slice a2 l2 c2] w fun e w' => e = .returned (.bool true) ∧ Below w.heap.size w w' := by
  have m0 := h0
  have m1 := h1
  have m2 := h2
  unfold maxLen at h0 h1 h2
  go_enter Try.func6, Try.ntmps6
  go_wp2_with (first
    | (go_at_call 18; refine (bytes18 _ _ _ _ _ _ _ _ _ _ m0 m1 m2).mono ?_; rintro e w' ⟨b, rfl, rfl⟩))
  all_goals
    go_ret
    exact ⟨rfl, Below.refl _ _⟩
end Go.Proofs.Qxb6000427a
