/-
  Own work: the walk of FnWalkOfForwardGraphIsIdentity.
-/
import Derived.Test.Qxb6000427aWs
import Derived.Deep.QuietTactic
import Derived.BigQuiet
import Derived.WalkSmall
namespace Go.Proofs.Qxb6000427a
open Go.RowKit

set_option maxHeartbeats 400000 in
theorem bytes22 (a0 : Int) (a1 a2 : Option Addr) (l1 c1 l2 c2 : Nat) (w : World) (h1 : l1 ≤ maxLen) (h2 : l2 ≤ maxLen) :
    Calls Try.prog 22 #[.int .i64 a0, .slice a1 l1 c1, .slice a2 l2 c2] w fun e w' => w = w' ∧ ∃ b, e = .returned (.bool b) := by
  unfold maxLen at h1 h2
  go_enter Try.func22, Try.ntmps22
  go_wp2
  all_goals
    go_ret
    exact ⟨rfl, _, rfl⟩

theorem ArgI.below {w w' : World} {ad : Option Addr} {m : Nat} {z : Nat → Int} (h : ArgI w ad m z) (hb : Below w.heap.size w w') : ArgI w' ad m z := fun i hi => by
  obtain ⟨b, o, h1, h2, h3⟩ := h i hi
  exact ⟨b, o, h1, (hb.cell h3).trans h2, Nat.lt_of_lt_of_le h3 hb.size⟩
theorem ArgI.nat {w : World} {ad : Option Addr} {m : Nat} {z : Nat → Int} (h : ArgI w ad m z) (hz : ∀ i, i < m → 0 ≤ z i) : ArgRow w w.heap.size ad m (fun i => (z i).toNat) := fun i hi => by
  obtain ⟨b, o, h1, h2, h3⟩ := h i hi
  have := hz i hi
  exact ⟨b, o, h1, by rw [h2, Int.toNat_of_nonneg this], h3⟩

theorem law9_off (a0 : Int) (a1 a2 : Option Addr) (l1 l2 c1 c2 : Nat) (w : World) (h1 : l1 ≤ maxLen) (h2 : l2 ≤ maxLen) (hoff : ¬ (0 ≤ a0 ∧ a0 ≤ 65536 ∧ l1 ≤ 65536 ∧ l2 = l1)) :
    Calls Try.prog 9 #[.int .i64 a0, .slice a1 l1 c1, .slice a2 l2 c2] w fun e w' => e = .returned (.bool true) ∧ Below w.heap.size w w' := by
  have m1 := h1
  have m2 := h2
  unfold maxLen at h1 h2
  go_enter Try.func9, Try.ntmps9
  go_wp2_with (first
    | (go_at_call 22; refine (bytes22 _ _ _ _ _ _ _ _ m1 m2).mono ?_; rintro e w' ⟨rfl, b, rfl⟩))
  all_goals
    go_ret
    exact ⟨rfl, Below.refl _ _⟩

theorem below_drewN {B : Nat} {a w : World} (h : Below B a w) (q : Nat) : Below B a (w.drewN q) := ⟨h.os, h.tape, h.output, h.size, h.block⟩

theorem fwd_rdy {n m : Nat} {F T : Nat → Nat} (hf : ∀ k, k < m → F k < T k) {s : Nat} (hs : s < n) : Rdy n m F T (List.range s) s :=
  ⟨hs, by simp, fun k hk h => by have := hf k hk; simp; omega⟩
theorem fwd_not {n m : Nat} {F T : Nat → Nat} {s q : Nat} (hq : q < s) : ¬ Rdy n m F T (List.range s) q := fun h => h.2.1 (by simpa using hq)
theorem fwd_least {n m : Nat} {F T : Nat → Nat} (hf : ∀ k, k < m → F k < T k) {s : Nat} (hs : s < n) {r : Int} (h : (∃ p : Nat, r = (p : Int) ∧ Rdy n m F T (List.range s) p ∧ ∀ q, q < p → ¬ Rdy n m F T (List.range s) q) ∨ (r = -1 ∧ ∀ q, ¬ Rdy n m F T (List.range s) q)) : r = s := by
  rcases h with ⟨p, rfl, h1, h2⟩ | ⟨_, h1⟩
  · have a1 : ¬ p < s := fun q => fwd_not q h1
    have a2 : ¬ s < p := fun q => h2 s q (fwd_rdy hf hs)
    omega
  · exact absurd (fwd_rdy hf hs) (h1 s)
theorem fwd_end {n m : Nat} {F T : Nat → Nat} {r : Int} (h : (∃ p : Nat, r = (p : Int) ∧ Rdy n m F T (List.range n) p ∧ ∀ q, q < p → ¬ Rdy n m F T (List.range n) q) ∨ (r = -1 ∧ ∀ q, ¬ Rdy n m F T (List.range n) q)) : r = -1 := by
  rcases h with ⟨p, rfl, h1, h2⟩ | ⟨h1, _⟩
  · exact absurd h1 (fwd_not h1.1)
  · exact h1

set_option maxRecDepth 100000 in
set_option maxHeartbeats 4000000 in
theorem law9_in (n m c1 c2 : Nat) (a1 a2 : Option Addr) (z1 z2 : Nat → Int) (w : World) (hn : n ≤ 65536) (hm : m ≤ 65536) (h1 : ArgI w a1 m z1) (h2 : ArgI w a2 m z2) :
    Calls Try.prog 9 #[.int .i64 n, .slice a1 m c1, .slice a2 m c2] w fun e w' => e = .returned (.bool true) ∧ Below w.heap.size w w' := by
  go_enter Try.func9, Try.ntmps9
  go_upto_region 13 with (first
    | (go_at_call 22; refine (bytes22 _ _ _ _ _ _ _ _ (by unfold maxLen; omega) (by unfold maxLen; omega)).mono ?_; rintro e w' ⟨rfl, b, rfl⟩))
  · go_ret
    exact ⟨rfl, Below.refl _ _⟩
  have he := edges23 n m c1 c2 a1 a2 z1 z2 w hm h1 h2
  go_wp2_with (first
    | (go_at_call 23; refine he.mono ?_; rintro e w' ⟨rfl, rfl | ⟨rfl, hin⟩⟩))
  · go_ret
    exact ⟨rfl, Below.refl _ _⟩
  clear he
  go_loopw [7] (fun s wr => ∃ i : Nat, i ≤ m ∧ s = .int .i64 i ∧ (∀ j, j < i → z1 j < z2 j) ∧ Below w.heap.size w wr) (fun s _ => m - (intOf s).toNat)
  case atStart => exact ⟨0, Nat.zero_le _, rfl, fun j hj => by omega, Below.refl _ _⟩
  case round =>
    obtain ⟨i, hi, rfl, hz, hb⟩ := hrel
    by_cases hlt : i < m
    · obtain ⟨b1, o1, rfl, x1, y1⟩ := (h1.below hb) i hlt
      obtain ⟨b2, o2, rfl, x2, y2⟩ := (h2.below hb) i hlt
      have l0 : (0 : Int) ≤ (i : Int) := by omega
      have l1 : (i : Int) < (m : Int) := by omega
      have hnext : z1 i < z2 i → ∀ j, j < i + 1 → z1 j < z2 j := fun h j hj => by
        by_cases e : j = i
        · subst e; exact h
        · exact hz j (by omega)
      clear hz h1 h2 y1 y2
      generalize z1 i = u at x1 hnext
      generalize z2 i = v at x2 hnext
      by_cases g1 : v ≤ u
      · go_wp2
        go_quiet (fail)
        go_wp2
        go_ret
        exact ⟨rfl, (below_drewN hb nq)⟩
      · have hnx := hnext (by omega)
        clear hnext
        go_wp2
        go_quiet (fail)
        go_wp2
        go_roundw
        case rel => exact ⟨i + 1, by omega, by go_num, hnx, (below_drewN hb nq)⟩
        case measure => simp [intOf]; omega
    · have e : i = m := by omega
      subst e
      have hF : ∀ j, j < i → (fun j => (z1 j).toNat) j < n ∧ (fun j => (z2 j).toNat) j < n := fun j hj => by have := hin j hj; dsimp only; omega
      have hf : ∀ j, j < i → (fun j => (z1 j).toNat) j < (fun j => (z2 j).toNat) j := fun j hj => by have := hin j hj; have := hz j hj; dsimp only; omega
      have A1 := (h1.below hb).nat (fun j hj => by have := hin j hj; omega)
      have A2 := (h2.below hb).nat (fun j hj => by have := hin j hj; omega)
      clear h1 h2 hin hz
      generalize (fun j => (z1 j).toNat) = F at hF hf A1
      generalize (fun j => (z2 j).toNat) = T at hF hf A2
      have hT : ∀ k, k < i → T k < n := fun k hk => (hF k hk).2
      have hc25 := build25 n i c1 c2 a1 a2 F T wr hn hm A1 A2 hF
      go_wp2_with (first
        | (go_at_call 25; refine hc25.mono ?_; rintro e w2 ⟨rfl, hr2, hp2, hb2⟩)
        | (go_at_call 24; refine (new24 n i _ _ F T _ hn hm hF hr2 hp2).mono ?_; rintro e w3 ⟨g, rfl, hb3, hS⟩))
      have hb4 : Below w.heap.size w w3 := (hb.trans (hb2.mono hb.size)).trans (hb3.mono (Nat.le_trans hb.size hb2.size))
      have hsz : w2.heap.size ≤ w3.heap.size := hb3.size
      have hwb : w.heap.size ≤ w2.heap.size := Nat.le_trans hb.size hb2.size
      generalize w2.heap.size = base at hS hsz hwb
      clear A1 A2 hc25 hr2 hp2 hb2 hb3
      go_loopw [9] (fun s wx => ∃ k : Nat, k ≤ n ∧ s = .int .i64 k ∧ St wx base n i F T g (List.range k) ∧ Below w.heap.size w wx ∧ base ≤ wx.heap.size) (fun s _ => n - (intOf s).toNat)
      case atStart => exact ⟨0, Nat.zero_le _, rfl, hS, hb4, hsz⟩
      case round =>
        clear hS hb4 hsz
        obtain ⟨k, hk, rfl, hS, hb4, hsz⟩ := hrel
        by_cases hkn : k < n
        · have hrd : Rdy n i F T (List.range k) k := fwd_rdy hf hkn
          have hlen : (List.range k).length < n := by simpa using hkn
          go_wp2_with (first
            | (go_at_call 26; refine (least26' _ base n i F T g _ hS hn).mono ?_; rintro e w5 ⟨r, rfl, rfl, hr⟩; obtain rfl := fwd_least hf hkn hr; clear hr)
            | (go_at_call 27; refine (place27 _ base n i F T g _ k hS hsz hn hm hlen hT hrd).mono ?_; rintro e w6 ⟨rfl, hb6, hS6⟩))
          go_roundw
          case rel => exact ⟨k + 1, by omega, by go_num, by rw [List.range_succ]; exact hS6, hb4.trans (hb6.mono hwb), Nat.le_trans hsz hb6.size⟩
          case measure => simp [intOf]; omega
        · have e : k = n := by omega
          subst e
          have hpl := hS.placed.2
          have hle : (List.range k).length = k := by simp
          go_wp2_with (first
            | (go_at_call 26; refine (least26' _ base k i F T g _ hS hn).mono ?_; rintro e w5 ⟨r, rfl, rfl, hr⟩; obtain rfl := fwd_end hr; clear hr)
            | (go_at_call 28; refine (placed28 _ base k i F T g _ hS).mono ?_; rintro e w6 ⟨rfl, rfl⟩))
          go_loop [12] (fun s => ∃ q : Nat, q ≤ k ∧ s = .int .i64 q) (fun s => k - (intOf s).toNat)
          case atStart => exact ⟨0, Nat.zero_le _, rfl⟩
          case round =>
            obtain ⟨q, hq, rfl⟩ := hrel
            by_cases hqk : q < k
            · have x1 := hpl q hqk
              rw [List.getD_eq_getElem?_getD, List.getElem?_range hqk] at x1
              simp only [Option.getD_some] at x1
              have l0 : (0 : Int) ≤ (q : Int) := by omega
              have l1 : (q : Int) < (k : Int) := by omega
              go_wp2
              go_round
              case rel => exact ⟨q + 1, by omega, by go_num⟩
              case measure => simp [intOf]; omega
            · have e : q = k := by omega
              subst e
              go_wp2
              go_ret
              exact ⟨rfl, hb4⟩
end Go.Proofs.Qxb6000427a
