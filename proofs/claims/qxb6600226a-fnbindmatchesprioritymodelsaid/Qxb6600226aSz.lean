/-
  Own work: the size guards.
-/
import Derived.Test.Qxb6600226aRw
import Derived.Deep.DeepFit
namespace Go.Proofs.Qxb6600226a
open Go.RowKit

set_option maxHeartbeats 1000000 in
theorem strBytes26 (ad : Option Addr) (m cap : Nat) (z : Nat → ByteArray) (w : World) (hm : m ≤ maxLen) (h : ArgS w ad m z) :
    Calls Try.prog 26 #[.slice ad m cap] w fun e w' => w = w' ∧ ∃ r : Int, e = .returned (.int .i64 r) ∧ 0 ≤ r ∧ r ≤ 1048577 := by
  unfold maxLen at hm
  go_enter Try.func26, Try.ntmps26
  go_wp2
  go_loop [3, 4] (fun sn si => ∃ n i : Nat, n ≤ 1048576 ∧ i ≤ m ∧ sn = .int .i64 n ∧ si = .int .i64 i) (fun _ si => m - (intOf si).toNat)
  case atStart => exact ⟨0, 0, by omega, Nat.zero_le _, rfl, rfl⟩
  case round =>
    obtain ⟨n, i, hn, hi, rfl, rfl⟩ := hrel
    by_cases hlt : i < m
    · obtain ⟨b, o, rfl, x1, x2, x3⟩ := h i hlt
      unfold maxLen at x3
      clear h
      generalize z i = s at x1 x3
      have l0 : (0 : Int) ≤ (i : Int) := by omega
      have l1 : (i : Int) < (m : Int) := by omega
      by_cases h1 : s.size ≤ 1048576
      · by_cases h2 : n + (16 + s.size) ≤ 1048576
        · go_wp2
          go_round
          case rel => exact ⟨n + (16 + s.size), i + 1, h2, by omega, by go_num, by go_num⟩
          case measure => simp [intOf]; omega
        · go_wp2
          go_ret
          exact ⟨rfl, _, rfl, by omega, by omega⟩
      · go_wp2
        go_ret
        exact ⟨rfl, _, rfl, by omega, by omega⟩
    · have e : i = m := by omega
      subst e
      go_wp2
      go_ret
      exact ⟨rfl, _, rfl, by omega, by omega⟩

theorem lenCap33 (w : World) :
    Calls Try.prog 33 #[.string ⟨#[]⟩] w fun e w' => w = w' ∧ e = .returned (.int .i64 0) := by
  go_enter Try.func33, Try.ntmps33
  go_wp2
  go_ret
  exact ⟨rfl, rfl⟩

set_option maxHeartbeats 4000000 in
theorem tooBig14 (a0 a1 a2 a3 a4 a5 : Option Addr) (m0 m1 m2 m3 m4 m5 c0 c1 c2 c3 c4 c5 : Nat) (z0 z1 z3 z4 z5 : Nat → ByteArray) (w : World)
    (h0 : m0 ≤ maxLen) (h1 : m1 ≤ maxLen) (h2 : m2 ≤ maxLen) (h3 : m3 ≤ maxLen) (h4 : m4 ≤ maxLen) (h5 : m5 ≤ maxLen)
    (g0 : ArgS w a0 m0 z0) (g1 : ArgS w a1 m1 z1) (g3 : ArgS w a3 m3 z3) (g4 : ArgS w a4 m4 z4) (g5 : ArgS w a5 m5 z5) :
    Calls Try.prog 14 #[.slice a0 m0 c0, .slice a1 m1 c1, .slice a2 m2 c2, .slice a3 m3 c3, .slice a4 m4 c4, .slice a5 m5 c5, .string ⟨#[]⟩, .string ⟨#[]⟩] w fun e w' => w = w' ∧
      (e = .returned (.bool true) ∨ (e = .returned (.bool false) ∧ m0 ≤ 4096 ∧ m1 ≤ 4096 ∧ m2 ≤ 4096 ∧ m3 ≤ 65536 ∧ m4 ≤ 4096 ∧ m5 ≤ 4096)) := by
  have k0 := strBytes26 a0 m0 c0 z0 w h0 g0
  have k1 := strBytes26 a1 m1 c1 z1 w h1 g1
  have k3 := strBytes26 a3 m3 c3 z3 w h3 g3
  have k4 := strBytes26 a4 m4 c4 z4 w h4 g4
  have k5 := strBytes26 a5 m5 c5 z5 w h5 g5
  unfold maxLen at h0 h1 h2 h3 h4 h5
  go_enter Try.func14, Try.ntmps14
  by_cases hm3 : m3 ≤ 65536
  · have d3 : decide ((65536 : Int) < (m3 : Int)) = false := by simp; omega
    by_cases hall : m0 ≤ 4096 ∧ m1 ≤ 4096 ∧ m2 ≤ 4096 ∧ m4 ≤ 4096 ∧ m5 ≤ 4096
    · obtain ⟨u0, u1, u2, u4, u5⟩ := hall
      go_wp2_with (first
    | (go_at_call 26; go_fit k0; rintro e w' ⟨rfl, r0, rfl, p0, q0⟩)
    | (go_at_call 26; go_fit k1; rintro e w' ⟨rfl, r1, rfl, p1, q1⟩)
    | (go_at_call 26; go_fit k3; rintro e w' ⟨rfl, r3, rfl, p3, q3⟩)
    | (go_at_call 26; go_fit k4; rintro e w' ⟨rfl, r4, rfl, p4, q4⟩)
    | (go_at_call 26; go_fit k5; rintro e w' ⟨rfl, r5, rfl, p5, q5⟩)
    | (go_at_call 33; refine (lenCap33 _).mono ?_; rintro e w' ⟨rfl, rfl⟩))
      all_goals
        go_ret
        first | exact ⟨rfl, .inl rfl⟩ | exact .inl rfl | exact ⟨rfl, rfl⟩ | exact rfl | exact ⟨rfl, .inr ⟨rfl, u0, u1, u2, hm3, u4, u5⟩⟩ | exact .inr ⟨rfl, u0, u1, u2, hm3, u4, u5⟩
    · go_wp2_with (first
    | (go_at_call 26; go_fit k0; rintro e w' ⟨rfl, r0, rfl, p0, q0⟩)
    | (go_at_call 26; go_fit k1; rintro e w' ⟨rfl, r1, rfl, p1, q1⟩)
    | (go_at_call 26; go_fit k3; rintro e w' ⟨rfl, r3, rfl, p3, q3⟩)
    | (go_at_call 26; go_fit k4; rintro e w' ⟨rfl, r4, rfl, p4, q4⟩)
    | (go_at_call 26; go_fit k5; rintro e w' ⟨rfl, r5, rfl, p5, q5⟩)
    | (go_at_call 33; refine (lenCap33 _).mono ?_; rintro e w' ⟨rfl, rfl⟩))
      all_goals
        go_ret
        first | exact ⟨rfl, .inl rfl⟩ | exact .inl rfl | exact ⟨rfl, rfl⟩ | exact rfl
  · have d3 : decide ((65536 : Int) < (m3 : Int)) = true := by simp; omega
    go_wp2_with (first
    | (go_at_call 26; go_fit k0; rintro e w' ⟨rfl, r0, rfl, p0, q0⟩)
    | (go_at_call 26; go_fit k1; rintro e w' ⟨rfl, r1, rfl, p1, q1⟩)
    | (go_at_call 26; go_fit k3; rintro e w' ⟨rfl, r3, rfl, p3, q3⟩)
    | (go_at_call 26; go_fit k4; rintro e w' ⟨rfl, r4, rfl, p4, q4⟩)
    | (go_at_call 26; go_fit k5; rintro e w' ⟨rfl, r5, rfl, p5, q5⟩)
    | (go_at_call 33; refine (lenCap33 _).mono ?_; rintro e w' ⟨rfl, rfl⟩))
    all_goals
      go_ret
      first | exact ⟨rfl, .inl rfl⟩ | exact .inl rfl | exact ⟨rfl, rfl⟩ | exact rfl
end Go.Proofs.Qxb6600226a
