/-
  Own work: the bound on total length.
-/
import Derived.Test.Qxb6600226aSz
namespace Go.Proofs.Qxb6600226a
open Go.RowKit

set_option maxRecDepth 100000 in
set_option maxHeartbeats 4000000 in
theorem bytes13 (a0 a1 a2 a3 a4 a5 : Option Addr) (m0 m1 m2 m3 m4 m5 c0 c1 c2 c3 c4 c5 : Nat) (z0 z1 z3 z4 z5 : Nat → ByteArray) (w : World)
    (h0 : m0 ≤ maxLen) (h1 : m1 ≤ maxLen) (h2 : m2 ≤ maxLen) (h3 : m3 ≤ maxLen) (h4 : m4 ≤ maxLen) (h5 : m5 ≤ maxLen)
    (g0 : ArgS w a0 m0 z0) (g1 : ArgS w a1 m1 z1) (g3 : ArgS w a3 m3 z3) (g4 : ArgS w a4 m4 z4) (g5 : ArgS w a5 m5 z5) :
    Calls Try.prog 13 #[.slice a0 m0 c0, .slice a1 m1 c1, .slice a2 m2 c2, .slice a3 m3 c3, .slice a4 m4 c4, .slice a5 m5 c5] w fun e w' => w = w' ∧ (e = .returned (.bool false) ∨ e = .returned (.bool true)) := by
  unfold maxLen at h0 h1 h2 h3 h4 h5
  go_enter Try.func13, Try.ntmps13
  by_cases q0 : m0 ≤ 1048576
  · go_wp2
    go_loop [13, 14] (fun sn si => ∃ n i : Nat, n ≤ 1048576 ∧ i ≤ m0 ∧ sn = .int .i64 n ∧ si = .int .i64 i) (fun _ si => m0 - (intOf si).toNat)
    case atStart => exact ⟨m0, 0, by omega, Nat.zero_le _, by simp, rfl⟩
    case round =>
      clear q0
      obtain ⟨n, i, hn, hi, rfl, rfl⟩ := hrel
      by_cases hlt : i < m0
      · obtain ⟨b, o, rfl, x1, x2, x3⟩ := g0 i hlt
        unfold maxLen at x3
        generalize z0 i = s at x1 x3
        have l0 : (0 : Int) ≤ (i : Int) := by omega
        have l1 : (i : Int) < (m0 : Int) := by omega
        by_cases y1 : s.size ≤ 1048576
        · by_cases y2 : n + s.size ≤ 1048576
          · go_wp2
            go_round
            case rel => exact ⟨n + s.size, i + 1, y2, by omega, by go_num, by go_num⟩
            case measure => simp [intOf]; omega
          · go_wp2
            go_ret
            first | exact ⟨rfl, .inl rfl⟩ | exact .inl rfl | exact ⟨rfl, .inr rfl⟩ | exact .inr rfl
        · go_wp2
          go_ret
          first | exact ⟨rfl, .inl rfl⟩ | exact .inl rfl | exact ⟨rfl, .inr rfl⟩ | exact .inr rfl
      · have e : i = m0 := by omega
        subst e
        by_cases q1 : m1 ≤ 1048576 ∧ n + m1 ≤ 1048576
        · go_wp2
          go_loop [13, 15] (fun sn si => ∃ n i : Nat, n ≤ 1048576 ∧ i ≤ m1 ∧ sn = .int .i64 n ∧ si = .int .i64 i) (fun _ si => m1 - (intOf si).toNat)
          case atStart => exact ⟨n + m1, 0, by omega, Nat.zero_le _, by simp, rfl⟩
          case round =>
            clear q1
            obtain ⟨n, i, hn, hi, rfl, rfl⟩ := hrel
            by_cases hlt : i < m1
            · obtain ⟨b, o, rfl, x1, x2, x3⟩ := g1 i hlt
              unfold maxLen at x3
              generalize z1 i = s at x1 x3
              have l0 : (0 : Int) ≤ (i : Int) := by omega
              have l1 : (i : Int) < (m1 : Int) := by omega
              by_cases y1 : s.size ≤ 1048576
              · by_cases y2 : n + s.size ≤ 1048576
                · go_wp2
                  go_round
                  case rel => exact ⟨n + s.size, i + 1, y2, by omega, by go_num, by go_num⟩
                  case measure => simp [intOf]; omega
                · go_wp2
                  go_ret
                  first | exact ⟨rfl, .inl rfl⟩ | exact .inl rfl | exact ⟨rfl, .inr rfl⟩ | exact .inr rfl
              · go_wp2
                go_ret
                first | exact ⟨rfl, .inl rfl⟩ | exact .inl rfl | exact ⟨rfl, .inr rfl⟩ | exact .inr rfl
            · have e : i = m1 := by omega
              subst e
              by_cases q2 : m2 ≤ 1048576 ∧ n + m2 ≤ 1048576 ∧ m3 ≤ 1048576 ∧ n + m2 + m3 ≤ 1048576
              · go_wp2
                go_loop [13, 16] (fun sn si => ∃ n i : Nat, n ≤ 1048576 ∧ i ≤ m3 ∧ sn = .int .i64 n ∧ si = .int .i64 i) (fun _ si => m3 - (intOf si).toNat)
                case atStart => exact ⟨n + m2 + m3, 0, by omega, Nat.zero_le _, by simp, rfl⟩
                case round =>
                  clear q2
                  obtain ⟨n, i, hn, hi, rfl, rfl⟩ := hrel
                  by_cases hlt : i < m3
                  · obtain ⟨b, o, rfl, x1, x2, x3⟩ := g3 i hlt
                    unfold maxLen at x3
                    generalize z3 i = s at x1 x3
                    have l0 : (0 : Int) ≤ (i : Int) := by omega
                    have l1 : (i : Int) < (m3 : Int) := by omega
                    by_cases y1 : s.size ≤ 1048576
                    · by_cases y2 : n + s.size ≤ 1048576
                      · go_wp2
                        go_round
                        case rel => exact ⟨n + s.size, i + 1, y2, by omega, by go_num, by go_num⟩
                        case measure => simp [intOf]; omega
                      · go_wp2
                        go_ret
                        first | exact ⟨rfl, .inl rfl⟩ | exact .inl rfl | exact ⟨rfl, .inr rfl⟩ | exact .inr rfl
                    · go_wp2
                      go_ret
                      first | exact ⟨rfl, .inl rfl⟩ | exact .inl rfl | exact ⟨rfl, .inr rfl⟩ | exact .inr rfl
                  · have e : i = m3 := by omega
                    subst e
                    by_cases q3 : m4 ≤ 1048576 ∧ n + m4 ≤ 1048576
                    · go_wp2
                      go_loop [13, 17] (fun sn si => ∃ n i : Nat, n ≤ 1048576 ∧ i ≤ m4 ∧ sn = .int .i64 n ∧ si = .int .i64 i) (fun _ si => m4 - (intOf si).toNat)
                      case atStart => exact ⟨n + m4, 0, by omega, Nat.zero_le _, by simp, rfl⟩
                      case round =>
                        clear q3
                        obtain ⟨n, i, hn, hi, rfl, rfl⟩ := hrel
                        by_cases hlt : i < m4
                        · obtain ⟨b, o, rfl, x1, x2, x3⟩ := g4 i hlt
                          unfold maxLen at x3
                          generalize z4 i = s at x1 x3
                          have l0 : (0 : Int) ≤ (i : Int) := by omega
                          have l1 : (i : Int) < (m4 : Int) := by omega
                          by_cases y1 : s.size ≤ 1048576
                          · by_cases y2 : n + s.size ≤ 1048576
                            · go_wp2
                              go_round
                              case rel => exact ⟨n + s.size, i + 1, y2, by omega, by go_num, by go_num⟩
                              case measure => simp [intOf]; omega
                            · go_wp2
                              go_ret
                              first | exact ⟨rfl, .inl rfl⟩ | exact .inl rfl | exact ⟨rfl, .inr rfl⟩ | exact .inr rfl
                          · go_wp2
                            go_ret
                            first | exact ⟨rfl, .inl rfl⟩ | exact .inl rfl | exact ⟨rfl, .inr rfl⟩ | exact .inr rfl
                        · have e : i = m4 := by omega
                          subst e
                          by_cases q4 : m5 ≤ 1048576 ∧ n + m5 ≤ 1048576
                          · go_wp2
                            go_loop [13, 18] (fun sn si => ∃ n i : Nat, n ≤ 1048576 ∧ i ≤ m5 ∧ sn = .int .i64 n ∧ si = .int .i64 i) (fun _ si => m5 - (intOf si).toNat)
                            case atStart => exact ⟨n + m5, 0, by omega, Nat.zero_le _, by simp, rfl⟩
                            case round =>
                              clear q4
                              obtain ⟨n, i, hn, hi, rfl, rfl⟩ := hrel
                              by_cases hlt : i < m5
                              · obtain ⟨b, o, rfl, x1, x2, x3⟩ := g5 i hlt
                                unfold maxLen at x3
                                generalize z5 i = s at x1 x3
                                have l0 : (0 : Int) ≤ (i : Int) := by omega
                                have l1 : (i : Int) < (m5 : Int) := by omega
                                by_cases y1 : s.size ≤ 1048576
                                · by_cases y2 : n + s.size ≤ 1048576
                                  · go_wp2
                                    go_round
                                    case rel => exact ⟨n + s.size, i + 1, y2, by omega, by go_num, by go_num⟩
                                    case measure => simp [intOf]; omega
                                  · go_wp2
                                    go_ret
                                    first | exact ⟨rfl, .inl rfl⟩ | exact .inl rfl | exact ⟨rfl, .inr rfl⟩ | exact .inr rfl
                                · go_wp2
                                  go_ret
                                  first | exact ⟨rfl, .inl rfl⟩ | exact .inl rfl | exact ⟨rfl, .inr rfl⟩ | exact .inr rfl
                              · have e : i = m5 := by omega
                                subst e
                                go_wp2
                                go_ret
                                first | exact ⟨rfl, .inl rfl⟩ | exact .inl rfl | exact ⟨rfl, .inr rfl⟩ | exact .inr rfl
                          · go_wp2
                            all_goals
                              go_ret
                              first | exact ⟨rfl, .inl rfl⟩ | exact .inl rfl | exact ⟨rfl, .inr rfl⟩ | exact .inr rfl
                    · go_wp2
                      all_goals
                        go_ret
                        first | exact ⟨rfl, .inl rfl⟩ | exact .inl rfl | exact ⟨rfl, .inr rfl⟩ | exact .inr rfl
              · go_wp2
                all_goals
                  go_ret
                  first | exact ⟨rfl, .inl rfl⟩ | exact .inl rfl | exact ⟨rfl, .inr rfl⟩ | exact .inr rfl
        · go_wp2
          all_goals
            go_ret
            first | exact ⟨rfl, .inl rfl⟩ | exact .inl rfl | exact ⟨rfl, .inr rfl⟩ | exact .inr rfl
  · go_wp2
    all_goals
      go_ret
      first | exact ⟨rfl, .inl rfl⟩ | exact .inl rfl | exact ⟨rfl, .inr rfl⟩ | exact .inr rfl
end Go.Proofs.Qxb6600226a
