/-
  Own work: the walk of FnBindMatchesPriorityModel.
-/
import Derived.Test.Qxb6600226aBy
import Derived.Test.Qxb6600226aMw
import Derived.Test.Qxb6600226aSm
namespace Go.Proofs.Qxb6600226a
open Go.RowKit

set_option maxRecDepth 100000 in
set_option maxHeartbeats 8000000 in
theorem law5 (a0 a1 a2 a3 a4 a5 : Option Addr) (m0 m1 m2 m3 m4 m5 c0 c1 c2 c3 c4 c5 : Nat) (z0 z1 z3 z4 z5 : Nat → ByteArray) (zb : Nat → Bool) (w : World)
    (h0 : m0 ≤ maxLen) (h1 : m1 ≤ maxLen) (h2 : m2 ≤ maxLen) (h3 : m3 ≤ maxLen) (h4 : m4 ≤ maxLen) (h5 : m5 ≤ maxLen)
    (g0 : ArgS w a0 m0 z0) (g1 : ArgS w a1 m1 z1) (g2 : ArgB w a2 m2 zb) (g3 : ArgS w a3 m3 z3) (g4 : ArgS w a4 m4 z4) (g5 : ArgS w a5 m5 z5)
    (n0 : a0 = none → m0 = 0 ∧ c0 = 0) (n1 : a1 = none → m1 = 0 ∧ c1 = 0) (n2 : a2 = none → m2 = 0 ∧ c2 = 0) (n3 : a3 = none → m3 = 0 ∧ c3 = 0) (n4 : a4 = none → m4 = 0 ∧ c4 = 0) (n5 : a5 = none → m5 = 0 ∧ c5 = 0) :
    Calls Try.prog 5 #[.slice a0 m0 c0, .slice a1 m1 c1, .slice a2 m2 c2, .slice a3 m3 c3, .slice a4 m4 c4, .slice a5 m5 c5] w fun e w' => e = .returned (.bool true) ∧ Below w.heap.size w w' := by
  have k13 := bytes13 a0 a1 a2 a3 a4 a5 m0 m1 m2 m3 m4 m5 c0 c1 c2 c3 c4 c5 z0 z1 z3 z4 z5 w h0 h1 h2 h3 h4 h5 g0 g1 g3 g4 g5
  have k14 := tooBig14 a0 a1 a2 a3 a4 a5 m0 m1 m2 m3 m4 m5 c0 c1 c2 c3 c4 c5 z0 z1 z3 z4 z5 w h0 h1 h2 h3 h4 h5 g0 g1 g3 g4 g5
  clear h0 h1 h2 h3 h4 h5
  go_enter Try.func5, Try.ntmps5
  go_upto_region 3 with (first | (go_at_call 13; refine k13.mono ?_; rintro e w' ⟨rfl, rfl | rfl⟩))
  · go_ret
    exact ⟨rfl, Below.refl _ _⟩
  go_upto_region 5 with (first | (go_at_call 14; refine k14.mono ?_; rintro e w' ⟨rfl, rfl | ⟨rfl, u0, u1, u2, u3, u4, u5⟩⟩))
  · go_ret
    exact ⟨rfl, Below.refl _ _⟩
  clear k13 k14
  go_upto_region 6 with (first | (go_at_call 15; refine (clone15 a0 m0 c0 z0 _ (by omega) g0 n0).mono ?_; rintro e w1 ⟨b0, d0, rfl, G0, B1⟩))
  replace g1 := g1.below B1
  replace g2 := g2.below B1
  replace g3 := g3.below B1
  replace g4 := g4.below B1
  replace g5 := g5.below B1
  go_upto_region 7 with (first | (go_at_call 15; refine (clone15 a1 m1 c1 z1 _ (by omega) g1 n1).mono ?_; rintro e w2 ⟨b1, d1, rfl, G1, B2⟩))
  replace G0 := G0.below B2
  replace g2 := g2.below B2
  replace g3 := g3.below B2
  replace g4 := g4.below B2
  replace g5 := g5.below B2
  go_upto_region 8 with (first | (go_at_call 16; refine (clone16 a2 m2 c2 zb _ (by omega) g2 n2).mono ?_; rintro e w3 ⟨b2, d2, rfl, G2, B3⟩))
  replace G0 := G0.below B3
  replace G1 := G1.below B3
  replace g3 := g3.below B3
  replace g4 := g4.below B3
  replace g5 := g5.below B3
  go_upto_region 9 with (first | (go_at_call 15; refine (clone15 a3 m3 c3 z3 _ (by omega) g3 n3).mono ?_; rintro e w4 ⟨b3, d3, rfl, G3, B4⟩))
  replace G0 := G0.below B4
  replace G1 := G1.below B4
  replace G2 := G2.below B4
  replace g4 := g4.below B4
  replace g5 := g5.below B4
  go_upto_region 10 with (first | (go_at_call 15; refine (clone15 a4 m4 c4 z4 _ (by omega) g4 n4).mono ?_; rintro e w5 ⟨b4, d4, rfl, G4, B5⟩))
  replace G0 := G0.below B5
  replace G1 := G1.below B5
  replace G2 := G2.below B5
  replace G3 := G3.below B5
  replace g5 := g5.below B5
  go_upto_region 11 with (first | (go_at_call 15; refine (clone15 a5 m5 c5 z5 _ (by omega) g5 n5).mono ?_; rintro e w6 ⟨b5, d5, rfl, G5, B6⟩))
  replace G0 := G0.below B6
  replace G1 := G1.below B6
  replace G2 := G2.below B6
  replace G3 := G3.below B6
  replace G4 := G4.below B6
  have BB : Below w.heap.size w w6 := ((((B1.trans (B2.mono B1.size)).trans (B3.mono (Nat.le_trans B1.size B2.size))).trans (B4.mono (Nat.le_trans B1.size (Nat.le_trans B2.size B3.size)))).trans (B5.mono (Nat.le_trans B1.size (Nat.le_trans B2.size (Nat.le_trans B3.size B4.size))))).trans (B6.mono (Nat.le_trans B1.size (Nat.le_trans B2.size (Nat.le_trans B3.size (Nat.le_trans B4.size B5.size)))))
  clear B1 B2 B3 B4 B5 B6 g5 n0 n1 n2 n3 n4 n5
  go_upto_region 12 with (first | (go_at_call 17; refine (chore17 b0 b1 b2 m0 m1 m2 d0 d1 d2 z0 z1 zb _ u0 G0 G1 G2).mono ?_; rintro e w7 ⟨C, rfl, hC, hCl, hA, B7⟩))
  replace G0 := G0.below B7
  replace G1 := G1.below B7
  replace G2 := G2.below B7
  replace G3 := G3.below B7
  replace G4 := G4.below B7
  replace G5 := G5.below B7
  have BB7 := BB.trans (B7.mono BB.size)
  clear BB B7
  generalize w6.heap.size = AB at hC hA
  go_upto_region 13 with (first | (go_at_call 18; refine (over18 b4 b5 m4 m5 d4 d5 z4 z5 _ (by omega) G4 G5).mono ?_; rintro e w8 ⟨rfl, hO, B8⟩))
  replace G0 := G0.below B8
  replace G1 := G1.below B8
  replace G2 := G2.below B8
  replace G3 := G3.below B8
  replace G4 := G4.below B8
  replace G5 := G5.below B8
  replace hC := (B8.cell (p := ⟨C, 4, none⟩) hCl).trans hC
  replace hA := hA.of_block (B8.block AB hA.lt)
  have BB8 := BB7.trans (B8.mono BB7.size)
  clear BB7 B8 hCl
  generalize w7.heap.size = OB at hO ⊢
  obtain ⟨x, hx⟩ : ∃ x : In, x = ⟨m0, z0, dfOf m1 z1, hdOf m2 zb, m3, z3, min m4 m5, z4, z5⟩ := ⟨_, rfl⟩
  have k19 := bind19 x C AB OB d3 b3 w8 (by rw [hx]; exact u0) (by rw [hx]; show min m4 m5 ≤ 65536; omega) (by rw [hx]; exact hC) (by rw [hx]; exact hA) (by rw [hx]; exact hO) (by rw [hx]; exact G3)
  have e1 : x.W = m3 := by rw [hx]
  have e2 : x.N = min m4 m5 := by rw [hx]
  have e3 : x.n = m0 := by rw [hx]
  rw [e1, e2, e3] at k19
  clear e1 e2 e3
  go_upto_region 14 with (first | (go_at_call 19; refine k19.mono ?_; rintro e w9 ⟨v6, v7, rfl, hT⟩))
  have B9 := hT.below
  replace G0 := G0.below B9
  replace G1 := G1.below B9
  replace G2 := G2.below B9
  replace G3 := G3.below B9
  replace G4 := G4.below B9
  replace G5 := G5.below B9
  have BB9 := BB8.trans (B9.mono BB8.size)
  have k20 := model20 b0 b1 b2 b3 b4 b5 m0 m1 m2 m3 m4 m5 d0 d1 d2 d3 d4 d5 z0 z1 z3 z4 z5 zb w9 u0 G0 G1 G2 G3 G4 G5 x hx (by omega)
  clear BB8 B9 k19 hC hA hO
  go_upto_region 15 with (first | (go_at_call 20; refine k20.mono ?_; rintro e w10 ⟨v1, v2, v3, rfl, hM⟩))
  have B10 := hM.below
  have BB10 := BB9.trans (B10.mono BB9.size)
  have hT2 := hT.later B10
  have hlen := x.len m0
  unfold MRel at hM
  generalize x.vals m0 = l at hT2 hM hlen
  generalize x.miss m0 = ms at hT2 hM hlen
  obtain ⟨p6, q6, rfl, S6⟩ := own_sl2 hT2.own6
  obtain ⟨p7, q7, rfl, S7⟩ := own_sl hT2.own7
  obtain ⟨p1, q1, rfl, S1⟩ := own_sl hM.own1
  obtain ⟨p2, q2, rfl, S2⟩ := own_sl hM.own2
  obtain ⟨p3, q3, rfl, S3⟩ := own_sl hM.own3
  rw [List.length_map] at S1 S2
  rw [List.length_map, List.length_map]
  have k21 := same21 p6 p1 p2 l.length q6 q1 q2 _ _ w10 (by omega) S6 S1 S2
  clear hT hT2 hM BB9 B10 k20 G0 G1 G2 G3 G4 G5
  go_wp2_with (first
    | (go_at_call 21; refine k21.mono ?_; rintro e w11 ⟨rfl, B11⟩)
    | (go_at_call 22; refine (same22 p7 p3 ms.length q7 q3 _ _ (by omega) (S7.later B11) (S3.later B11)).mono ?_; rintro e w12 ⟨rfl, B12⟩))
  go_ret
  exact ⟨rfl, (BB10.trans (B11.mono BB10.size)).trans (B12.mono (Nat.le_trans BB10.size B11.size))⟩
end Go.Proofs.Qxb6600226a
