/-
  Own work: the walk of FnStrictnessMatchesDefinition.
-/
import Derived.Test.Qxb6000427aStrict
import Derived.Test.Qxb6000427aPlain2
import Derived.Deep.QuietTactic
import Derived.BigQuiet
import Derived.WalkSmall
namespace Go.Proofs.Qxb6000427a
open Go.RowKit

set_option maxHeartbeats 400000 in
theorem bytes11 (a0 a1 a2 : Option Addr) (l0 c0 l1 c1 l2 c2 : Nat) (w : World) (h0 : l0 ≤ maxLen) (h1 : l1 ≤ maxLen) (h2 : l2 ≤ maxLen) :
    Calls Try.prog 11 #[.slice a0 l0 c0, .slice a1 l1 c1, .slice a2 l2 c2] w fun e w' => ∃ b, e = .returned (.bool b) ∧ w' = w := by
  unfold maxLen at h0 h1 h2
  go_enter Try.func11, Try.ntmps11
  go_wp2
  all_goals
    go_ret
    exact ⟨_, rfl, rfl⟩

set_option maxRecDepth 100000 in
set_option maxHeartbeats 400000 in
theorem strict13 (Bo n : Nat) (z0 z1 : List Int) (z2 : List UInt8) (w : World) (hN : n ≤ 4096) (hb : Built w Bo n n z0 z1 z2) :
    Calls Try.prog 13 #[.slice (some ⟨Bo, 0, none⟩) n n] w fun e w' => ∃ a b, e = .returned (.tuple #[.bool a, .bool b]) ∧ Hid ((a, b) = srun (opsOf z0 z1 z2 n) St.start) ∧ Below w.heap.size w w' := by
  go_enter Try.func13, Try.ntmps13
  go_wp2_with (go_at_call 30; refine (strict_any Bo n z0 z1 z2 w hN hb).mono ?_; rintro e w' ⟨rfl, hbel⟩)
  go_ret2
  exact ⟨_, _, rfl, rfl, hbel⟩

theorem toNat_ne {x y : UInt8} : ((y.toNat : Int) != (x.toNat : Int)) = !decide (y = x) := by
  by_cases h : y = x
  · subst h; simp
  · have : ¬ (y.toNat : Int) = (x.toNat : Int) := fun e => h (UInt8.toNat_inj.1 (by omega))
    simp [h, this]

/-- the law's outer loop, seen from its i-th round -/
def OutRel (w wr : World) (L : List (Int × Int × UInt8)) (n : Nat) (sa sb si : Value) : Prop :=
  ∃ (i : Nat) (a b : Bool), i ≤ n ∧ si = .int .i64 i ∧ sa = .bool a ∧ sb = .bool b ∧ Hid (outer (L.drop i) (a, b) = outer L (true, true)) ∧ Below w.heap.size w wr

/-- the law's inner loop, seen from its j-th round -/
def InRel (w wr : World) (L : List (Int × Int × UInt8)) (n i : Nat) (kd T : Int) (x : UInt8) (a0 b0 : Bool) (sa sb sj : Value) : Prop :=
  ∃ (j : Nat) (a b : Bool), i < j ∧ j ≤ n ∧ sj = .int .i64 j ∧ sa = .bool a ∧ sb = .bool b ∧ Hid (inner kd T x (L.drop j) (a, b) = inner kd T x (L.drop (i + 1)) (a0, b0)) ∧ Below w.heap.size w wr

theorem outRel_skip {w wr : World} {L : List (Int × Int × UInt8)} {n i : Nat} {kd T : Int} {x : UInt8} {a b : Bool} (hi : i < n) (hL : L.drop i = (kd, T, x) :: L.drop (i + 1)) (hk : ¬ (kd = 1 ∨ kd = 2)) (h : Hid (outer (L.drop i) (a, b) = outer L (true, true))) (hb : Below w.heap.size w wr) :
    OutRel w wr L n (.bool a) (.bool b) (.int .i64 ((i : Int) + 1)) := by
  refine ⟨i + 1, a, b, hi, by simp, rfl, rfl, ?_, hb⟩
  have := h.out
  rw [hL, outer, if_neg hk] at this
  exact this

theorem outRel_next {w wr : World} {L : List (Int × Int × UInt8)} {n i : Nat} {kd T : Int} {x : UInt8} {a b a0 b0 : Bool} (hi : i < n) (hL : L.drop i = (kd, T, x) :: L.drop (i + 1)) (hk : kd = 1 ∨ kd = 2) (h : Hid (outer (L.drop i) (a0, b0) = outer L (true, true)))
    (he : (a, b) = inner kd T x (L.drop (i + 1)) (a0, b0)) (hb : Below w.heap.size w wr) : OutRel w wr L n (.bool a) (.bool b) (.int .i64 ((i : Int) + 1)) := by
  refine ⟨i + 1, a, b, hi, by simp, rfl, rfl, ?_, hb⟩
  have := h.out
  rw [hL, outer, if_pos hk, ← he] at this
  exact this

theorem inRel_next {w wr : World} {L : List (Int × Int × UInt8)} {n i j : Nat} {kd T kj t : Int} {x y : UInt8} {a b a1 b1 a0 b0 : Bool} (hi : i < j) (hj : j < n) (hL : L.drop j = (kj, t, y) :: L.drop (j + 1)) (h : Hid (inner kd T x (L.drop j) (a, b) = inner kd T x (L.drop (i + 1)) (a0, b0)))
    (he : inner kd T x ((kj, t, y) :: L.drop (j + 1)) (a, b) = inner kd T x (L.drop (j + 1)) (a1, b1)) (hb : Below w.heap.size w wr) : InRel w wr L n i kd T x a0 b0 (.bool a1) (.bool b1) (.int .i64 ((j : Int) + 1)) := by
  refine ⟨j + 1, a1, b1, by omega, hj, by simp, rfl, rfl, ?_, hb⟩
  have := h.out
  rw [hL, he] at this
  exact this

theorem inner_break {L : List (Int × Int × UInt8)} {i j : Nat} {kd T kj : Int} {x y : UInt8} {a b a0 b0 : Bool} (hL : L.drop j = (kj, T, y) :: L.drop (j + 1)) (hk : kj = 5 ∨ kj = 6) (h : Hid (inner kd T x (L.drop j) (a, b) = inner kd T x (L.drop (i + 1)) (a0, b0))) :
    (a, b) = inner kd T x (L.drop (i + 1)) (a0, b0) := by
  have := h.out
  rw [hL, inner, if_pos rfl, if_pos hk] at this
  exact this

theorem inner_done {L : List (Int × Int × UInt8)} {i j : Nat} {kd T : Int} {x : UInt8} {a b a0 b0 : Bool} (hL : L.drop j = []) (h : Hid (inner kd T x (L.drop j) (a, b) = inner kd T x (L.drop (i + 1)) (a0, b0))) :
    (a, b) = inner kd T x (L.drop (i + 1)) (a0, b0) := by
  have := h.out
  rw [hL, inner] at this
  exact this

theorem final_ans {z0 z1 : List Int} {z2 : List UInt8} {n : Nat} {a b sa sb : Bool} (HA : Hid (outer ((opsOf z0 z1 z2 n).drop n) (a, b) = outer (opsOf z0 z1 z2 n) (true, true))) (HS : Hid ((sa, sb) = srun (opsOf z0 z1 z2 n) St.start)) : (sa, sb) = (a, b && a) := by
  have h1 := HA.out
  have h2 := HS.out
  rw [opsOf_end, outer] at h1
  rw [srun_outer, ← h1] at h2
  exact h2

theorem or12 {kj : Int} (h : (kj == 1) = true ∨ (kj == 2) = true) : kj = 1 ∨ kj = 2 := by simpa using h
theorem nor12 {kj : Int} (h : (kj == 1) = false ∧ (kj == 2) = false) : ¬ (kj = 1 ∨ kj = 2) := by simpa using h
theorem or56 {kj : Int} (h : (kj == 5) = true ∨ (kj == 6) = true) : kj = 5 ∨ kj = 6 := by simpa using h
theorem inner_same {kd T kj : Int} {x y : UInt8} {R : List (Int × Int × UInt8)} {ab : Bool × Bool} (h : (kj == 5) = false ∧ (kj == 6) = false) : inner kd T x ((kj, T, y) :: R) ab = inner kd T x R ab := by
  have h5' : ¬ kj = 5 := by simpa using h.1
  have h6' : ¬ kj = 6 := by simpa using h.2
  rw [inner, if_pos rfl, if_neg (by rintro (q | q) <;> contradiction)]
theorem inner_item {kd T kj t : Int} {x y : UInt8} {R : List (Int × Int × UInt8)} {ab : Bool × Bool} (ht : ¬ t = T) (h : ((y.toNat : Int) != (x.toNat : Int)) = true) : inner kd T x ((kj, t, y) :: R) ab = inner kd T x R ab := by
  have hy : y ≠ x := fun e => by subst e; simp at h
  rw [inner, if_neg ht, if_pos hy]
theorem inner_hit {kd T kj t : Int} {x y : UInt8} {R : List (Int × Int × UInt8)} {a b : Bool} (ht : ¬ t = T) (h : ((y.toNat : Int) != (x.toNat : Int)) = false) : inner kd T x ((kj, t, y) :: R) (a, b) = inner kd T x R (a && !(decide (kd = 2) && p12 kj), b && !(decide (kd = 1) && p2 kj)) := by
  have hy : ¬ y ≠ x := fun e => by
    have : ¬ (y.toNat : Int) = (x.toNat : Int) := fun q => e (UInt8.toNat_inj.1 (by omega))
    simp [this] at h
  rw [inner, if_neg ht, if_neg hy]
theorem inner1_yes {T kj t : Int} {x y : UInt8} {R : List (Int × Int × UInt8)} {a b : Bool} (ht : ¬ t = T) (h : ((y.toNat : Int) != (x.toNat : Int)) = false) (hk : (kj == 2) = true) : inner 1 T x ((kj, t, y) :: R) (a, b) = inner 1 T x R (a, false) := by
  rw [inner_hit ht h]
  have : kj = 2 := by simpa using hk
  simp [p2, this]
theorem inner1_no {T kj t : Int} {x y : UInt8} {R : List (Int × Int × UInt8)} {a b : Bool} (ht : ¬ t = T) (h : ((y.toNat : Int) != (x.toNat : Int)) = false) (hk : (kj == 2) = false) : inner 1 T x ((kj, t, y) :: R) (a, b) = inner 1 T x R (a, b) := by
  rw [inner_hit ht h]
  have : ¬ kj = 2 := by simpa using hk
  simp [p2, this]
theorem inner2_yes {T kj t : Int} {x y : UInt8} {R : List (Int × Int × UInt8)} {a b : Bool} (ht : ¬ t = T) (h : ((y.toNat : Int) != (x.toNat : Int)) = false) (hk : kj = 1 ∨ kj = 2) : inner 2 T x ((kj, t, y) :: R) (a, b) = inner 2 T x R (false, b) := by
  rw [inner_hit ht h]
  simp [p12, hk]
theorem inner2_no {T kj t : Int} {x y : UInt8} {R : List (Int × Int × UInt8)} {a b : Bool} (ht : ¬ t = T) (h : ((y.toNat : Int) != (x.toNat : Int)) = false) (hk : ¬ (kj = 1 ∨ kj = 2)) : inner 2 T x ((kj, t, y) :: R) (a, b) = inner 2 T x R (a, b) := by
  rw [inner_hit ht h]
  simp [p12, hk]

set_option maxRecDepth 100000 in
set_option maxHeartbeats 10000000 in
theorem law_pos (b0 o0 b1 o1 b2 o2 n c0 c1 c2 : Nat) (z0 z1 : List Int) (z2 : List UInt8) (w : World) (hn : 0 < n) (hN : n ≤ 4096) (hc2 : n ≤ c2)
   (h0 : ∀ i, i < n → w.cell? ⟨b0, o0 + i, none⟩ = some (.int .i64 (z0.getD i 0)))
   (h1 : ∀ i, i < n → w.cell? ⟨b1, o1 + i, none⟩ = some (.int .i64 (z1.getD i 0)))
   (h2 : ∀ i, i < n → w.cell? ⟨b2, o2 + i, none⟩ = some (.int .u8 (z2.getD i 0).toNat)) :
    Calls Try.prog 3 #[.slice (some ⟨b0, o0, none⟩) n c0, .slice (some ⟨b1, o1, none⟩) n c1, .slice (some ⟨b2, o2, none⟩) n c2] w fun e w' => e = .returned (.bool true) ∧ Below w.heap.size w w' := by
  have hB0 : b0 < w.heap.size := World.block_lt_of_cell? w ⟨b0, o0 + 0, none⟩ (h0 0 hn)
  have hB1 : b1 < w.heap.size := World.block_lt_of_cell? w ⟨b1, o1 + 0, none⟩ (h1 0 hn)
  have hB2 : b2 < w.heap.size := World.block_lt_of_cell? w ⟨b2, o2 + 0, none⟩ (h2 0 hn)
  go_enter Try.func3, Try.ntmps3
  go_wp2_with (first
    | (go_at_call 11; refine (bytes11 _ _ _ _ _ _ _ _ _ _ (by unfold maxLen; omega) (by unfold maxLen; omega) (by unfold maxLen; omega)).mono ?_; rintro e w' ⟨b, rfl, rfl⟩)
    | (go_at_call 12; refine (build_pos b0 o0 b1 o1 b2 o2 n c0 c1 c2 z0 z1 z2 _ hn hN hc2 h0 h1 h2).mono ?_; rintro e w1 ⟨rfl, hbuilt, hbel1⟩)
    | (go_at_call 13; refine (strict13 _ n z0 z1 z2 _ hN hbuilt).mono ?_; rintro e w2 ⟨sa, sb, rfl, HS, hbel2⟩))
  · go_ret
    exact ⟨rfl, Below.refl _ _⟩
  have hbel : Below w'.heap.size w' w2 := hbel1.trans (hbel2.mono hbel1.size)
  clear hbuilt hbel1 hbel2
  go_loopw [11, 12, 13] (fun sa sb si wr => OutRel w' wr (opsOf z0 z1 z2 n) n sa sb si) (fun _ _ si _ => n - (intOf si).toNat)
  case atStart => exact ⟨0, true, true, Nat.zero_le _, rfl, rfl, rfl, rfl, hbel⟩
  case round =>
    clear hbel
    obtain ⟨i, a, b, hi, rfl, rfl, rfl, HA, hbel⟩ := hrel
    by_cases hlt : i < n
    · have hL := opsOf_drop z0 z1 z2 n i hlt
      have d0 : wr.cell? ⟨b0, o0 + i, none⟩ = _ := (hbel.cell hB0).trans (h0 i hlt)
      have d1 : wr.cell? ⟨b1, o1 + i, none⟩ = _ := (hbel.cell hB1).trans (h1 i hlt)
      have d2 : wr.cell? ⟨b2, o2 + i, none⟩ = _ := (hbel.cell hB2).trans (h2 i hlt)
      have HL : Hid ((opsOf z0 z1 z2 n).drop i = (z0.getD i 0, z1.getD i 0, z2.getD i 0) :: (opsOf z0 z1 z2 n).drop (i + 1)) := hL
      clear hL
      generalize hkd : z0.getD i 0 = kd at d0 HL
      generalize hT : z1.getD i 0 = T at d1 HL
      generalize hx : z2.getD i 0 = x at d2 HL
      have e1 : w'.cell? ⟨b1, o1 + i, none⟩ = some (.int .i64 T) := by rw [← hT]; exact h1 i hlt
      have e2 : w'.cell? ⟨b2, o2 + i, none⟩ = some (.int .u8 x.toNat) := by rw [← hx]; exact h2 i hlt
      clear hkd hT hx
      by_cases hk : kd = 1 ∨ kd = 2
      · rcases hk with rfl | rfl
        · go_wp2
          go_loopw [11, 12, 15] (fun sa sb sj wr => InRel w' wr (opsOf z0 z1 z2 n) n i 1 T x a b sa sb sj) (fun _ _ sj _ => n - (intOf sj).toNat)
          case atStart => exact ⟨i + 1, a, b, Nat.lt_succ_self _, hlt, by go_num, rfl, rfl, rfl, hbel⟩
          case round =>
            clear hbel d0 d1 d2
            obtain ⟨j, a', b', hij, hj, rfl, rfl, rfl, HI, hbel⟩ := hrel
            by_cases hjl : j < n
            · have f1 : wr.cell? ⟨b1, o1 + i, none⟩ = _ := (hbel.cell hB1).trans e1
              have f2 : wr.cell? ⟨b2, o2 + i, none⟩ = _ := (hbel.cell hB2).trans e2
              have g0 : wr.cell? ⟨b0, o0 + j, none⟩ = _ := (hbel.cell hB0).trans (h0 j hjl)
              have g1 : wr.cell? ⟨b1, o1 + j, none⟩ = _ := (hbel.cell hB1).trans (h1 j hjl)
              have g2 : wr.cell? ⟨b2, o2 + j, none⟩ = _ := (hbel.cell hB2).trans (h2 j hjl)
              have HJ : Hid ((opsOf z0 z1 z2 n).drop j = (z0.getD j 0, z1.getD j 0, z2.getD j 0) :: (opsOf z0 z1 z2 n).drop (j + 1)) := opsOf_drop z0 z1 z2 n j hjl
              generalize z0.getD j 0 = kj at g0 HJ
              generalize z1.getD j 0 = t at g1 HJ
              generalize z2.getD j 0 = y at g2 HJ
              have q0 : (0 : Int) ≤ (j : Int) := by omega
              have q1 : (j : Int) < (n : Int) := by omega
              have q2 : (0 : Int) ≤ (i : Int) := by omega
              have q3 : (i : Int) < (n : Int) := by omega
              clear h0 h1 h2 e1 e2
              by_cases htT : t = T
              · subst htT
                go_wp2
                go_quiet (fail)
                go_wp2
                · go_roundw
                  case rel => exact outRel_next hlt HL.out (by simp) HA (inner_break HJ.out (.inl (by assumption)) HI) (below_drewN hbel _)
                  case measure => simp [intOf]; omega
                · go_roundw
                  case rel => exact outRel_next hlt HL.out (by simp) HA (inner_break HJ.out (or56 (by assumption)) HI) (below_drewN hbel _)
                  case measure => simp [intOf]; omega
                · go_roundw
                  case rel => exact inRel_next hij hjl HJ.out HI (inner_same (by assumption)) (below_drewN hbel _)
                  case measure => simp [intOf]; omega
              · have hb : (t == T) = false := by simpa using htT
                go_wp2
                go_quiet (fail)
                go_wp2
                go_quiet (fail)
                go_wp2
                · go_roundw
                  case rel => exact inRel_next hij hjl HJ.out HI (inner_item htT (by assumption)) (below_drewN hbel _)
                  case measure => simp [intOf]; omega
                · go_roundw
                  case rel => exact inRel_next hij hjl HJ.out HI (inner1_yes htT (by assumption) (by assumption)) (below_drewN hbel _)
                  case measure => simp [intOf]; omega
                · go_roundw
                  case rel => exact inRel_next hij hjl HJ.out HI (inner1_no htT (by assumption) (by assumption)) (below_drewN hbel _)
                  case measure => simp [intOf]; omega
            · have hjn : j = n := by omega
              subst hjn
              go_wp2
              go_roundw
              case rel => exact outRel_next hlt HL.out (by simp) HA (inner_done (opsOf_end _ _ _ _) HI) hbel
              case measure => simp [intOf]; omega
        · go_wp2
          go_loopw [11, 12, 15] (fun sa sb sj wr => InRel w' wr (opsOf z0 z1 z2 n) n i 2 T x a b sa sb sj) (fun _ _ sj _ => n - (intOf sj).toNat)
          case atStart => exact ⟨i + 1, a, b, Nat.lt_succ_self _, hlt, by go_num, rfl, rfl, rfl, hbel⟩
          case round =>
            clear hbel d0 d1 d2
            obtain ⟨j, a', b', hij, hj, rfl, rfl, rfl, HI, hbel⟩ := hrel
            by_cases hjl : j < n
            · have f1 : wr.cell? ⟨b1, o1 + i, none⟩ = _ := (hbel.cell hB1).trans e1
              have f2 : wr.cell? ⟨b2, o2 + i, none⟩ = _ := (hbel.cell hB2).trans e2
              have g0 : wr.cell? ⟨b0, o0 + j, none⟩ = _ := (hbel.cell hB0).trans (h0 j hjl)
              have g1 : wr.cell? ⟨b1, o1 + j, none⟩ = _ := (hbel.cell hB1).trans (h1 j hjl)
              have g2 : wr.cell? ⟨b2, o2 + j, none⟩ = _ := (hbel.cell hB2).trans (h2 j hjl)
              have HJ : Hid ((opsOf z0 z1 z2 n).drop j = (z0.getD j 0, z1.getD j 0, z2.getD j 0) :: (opsOf z0 z1 z2 n).drop (j + 1)) := opsOf_drop z0 z1 z2 n j hjl
              generalize z0.getD j 0 = kj at g0 HJ
              generalize z1.getD j 0 = t at g1 HJ
              generalize z2.getD j 0 = y at g2 HJ
              have q0 : (0 : Int) ≤ (j : Int) := by omega
              have q1 : (j : Int) < (n : Int) := by omega
              have q2 : (0 : Int) ≤ (i : Int) := by omega
              have q3 : (i : Int) < (n : Int) := by omega
              clear h0 h1 h2 e1 e2
              by_cases htT : t = T
              · subst htT
                go_wp2
                go_quiet (fail)
                go_wp2
                · go_roundw
                  case rel => exact outRel_next hlt HL.out (by simp) HA (inner_break HJ.out (.inl (by assumption)) HI) (below_drewN hbel _)
                  case measure => simp [intOf]; omega
                · go_roundw
                  case rel => exact outRel_next hlt HL.out (by simp) HA (inner_break HJ.out (or56 (by assumption)) HI) (below_drewN hbel _)
                  case measure => simp [intOf]; omega
                · go_roundw
                  case rel => exact inRel_next hij hjl HJ.out HI (inner_same (by assumption)) (below_drewN hbel _)
                  case measure => simp [intOf]; omega
              · have hb : (t == T) = false := by simpa using htT
                go_wp2
                go_quiet (fail)
                go_wp2
                go_quiet (fail)
                go_wp2
                · go_roundw
                  case rel => exact inRel_next hij hjl HJ.out HI (inner_item htT (by assumption)) (below_drewN hbel _)
                  case measure => simp [intOf]; omega
                · go_roundw
                  case rel => exact inRel_next hij hjl HJ.out HI (inner2_yes htT (by assumption) (.inl (by assumption))) (below_drewN hbel _)
                  case measure => simp [intOf]; omega
                · go_roundw
                  case rel => exact inRel_next hij hjl HJ.out HI (inner2_yes htT (by assumption) (or12 (by assumption))) (below_drewN hbel _)
                  case measure => simp [intOf]; omega
                · go_roundw
                  case rel => exact inRel_next hij hjl HJ.out HI (inner2_no htT (by assumption) (nor12 (by assumption))) (below_drewN hbel _)
                  case measure => simp [intOf]; omega
            · have hjn : j = n := by omega
              subst hjn
              go_wp2
              go_roundw
              case rel => exact outRel_next hlt HL.out (by simp) HA (inner_done (opsOf_end _ _ _ _) HI) hbel
              case measure => simp [intOf]; omega
      · have t1 : (kd == 1) = false := by simpa using (fun q => hk (.inl q) : ¬ kd = 1)
        have t2 : (kd == 2) = false := by simpa using (fun q => hk (.inr q) : ¬ kd = 2)
        have t3 : (kd != 1) = true := by simpa using (fun q => hk (.inl q) : ¬ kd = 1)
        have t4 : (kd != 2) = true := by simpa using (fun q => hk (.inr q) : ¬ kd = 2)
        go_wp2
        go_roundw
        case rel => exact outRel_skip hlt HL.out hk HA hbel
        case measure => simp [intOf]; omega
    · have hin : i = n := by omega
      subst hin
      have hfin := final_ans HA HS
      have HF : Hid ((sa, sb) = (a, b && a)) := hfin
      clear hfin HA HS
      cases a <;> cases b
      all_goals
        have e1 := congrArg Prod.fst HF.out
        have e2 := congrArg Prod.snd HF.out
        simp at e1 e2
        subst e1 e2
        go_wp2
        go_ret
        exact ⟨rfl, hbel⟩

set_option maxRecDepth 100000 in
set_option maxHeartbeats 1000000 in
theorem build_zero (a0 a1 a2 : Option Addr) (c0 c1 c2 : Nat) (w : World) :
    Calls Try.prog 12 #[.slice a0 0 c0, .slice a1 0 c1, .slice a2 0 c2] w fun e w' => e = .returned (.slice (some ⟨w.heap.size, 0, none⟩) 0 0) ∧ Built w' w.heap.size 0 0 [] [] [] ∧ Below w.heap.size w w' := by
  obtain ⟨i0, hi, hz0, hz1, hz2⟩ := info_parts Try.info46
  go_enter Try.func12, Try.ntmps12
  go_wp2_with (at_make; refine wpList_make_full _ rfl _ _ 25 rfl w.heap.size 46 i0 _ 6 Try.underlying25 hi hz0 hz1 .i64 .i64 _ _ 0 rfl rfl rfl rfl (by omega) (by unfold maxLen; omega) (Nat.le_refl _) ?_; intro w1 hown1 hgrow1)
  have hbel1 : Below w.heap.size w w1 := (Below.refl _ _).grown hgrow1 (Nat.le_refl _) (fun k hk => by cases hk)
  have hbuilt1 : Built w1 w.heap.size 0 0 [] [] [] := by
    rcases hown1.2 with ⟨h', _⟩ | ⟨g, cap, cur, h', _, hg, _, _, hsz, _⟩
    · simp at h'
    · simp only [Value.slice.injEq, Option.some.injEq, Addr.mk.injEq, and_true, true_and] at h'
      obtain ⟨rfl, rfl⟩ := h'
      exact ⟨cur, hg, hsz, fun i hi => by omega⟩
  clear hown1 hgrow1 hi hz0 hz1 hz2
  go_loopw [8] (fun i wr => i = .int .i64 0 ∧ Built wr w.heap.size 0 0 [] [] [] ∧ Below w.heap.size w wr) (fun _ _ => 0)
  case atStart => exact ⟨rfl, hbuilt1, hbel1⟩
  case round =>
    obtain ⟨rfl, hown, hbel⟩ := hrel
    go_wp2
    go_ret
    exact ⟨rfl, hown, hbel⟩

set_option maxRecDepth 100000 in
set_option maxHeartbeats 1000000 in
theorem law_zero (a0 a1 a2 : Option Addr) (c0 c1 c2 : Nat) (w : World) :
    Calls Try.prog 3 #[.slice a0 0 c0, .slice a1 0 c1, .slice a2 0 c2] w fun e w' => e = .returned (.bool true) ∧ Below w.heap.size w w' := by
  go_enter Try.func3, Try.ntmps3
  go_wp2_with (first
    | (go_at_call 11; refine (bytes11 _ _ _ _ _ _ _ _ _ _ (by unfold maxLen; omega) (by unfold maxLen; omega) (by unfold maxLen; omega)).mono ?_; rintro e w' ⟨b, rfl, rfl⟩)
    | (go_at_call 12; refine (build_zero _ _ _ _ _ _ _).mono ?_; rintro e w1 ⟨rfl, hbuilt, hbel1⟩)
    | (go_at_call 13; refine (strict13 _ 0 [] [] [] _ (by omega) hbuilt).mono ?_; rintro e w2 ⟨sa, sb, rfl, HS, hbel2⟩))
  · go_ret
    exact ⟨rfl, Below.refl _ _⟩
  have hbel : Below w'.heap.size w' w2 := hbel1.trans (hbel2.mono hbel1.size)
  clear hbuilt hbel1 hbel2
  go_loopw [11, 12, 13] (fun sa sb si wr => sa = .bool true ∧ sb = .bool true ∧ si = .int .i64 0 ∧ Below w'.heap.size w' wr) (fun _ _ _ _ => 0)
  case atStart => exact ⟨rfl, rfl, rfl, hbel⟩
  case round =>
    clear hbel
    obtain ⟨rfl, rfl, rfl, hbel⟩ := hrel
    have e1 : sa = true := congrArg Prod.fst HS.out
    have e2 : sb = true := congrArg Prod.snd HS.out
    subst e1 e2
    clear HS
    go_wp2
    go_ret
    exact ⟨rfl, hbel⟩

set_option maxRecDepth 100000 in
set_option maxHeartbeats 1000000 in
theorem law_off (a0 a1 a2 : Option Addr) (l0 l1 l2 c0 c1 c2 : Nat) (w : World) (h0 : l0 ≤ maxLen) (h1 : l1 ≤ maxLen) (h2 : l2 ≤ maxLen) (hoff : ¬ (l0 ≤ 4096 ∧ l1 = l0 ∧ l2 = l0)) :
    Calls Try.prog 3 #[.slice a0 l0 c0, .slice a1 l1 c1, .slice a2 l2 c2] w fun e w' => e = .returned (.bool true) ∧ Below w.heap.size w w' := by
  have m0 := h0
  have m1 := h1
  have m2 := h2
  unfold maxLen at h0 h1 h2
  go_enter Try.func3, Try.ntmps3
  go_wp2_with (first
    | (go_at_call 11; refine (bytes11 _ _ _ _ _ _ _ _ _ _ m0 m1 m2).mono ?_; rintro e w' ⟨b, rfl, rfl⟩))
  all_goals
    go_ret
    exact ⟨rfl, Below.refl _ _⟩
end Go.Proofs.Qxb6000427a
