/-
  Own work: the walk of modelRecoverability: it computes 'mst'.
-/
import Derived.Test.Qxb6000427aEnds
import Derived.Laws.Rows
namespace Go.Proofs.Qxb6000427a
open Go.RowKit

theorem Try.info3' : (Try.prog.info? 3).map (fun i => (i.zero, i.size, i.bytes)) = some (some (.int .i64 0), 1, 8) := by kernel_rfl

/-- the first end of t, or -1 -/
def endI (h : Hist) (n : Nat) (t : Int) : Int := match endUp h t n with
  | some e => (e : Int)
  | none => -1

/-- the row 'endAt' in block B: its first k cells are laid; the cell k holds v -/
def EndAt (w : World) (B n : Nat) (h : Hist) (k : Nat) : Prop :=
  ∃ cur, w.heap[B]? = some (.cells cur 3 (0, 0)) ∧ cur.size = n ∧ ∀ i, i < k → cur[i]? = some (.int .i64 (endI h n (h.tx i)))
def EndMid (w : World) (B n : Nat) (h : Hist) (k : Nat) (v : Int) : Prop :=
  ∃ cur, w.heap[B]? = some (.cells cur 3 (0, 0)) ∧ cur.size = n ∧ cur[k]? = some (.int .i64 v) ∧ ∀ i, i < k → cur[i]? = some (.int .i64 (endI h n (h.tx i)))

theorem EndAt.there {w : World} {B n k : Nat} {h : Hist} (q : EndAt w B n h k) {j : Nat} (hj : j < n) : ∃ v, w.cell? ⟨B, j, none⟩ = some v := by
  obtain ⟨cur, hb, hs, _⟩ := q
  refine ⟨cur[j]'(by omega), ?_⟩
  rw [cell_of_row w B j cur 3 (0, 0) hb]
  simp [hs, hj]
theorem EndAt.free {w : World} {B n k : Nat} {h : Hist} (q : EndAt w B n h k) (j : Nat) : w.frozen? ⟨B, j, none⟩ = false := by
  obtain ⟨cur, hb, _⟩ := q
  exact frozen_of_row w B j cur 3 hb
theorem EndAt.cell {w : World} {B n k : Nat} {h : Hist} (q : EndAt w B n h k) {j : Nat} (hj : j < k) : w.cell? ⟨B, j, none⟩ = some (.int .i64 (endI h n (h.tx j))) := by
  obtain ⟨cur, hb, _, hc⟩ := q
  rw [cell_of_row w B j cur 3 (0, 0) hb]
  exact hc j hj
theorem EndMid.cell {w : World} {B n k : Nat} {h : Hist} {v : Int} (q : EndMid w B n h k v) : w.cell? ⟨B, k, none⟩ = some (.int .i64 v) := by
  obtain ⟨cur, hb, _, hc, _⟩ := q
  rw [cell_of_row w B k cur 3 (0, 0) hb]
  exact hc
theorem EndMid.free {w : World} {B n k : Nat} {h : Hist} {v : Int} (q : EndMid w B n h k v) (j : Nat) : w.frozen? ⟨B, j, none⟩ = false := by
  obtain ⟨cur, hb, _⟩ := q
  exact frozen_of_row w B j cur 3 hb
theorem EndAt.put {w : World} {B n k : Nat} {h : Hist} (q : EndAt w B n h k) (hk : k < n) (v : Int) : EndMid (w.setCell ⟨B, k, none⟩ (.int .i64 v)) B n h k v := by
  obtain ⟨cur, hb, hs, hc⟩ := q
  refine ⟨_, heap_setCell_same w B k cur 3 _ hb, by simpa using hs, by simp [hs, hk], fun i hi => ?_⟩
  rw [Array.getElem?_setIfInBounds, if_neg (by omega)]
  exact hc i hi
theorem EndMid.put {w : World} {B n k : Nat} {h : Hist} {v : Int} (q : EndMid w B n h k v) (hk : k < n) (u : Int) : EndMid (w.setCell ⟨B, k, none⟩ (.int .i64 u)) B n h k u := by
  obtain ⟨cur, hb, hs, _, hc⟩ := q
  exact EndAt.put ⟨cur, hb, hs, hc⟩ hk u
theorem EndMid.next {w : World} {B n k : Nat} {h : Hist} {v : Int} (q : EndMid w B n h k v) (e : v = endI h n (h.tx k)) : EndAt w B n h (k + 1) := by
  obtain ⟨cur, hb, hs, h1, hc⟩ := q
  refine ⟨cur, hb, hs, fun i hi => ?_⟩
  by_cases q : i = k
  · subst q; rw [← e]; exact h1
  · exact hc i (by omega)
theorem EndMid.drewN {w : World} {B n k : Nat} {h : Hist} {v : Int} (q : EndMid w B n h k v) (d : Nat) : EndMid (w.drewN d) B n h k v := q
theorem EndAt.drewN {w : World} {B n k : Nat} {h : Hist} (q : EndAt w B n h k) (d : Nat) : EndAt (w.drewN d) B n h k := q

theorem endI_none {h : Hist} {n : Nat} {t : Int} (q : endUp h t n = none) : -1 = endI h n t := by unfold endI; rw [q]
theorem endI_some {h : Hist} {n e : Nat} {t : Int} (q : endUp h t n = some e) : (e : Int) = endI h n t := by unfold endI; rw [q]
theorem endI_hit {h : Hist} {n j : Nat} {t : Int} (q : endUp h t j = none) (hj : j < n) (hE : isEndB (h.kd j) = true) (ht : h.tx j = t) : (j : Int) = endI h n t := by
  have : endUp h t (j + 1) = some j := by
    rw [endUp, q]
    exact if_pos ⟨hE, ht⟩
  unfold endI
  rw [endUp_up this (by omega)]
theorem endUp_no {h : Hist} {j : Nat} {t : Int} (q : endUp h t j = none) (hE : ¬ (isEndB (h.kd j) = true ∧ h.tx j = t)) : endUp h t (j + 1) = none := by
  rw [endUp, q]
  exact if_neg hE

def RelA (w wr : World) (h : Hist) (n : Nat) (si : Value) : Prop := ∃ k : Nat, k ≤ n ∧ si = .int .i64 k ∧ EndAt wr w.heap.size n h k ∧ Below w.heap.size w wr
def RelB (w wr : World) (h : Hist) (n k : Nat) (sj : Value) : Prop := ∃ j : Nat, j ≤ n ∧ sj = .int .i64 j ∧ Hid (endUp h (h.tx k) j = none) ∧ EndMid wr w.heap.size n h k (-1) ∧ Below w.heap.size w wr
def RelC (w wr : World) (h : Hist) (n : Nat) (sr sc sj : Value) : Prop := ∃ (j : Nat) (a b : Bool), j ≤ n ∧ sj = .int .i64 j ∧ sr = .bool a ∧ sc = .bool b ∧ Hid (mst h n j = (a, b)) ∧ EndAt wr w.heap.size n h n ∧ Below w.heap.size w wr
def RelD (w wr : World) (h : Hist) (n j : Nat) (sf si : Value) : Prop := ∃ m : Nat, m ≤ j ∧ si = .int .i64 ((m : Int) - 1) ∧ sf = .int .i64 (-1) ∧ Hid (fromDn h n j m = fromDn h n j j) ∧ EndAt wr w.heap.size n h n ∧ Below w.heap.size w wr

theorem relC_skip {w wr : World} {h : Hist} {n j : Nat} {a b : Bool} (hj : j < n) (HM : Hid (mst h n j = (a, b))) (hk : ¬ h.kd j = 1) (hend : EndAt wr w.heap.size n h n) (hbel : Below w.heap.size w wr) : RelC w wr h n (.bool a) (.bool b) (.int .i64 ((j : Int) + 1)) := by
  refine ⟨j + 1, a, b, hj, by simp, rfl, rfl, ?_, hend, hbel⟩
  show mst h n (j + 1) = (a, b)
  rw [mst, mread, if_neg hk]; exact HM.out
theorem relC_none {w wr : World} {h : Hist} {n j : Nat} {a b : Bool} (hj : j < n) (HM : Hid (mst h n j = (a, b))) (hk : h.kd j = 1) (hf : fromDn h n j 0 = fromDn h n j j) (hend : EndAt wr w.heap.size n h n) (hbel : Below w.heap.size w wr) : RelC w wr h n (.bool a) (.bool b) (.int .i64 ((j : Int) + 1)) := by
  refine ⟨j + 1, a, b, hj, by simp, rfl, rfl, ?_, hend, hbel⟩
  show mst h n (j + 1) = (a, b)
  rw [mst, mread, if_pos hk, ← hf]; exact HM.out
theorem relC_own {w wr : World} {h : Hist} {n j p : Nat} {a b : Bool} (hj : j < n) (HM : Hid (mst h n j = (a, b))) (hk : h.kd j = 1) (hf : fromDn h n j j = some p) (ht : h.tx p = h.tx j) (hend : EndAt wr w.heap.size n h n) (hbel : Below w.heap.size w wr) : RelC w wr h n (.bool a) (.bool b) (.int .i64 ((j : Int) + 1)) := by
  refine ⟨j + 1, a, b, hj, by simp, rfl, rfl, ?_, hend, hbel⟩
  show mst h n (j + 1) = (a, b)
  rw [mst, mread, if_pos hk, hf]
  simp only
  rw [if_pos ht]; exact HM.out
theorem relC_read {w wr : World} {h : Hist} {n j p : Nat} {a b a' b' : Bool} (hj : j < n) (HM : Hid (mst h n j = (a, b))) (hk : h.kd j = 1) (hf : fromDn h n j j = some p) (ht : ¬ h.tx p = h.tx j) (hend : EndAt wr w.heap.size n h n) (hbel : Below w.heap.size w wr)
    (ha : a' = (a && recAt h n j (h.tx p))) (hb : b' = (b && endedAs h n (h.tx p) j 5)) : RelC w wr h n (.bool a') (.bool b') (.int .i64 ((j : Int) + 1)) := by
  refine ⟨j + 1, a', b', hj, by simp, rfl, rfl, ?_, hend, hbel⟩
  show mst h n (j + 1) = (a', b')
  rw [mst, mread, if_pos hk, hf]
  simp only
  rw [if_neg ht, HM.out, ha, hb]
theorem ended_yes {h : Hist} {n e lim : Nat} {t v : Int} (hE : endUp h t n = some e) (h1 : e < lim) (h2 : h.kd e = v) : endedAs h n t lim v = true := by simp [endedAs, hE, h1, h2]
theorem ended_not {h : Hist} {n e lim : Nat} {t v : Int} (hE : endUp h t n = some e) (h1 : ¬ e < lim ∨ ¬ h.kd e = v) : endedAs h n t lim v = false := by
  unfold endedAs
  rw [hE]
  rcases h1 with q | q <;> simp [q]
theorem rec_no {h : Hist} {n j c : Nat} {f : Int} {a : Bool} (hC : endUp h (h.tx j) n = some c) (h1 : j < c) (h2 : h.kd c = 5) (h3 : endedAs h n f c 5 = false) : false = (a && recAt h n j f) := by
  unfold recAt
  rw [hC]
  simp [h1, h2, h3]
theorem rec_yes {h : Hist} {n j c : Nat} {f : Int} {a : Bool} (hC : endUp h (h.tx j) n = some c) (h3 : endedAs h n f c 5 = true) : a = (a && recAt h n j f) := by
  unfold recAt
  rw [hC]
  simp [h3]
theorem rec_other {h : Hist} {n j c : Nat} {f : Int} {a : Bool} (hC : endUp h (h.tx j) n = some c) (h1 : ¬ j < c ∨ ¬ h.kd c = 5) : a = (a && recAt h n j f) := by
  unfold recAt
  rw [hC]
  rcases h1 with q | q <;> simp [q]
theorem not_five {k : Int} (h : (!k == 5) = true) : ¬ k = 5 := by simpa using h
theorem is_five {k : Int} (h : (!k == 5) = false) : k = 5 := by simpa using h
theorem lives_parts {h : Hist} {n j i : Nat} (q : lives h n j i = true) : h.kd i = 2 ∧ h.it i = h.it j ∧ endedAs h n (h.tx i) j 6 = false := by
  unfold lives at q
  simp at q
  exact ⟨q.1.1, q.1.2, q.2⟩
theorem from_next {h : Hist} {n j p : Nat} (hf : fromDn h n j (p + 1) = fromDn h n j j) (hl : ¬ lives h n j p = true) : Hid (fromDn h n j p = fromDn h n j j) := by
  rw [fromDn, if_neg hl] at hf
  exact hf
theorem from_hit {h : Hist} {n j p : Nat} (hf : fromDn h n j (p + 1) = fromDn h n j j) (h1 : h.kd p = 2) (h2 : h.it p = h.it j) (h3 : endedAs h n (h.tx p) j 6 = false) : fromDn h n j j = some p := by
  rw [← hf, fromDn, if_pos (by simp [lives, h1, h2, h3])]

theorem bset' {B o : Nat} {a w : World} {u : Value} (h : Below B a w) : Below B a (w.setCell ⟨B, o, none⟩ u) := h.setCell (Nat.le_refl _) u

set_option maxRecDepth 100000 in
set_option maxHeartbeats 10000000 in
theorem model_pos (b0 o0 b1 o1 b2 o2 n c0 c1 c2 : Nat) (z0 z1 : List Int) (z2 : List UInt8) (w : World) (hn : 0 < n) (hN : n ≤ 4096)
   (h0 : ∀ i, i < n → w.cell? ⟨b0, o0 + i, none⟩ = some (.int .i64 (z0.getD i 0)))
   (h1 : ∀ i, i < n → w.cell? ⟨b1, o1 + i, none⟩ = some (.int .i64 (z1.getD i 0)))
   (h2 : ∀ i, i < n → w.cell? ⟨b2, o2 + i, none⟩ = some (.int .u8 (z2.getD i 0).toNat)) :
    Calls Try.prog 19 #[.slice (some ⟨b0, o0, none⟩) n c0, .slice (some ⟨b1, o1, none⟩) n c1, .slice (some ⟨b2, o2, none⟩) n c2] w fun e w' => ∃ a b, e = .returned (.tuple #[.bool a, .bool b]) ∧ Hid (mst (hist z0 z1 z2) n n = (a, b)) ∧ Below w.heap.size w w' := by
  obtain ⟨i3, hi, hz0, hz1, hz2⟩ := info_parts Try.info3'
  have hB0 : b0 < w.heap.size := World.block_lt_of_cell? w ⟨b0, o0 + 0, none⟩ (h0 0 hn)
  have hB1 : b1 < w.heap.size := World.block_lt_of_cell? w ⟨b1, o1 + 0, none⟩ (h1 0 hn)
  have hB2 : b2 < w.heap.size := World.block_lt_of_cell? w ⟨b2, o2 + 0, none⟩ (h2 0 hn)
  have H0 : Hid (∀ i, i < n → w.cell? ⟨b0, o0 + i, none⟩ = some (.int .i64 (z0.getD i 0))) := h0
  have H1 : Hid (∀ i, i < n → w.cell? ⟨b1, o1 + i, none⟩ = some (.int .i64 (z1.getD i 0))) := h1
  have H2 : Hid (∀ i, i < n → w.cell? ⟨b2, o2 + i, none⟩ = some (.int .u8 (z2.getD i 0).toNat)) := h2
  clear h0 h1 h2
  go_enter Try.func19, Try.ntmps19
  go_wp2_with (at_make; refine wpList_make_full _ rfl _ _ 22 rfl w.heap.size 3 i3 _ 1 Try.underlying22 hi hz0 hz1 .i64 .i64 _ _ n rfl rfl rfl rfl (by rw [hz2]; omega) (by unfold maxLen; omega) (Nat.le_refl _) ?_; intro w1 hown1 hgrow1)
  have hbel1 : Below w.heap.size w w1 := (Below.refl _ _).grown hgrow1 (Nat.le_refl _) (fun k hk => by cases hk)
  have hend1 : EndAt w1 w.heap.size n (hist z0 z1 z2) 0 := by
    rcases hown1.2 with ⟨h', _⟩ | ⟨g, cap, cur, h', _, hg, _, _, hsz, _⟩
    · simp at h'
    · simp only [Value.slice.injEq, Option.some.injEq, Addr.mk.injEq, and_true, true_and] at h'
      obtain ⟨rfl, rfl⟩ := h'
      exact ⟨cur, hg, by simpa using hsz, fun i hi => by omega⟩
  clear hown1 hgrow1 hi hz0 hz1 hz2
  go_loopw [10] (fun si wr => RelA w wr (hist z0 z1 z2) n si) (fun si _ => n - (intOf si).toNat)
  case atStart => exact ⟨0, Nat.zero_le _, rfl, hend1, hbel1⟩
  case round =>
    clear hend1 hbel1
    obtain ⟨k, hk, rfl, hend, hbel⟩ := hrel
    by_cases hlt : k < n
    · obtain ⟨v0, g0⟩ := hend.there hlt
      have hfz := hend.free k
      have HT : Hid ((hist z0 z1 z2).tx k = z1.getD k 0) := rfl
      have D1 : Hid (w.cell? ⟨b1, o1 + k, none⟩ = some (.int .i64 (z1.getD k 0))) := H1.out k hlt
      generalize z1.getD k 0 = T at D1 HT
      go_wp2
      go_loopw [11] (fun sj wr => RelB w wr (hist z0 z1 z2) n k sj) (fun sj _ => n - (intOf sj).toNat)
      case atStart => exact ⟨0, Nat.zero_le _, rfl, rfl, hend.put hlt (-1), bset' hbel⟩
      case round =>
        clear hend hbel g0 hfz
        obtain ⟨j, hj, rfl, HU, hend, hbel⟩ := hrel
        by_cases hjl : j < n
        · have g0 : wr.cell? ⟨b0, o0 + j, none⟩ = _ := (hbel.cell hB0).trans (H0.out j hjl)
          have g1 : wr.cell? ⟨b1, o1 + j, none⟩ = _ := (hbel.cell hB1).trans (H1.out j hjl)
          have f1 : wr.cell? ⟨b1, o1 + k, none⟩ = _ := (hbel.cell hB1).trans D1.out
          have ge := hend.cell
          have hfz := hend.free k
          have HKJ : Hid ((hist z0 z1 z2).kd j = z0.getD j 0) := rfl
          have HTJ : Hid ((hist z0 z1 z2).tx j = z1.getD j 0) := rfl
          generalize z0.getD j 0 = kj at g0 HKJ
          generalize z1.getD j 0 = t at g1 HTJ
          have q0 : (0 : Int) ≤ (j : Int) := by omega
          have q1 : (j : Int) < (n : Int) := by omega
          have q2 : (0 : Int) ≤ (k : Int) := by omega
          have q3 : (k : Int) < (n : Int) := by omega
          cases hEj : isEndB kj
          · go_wp2
            go_quiet ((go_at_call 32; exact Calls.quiet_of_same (isEnd_f _ _ hEj)))
            go_wp2
            go_roundw
            case rel => exact ⟨j + 1, hjl, by go_num, endUp_no HU.out (fun q => by rw [HKJ.out, hEj] at q; exact absurd q.1 (by simp)), hend.drewN _, below_drewN hbel _⟩
            case measure => simp [intOf] <;> omega
          · by_cases htT : t = T
            · have hb : (t == T) = true := by simpa using htT
              have HTT : Hid (t = T) := htT
              clear htT
              go_wp2
              go_quiet ((go_at_call 32; exact Calls.quiet_of_same (isEnd_t _ _ hEj)))
              go_wp2
              go_roundw
              case rel => exact ⟨k + 1, hlt, by go_num, ((hend.drewN _).put hlt _).next (endI_hit HU.out hjl (by rw [HKJ.out]; exact hEj) (by rw [HTJ.out, HT.out]; exact HTT.out)), bset' (below_drewN hbel _)⟩
              case measure => simp [intOf] <;> omega
            · have hb : (t == T) = false := by simpa using htT
              go_wp2
              go_quiet ((go_at_call 32; exact Calls.quiet_of_same (isEnd_t _ _ hEj)))
              go_wp2
              go_roundw
              case rel => exact ⟨j + 1, hjl, by go_num, endUp_no HU.out (fun q => htT (by rw [← HTJ.out, ← HT.out]; exact q.2)), hend.drewN _, below_drewN hbel _⟩
              case measure => simp [intOf] <;> omega
        · have hjn : j = n := by omega
          subst hjn
          go_wp2
          go_roundw
          case rel => exact ⟨k + 1, hlt, by go_num, hend.next (endI_none HU.out), hbel⟩
          case measure => simp [intOf] <;> omega
    · have hkn : k = n := by omega
      subst hkn
      go_wp2
      go_loopw [12, 13, 14] (fun sr sc sj wr => RelC w wr (hist z0 z1 z2) k sr sc sj) (fun _ _ sj _ => k - (intOf sj).toNat)
      case atStart => exact ⟨0, true, true, Nat.zero_le _, rfl, rfl, rfl, rfl, hend, hbel⟩
      case round =>
        clear hend hbel
        obtain ⟨j, a, b, hj, rfl, rfl, rfl, HM, hend, hbel⟩ := hrel
        by_cases hjl : j < k
        · have d0 : wr.cell? ⟨b0, o0 + j, none⟩ = _ := (hbel.cell hB0).trans (H0.out j hjl)
          have HKJ : Hid ((hist z0 z1 z2).kd j = z0.getD j 0) := rfl
          have HTJ : Hid ((hist z0 z1 z2).tx j = z1.getD j 0) := rfl
          have HXJ : Hid ((hist z0 z1 z2).it j = z2.getD j 0) := rfl
          have D1 : Hid (w.cell? ⟨b1, o1 + j, none⟩ = some (.int .i64 (z1.getD j 0))) := H1.out j hjl
          have D2 : Hid (w.cell? ⟨b2, o2 + j, none⟩ = some (.int .u8 (z2.getD j 0).toNat)) := H2.out j hjl
          generalize z0.getD j 0 = kj at d0 HKJ
          generalize z1.getD j 0 = T at D1 HTJ
          generalize z2.getD j 0 = x at D2 HXJ
          have q0 : (0 : Int) ≤ (j : Int) := by omega
          have q1 : (j : Int) < (k : Int) := by omega
          by_cases hk1 : kj = 1
          · subst hk1
            go_wp2
            go_loopw [15, 16] (fun sf si wr => RelD w wr (hist z0 z1 z2) k j sf si) (fun _ si _ => (intOf si + 1).toNat)
            case atStart => exact ⟨j, Nat.le_refl _, rfl, rfl, rfl, hend, hbel⟩
            case round =>
              clear hend hbel d0
              obtain ⟨m, hm, rfl, rfl, HF, hend, hbel⟩ := hrel
              have f1 : wr.cell? ⟨b1, o1 + j, none⟩ = _ := (hbel.cell hB1).trans D1.out
              have f2 : wr.cell? ⟨b2, o2 + j, none⟩ = _ := (hbel.cell hB2).trans D2.out
              rcases m with _ | p
              · have hn1 : ((0 : Nat) : Int) - 1 = -1 := by omega
                go_wp2
                go_quiet (fail)
                go_wp2
                go_roundw
                case rel => exact relC_none hjl HM HKJ.out HF.out (hend.drewN _) (below_drewN hbel _)
                case measure => simp [intOf] <;> omega
              · have hpl : p < k := by omega
                have g0 : wr.cell? ⟨b0, o0 + p, none⟩ = _ := (hbel.cell hB0).trans (H0.out p hpl)
                have g1 : wr.cell? ⟨b1, o1 + p, none⟩ = _ := (hbel.cell hB1).trans (H1.out p hpl)
                have g2 : wr.cell? ⟨b2, o2 + p, none⟩ = _ := (hbel.cell hB2).trans (H2.out p hpl)
                have ge := hend.cell hpl
                have gj := hend.cell hjl
                have HKP : Hid ((hist z0 z1 z2).kd p = z0.getD p 0) := rfl
                have HTP : Hid ((hist z0 z1 z2).tx p = z1.getD p 0) := rfl
                have HXP : Hid ((hist z0 z1 z2).it p = z2.getD p 0) := rfl
                generalize z0.getD p 0 = kp at g0 HKP
                generalize z1.getD p 0 = t at g1 HTP
                generalize z2.getD p 0 = y at g2 HXP
                have hp1 : ((p + 1 : Nat) : Int) - 1 = (p : Int) := by omega
                have q2 : (0 : Int) ≤ (p : Int) := by omega
                have q3 : (p : Int) < (k : Int) := by omega
                by_cases hk2 : kp = 2
                · have HK2 : Hid (kp = 2) := hk2
                  have hb2 : (kp != 2) = false := by simp [hk2]
                  clear hk2
                  by_cases hxy : y = x
                  · have HXY : Hid (y = x) := hxy
                    have hbx : ((y.toNat : Int) != (x.toNat : Int)) = false := by simp [hxy]
                    clear hxy
                    rcases hE : endUp (hist z0 z1 z2) ((hist z0 z1 z2).tx p) k with _ | e
                    · rw [← endI_none hE] at ge
                      have HE : Hid (endUp (hist z0 z1 z2) ((hist z0 z1 z2).tx p) k = none) := hE
                      clear hE
                      have HH : Hid (fromDn (hist z0 z1 z2) k j j = some p) := from_hit HF.out (by rw [HKP.out]; exact HK2.out) (by rw [HXP.out, HXJ.out]; exact HXY.out) (by simp [endedAs, HE.out])
                      by_cases htT : t = T
                      · have hbt : (t == T) = true := by simpa using htT
                        have HTT : Hid (t = T) := htT
                        clear htT gj
                        go_wp2
                        go_quiet (fail)
                        go_wp2
                        go_quiet (fail)
                        go_wp2
                        go_roundw
                        case rel => exact relC_own hjl HM HKJ.out HH.out (by rw [HTP.out, HTJ.out]; exact HTT.out) (hend.drewN _) (below_drewN hbel _)
                        case measure => simp [intOf] <;> omega
                      · have hbt : (t == T) = false := by simpa using htT
                        have HTT : Hid (¬ (hist z0 z1 z2).tx p = (hist z0 z1 z2).tx j) := by rw [HTP.out, HTJ.out]; exact htT
                        clear htT
                        rcases hC : endUp (hist z0 z1 z2) ((hist z0 z1 z2).tx j) k with _ | c
                        · rw [← endI_none hC] at gj
                          have HC : Hid (endUp (hist z0 z1 z2) ((hist z0 z1 z2).tx j) k = none) := hC
                          clear hC
                          go_wp2
                          go_quiet (fail)
                          go_wp2
                          go_quiet (fail)
                          go_wp2
                          go_roundw
                          case rel => exact relC_read hjl HM HKJ.out HH.out HTT.out (hend.drewN _) (below_drewN hbel _) (by simp [recAt, HC.out]) (by simp [endedAs, HE.out])
                          case measure => simp [intOf] <;> omega
                        · have hcl := (endUp_some hC).1
                          rw [← endI_some hC] at gj
                          have gc : wr.cell? ⟨b0, o0 + c, none⟩ = _ := (hbel.cell hB0).trans (H0.out c hcl)
                          have HKC : Hid ((hist z0 z1 z2).kd c = z0.getD c 0) := rfl
                          generalize z0.getD c 0 = kc at gc HKC
                          have HC : Hid (endUp (hist z0 z1 z2) ((hist z0 z1 z2).tx j) k = some c) := hC
                          clear hC
                          go_wp2
                          go_quiet (fail)
                          go_wp2
                          go_quiet (fail)
                          go_wp2
                          · go_roundw
                            case rel => exact relC_read hjl HM HKJ.out HH.out HTT.out (hend.drewN _) (below_drewN hbel _) (rec_no HC.out (by assumption) (by rw [HKC.out]; assumption) (by simp [endedAs, HE.out])) (by simp [endedAs, HE.out])
                            case measure => simp [intOf] <;> omega
                          · go_roundw
                            case rel => exact relC_read hjl HM HKJ.out HH.out HTT.out (hend.drewN _) (below_drewN hbel _) (rec_other HC.out (.inr (by rw [HKC.out]; assumption))) (by simp [endedAs, HE.out])
                            case measure => simp [intOf] <;> omega
                          · go_roundw
                            case rel => exact relC_read hjl HM HKJ.out HH.out HTT.out (hend.drewN _) (below_drewN hbel _) (rec_other HC.out (.inl (by assumption))) (by simp [endedAs, HE.out])
                            case measure => simp [intOf] <;> omega
                    · have hel := (endUp_some hE).1
                      have heE := (endUp_some hE).2.1
                      rw [← endI_some hE] at ge
                      have gk : wr.cell? ⟨b0, o0 + e, none⟩ = _ := (hbel.cell hB0).trans (H0.out e hel)
                      have HKE : Hid ((hist z0 z1 z2).kd e = z0.getD e 0) := rfl
                      have HEE : Hid (isEndB (z0.getD e 0) = true) := heE
                      generalize z0.getD e 0 = ke at gk HKE HEE
                      have HE : Hid (endUp (hist z0 z1 z2) ((hist z0 z1 z2).tx p) k = some e) := hE
                      clear hE heE
                      by_cases hej : e < j
                      · by_cases hk6 : ke = 6
                        · have hb6 : (ke == 6) = true := by simpa using hk6
                          have HK6 : Hid (ke = 6) := hk6
                          clear hk6 gj
                          go_wp2
                          go_quiet (fail)
                          go_wp2
                          go_roundw
                          case rel => exact ⟨p, by omega, by go_num, rfl, from_next HF.out (fun q => by have := (lives_parts q).2.2; rw [ended_yes HE.out hej (by rw [HKE.out]; exact HK6.out)] at this; cases this), hend.drewN _, below_drewN hbel _⟩
                          case measure => simp [intOf] <;> omega
                        · have hk5 : ke = 5 := by have := HEE.out; simp [isEndB] at this; omega
                          have hb6 : (ke == 6) = false := by simpa using hk6
                          have hb5 : (ke == 5) = true := by simpa using hk5
                          have HK5 : Hid (ke = 5) := hk5
                          have HH : Hid (fromDn (hist z0 z1 z2) k j j = some p) := from_hit HF.out (by rw [HKP.out]; exact HK2.out) (by rw [HXP.out, HXJ.out]; exact HXY.out) (ended_not HE.out (.inr (by rw [HKE.out]; exact hk6)))
                          clear hk6 hk5
                          by_cases htT : t = T
                          · have hbt : (t == T) = true := by simpa using htT
                            have HTT : Hid (t = T) := htT
                            clear htT gj
                            go_wp2
                            go_quiet (fail)
                            go_wp2
                            go_quiet (fail)
                            go_wp2
                            go_roundw
                            case rel => exact relC_own hjl HM HKJ.out HH.out (by rw [HTP.out, HTJ.out]; exact HTT.out) (hend.drewN _) (below_drewN hbel _)
                            case measure => simp [intOf] <;> omega
                          · have hbt : (t == T) = false := by simpa using htT
                            have HTT : Hid (¬ (hist z0 z1 z2).tx p = (hist z0 z1 z2).tx j) := by rw [HTP.out, HTJ.out]; exact htT
                            clear htT
                            rcases hC : endUp (hist z0 z1 z2) ((hist z0 z1 z2).tx j) k with _ | c
                            · rw [← endI_none hC] at gj
                              have HC : Hid (endUp (hist z0 z1 z2) ((hist z0 z1 z2).tx j) k = none) := hC
                              clear hC
                              go_wp2
                              go_quiet (fail)
                              go_wp2
                              go_quiet (fail)
                              go_wp2
                              go_roundw
                              case rel => exact relC_read hjl HM HKJ.out HH.out HTT.out (hend.drewN _) (below_drewN hbel _) (by simp [recAt, HC.out]) (by rw [ended_yes HE.out hej (by rw [HKE.out]; exact HK5.out)]; simp)
                              case measure => simp [intOf] <;> omega
                            · have hcl := (endUp_some hC).1
                              rw [← endI_some hC] at gj
                              have gc : wr.cell? ⟨b0, o0 + c, none⟩ = _ := (hbel.cell hB0).trans (H0.out c hcl)
                              have HKC : Hid ((hist z0 z1 z2).kd c = z0.getD c 0) := rfl
                              generalize z0.getD c 0 = kc at gc HKC
                              have HC : Hid (endUp (hist z0 z1 z2) ((hist z0 z1 z2).tx j) k = some c) := hC
                              clear hC
                              go_wp2
                              go_quiet (fail)
                              go_wp2
                              go_quiet (fail)
                              go_wp2
                              · go_roundw
                                case rel => exact relC_read hjl HM HKJ.out HH.out HTT.out (hend.drewN _) (below_drewN hbel _) (rec_yes HC.out (ended_yes HE.out (by assumption) (by rw [HKE.out]; exact HK5.out))) (by rw [ended_yes HE.out hej (by rw [HKE.out]; exact HK5.out)]; simp)
                                case measure => simp [intOf] <;> omega
                              · go_roundw
                                case rel => exact relC_read hjl HM HKJ.out HH.out HTT.out (hend.drewN _) (below_drewN hbel _) (rec_other HC.out (.inr (by rw [HKC.out]; assumption))) (by rw [ended_yes HE.out hej (by rw [HKE.out]; exact HK5.out)]; simp)
                                case measure => simp [intOf] <;> omega
                              · go_roundw
                                case rel => exact relC_read hjl HM HKJ.out HH.out HTT.out (hend.drewN _) (below_drewN hbel _) (rec_other HC.out (.inl (by assumption))) (by rw [ended_yes HE.out hej (by rw [HKE.out]; exact HK5.out)]; simp)
                                case measure => simp [intOf] <;> omega
                      · have HH : Hid (fromDn (hist z0 z1 z2) k j j = some p) := from_hit HF.out (by rw [HKP.out]; exact HK2.out) (by rw [HXP.out, HXJ.out]; exact HXY.out) (ended_not HE.out (.inl hej))
                        by_cases htT : t = T
                        · have hbt : (t == T) = true := by simpa using htT
                          have HTT : Hid (t = T) := htT
                          clear htT gj
                          go_wp2
                          go_quiet (fail)
                          go_wp2
                          go_quiet (fail)
                          go_wp2
                          go_roundw
                          case rel => exact relC_own hjl HM HKJ.out HH.out (by rw [HTP.out, HTJ.out]; exact HTT.out) (hend.drewN _) (below_drewN hbel _)
                          case measure => simp [intOf] <;> omega
                        · have hbt : (t == T) = false := by simpa using htT
                          have HTT : Hid (¬ (hist z0 z1 z2).tx p = (hist z0 z1 z2).tx j) := by rw [HTP.out, HTJ.out]; exact htT
                          clear htT
                          rcases hC : endUp (hist z0 z1 z2) ((hist z0 z1 z2).tx j) k with _ | c
                          · rw [← endI_none hC] at gj
                            have HC : Hid (endUp (hist z0 z1 z2) ((hist z0 z1 z2).tx j) k = none) := hC
                            clear hC
                            go_wp2
                            go_quiet (fail)
                            go_wp2
                            go_quiet (fail)
                            go_wp2
                            go_roundw
                            case rel => exact relC_read hjl HM HKJ.out HH.out HTT.out (hend.drewN _) (below_drewN hbel _) (by simp [recAt, HC.out]) (by rw [ended_not HE.out (.inl hej)]; simp)
                            case measure => simp [intOf] <;> omega
                          · have hcl := (endUp_some hC).1
                            rw [← endI_some hC] at gj
                            have gc : wr.cell? ⟨b0, o0 + c, none⟩ = _ := (hbel.cell hB0).trans (H0.out c hcl)
                            have HKC : Hid ((hist z0 z1 z2).kd c = z0.getD c 0) := rfl
                            generalize z0.getD c 0 = kc at gc HKC
                            have HC : Hid (endUp (hist z0 z1 z2) ((hist z0 z1 z2).tx j) k = some c) := hC
                            clear hC
                            go_wp2
                            go_quiet (fail)
                            go_wp2
                            go_quiet (fail)
                            go_wp2
                            · go_roundw
                              case rel => exact relC_read hjl HM HKJ.out HH.out HTT.out (hend.drewN _) (below_drewN hbel _) (rec_no HC.out (by assumption) (by rw [HKC.out]; assumption) (ended_not HE.out (.inr (by rw [HKE.out]; exact not_five (by assumption))))) (by rw [ended_not HE.out (.inl hej)]; simp)
                              case measure => simp [intOf] <;> omega
                            · go_roundw
                              case rel => exact relC_read hjl HM HKJ.out HH.out HTT.out (hend.drewN _) (below_drewN hbel _) (rec_yes HC.out (ended_yes HE.out (by assumption) (by rw [HKE.out]; exact is_five (by assumption)))) (by rw [ended_not HE.out (.inl hej)]; simp)
                              case measure => simp [intOf] <;> omega
                            · go_roundw
                              case rel => exact relC_read hjl HM HKJ.out HH.out HTT.out (hend.drewN _) (below_drewN hbel _) (rec_no HC.out (by assumption) (by rw [HKC.out]; assumption) (ended_not HE.out (.inl (by assumption)))) (by rw [ended_not HE.out (.inl hej)]; simp)
                              case measure => simp [intOf] <;> omega
                            · go_roundw
                              case rel => exact relC_read hjl HM HKJ.out HH.out HTT.out (hend.drewN _) (below_drewN hbel _) (rec_other HC.out (.inr (by rw [HKC.out]; assumption))) (by rw [ended_not HE.out (.inl hej)]; simp)
                              case measure => simp [intOf] <;> omega
                            · go_roundw
                              case rel => exact relC_read hjl HM HKJ.out HH.out HTT.out (hend.drewN _) (below_drewN hbel _) (rec_other HC.out (.inl (by assumption))) (by rw [ended_not HE.out (.inl hej)]; simp)
                              case measure => simp [intOf] <;> omega
                  · have hbx : ((y.toNat : Int) != (x.toNat : Int)) = true := by
                      have : ¬ (y.toNat : Int) = (x.toNat : Int) := fun e => hxy (UInt8.toNat_inj.1 (by omega))
                      simpa using this
                    go_wp2
                    go_quiet (fail)
                    go_wp2
                    go_roundw
                    case rel => exact ⟨p, by omega, by go_num, rfl, from_next HF.out (fun q => hxy (by rw [← HXP.out, ← HXJ.out]; exact (lives_parts q).2.1)), hend.drewN _, below_drewN hbel _⟩
                    case measure => simp [intOf] <;> omega
                · have hb2 : (kp != 2) = true := by simpa using hk2
                  go_wp2
                  go_quiet (fail)
                  go_wp2
                  go_roundw
                  case rel => exact ⟨p, by omega, by go_num, rfl, from_next HF.out (fun q => hk2 (by rw [← HKP.out]; exact (lives_parts q).1)), hend.drewN _, below_drewN hbel _⟩
                  case measure => simp [intOf] <;> omega
          · have hb1 : (kj != 1) = true := by simpa using hk1
            go_wp2
            go_roundw
            case rel => exact relC_skip hjl HM (by rw [HKJ.out]; exact hk1) hend hbel
            case measure => simp [intOf] <;> omega
        · have hjn : j = k := by omega
          subst hjn
          go_wp2
          go_ret2
          exact ⟨a, b, rfl, HM, hbel⟩
end Go.Proofs.Qxb6000427a
