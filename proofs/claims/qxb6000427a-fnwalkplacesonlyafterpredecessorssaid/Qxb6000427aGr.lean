/-
  Own work: rows of numbers, rows of pairs; buildGraph.
-/
import Derived.Test.Qxb6000427aPs5
namespace Go.Proofs.Qxb6000427a
open Go.RowKit

theorem Try.inf3 : (Try.prog.info? 3).map (fun i => (i.zero, i.size, i.bytes)) = some (some (.int .i64 0), 1, 8) := by kernel_rfl
theorem Try.inf49 : (Try.prog.info? 49).map (fun i => (i.zero, i.size, i.bytes)) = some (some (.agg #[.int .i64 0, .int .i64 0]), 2, 16) := by kernel_rfl
theorem Try.inf22 : (Try.prog.info? 22).map (fun i => (i.zero, i.size, i.bytes)) = some (some (.slice none 0 0), 1, 24) := by kernel_rfl

theorem make22 (l k : Nat) (hl : l ≤ k) (hk : k ≤ 65536) (w : World) : (Instr.makeSlice 22 (.int .i64 l) (.int .i64 k)).run Try.prog w = .ok (.slice (some ⟨w.heap.size, 0, none⟩) l k) (w.alloc (.cells (madeCells #[.int .i64 0] k) 3)) := by
  obtain ⟨i, hi, hz, hs, hb⟩ := info_parts Try.inf3
  have hb' : (i.bytes : Int) * (k : Int) ≤ 281474976710656 := by rw [hb]; omega
  have hr := run_make (P := Try.prog) w 22 3 i _ Try.underlying22 hi hz .i64 .i64 l k (by omega) (by omega) hb' (by omega)
  simpa [hs, Value.cells] using hr
theorem make37 (k : Nat) (hk : k ≤ 65536) (w : World) : (Instr.makeSlice 37 (.int .i64 k) (.int .i64 k)).run Try.prog w = .ok (.slice (some ⟨w.heap.size, 0, none⟩) k k) (w.alloc (.cells (madeCells #[.int .i64 0, .int .i64 0] (k * 2)) 49)) := by
  obtain ⟨i, hi, hz, hs, hb⟩ := info_parts Try.inf49
  have hb' : (i.bytes : Int) * (k : Int) ≤ 281474976710656 := by rw [hb]; omega
  have hr := run_make (P := Try.prog) w 37 49 i _ Try.underlying37 hi hz .i64 .i64 k k (by omega) (by omega) hb' (by omega)
  simpa [hs, Value.cells] using hr
theorem make55 (k : Nat) (hk : k ≤ 65536) (w : World) : (Instr.makeSlice 55 (.int .i64 k) (.int .i64 k)).run Try.prog w = .ok (.slice (some ⟨w.heap.size, 0, none⟩) k k) (w.alloc (.cells (madeCells #[.slice none 0 0] k) 22)) := by
  obtain ⟨i, hi, hz, hs, hb⟩ := info_parts Try.inf22
  have hb' : (i.bytes : Int) * (k : Int) ≤ 281474976710656 := by rw [hb]; omega
  have hr := run_make (P := Try.prog) w 55 22 i _ Try.underlying55 hi hz .i64 .i64 k k (by omega) (by omega) hb' (by omega)
  simpa [hs, Value.cells] using hr

/-- BLOCK b IS A ROW OF m NUMBERS -/
def IntRow (w : World) (b m : Nat) (f : Nat → Int) : Prop :=
  ∃ cur, w.heap[b]? = some (.cells cur 3 (0, 0)) ∧ cur.size = m ∧ ∀ j, j < m → cur[j]? = some (.int .i64 (f j))

section
variable {w w' : World} {b m : Nat} {f : Nat → Int}
theorem IntRow.lt (h : IntRow w b m f) : b < w.heap.size := by obtain ⟨_, h, _⟩ := h; exact (Array.getElem?_eq_some_iff.1 h).1
theorem IntRow.cell (h : IntRow w b m f) {j : Nat} (hj : j < m) : w.cell? ⟨b, j, none⟩ = some (.int .i64 (f j)) := by
  obtain ⟨cur, h1, h2, h3⟩ := h
  rw [cell_of_row w b j cur 3 (0, 0) h1]; exact h3 j hj
theorem IntRow.free (h : IntRow w b m f) (j : Nat) : w.frozen? ⟨b, j, none⟩ = false := by
  obtain ⟨cur, h1, h2, h3⟩ := h
  exact frozen_of_row w b j cur 3 h1
theorem IntRow.of_block (h : IntRow w b m f) (e : w'.heap[b]? = w.heap[b]?) : IntRow w' b m f := by
  obtain ⟨cur, h1, r⟩ := h
  exact ⟨cur, e.trans h1, r⟩
theorem IntRow.congr {g : Nat → Int} (h : IntRow w b m f) (e : ∀ j, j < m → f j = g j) : IntRow w b m g := by
  obtain ⟨cur, h1, h2, h3⟩ := h
  exact ⟨cur, h1, h2, fun j hj => by rw [← e j hj]; exact h3 j hj⟩
theorem IntRow.set (h : IntRow w b m f) {j : Nat} (hj : j < m) (x : Int) : IntRow (w.setCell ⟨b, j, none⟩ (.int .i64 x)) b m (fun i => if i = j then x else f i) := by
  obtain ⟨cur, h1, h2, h3⟩ := h
  refine ⟨_, heap_setCell_same w b j cur 3 _ h1, by simp [h2], fun i hi => ?_⟩
  rw [Array.getElem?_setIfInBounds]
  by_cases e : i = j
  · subst e; rw [if_pos rfl, if_pos (by omega)]; simp
  · rw [if_neg (fun q => e q.symm), h3 i hi]; simp [e]
theorem IntRow.made (w : World) (m : Nat) : IntRow (w.alloc (.cells (madeCells #[.int .i64 0] m) 3)) w.heap.size m (fun _ => 0) :=
  ⟨_, heap_alloc_new _ _, by simp [madeCells], fun j hj => by simp [madeCells, hj, Nat.mod_one]⟩
theorem IntRow.drew (h : IntRow w b m f) : IntRow w.drew b m f := h
end

/-- BLOCK b IS A ROW OF m PAIRS, the first k laid -/
def PairRow (w : World) (b m k : Nat) (f g : Nat → Int) : Prop :=
  ∃ cur, w.heap[b]? = some (.cells cur 49 (0, 0)) ∧ cur.size = m * 2 ∧ ∀ j, j < k → cur[j * 2]? = some (.int .i64 (f j)) ∧ cur[j * 2 + 1]? = some (.int .i64 (g j))

section
variable {w w' : World} {b m k : Nat} {f g : Nat → Int}
theorem PairRow.lt (h : PairRow w b m k f g) : b < w.heap.size := by obtain ⟨_, h, _⟩ := h; exact (Array.getElem?_eq_some_iff.1 h).1
theorem PairRow.cells (h : PairRow w b m k f g) {j : Nat} (hj : j < k) : w.cell? ⟨b, j * 2, none⟩ = some (.int .i64 (f j)) ∧ w.cell? ⟨b, j * 2 + 1, none⟩ = some (.int .i64 (g j)) := by
  obtain ⟨cur, h1, h2, h3⟩ := h
  rw [cell_of_row w b _ cur 49 (0, 0) h1, cell_of_row w b _ cur 49 (0, 0) h1]; exact h3 j hj
theorem PairRow.there (h : PairRow w b m k f g) {j : Nat} (hj : j < m * 2) : ∃ v, w.cell? ⟨b, j, none⟩ = some v := by
  obtain ⟨cur, hb, hs, _⟩ := h
  refine ⟨cur[j]'(by omega), ?_⟩
  rw [cell_of_row w b j cur 49 (0, 0) hb]
  simp [hs, hj]
theorem PairRow.free (h : PairRow w b m k f g) (j : Nat) : w.frozen? ⟨b, j, none⟩ = false := by
  obtain ⟨cur, h1, h2, h3⟩ := h
  exact frozen_of_row w b j cur 49 h1
theorem PairRow.of_block (h : PairRow w b m k f g) (e : w'.heap[b]? = w.heap[b]?) : PairRow w' b m k f g := by
  obtain ⟨cur, h1, r⟩ := h
  exact ⟨cur, e.trans h1, r⟩
theorem PairRow.step (h : PairRow w b m k f g) (hk : k < m) : PairRow ((w.setCell ⟨b, k * 2, none⟩ (.int .i64 (f k))).setCell ⟨b, k * 2 + 1, none⟩ (.int .i64 (g k))) b m (k + 1) f g := by
  obtain ⟨cur, h1, h2, h3⟩ := h
  refine ⟨_, heap_setCell_same _ b (k * 2 + 1) _ 49 _ (heap_setCell_same w b (k * 2) cur 49 _ h1), by simp [h2], fun j hj => ?_⟩
  simp only [Array.getElem?_setIfInBounds, Array.size_setIfInBounds]
  by_cases e : j = k
  · subst e
    rw [if_neg (by omega), if_pos rfl, if_pos (by omega), if_pos rfl, if_pos (by omega)]
    exact ⟨rfl, rfl⟩
  · rw [if_neg (by omega), if_neg (by omega), if_neg (by omega), if_neg (by omega)]
    exact h3 j (by omega)
theorem PairRow.drew (h : PairRow w b m k f g) : PairRow w.drew b m k f g := h
theorem PairRow.made (w : World) (m : Nat) (f g : Nat → Int) : PairRow (w.alloc (.cells (madeCells #[.int .i64 0, .int .i64 0] (m * 2)) 49)) w.heap.size m 0 f g :=
  ⟨_, heap_alloc_new _ _, by simp [madeCells], fun j hj => by omega⟩
end

/-- a slice of numbers that was handed in: its cells lie below B -/
def ArgRow (w : World) (B : Nat) (ad : Option Addr) (m : Nat) (F : Nat → Nat) : Prop :=
  ∀ i, i < m → ∃ b o, ad = some ⟨b, o, none⟩ ∧ w.cell? ⟨b, o + i, none⟩ = some (.int .i64 (F i : Nat)) ∧ b < B

theorem bset' {B b o : Nat} {a w : World} {u : Value} (hb : B ≤ b) (h : Below B a w) : Below B a (w.setCell ⟨b, o, none⟩ u) := h.setCell hb u

set_option maxRecDepth 100000 in
set_option maxHeartbeats 4000000 in
theorem build25 (n m c1 c2 : Nat) (a1 a2 : Option Addr) (F T : Nat → Nat) (w : World) (hn : n ≤ 65536) (hm : m ≤ 65536)
    (h1 : ArgRow w w.heap.size a1 m F) (h2 : ArgRow w w.heap.size a2 m T) (hF : ∀ i, i < m → F i < n ∧ T i < n) :
    Calls Try.prog 25 #[.int .i64 n, .slice a1 m c1, .slice a2 m c2] w fun e w' => e = .returned (.agg #[.slice (some ⟨w.heap.size + 1, 0, none⟩) n n, .slice (some ⟨w.heap.size + 2, 0, none⟩) m m]) ∧
      IntRow w' (w.heap.size + 1) n (fun i => 3 * i - 5) ∧ PairRow w' (w.heap.size + 2) m m (fun i => 3 * F i - 5) (fun i => 3 * T i - 5) ∧ Below w.heap.size w w' := by
  have hmk1 := make22 n n (Nat.le_refl _) hn
  have hmk2 := make37 m hm
  generalize hB : w.heap.size = B at h1 h2 ⊢
  have hw0 := heap_up (.cells (madeCells #[.int .i64 0] n) 3) (heap_alloc_new w (.cells #[.slice none 0 0, .slice none 0 0] 39))
  have hr0 := IntRow.made (w.alloc (.cells #[.slice none 0 0, .slice none 0 0] 39)) n
  have hb0 : Below w.heap.size w ((w.alloc (.cells #[.slice none 0 0, .slice none 0 0] 39)).alloc (.cells (madeCells #[.int .i64 0] n) 3)) := ((Below.refl _ _).alloc (Nat.le_refl _) _).alloc (by simp) _
  have hs0 : ((w.alloc (.cells #[.slice none 0 0, .slice none 0 0] 39)).alloc (.cells (madeCells #[.int .i64 0] n) 3)).heap.size = w.heap.size + 2 := by simp
  have e0 : (w.alloc (.cells #[.slice none 0 0, .slice none 0 0] 39)).heap.size = w.heap.size + 1 := by simp
  rw [e0, hB] at hr0
  rw [hB] at hw0 hb0 hs0
  clear e0
  go_enter Try.func25, Try.ntmps25
  go_wp2
  generalize ((w.alloc (.cells #[.slice none 0 0, .slice none 0 0] 39)).alloc (.cells (madeCells #[.int .i64 0] n) 3)) = w1 at hw0 hr0 hb0 hs0 ⊢
  clear hmk1
  have HB : Hid (w.heap.size = B) := hB
  clear hB
  go_loopw [8] (fun i wr => ∃ (k : Nat) (f : Nat → Int), k ≤ n ∧ i = .int .i64 k ∧ IntRow wr (B + 1) n f ∧ (∀ j, j < k → f j = 3 * j - 5) ∧ wr.heap[B]? = some (.cells #[.slice none 0 0, .slice none 0 0] 39 (0, 0)) ∧ Below B w wr ∧ wr.heap.size = B + 2) (fun i _ => n - (intOf i).toNat)
  case atStart => exact ⟨0, _, Nat.zero_le _, rfl, hr0, fun j hj => by omega, hw0, hb0, hs0⟩
  case round =>
    clear hw0 hr0 hb0 hs0
    obtain ⟨k, f, hk, rfl, hr, hf, hw0, hb0, hs0⟩ := hrel
    by_cases hlt : k < n
    · have c0 := hr.cell hlt
      have z0 := hr.free k
      have l0 : (0 : Int) ≤ (k : Int) := by omega
      have l1 : (k : Int) < (n : Int) := by omega
      have l2 : IntKind.i64.wrap (3 * (k : Int)) = 3 * (k : Int) := by rw [IntKind.wrap_i64]; omega
      have l3 : IntKind.i64.wrap (3 * (k : Int) - 5) = 3 * (k : Int) - 5 := by rw [IntKind.wrap_i64]; omega
      go_wp2
      go_roundw
      case rel =>
        refine ⟨k + 1, _, by omega, by go_num, hr.set hlt _, fun j hj => ?_, ?_, hb0.setCell (by simp) _, by simp [World.setCell, hs0]⟩
        · by_cases e : j = k
          · simp [e]
          · simp only [if_neg e]; exact hf j (by omega)
        · rw [Below.heap_setCell _ _ _ _ (by simp)]; exact hw0
      case measure => simp [intOf]; omega
    · have e : k = n := by omega
      subst e
      replace hr := hr.congr hf
      clear hf
      have hr1 := hr.of_block (w' := wr.alloc (.cells (madeCells #[.int .i64 0, .int .i64 0] (m * 2)) 49)) (heap_alloc_old _ _ hr.lt)
      have hp1 := PairRow.made wr m (fun i => 3 * F i - 5) (fun i => 3 * T i - 5)
      have hw1 := heap_up (.cells (madeCells #[.int .i64 0, .int .i64 0] (m * 2)) 49) hw0
      have hb1 := hb0.alloc (by omega) (.cells (madeCells #[.int .i64 0, .int .i64 0] (m * 2)) 49)
      have hs1 : (wr.alloc (.cells (madeCells #[.int .i64 0, .int .i64 0] (m * 2)) 49)).heap.size = B + 3 := by simp [hs0]
      rw [hs0] at hp1
      go_wp2
      generalize wr.alloc (.cells (madeCells #[.int .i64 0, .int .i64 0] (m * 2)) 49) = w2 at hr1 hp1 hw1 hb1 hs1 ⊢
      clear hr hw0 hb0 hmk2 hs0
      go_loopw [10] (fun i wr => ∃ k : Nat, k ≤ m ∧ i = .int .i64 k ∧ PairRow wr (B + 2) m k (fun i => 3 * F i - 5) (fun i => 3 * T i - 5) ∧ Below (B + 2) w2 wr) (fun i _ => m - (intOf i).toNat)
      case atStart => exact ⟨0, Nat.zero_le _, rfl, hp1, Below.refl _ _⟩
      case round =>
        clear hp1
        obtain ⟨q, hq, rfl, hp, hb⟩ := hrel
        by_cases hqm : q < m
        · obtain ⟨b1, o1, rfl, x1, y1⟩ := h1 q hqm
          obtain ⟨b2, o2, rfl, x2, y2⟩ := h2 q hqm
          obtain ⟨f1, f2⟩ := hF q hqm
          have g1 : w2.cell? ⟨b1, o1 + q, none⟩ = some (.int .i64 (F q : Nat)) := (hb1.cell y1).trans x1
          have g2 : w2.cell? ⟨b2, o2 + q, none⟩ = some (.int .i64 (T q : Nat)) := (hb1.cell y2).trans x2
          have g3 := hr1.cell f1
          have g4 := hr1.cell f2
          obtain ⟨v0, t0⟩ := hp.there (j := q * 2) (by omega)
          obtain ⟨v1, t1⟩ := hp.there (j := q * 2 + 1) (by omega)
          have hfz := fun j => hp.free j
          have l0 : (0 : Int) ≤ (q : Int) := by omega
          have l1 : (q : Int) < (m : Int) := by omega
          have l2 : (0 : Int) ≤ (F q : Int) := by omega
          have l3 : (F q : Int) < (k : Int) := by omega
          have l4 : (0 : Int) ≤ (T q : Int) := by omega
          have l5 : (T q : Int) < (k : Int) := by omega
          have keep : ∀ w', Below (B + 2) w2 w' → w'.cell? ⟨b1, o1 + q, none⟩ = some (.int .i64 (F q : Nat)) ∧ w'.cell? ⟨b2, o2 + q, none⟩ = some (.int .i64 (T q : Nat)) ∧ w'.cell? ⟨B + 1, F q, none⟩ = some (.int .i64 (3 * (F q : Nat) - 5)) ∧ w'.cell? ⟨B + 1, T q, none⟩ = some (.int .i64 (3 * (T q : Nat) - 5)) := fun w' h => ⟨(h.cell (by simp; omega)).trans g1, (h.cell (by simp; omega)).trans g2, (h.cell (by simp)).trans g3, (h.cell (by simp)).trans g4⟩
          have HK : Hid (∀ w', Below (B + 2) w2 w' → w'.cell? ⟨b1, o1 + q, none⟩ = some (.int .i64 (F q : Nat)) ∧ w'.cell? ⟨b2, o2 + q, none⟩ = some (.int .i64 (T q : Nat)) ∧ w'.cell? ⟨B + 1, F q, none⟩ = some (.int .i64 (3 * (F q : Nat) - 5)) ∧ w'.cell? ⟨B + 1, T q, none⟩ = some (.int .i64 (3 * (T q : Nat) - 5))) := keep
          clear keep h1 h2 hF g1 g2 g3 g4
          go_wp2
          go_region_held3 (fun w' => w'.cell? ⟨b1, o1 + q, none⟩ = some (.int .i64 (F q : Nat)) ∧ w'.cell? ⟨b2, o2 + q, none⟩ = some (.int .i64 (T q : Nat)) ∧ w'.cell? ⟨B + 1, F q, none⟩ = some (.int .i64 (3 * (F q : Nat) - 5)) ∧ w'.cell? ⟨B + 1, T q, none⟩ = some (.int .i64 (3 * (T q : Nat) - 5)))
            (with_reducible (refine HK.out _ ?_; repeat (first | exact hb | apply Below.drew | refine bset' (Nat.le_refl _) ?_))) (fail)
          go_wp2
          go_roundw
          case rel =>
            refine ⟨q + 1, by omega, by go_num, (hp.step hqm).drew, ?_⟩
            repeat (with_reducible first | exact hb | apply Below.drew | refine bset' (Nat.le_refl _) ?_)
          case measure => simp [intOf]; omega
        · have e : q = m := by omega
          subst e
          have hwB : wr.heap[B]? = some (.cells #[.slice none 0 0, .slice none 0 0] 39 (0, 0)) := (hb.block B (by omega)).trans hw1
          have c0 : wr.cell? ⟨B, 0, none⟩ = some (.slice none 0 0) := by rw [cell_of_row wr B 0 _ 39 (0, 0) hwB]; rfl
          have c1 : wr.cell? ⟨B, 1, none⟩ = some (.slice none 0 0) := by rw [cell_of_row wr B 1 _ 39 (0, 0) hwB]; rfl
          have f0 : wr.frozen? ⟨B, 0, none⟩ = false := frozen_of_row wr B 0 _ 39 hwB
          have f1 : wr.frozen? ⟨B, 1, none⟩ = false := frozen_of_row wr B 1 _ 39 hwB
          go_wp2
          have hr2 : IntRow wr (B + 1) k (fun i => 3 * i - 5) := hr1.of_block (hb.block _ (by omega))
          have n0 : ¬ (B + 1 = B) := by omega
          have n1 : ¬ (B + 2 = B) := by omega
          have hb2 : Below B w wr := hb1.trans (hb.mono (by omega))
          refine bodyPost_ret (v := .agg #[.slice (some ⟨B + 1, 0, none⟩) k k, .slice (some ⟨B + 2, 0, none⟩) q q]) (by simp [results, Try.results25, go_sem, c0, c1]) rfl ⟨rfl, ?_, ?_, ?_⟩
          · exact hr2.of_block ((Below.heap_setCell _ _ _ _ (by simp)).trans (Below.heap_setCell _ _ _ _ (by simp)))
          · exact hp.of_block ((Below.heap_setCell _ _ _ _ (by simp)).trans (Below.heap_setCell _ _ _ _ (by simp)))
          · exact (hb2.setCell (Nat.le_refl _) _).setCell (Nat.le_refl _) _
end Go.Proofs.Qxb6000427a
