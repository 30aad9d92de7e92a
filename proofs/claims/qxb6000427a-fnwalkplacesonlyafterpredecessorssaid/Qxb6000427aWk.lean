/-
  Own work: the walk in memory.
-/
import Derived.Test.Qxb6000427aGr
namespace Go.Proofs.Qxb6000427a
open Go.RowKit

def encN (x : Nat) : Value := .int .i64 x

/-- where the walk lies -/
structure Geo where
  wb : Nat
  sb : Nat
  wt : Nat
  pb : Nat
  ps : Nat
  lv : Nat
  L : Nat
  cap : Nat
  lb : Nat → Nat

/-- a row of values -/
def ValRow (w : World) (b m : Nat) (f : Nat → Value) : Prop :=
  ∃ cur, w.heap[b]? = some (.cells cur 22 (0, 0)) ∧ cur.size = m ∧ ∀ j, j < m → cur[j]? = some (f j)
section
variable {w w' : World} {b m : Nat} {f : Nat → Value}
theorem ValRow.lt (h : ValRow w b m f) : b < w.heap.size := by obtain ⟨_, h, _⟩ := h; exact (Array.getElem?_eq_some_iff.1 h).1
theorem ValRow.cell (h : ValRow w b m f) {j : Nat} (hj : j < m) : w.cell? ⟨b, j, none⟩ = some (f j) := by
  obtain ⟨cur, h1, h2, h3⟩ := h
  rw [cell_of_row w b j cur 22 (0, 0) h1]; exact h3 j hj
theorem ValRow.free (h : ValRow w b m f) (j : Nat) : w.frozen? ⟨b, j, none⟩ = false := by
  obtain ⟨cur, h1, h2, h3⟩ := h
  exact frozen_of_row w b j cur 22 h1
theorem ValRow.of_block (h : ValRow w b m f) (e : w'.heap[b]? = w.heap[b]?) : ValRow w' b m f := by
  obtain ⟨cur, h1, r⟩ := h
  exact ⟨cur, e.trans h1, r⟩
theorem ValRow.set (h : ValRow w b m f) {j : Nat} (hj : j < m) (x : Value) : ValRow (w.setCell ⟨b, j, none⟩ x) b m (fun i => if i = j then x else f i) := by
  obtain ⟨cur, h1, h2, h3⟩ := h
  refine ⟨_, heap_setCell_same w b j cur 22 _ h1, by simp [h2], fun i hi => ?_⟩
  rw [Array.getElem?_setIfInBounds]
  by_cases e : i = j
  · subst e; rw [if_pos rfl, if_pos (by omega)]; simp
  · rw [if_neg (fun q => e q.symm), h3 i hi]; simp [e]
end

theorem Ps.of_blocks {w w' : World} {n ps lv L cap : Nat} {lb : Nat → Nat} {V : Nat → Nat → Nat} (h : Ps w n ps lv L cap lb V) (h1 : w'.heap[ps]? = w.heap[ps]?) (h2 : w'.heap[lv]? = w.heap[lv]?) (h3 : ∀ d, d < L → w'.heap[lb d]? = w.heap[lb d]?) : Ps w' n ps lv L cap lb V := by
  refine ⟨?_, fun d hd => ?_, fun d hd => ?_, h.word, h.inj, h.nps, h.nlv, h.pos, h.few⟩
  · rw [World.cell?_of_block (w := w) h1]; exact h.head
  · rw [World.cell?_of_block (w := w) h2]; exact h.lev d hd
  · rw [h3 d hd]; exact h.row d hd
theorem Ps.ltp {w : World} {n ps lv L cap : Nat} {lb : Nat → Nat} {V : Nat → Nat → Nat} (h : Ps w n ps lv L cap lb V) : ps < w.heap.size := World.block_lt_of_cell? w _ h.head
theorem Ps.ltv {w : World} {n ps lv L cap : Nat} {lb : Nat → Nat} {V : Nat → Nat → Nat} (h : Ps w n ps lv L cap lb V) : lv < w.heap.size := World.block_lt_of_cell? w _ (h.lev 0 h.pos)
theorem Ps.ltl {w : World} {n ps lv L cap : Nat} {lb : Nat → Nat} {V : Nat → Nat → Nat} (h : Ps w n ps lv L cap lb V) {d : Nat} (hd : d < L) : lb d < w.heap.size := by
  obtain ⟨cur, h1, _⟩ := h.row d hd
  exact (Array.getElem?_eq_some_iff.1 h1).1

/-- THE WALK IN MEMORY. ρ: each block's role. -/
structure Wk (w : World) (base n : Nat) (tx : Value) (g : Geo) (V : Nat → Nat → Nat) (sv : Nat → Value) (su : Nat → List Nat) (wf : Nat → Int) (pl : List Nat) (ρ : Nat → Nat) : Prop where
  head : w.heap[g.wb]? = some (.cells #[tx, .slice (some ⟨g.sb, 0, none⟩) n n, .slice (some ⟨g.wt, 0, none⟩) n n, .pointer (some ⟨g.ps, 0, none⟩), .slice (some ⟨g.pb, 0, none⟩) pl.length n] 58 (0, 0))
  succ : ValRow w g.sb n sv
  srow : ∀ j, j < n → w.ownsRow base 3 1 (sv j) (su j).length ((su j).map encN)
  wait : IntRow w g.wt n wf
  plc : IntRow w g.pb n (fun j => ((pl.getD j 0 : Nat) : Int))
  set : Ps w n g.ps g.lv g.L g.cap g.lb V
  rwb : ρ g.wb = 1
  rsb : ρ g.sb = 2
  rwt : ρ g.wt = 3
  rpb : ρ g.pb = 4
  rps : ρ g.ps = 5
  rlv : ρ g.lv = 6
  rlb : ∀ d, d < g.L → ρ (g.lb d) = 7
  rsu : ∀ j, j < n → ∀ b, (sv j).ownBlock = some b → ρ b = 8 + j
  bwb : base ≤ g.wb
  bsb : base ≤ g.sb
  bwt : base ≤ g.wt
  bpb : base ≤ g.pb
  blb : ∀ d, d < g.L → base ≤ g.lb d

section
variable {w w' : World} {base n : Nat} {tx : Value} {g : Geo} {V : Nat → Nat → Nat} {sv : Nat → Value} {su : Nat → List Nat} {wf : Nat → Int} {pl : List Nat} {ρ : Nat → Nat}

theorem Wk.lt (h : Wk w base n tx g V sv su wf pl ρ) : g.wb < w.heap.size := (Array.getElem?_eq_some_iff.1 h.head).1
theorem Wk.cells (h : Wk w base n tx g V sv su wf pl ρ) : w.cell? ⟨g.wb, 1, none⟩ = some (.slice (some ⟨g.sb, 0, none⟩) n n) ∧ w.cell? ⟨g.wb, 2, none⟩ = some (.slice (some ⟨g.wt, 0, none⟩) n n) ∧ w.cell? ⟨g.wb, 3, none⟩ = some (.pointer (some ⟨g.ps, 0, none⟩)) ∧ w.cell? ⟨g.wb, 4, none⟩ = some (.slice (some ⟨g.pb, 0, none⟩) pl.length n) ∧ w.frozen? ⟨g.wb, 4, none⟩ = false := by
  refine ⟨?_, ?_, ?_, ?_, frozen_of_row w g.wb 4 _ 58 h.head⟩ <;> rw [cell_of_row w g.wb _ _ 58 (0, 0) h.head] <;> rfl
theorem Wk.slt (h : Wk w base n tx g V sv su wf pl ρ) {j b : Nat} (hj : j < n) (hb : (sv j).ownBlock = some b) : b < w.heap.size := ((h.srow j hj).lt b hb).2

/-- other blocks have turned, if any -/
theorem Wk.over (h : Wk w base n tx g V sv su wf pl ρ) (hk : ∀ b, b < w.heap.size → ρ b ≠ 0 → w'.heap[b]? = w.heap[b]?) : Wk w' base n tx g V sv su wf pl ρ := by
  refine ⟨(hk _ h.lt (by rw [h.rwb]; omega)).trans h.head, h.succ.of_block (hk _ h.succ.lt (by rw [h.rsb]; omega)), fun j hj => ?_, h.wait.of_block (hk _ h.wait.lt (by rw [h.rwt]; omega)), h.plc.of_block (hk _ h.plc.lt (by rw [h.rpb]; omega)), h.set.of_blocks (hk _ h.set.ltp (by rw [h.rps]; omega)) (hk _ h.set.ltv (by rw [h.rlv]; omega)) (fun d hd => hk _ (h.set.ltl hd) (by rw [h.rlb d hd]; omega)), h.rwb, h.rsb, h.rwt, h.rpb, h.rps, h.rlv, h.rlb, h.rsu, h.bwb, h.bsb, h.bwt, h.bpb, h.blb⟩
  have hr := h.srow j hj
  refine ⟨hr.1, ?_⟩
  rcases hr.2 with q | ⟨b, cap, cur, q1, q2, q3, q4⟩
  · exact .inl q
  · refine .inr ⟨b, cap, cur, q1, q2, ?_, q4⟩
    have hb : (sv j).ownBlock = some b := by rw [q1]; rfl
    rw [hk b (h.slt hj hb) (by rw [h.rsu j hj b hb]; omega)]
    exact q3

theorem Wk.drew (h : Wk w base n tx g V sv su wf pl ρ) : Wk w.drew base n tx g V sv su wf pl ρ := h.over (fun _ _ _ => rfl)
theorem Wk.drewN (h : Wk w base n tx g V sv su wf pl ρ) (q : Nat) : Wk (w.drewN q) base n tx g V sv su wf pl ρ := h.over (fun _ _ _ => rfl)
theorem Wk.grown (h : Wk w base n tx g V sv su wf pl ρ) (hg : w.grownBy w' none) : Wk w' base n tx g V sv su wf pl ρ := h.over (fun b hb _ => hg.block b hb (by simp))
theorem Wk.alloc (h : Wk w base n tx g V sv su wf pl ρ) (o : Obj) : Wk (w.alloc o) base n tx g V sv su wf pl ρ := h.grown (World.grownBy_alloc w o none)

/-- a row of the successors is as it was -/
theorem ownsRow_over {e : TypeId} {size k : Nat} {v : Value} {xs : List Value} (hr : w.ownsRow base e size v k xs) (hk : ∀ b, v.ownBlock = some b → w'.heap[b]? = w.heap[b]?) : w'.ownsRow base e size v k xs := by
  refine ⟨hr.1, ?_⟩
  rcases hr.2 with q | ⟨b, cap, cur, q1, q2, q3, q4⟩
  · exact .inl q
  · exact .inr ⟨b, cap, cur, q1, q2, by rw [hk b (by rw [q1]; rfl)]; exact q3, q4⟩

/-- the set has turned -/
theorem Wk.turned {V' : Nat → Nat → Nat} (h : Wk w base n tx g V sv su wf pl ρ) (hs : Ps w' n g.ps g.lv g.L g.cap g.lb V') (ho : Only (fun b => ∃ d, d < g.L ∧ b = g.lb d) w w') : Wk w' base n tx g V' sv su wf pl ρ := by
  have hk : ∀ b, ρ b ≠ 7 → w'.heap[b]? = w.heap[b]? := fun b hb => ho.block b (fun ⟨d, hd, e⟩ => hb (by rw [e]; exact h.rlb d hd))
  refine ⟨(hk _ (by rw [h.rwb]; omega)).trans h.head, h.succ.of_block (hk _ (by rw [h.rsb]; omega)), fun j hj => ownsRow_over (h.srow j hj) (fun b hb => hk b (by rw [h.rsu j hj b hb]; omega)), h.wait.of_block (hk _ (by rw [h.rwt]; omega)), h.plc.of_block (hk _ (by rw [h.rpb]; omega)), hs, h.rwb, h.rsb, h.rwt, h.rpb, h.rps, h.rlv, h.rlb, h.rsu, h.bwb, h.bsb, h.bwt, h.bpb, h.blb⟩

/-- a number of 'waiting' is set -/
theorem Wk.setWait (h : Wk w base n tx g V sv su wf pl ρ) {j : Nat} (hj : j < n) (x : Int) : Wk (w.setCell ⟨g.wt, j, none⟩ (.int .i64 x)) base n tx g V sv su (fun i => if i = j then x else wf i) pl ρ := by
  have hk : ∀ b, ρ b ≠ 3 → (w.setCell ⟨g.wt, j, none⟩ (.int .i64 x)).heap[b]? = w.heap[b]? := fun b hb => Below.heap_setCell _ _ _ _ (fun e => hb (by rw [e]; exact h.rwt))
  refine ⟨(hk _ (by rw [h.rwb]; omega)).trans h.head, h.succ.of_block (hk _ (by rw [h.rsb]; omega)), fun j hj => ownsRow_over (h.srow j hj) (fun b hb => hk b (by rw [h.rsu j hj b hb]; omega)), h.wait.set hj x, h.plc.of_block (hk _ (by rw [h.rpb]; omega)), h.set.of_blocks (hk _ (by rw [h.rps]; omega)) (hk _ (by rw [h.rlv]; omega)) (fun d hd => hk _ (by rw [h.rlb d hd]; omega)), h.rwb, h.rsb, h.rwt, h.rpb, h.rps, h.rlv, h.rlb, h.rsu, h.bwb, h.bsb, h.bwt, h.bpb, h.blb⟩

/-- one more is placed: the row has room -/
theorem Wk.place (h : Wk w base n tx g V sv su wf pl ρ) (hl : pl.length < n) (p : Nat) :
    Wk ((w.setCell ⟨g.pb, pl.length, none⟩ (.int .i64 p)).setCell ⟨g.wb, 4, none⟩ (.slice (some ⟨g.pb, 0, none⟩) (pl.length + 1) n)) base n tx g V sv su wf (pl ++ [p]) ρ := by
  have hne : g.wb ≠ g.pb := fun e => by have := h.rwb; rw [e, h.rpb] at this; omega
  have hk : ∀ b, ρ b ≠ 4 → ρ b ≠ 1 → ((w.setCell ⟨g.pb, pl.length, none⟩ (.int .i64 p)).setCell ⟨g.wb, 4, none⟩ (.slice (some ⟨g.pb, 0, none⟩) (pl.length + 1) n)).heap[b]? = w.heap[b]? := fun b hb hb' => (Below.heap_setCell _ _ _ _ (fun e => hb' (by rw [e]; exact h.rwb))).trans (Below.heap_setCell _ _ _ _ (fun e => hb (by rw [e]; exact h.rpb)))
  refine ⟨?_, h.succ.of_block (hk _ (by rw [h.rsb]; omega) (by rw [h.rsb]; omega)), fun j hj => ownsRow_over (h.srow j hj) (fun b hb => hk b (by rw [h.rsu j hj b hb]; omega) (by rw [h.rsu j hj b hb]; omega)), h.wait.of_block (hk _ (by rw [h.rwt]; omega) (by rw [h.rwt]; omega)), ?_, h.set.of_blocks (hk _ (by rw [h.rps]; omega) (by rw [h.rps]; omega)) (hk _ (by rw [h.rlv]; omega) (by rw [h.rlv]; omega)) (fun d hd => hk _ (by rw [h.rlb d hd]; omega) (by rw [h.rlb d hd]; omega)), h.rwb, h.rsb, h.rwt, h.rpb, h.rps, h.rlv, h.rlb, h.rsu, h.bwb, h.bsb, h.bwt, h.bpb, h.blb⟩
  · have h1 := (Below.heap_setCell w ⟨g.pb, pl.length, none⟩ (.int .i64 p) g.wb hne).trans h.head
    have h2 := heap_setCell_same _ g.wb 4 _ 58 (.slice (some ⟨g.pb, 0, none⟩) (pl.length + 1) n) h1
    rw [h2]
    simp
  · refine ((h.plc.set hl (p : Int)).of_block (Below.heap_setCell _ _ _ _ (fun e => hne e.symm))).congr (fun j hj => ?_)
    by_cases e : j = pl.length
    · subst e; simp
    · simp only [if_neg e, List.getD_eq_getElem?_getD]
      by_cases hlt : j < pl.length
      · rw [List.getElem?_append_left hlt]
      · rw [List.getElem?_eq_none (by omega), List.getElem?_eq_none (by simp; omega)]

/-- one more successor: w4 is w behind the append, 'g4' the new row's block -/
theorem Wk.succ1 {w4 : World} (h : Wk w base n tx g V sv su wf pl ρ) {j x gg cp : Nat} (hj : j < n) (hg4 : w.grownBy w4 (sv j).ownBlock) (hat : (sv j).ownBlock = some gg ∨ gg = w.heap.size)
    (hown : w4.ownsRow base 3 1 (.slice (some ⟨gg, 0, none⟩) ((su j).length + 1) cp) ((su j).length + 1) ((su j).map encN ++ [encN x])) :
    ∃ sv' ρ', Wk (w4.setCell ⟨g.sb, j, none⟩ (.slice (some ⟨gg, 0, none⟩) ((su j).length + 1) cp)) base n tx g V sv' (fun i => if i = j then su j ++ [x] else su i) wf pl ρ' ∧ ∀ b, b < w.heap.size → ρ' b = ρ b := by
  have hnew : ∀ b, b < w.heap.size → (if b = gg then 8 + j else ρ b) = ρ b := fun b hb => by
    by_cases e : b = gg
    · rw [if_pos e]
      rcases hat with q | q
      · rw [e, h.rsu j hj gg q]
      · omega
    · rw [if_neg e]
  have hk : ∀ b, b < w.heap.size → ρ b ≠ 2 → ρ b ≠ 8 + j → (w4.setCell ⟨g.sb, j, none⟩ (.slice (some ⟨gg, 0, none⟩) ((su j).length + 1) cp)).heap[b]? = w.heap[b]? := fun b hb h1 h2 =>
    (Below.heap_setCell _ _ _ _ (fun e => h1 (by rw [e]; exact h.rsb))).trans (hg4.block b hb (fun e => h2 (h.rsu j hj b e.symm)))
  have hsb4 : w4.heap[g.sb]? = w.heap[g.sb]? := hg4.block _ h.succ.lt (fun e => by have := h.rsu j hj _ e.symm; rw [h.rsb] at this; omega)
  have hggsb : gg ≠ g.sb := fun e => by
    rcases hat with q | q
    · have := h.rsu j hj _ q; rw [e, h.rsb] at this; omega
    · have := h.succ.lt; omega
  refine ⟨fun i => if i = j then .slice (some ⟨gg, 0, none⟩) ((su j).length + 1) cp else sv i, fun b => if b = gg then 8 + j else ρ b, ⟨(hk _ h.lt (by rw [h.rwb]; omega) (by rw [h.rwb]; omega)).trans h.head, (h.succ.of_block hsb4).set hj _, fun i hi => ?_, h.wait.of_block (hk _ h.wait.lt (by rw [h.rwt]; omega) (by rw [h.rwt]; omega)), h.plc.of_block (hk _ h.plc.lt (by rw [h.rpb]; omega) (by rw [h.rpb]; omega)), h.set.of_blocks (hk _ h.set.ltp (by rw [h.rps]; omega) (by rw [h.rps]; omega)) (hk _ h.set.ltv (by rw [h.rlv]; omega) (by rw [h.rlv]; omega)) (fun d hd => hk _ (h.set.ltl hd) (by rw [h.rlb d hd]; omega) (by rw [h.rlb d hd]; omega)),
    (hnew _ h.lt).trans h.rwb, (hnew _ h.succ.lt).trans h.rsb, (hnew _ h.wait.lt).trans h.rwt, (hnew _ h.plc.lt).trans h.rpb, (hnew _ h.set.ltp).trans h.rps, (hnew _ h.set.ltv).trans h.rlv, fun d hd => (hnew _ (h.set.ltl hd)).trans (h.rlb d hd), fun i hi b hb => ?_, h.bwb, h.bsb, h.bwt, h.bpb, h.blb⟩, hnew⟩
  · by_cases e : i = j
    · subst e
      simp only [if_true]
      have h3 : ((su i).map encN ++ [encN x]) = (su i ++ [x]).map encN := by simp
      have h4 : (su i ++ [x]).length = (su i).length + 1 := by simp
      rw [← h3, h4]
      exact ownsRow_over hown (fun b hb => Below.heap_setCell _ _ _ _ (fun e => by simp [Value.ownBlock] at hb; exact hggsb (hb.trans e)))
    · simp only [if_neg e]
      refine ownsRow_over (h.srow i hi) (fun b hb => hk b (h.slt hi hb) ?_ ?_) <;> rw [h.rsu i hi b hb] <;> omega
  · by_cases e : i = j
    · subst e
      simp only [if_true] at hb
      have : gg = b := by simpa [Value.ownBlock] using hb
      simp [this]
    · simp only [if_neg e] at hb
      exact (hnew b (h.slt hi hb)).trans (h.rsu i hi b hb)

/-- the walk as newWalk's first statement lays it -/
theorem Wk.start {wb sb wt pb ps lv L cap c e : Nat} {lb : Nat → Nat} (hwb : w.heap[wb]? = some (.cells #[tx, .slice (some ⟨sb, 0, none⟩) n n, .slice (some ⟨wt, 0, none⟩) n n, .pointer (some ⟨ps, 0, none⟩), .slice (some ⟨pb, 0, none⟩) 0 n] 58 (0, 0)))
    (hsb : w.heap[sb]? = some (.cells (madeCells #[.slice none 0 0] n) 22 (0, 0))) (hwt : w.heap[wt]? = some (.cells (madeCells #[.int .i64 0] n) 3 (0, 0))) (hpb : w.heap[pb]? = some (.cells (madeCells #[.int .i64 0] n) 3 (0, 0)))
    (hps : Ps w n ps lv L cap lb (fun _ _ => 0)) (hc : c ≤ ps ∧ c ≤ lv ∧ ps < e ∧ lv < e ∧ ps ≠ lv ∧ ∀ d, d < L → c ≤ lb d ∧ lb d < e) (hb : base ≤ c ∧ base ≤ sb ∧ base ≤ wt ∧ base ≤ pb ∧ base ≤ wb)
    (n1 : sb < c ∨ e ≤ sb) (n2 : wt < c ∨ e ≤ wt) (n3 : pb < c ∨ e ≤ pb) (n4 : wb < c ∨ e ≤ wb) (hd : sb ≠ wt ∧ sb ≠ pb ∧ wt ≠ pb ∧ wb ≠ sb ∧ wb ≠ wt ∧ wb ≠ pb) :
    ∃ ρ, Wk w base n tx ⟨wb, sb, wt, pb, ps, lv, L, cap, lb⟩ (fun _ _ => 0) (fun _ => .slice none 0 0) (fun _ => []) (fun _ => 0) [] ρ ∧ ∀ b, w.heap.size ≤ b → ρ b = 0 := by
  obtain ⟨c1, c2, c3, c4, c5, c6⟩ := hc
  obtain ⟨b1, b2, b3, b4, b5⟩ := hb
  obtain ⟨d1, d2, d3, d4, d5, d6⟩ := hd
  have l1 := (Array.getElem?_eq_some_iff.1 hwb).1
  have l2 := (Array.getElem?_eq_some_iff.1 hsb).1
  have l3 := (Array.getElem?_eq_some_iff.1 hwt).1
  have l4 := (Array.getElem?_eq_some_iff.1 hpb).1
  have l5 := hps.ltp
  have l6 := hps.ltv
  refine ⟨fun b => if w.heap.size ≤ b then 0 else if b = wb then 1 else if b = sb then 2 else if b = wt then 3 else if b = pb then 4 else if b = ps then 5 else if b = lv then 6 else 7, ⟨hwb, ⟨_, hsb, by simp [madeCells], fun j hj => by simp [madeCells, hj, Nat.mod_one]⟩, fun j hj => World.ownsRow_nil _ _ _ _, ⟨_, hwt, by simp [madeCells], fun j hj => by simp [madeCells, hj, Nat.mod_one]⟩, ⟨_, hpb, by simp [madeCells], fun j hj => by simp [madeCells, hj, Nat.mod_one]⟩, hps, ?_, ?_, ?_, ?_, ?_, ?_, fun d hd => ?_, fun j hj b hb => by simp [Value.ownBlock] at hb, b5, b2, b3, b4, fun d hd => by have := c6 d hd; show base ≤ lb d; omega⟩, fun b hb => if_pos hb⟩
  · show (if w.heap.size ≤ wb then 0 else if wb = wb then 1 else _) = 1
    rw [if_neg (by omega), if_pos rfl]
  · show (if w.heap.size ≤ sb then 0 else if sb = wb then 1 else if sb = sb then 2 else _) = 2
    rw [if_neg (by omega), if_neg (by omega), if_pos rfl]
  · show (if w.heap.size ≤ wt then 0 else if wt = wb then 1 else if wt = sb then 2 else if wt = wt then 3 else _) = 3
    rw [if_neg (by omega), if_neg (by omega), if_neg (by omega), if_pos rfl]
  · show (if w.heap.size ≤ pb then 0 else if pb = wb then 1 else if pb = sb then 2 else if pb = wt then 3 else if pb = pb then 4 else _) = 4
    rw [if_neg (by omega), if_neg (by omega), if_neg (by omega), if_neg (by omega), if_pos rfl]
  · show (if w.heap.size ≤ ps then 0 else if ps = wb then 1 else if ps = sb then 2 else if ps = wt then 3 else if ps = pb then 4 else if ps = ps then 5 else _) = 5
    rw [if_neg (by omega), if_neg (by omega), if_neg (by omega), if_neg (by omega), if_neg (by omega), if_pos rfl]
  · show (if w.heap.size ≤ lv then 0 else if lv = wb then 1 else if lv = sb then 2 else if lv = wt then 3 else if lv = pb then 4 else if lv = ps then 5 else if lv = lv then 6 else _) = 6
    rw [if_neg (by omega), if_neg (by omega), if_neg (by omega), if_neg (by omega), if_neg (by omega), if_neg (by omega), if_pos rfl]
  · have l7 := hps.ltl hd
    have l8 := hps.nps d hd
    have l9 := hps.nlv d hd
    have l10 := c6 d hd
    show (if w.heap.size ≤ lb d then 0 else if lb d = wb then 1 else if lb d = sb then 2 else if lb d = wt then 3 else if lb d = pb then 4 else if lb d = ps then 5 else if lb d = lv then 6 else 7) = 7
    rw [if_neg (by omega), if_neg (by omega), if_neg (by omega), if_neg (by omega), if_neg (by omega), if_neg (by omega), if_neg (by omega)]
end
end Go.Proofs.Qxb6000427a
