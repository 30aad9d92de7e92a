/-
  Own work: the walk's functions, beside a row of the law's own.
-/
import Derived.Test.Qxb6000427aWs
import Derived.Test.Qxb6000427aPw2
import Derived.Test.Qxb6000427aPc2
namespace Go.Proofs.Qxb6000427a
open Go.RowKit

/-- the walk, and the block x is none of its own -/
def StX (w : World) (base n m : Nat) (F T : Nat → Nat) (g : Geo) (S : List Nat) (x : Nat) : Prop :=
  ∃ tx V sv wf ρ, Wk w base n tx g V sv (sucOf F T m) wf S ρ ∧ Plc n m F T S wf (fun q => bit (V 0) q) ∧ ρ x = 0

section
variable {w w' : World} {base n m : Nat} {F T : Nat → Nat} {g : Geo} {S : List Nat} {x : Nat}
theorem StX.st (h : StX w base n m F T g S x) : St w base n m F T g S := by
  obtain ⟨tx, V, sv, wf, ρ, h1, h2, _⟩ := h
  exact ⟨tx, V, sv, wf, ρ, h1, h2⟩
theorem StX.over (h : StX w base n m F T g S x) (hk : ∀ b, b < w.heap.size → b ≠ x → w'.heap[b]? = w.heap[b]?) : StX w' base n m F T g S x := by
  obtain ⟨tx, V, sv, wf, ρ, h1, h2, h3⟩ := h
  exact ⟨tx, V, sv, wf, ρ, h1.over (fun b hb hne => hk b hb (fun e => hne (by rw [e]; exact h3))), h2, h3⟩
theorem StX.drewN (h : StX w base n m F T g S x) (q : Nat) : StX (w.drewN q) base n m F T g S x := h.over (fun _ _ _ => rfl)
theorem StX.set (h : StX w base n m F T g S x) (j : Nat) (v : Value) : StX (w.setCell ⟨x, j, none⟩ v) base n m F T g S x := h.over (fun _ _ hne => Below.heap_setCell _ _ _ _ hne)

theorem Wk.rho {tx : Value} {V : Nat → Nat → Nat} {sv : Nat → Value} {su : Nat → List Nat} {wf : Nat → Int} {pl : List Nat} {ρ ρ' : Nat → Nat} (h : Wk w base n tx g V sv su wf pl ρ) (hk : ∀ b, b < w.heap.size → ρ' b = ρ b) : Wk w base n tx g V sv su wf pl ρ' :=
  ⟨h.head, h.succ, h.srow, h.wait, h.plc, h.set, (hk _ h.lt).trans h.rwb, (hk _ h.succ.lt).trans h.rsb, (hk _ h.wait.lt).trans h.rwt, (hk _ h.plc.lt).trans h.rpb, (hk _ h.set.ltp).trans h.rps, (hk _ h.set.ltv).trans h.rlv, fun d hd => (hk _ (h.set.ltl hd)).trans (h.rlb d hd), fun j hj b hb => (hk _ (h.slt hj hb)).trans (h.rsu j hj b hb), h.bwb, h.bsb, h.bwt, h.bpb, h.blb⟩
theorem St.fresh (h : St w base n m F T g S) (o : Obj) : StX (w.alloc o) base n m F T g S w.heap.size := by
  obtain ⟨tx, V, sv, wf, ρ, h1, h2⟩ := h
  refine ⟨tx, V, sv, wf, fun b => if b = w.heap.size then 0 else ρ b, (h1.rho (fun b hb => ?_)).alloc o, h2, by simp⟩
  have : ¬ b = w.heap.size := by omega
  simp [this]
end

theorem place27x (w : World) (base n m : Nat) (F T : Nat → Nat) (g : Geo) (S : List Nat) (p x : Nat) (h : StX w base n m F T g S x) (hx : x < w.heap.size) (hbw : base ≤ w.heap.size) (hn : n ≤ 65536) (hm : m ≤ 65536) (hl : S.length < n) (hT : ∀ k, k < m → T k < n) (hp : Rdy n m F T S p) :
    Calls Try.prog 27 #[.pointer (some ⟨g.wb, 0, none⟩), .int .i64 p] w fun e w' => e = .returned (.tuple #[]) ∧ Below base w w' ∧ w'.heap[x]? = w.heap[x]? ∧ StX w' base n m F T g (S ++ [p]) x := by
  obtain ⟨tx, V, sv, wf, ρ, h1, h2, h3⟩ := h
  have hc := place35k w p h1 hbw hp.1 hn hl (fun t ht => by obtain ⟨j, j1, j2, j3⟩ := mem_sucOf ht; exact j3 ▸ hT j j1) (by have := sucOf_len F T p m; omega) (fun t => by have := h2.count_le hp.2.1 t; omega)
  have hpl := h2.place hT hp
  go_enter Try.func27, Try.ntmps27
  go_wp2_with (go_at_call 35; refine hc.mono ?_; rintro e w' ⟨rfl, hb, hk, V', hW, hbit⟩)
  go_end0
  refine ⟨rfl, hb, hk x hx h3, tx, V', sv, _, ρ, hW, ?_, h3⟩
  have : (fun q => bit (V' 0) q) = ((sucOf F T m p).foldl stp (wf, fun q => bit (V 0) q && !decide (q = p))).2 := funext hbit
  rw [this]
  exact hpl

/-- BLOCK b IS A ROW OF m BOOLS -/
def BoolRow (w : World) (b m : Nat) (f : Nat → Bool) : Prop :=
  ∃ cur, w.heap[b]? = some (.cells cur 4 (0, 0)) ∧ cur.size = m ∧ ∀ j, j < m → cur[j]? = some (.bool (f j))
section
variable {w w' : World} {b m : Nat} {f : Nat → Bool}
theorem BoolRow.lt (h : BoolRow w b m f) : b < w.heap.size := by obtain ⟨_, h, _⟩ := h; exact (Array.getElem?_eq_some_iff.1 h).1
theorem BoolRow.cell (h : BoolRow w b m f) {j : Nat} (hj : j < m) : w.cell? ⟨b, j, none⟩ = some (.bool (f j)) := by
  obtain ⟨cur, h1, h2, h3⟩ := h
  rw [cell_of_row w b j cur 4 (0, 0) h1]; exact h3 j hj
theorem BoolRow.free (h : BoolRow w b m f) (j : Nat) : w.frozen? ⟨b, j, none⟩ = false := by
  obtain ⟨cur, h1, h2, h3⟩ := h
  exact frozen_of_row w b j cur 4 h1
theorem BoolRow.of_block (h : BoolRow w b m f) (e : w'.heap[b]? = w.heap[b]?) : BoolRow w' b m f := by
  obtain ⟨cur, h1, r⟩ := h
  exact ⟨cur, e.trans h1, r⟩
theorem BoolRow.set (h : BoolRow w b m f) {j : Nat} (hj : j < m) (x : Bool) : BoolRow (w.setCell ⟨b, j, none⟩ (.bool x)) b m (fun i => if i = j then x else f i) := by
  obtain ⟨cur, h1, h2, h3⟩ := h
  refine ⟨_, heap_setCell_same w b j cur 4 _ h1, by simp [h2], fun i hi => ?_⟩
  rw [Array.getElem?_setIfInBounds]
  by_cases e : i = j
  · subst e; rw [if_pos rfl, if_pos (by omega)]; simp
  · rw [if_neg (fun q => e q.symm), h3 i hi]; simp [e]
theorem BoolRow.made (w : World) (m : Nat) : BoolRow (w.alloc (.cells (madeCells #[.bool false] m) 4)) w.heap.size m (fun _ => false) :=
  ⟨_, heap_alloc_new _ _, by simp [madeCells], fun j hj => by simp [madeCells, hj, Nat.mod_one]⟩
end

theorem Try.inf4 : (Try.prog.info? 4).map (fun i => (i.zero, i.size, i.bytes)) = some (some (.bool false), 1, 1) := by kernel_rfl
theorem make44 (k : Nat) (hk : k ≤ 65536) (w : World) : (Instr.makeSlice 44 (.int .i64 k) (.int .i64 k)).run Try.prog w = .ok (.slice (some ⟨w.heap.size, 0, none⟩) k k) (w.alloc (.cells (madeCells #[.bool false] k) 4)) := by
  obtain ⟨i, hi, hz, hs, hb⟩ := info_parts Try.inf4
  have hb' : (i.bytes : Int) * (k : Int) ≤ 281474976710656 := by rw [hb]; omega
  have hr := run_make (P := Try.prog) w 44 4 i _ Try.underlying44 hi hz .i64 .i64 k k (by omega) (by omega) hb' (by omega)
  simpa [hs, Value.cells] using hr
end Go.Proofs.Qxb6000427a
