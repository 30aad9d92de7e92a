/-
  Own work: newPlaceSet lays an empty set.
-/
import Derived.Test.Qxb6000427aPs3
import Derived.Deep.RegionHeld3
import Derived.Deep.AppendLies
import Derived.Lib.JoinLaws
namespace Go.Proofs.Qxb6000427a
open Go.RowKit

theorem Try.info50 : (Try.prog.info? 50).map (fun i => (i.zero, i.size, i.bytes)) = some (some (.slice none 0 0), 1, 24) := by kernel_rfl
theorem Try.info52 : (Try.prog.info? 52).map (fun i => (i.zero, i.size, i.bytes)) = some (some (.int .u64 0), 1, 8) := by kernel_rfl

theorem make52 (k : Nat) (hk : k ≤ 65536) (w : World) : (Instr.makeSlice 50 (.int .i64 k) (.int .i64 k)).run Try.prog w = .ok (.slice (some ⟨w.heap.size, 0, none⟩) k k) (w.alloc (.cells (madeCells #[.int .u64 0] k) 52)) := by
  obtain ⟨i, hi, hz, hs, hb⟩ := info_parts Try.info52
  have hb' : (i.bytes : Int) * (k : Int) ≤ 281474976710656 := by rw [hb]; omega
  have hr := run_make (P := Try.prog) w 50 52 i (.int .u64 0) Try.underlying50 hi hz .i64 .i64 k k (by omega) (by omega) hb' (by omega)
  simpa [hs, Value.cells] using hr

/-- THE SET IN THE MAKING: block B: the struct; d levels are laid. -/
structure Mk (w0 w : World) (n B d : Nat) (v : Value) (lb : Nat → Nat) : Prop where
  head : w.heap[B]? = some (.cells #[v] 72 (0, 0))
  own : w.ownsRow (B + 1) 50 1 v d ((List.range d).map fun k => .slice (some ⟨lb k, 0, none⟩) (sz n k) (sz n k))
  row : ∀ k, k < d → w.heap[lb k]? = some (.cells (madeCells #[.int .u64 0] (sz n k)) 52 (0, 0))
  gt : ∀ k, k < d → B < lb k
  inj : ∀ k k', k < d → k' < d → lb k = lb k' → k = k'
  off : ∀ k, k < d → v.ownBlock ≠ some (lb k)
  below : Below B w0 w

theorem Mk.lt {w0 w : World} {n B d : Nat} {v : Value} {lb : Nat → Nat} (h : Mk w0 w n B d v lb) : B < w.heap.size := (Array.getElem?_eq_some_iff.1 h.head).1
theorem Mk.rlt {w0 w : World} {n B d : Nat} {v : Value} {lb : Nat → Nat} (h : Mk w0 w n B d v lb) {k : Nat} (hk : k < d) : lb k < w.heap.size := (Array.getElem?_eq_some_iff.1 (h.row k hk)).1

theorem Mk.step {w0 w w2 w4 : World} {n B d : Nat} {v : Value} {lb : Nat → Nat} (h : Mk w0 w n B d v lb) (g2 : w.grownBy w2 none) (hH : w2.heap[w.heap.size]? = some (.cells (madeCells #[.int .u64 0] (sz n d)) 52 (0, 0)))
    (g4 : w2.grownBy w4 v.ownBlock) (g cap : Nat)
    (own4 : w4.ownsRow (B + 1) 50 1 (.slice (some ⟨g, 0, none⟩) (d + 1) cap) (d + 1) (((List.range d).map fun k => .slice (some ⟨lb k, 0, none⟩) (sz n k) (sz n k)) ++ [.slice (some ⟨w.heap.size, 0, none⟩) (sz n d) (sz n d)]))
    (hat : v.ownBlock = some g ∨ g = w2.heap.size) :
    Mk w0 (w4.setCell ⟨B, 0, none⟩ (.slice (some ⟨g, 0, none⟩) (d + 1) cap)) n B (d + 1) (.slice (some ⟨g, 0, none⟩) (d + 1) cap) (fun k => if k = d then w.heap.size else lb k) := by
  have hBlt := h.lt
  have hH2 : w.heap.size < w2.heap.size := (Array.getElem?_eq_some_iff.1 hH).1
  have hvB : v.ownBlock ≠ some B := by
    intro e
    rcases h.own.2 with ⟨q, _⟩ | ⟨g', cap', cur', q, hb, _⟩
    · rw [q] at e; simp [Value.ownBlock] at e
    · rw [q] at e; simp [Value.ownBlock] at e; omega
  have hvlt : ∀ b, v.ownBlock = some b → b < w.heap.size := by
    intro b e
    rcases h.own.2 with ⟨q, _⟩ | ⟨g', cap', cur', q, hb, hg', _⟩
    · rw [q] at e; simp [Value.ownBlock] at e
    · rw [q] at e; simp [Value.ownBlock] at e; subst e; exact (Array.getElem?_eq_some_iff.1 hg').1
  have hgB : B < g := by
    rcases own4.2 with ⟨q, _⟩ | ⟨g', cap', cur', q, hb, _⟩
    · simp at q
    · simp at q; omega
  have keep : ∀ b, b < w.heap.size → b ≠ B → v.ownBlock ≠ some b → (w4.setCell ⟨B, 0, none⟩ (.slice (some ⟨g, 0, none⟩) (d + 1) cap)).heap[b]? = w.heap[b]? := fun b hb h1 h2 => by
    rw [Below.heap_setCell _ _ _ _ h1, g4.block b (by omega) (fun e => h2 e.symm), g2.block b hb (by simp)]
  have hB4 : w4.heap[B]? = some (.cells #[v] 72 (0, 0)) := by
    rw [g4.block B (by omega) (fun e => hvB e.symm), g2.block B hBlt (by simp)]
    exact h.head
  have hHn : v.ownBlock ≠ some w.heap.size := fun e => by have := hvlt _ e; omega
  refine ⟨?_, ?_, ?_, ?_, ?_, ?_, ?_⟩
  · have := heap_setCell_same w4 B 0 #[v] 72 (.slice (some ⟨g, 0, none⟩) (d + 1) cap) hB4
    simpa using this
  · have hk : (w4.setCell ⟨B, 0, none⟩ (.slice (some ⟨g, 0, none⟩) (d + 1) cap)).ownsRow (B + 1) 50 1 (.slice (some ⟨g, 0, none⟩) (d + 1) cap) (d + 1) (((List.range d).map fun k => .slice (some ⟨lb k, 0, none⟩) (sz n k) (sz n k)) ++ [.slice (some ⟨w.heap.size, 0, none⟩) (sz n d) (sz n d)]) := by
      refine own4.kept (row := some B) ⟨rfl, rfl, rfl, by simp [World.setCell], fun k hk hne => Below.heap_setCell _ _ _ _ (fun e => hne (by rw [e]))⟩ (.inr ?_)
      simp [Value.ownBlock]; omega
    have e : ((List.range (d + 1)).map fun k => Value.slice (some ⟨if k = d then w.heap.size else lb k, 0, none⟩) (sz n k) (sz n k)) = ((List.range d).map fun k => .slice (some ⟨lb k, 0, none⟩) (sz n k) (sz n k)) ++ [.slice (some ⟨w.heap.size, 0, none⟩) (sz n d) (sz n d)] := by
      rw [List.range_succ, List.map_append]
      congr 1
      · apply List.map_congr_left
        intro k hk
        have : ¬ k = d := by have := List.mem_range.1 hk; omega
        simp [this]
      · simp
    rw [e]
    exact hk
  · intro k hk
    by_cases e : k = d
    · subst e
      simp only [if_true]
      rw [Below.heap_setCell _ _ _ _ (show w.heap.size ≠ B by omega), g4.block _ hH2 (fun e => hHn e.symm)]
      exact hH
    · simp only [if_neg e]
      rw [keep _ (h.rlt (by omega)) (by have := h.gt k (by omega); omega) (h.off k (by omega))]
      exact h.row k (by omega)
  · intro k hk
    by_cases e : k = d
    · simp only [if_pos e]; exact hBlt
    · simp only [if_neg e]; exact h.gt k (by omega)
  · intro k k' hk hk' he
    by_cases e : k = d <;> by_cases e' : k' = d
    · omega
    · simp only [if_pos e, if_neg e'] at he
      have := h.rlt (k := k') (by omega)
      omega
    · simp only [if_neg e, if_pos e'] at he
      have := h.rlt (k := k) (by omega)
      omega
    · simp only [if_neg e, if_neg e'] at he
      exact h.inj k k' (by omega) (by omega) he
  · intro k hk
    have hgc : g ≠ (if k = d then w.heap.size else lb k) := by
      by_cases e : k = d
      · rw [if_pos e]
        rcases hat with q | q
        · exact fun e' => hHn (by rw [q, e'])
        · omega
      · rw [if_neg e]
        rcases hat with q | q
        · exact fun e' => h.off k (by omega) (by rw [q, e'])
        · have := h.rlt (k := k) (by omega)
          omega
    simpa [Value.ownBlock] using hgc
  · have b1 : Below B w w2 := (Below.refl _ _).grown g2 (by omega) (fun k hk => by cases hk)
    have b2 : Below B w2 w4 := (Below.refl _ _).grown g4 (by omega) (fun k hk => by
      rcases h.own.2 with ⟨q, _⟩ | ⟨g', cap', cur', q, hb, _⟩
      · rw [q] at hk; simp [Value.ownBlock] at hk
      · rw [q] at hk; simp [Value.ownBlock] at hk; omega)
    exact ((h.below.trans b1).trans b2).setCell (Nat.le_refl _) _
end Go.Proofs.Qxb6000427a
