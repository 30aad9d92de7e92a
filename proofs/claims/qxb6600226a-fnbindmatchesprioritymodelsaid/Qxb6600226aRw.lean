/-
  Own work: rows of cells; slices of strings and of bools that were handed in; the makes.
-/
import Derived.Test.Qxb6600226aRows
import Derived.WalkKit
import Derived.ProofKit
import Derived.Below
import Derived.RegionTactic
import Derived.Deep.RegionHeld3
import Derived.Deep.QuietTactic
import Derived.BigQuiet
import Derived.WalkSmall
import Derived.Deep.AppendLies
import Derived.Deep.CutBlock
import Derived.Deep.CutRange
import Derived.Lib.JoinLaws
import Derived.WalkSpells
namespace Go.Proofs.Qxb6600226a
open Go.RowKit

theorem Try.inf9 : (Try.prog.info? 9).map (fun i => (i.zero, i.size, i.bytes)) = some (some (.string ⟨#[]⟩), 1, 16) := by kernel_rfl
theorem Try.inf4 : (Try.prog.info? 4).map (fun i => (i.zero, i.size, i.bytes)) = some (some (.bool false), 1, 1) := by kernel_rfl
theorem Try.inf53 : (Try.prog.info? 53).map (fun i => (i.zero, i.size, i.bytes)) = some (some (.agg #[.string ⟨#[]⟩, .string ⟨#[]⟩, .bool false]), 3, 40) := by kernel_rfl
theorem Try.inf42 : (Try.prog.info? 42).map (fun i => (i.zero, i.size, i.bytes)) = some (some (.agg #[.string ⟨#[]⟩, .string ⟨#[]⟩]), 2, 32) := by kernel_rfl

theorem make25 (k : Nat) (hk : k ≤ 65536) (w : World) : (Instr.makeSlice 25 (.int .i64 k) (.int .i64 k)).run Try.prog w = .ok (.slice (some ⟨w.heap.size, 0, none⟩) k k) (w.alloc (.cells (madeCells #[.string ⟨#[]⟩] k) 9)) := by
  obtain ⟨i, hi, hz, hs, hb⟩ := info_parts Try.inf9
  have hb' : (i.bytes : Int) * (k : Int) ≤ 281474976710656 := by rw [hb]; omega
  have hr := run_make (P := Try.prog) w 25 9 i _ Try.underlying25 hi hz .i64 .i64 k k (by omega) (by omega) hb' (by omega)
  simpa [hs, Value.cells] using hr
theorem make26 (k : Nat) (hk : k ≤ 65536) (w : World) : (Instr.makeSlice 26 (.int .i64 k) (.int .i64 k)).run Try.prog w = .ok (.slice (some ⟨w.heap.size, 0, none⟩) k k) (w.alloc (.cells (madeCells #[.bool false] k) 4)) := by
  obtain ⟨i, hi, hz, hs, hb⟩ := info_parts Try.inf4
  have hb' : (i.bytes : Int) * (k : Int) ≤ 281474976710656 := by rw [hb]; omega
  have hr := run_make (P := Try.prog) w 26 4 i _ Try.underlying26 hi hz .i64 .i64 k k (by omega) (by omega) hb' (by omega)
  simpa [hs, Value.cells] using hr
theorem make51 (k : Nat) (hk : k ≤ 65536) (w : World) : (Instr.makeSlice 51 (.int .i64 k) (.int .i64 k)).run Try.prog w = .ok (.slice (some ⟨w.heap.size, 0, none⟩) k k) (w.alloc (.cells (madeCells #[.string ⟨#[]⟩, .string ⟨#[]⟩, .bool false] (k * 3)) 53)) := by
  obtain ⟨i, hi, hz, hs, hb⟩ := info_parts Try.inf53
  have hb' : (i.bytes : Int) * (k : Int) ≤ 281474976710656 := by rw [hb]; omega
  have hr := run_make (P := Try.prog) w 51 53 i _ Try.underlying51 hi hz .i64 .i64 k k (by omega) (by omega) hb' (by omega)
  simpa [hs, Value.cells] using hr
theorem make33 (k : Nat) (hk : k ≤ 65536) (w : World) : (Instr.makeSlice 33 (.int .i64 k) (.int .i64 k)).run Try.prog w = .ok (.slice (some ⟨w.heap.size, 0, none⟩) k k) (w.alloc (.cells (madeCells #[.string ⟨#[]⟩, .string ⟨#[]⟩] (k * 2)) 42)) := by
  obtain ⟨i, hi, hz, hs, hb⟩ := info_parts Try.inf42
  have hb' : (i.bytes : Int) * (k : Int) ≤ 281474976710656 := by rw [hb]; omega
  have hr := run_make (P := Try.prog) w 33 42 i _ Try.underlying33 hi hz .i64 .i64 k k (by omega) (by omega) hb' (by omega)
  simpa [hs, Value.cells] using hr

/-- BLOCK b IS A ROW OF m CELLS -/
def Row (w : World) (b : Nat) (t : TypeId) (m : Nat) (f : Nat → Value) : Prop :=
  ∃ cur, w.heap[b]? = some (.cells cur t (0, 0)) ∧ cur.size = m ∧ ∀ j, j < m → cur[j]? = some (f j)

section
variable {w w' : World} {b m : Nat} {t : TypeId} {f : Nat → Value}
theorem Row.lt (h : Row w b t m f) : b < w.heap.size := by obtain ⟨_, h, _⟩ := h; exact (Array.getElem?_eq_some_iff.1 h).1
theorem Row.cell (h : Row w b t m f) {j : Nat} (hj : j < m) : w.cell? ⟨b, j, none⟩ = some (f j) := by
  obtain ⟨cur, h1, h2, h3⟩ := h
  rw [cell_of_row w b j cur t (0, 0) h1]; exact h3 j hj
theorem Row.free (h : Row w b t m f) (j : Nat) : w.frozen? ⟨b, j, none⟩ = false := by
  obtain ⟨cur, h1, h2, h3⟩ := h
  exact frozen_of_row w b j cur t h1
theorem Row.of_block (h : Row w b t m f) (e : w'.heap[b]? = w.heap[b]?) : Row w' b t m f := by
  obtain ⟨cur, h1, r⟩ := h
  exact ⟨cur, e.trans h1, r⟩
theorem Row.set (h : Row w b t m f) {j : Nat} (hj : j < m) (x : Value) : Row (w.setCell ⟨b, j, none⟩ x) b t m (fun i => if i = j then x else f i) := by
  obtain ⟨cur, h1, h2, h3⟩ := h
  refine ⟨_, heap_setCell_same w b j cur t _ h1, by simp [h2], fun i hi => ?_⟩
  rw [Array.getElem?_setIfInBounds]
  by_cases e : i = j
  · subst e; rw [if_pos rfl, if_pos (by omega)]; simp
  · rw [if_neg (fun q => e q.symm), h3 i hi]; simp [e]
theorem Row.made (w : World) (zs : Array Value) (t : TypeId) (m : Nat) : ∃ f, Row (w.alloc (.cells (madeCells zs m) t)) w.heap.size t m f :=
  ⟨fun j => zs[j % zs.size]!, _, heap_alloc_new _ _, by simp [madeCells], fun j hj => by simp [madeCells, hj]⟩
theorem Row.drew (h : Row w b t m f) : Row w.drew b t m f := h
theorem Row.below {B : Nat} (h : Row w b t m f) (hb : Below B w w') (hlt : b < B) : Row w' b t m f := h.of_block (hb.block b hlt)
end

/-- a slice of strings: its cells -/
def ArgS (w : World) (ad : Option Addr) (m : Nat) (z : Nat → ByteArray) : Prop :=
  ∀ i, i < m → ∃ b o, ad = some ⟨b, o, none⟩ ∧ w.cell? ⟨b, o + i, none⟩ = some (.string (z i)) ∧ b < w.heap.size ∧ (z i).size ≤ maxLen
/-- a slice of bools: its cells -/
def ArgB (w : World) (ad : Option Addr) (m : Nat) (z : Nat → Bool) : Prop :=
  ∀ i, i < m → ∃ b o, ad = some ⟨b, o, none⟩ ∧ w.cell? ⟨b, o + i, none⟩ = some (.bool (z i)) ∧ b < w.heap.size

section
variable {w w' : World} {ad : Option Addr} {m : Nat}
theorem ArgS.below {z : Nat → ByteArray} (h : ArgS w ad m z) (hb : Below w.heap.size w w') : ArgS w' ad m z := fun i hi => by
  obtain ⟨b, o, h1, h2, h3, h4⟩ := h i hi
  exact ⟨b, o, h1, (hb.cell h3).trans h2, Nat.lt_of_lt_of_le h3 hb.size, h4⟩
theorem ArgB.below {z : Nat → Bool} (h : ArgB w ad m z) (hb : Below w.heap.size w w') : ArgB w' ad m z := fun i hi => by
  obtain ⟨b, o, h1, h2, h3⟩ := h i hi
  exact ⟨b, o, h1, (hb.cell h3).trans h2, Nat.lt_of_lt_of_le h3 hb.size⟩
end

theorem below_drewN {B : Nat} {a w : World} (h : Below B a w) (q : Nat) : Below B a (w.drewN q) := ⟨h.os, h.tape, h.output, h.size, h.block⟩
theorem sz_alloc (w : World) (o : Obj) : (w.alloc o).heap.size = w.heap.size + 1 := by simp
theorem cell_alloc {w : World} {p : Addr} {v : Value} (o : Obj) (h : w.cell? p = some v) : (w.alloc o).cell? p = some v := (World.grownBy_alloc w o none).cell h (by simp)

/-! ### clones -/
theorem nil25 (w : World) (a : Option Addr) (n c n' c' : Nat) : (binOp .eql 25 (.slice a n c) (.slice none n' c')).run Try.prog w = .ok (.bool a.isNone) w := Lib.run_eql_slice_nil w _ _ a n c n' c' Try.underlying25
theorem nil26 (w : World) (a : Option Addr) (n c n' c' : Nat) : (binOp .eql 26 (.slice a n c) (.slice none n' c')).run Try.prog w = .ok (.bool a.isNone) w := Lib.run_eql_slice_nil w _ _ a n c n' c' Try.underlying26
set_option maxHeartbeats 1000000 in
theorem clone15_some (x : Addr) (m cap : Nat) (z : Nat → ByteArray) (w : World) (hm : m ≤ 65536) (h : ArgS w (some x) m z) :
    Calls Try.prog 15 #[.slice (some x) m cap] w fun e w' => ∃ ad' cap', e = .returned (.slice ad' m cap') ∧ ArgS w' ad' m z ∧ Below w.heap.size w w' := by
  have hmk := make25 m hm w
  obtain ⟨f0, hR⟩ := Row.made w #[.string ⟨#[]⟩] 9 m
  have hb0 : Below w.heap.size w (w.alloc (.cells (madeCells #[.string ⟨#[]⟩] m) 9)) := (Below.refl _ _).alloc (Nat.le_refl _) _
  have hnl := nil25
  go_enter Try.func15, Try.ntmps15
  go_wp2
  generalize w.alloc (.cells (madeCells #[.string ⟨#[]⟩] m) 9) = w1 at hR hb0 ⊢
  clear hmk hnl
  go_loopw [4] (fun s wr => ∃ (i : Nat) (f : Nat → Value), i ≤ m ∧ s = .int .i64 i ∧ Row wr w.heap.size 9 m f ∧ (∀ j, j < i → f j = .string (z j)) ∧ Below w.heap.size w wr) (fun s _ => m - (intOf s).toNat)
  case atStart => exact ⟨0, f0, Nat.zero_le _, rfl, hR, fun j hj => by omega, hb0⟩
  case round =>
    clear hR hb0
    obtain ⟨i, f, hi, rfl, hR, hf, hb⟩ := hrel
    by_cases hlt : i < m
    · obtain ⟨b, o, hxo, x1, x2, x3⟩ := h i hlt
      obtain rfl := Option.some.inj hxo
      replace x1 := (hb.cell (p := ⟨b, o + i, none⟩) x2).trans x1
      have y1 := hR.cell hlt
      have y2 := hR.free i
      have l0 : (0 : Int) ≤ (i : Int) := by omega
      have l1 : (i : Int) < (m : Int) := by omega
      clear h
      go_wp2
      go_roundw
      case rel =>
        refine ⟨i + 1, _, by omega, by go_num, hR.set hlt _, fun j hj => ?_, hb.setCell (Nat.le_refl _) _⟩
        by_cases e : j = i
        · simp [e]
        · simp only [if_neg e]; exact hf j (by omega)
      case measure => simp [intOf]; omega
    · have e : i = m := by omega
      subst e
      go_wp2
      go_ret
      refine ⟨_, _, rfl, fun j hj => ⟨w.heap.size, 0, rfl, ?_, hR.lt, ?_⟩, hb⟩
      · rw [Nat.zero_add, hR.cell hj, hf j hj]
      · obtain ⟨_, _, _, _, _, x3⟩ := h j hj
        exact x3

theorem clone15 (ad : Option Addr) (m cap : Nat) (z : Nat → ByteArray) (w : World) (hm : m ≤ 65536) (h : ArgS w ad m z) (hn : ad = none → m = 0 ∧ cap = 0) :
    Calls Try.prog 15 #[.slice ad m cap] w fun e w' => ∃ ad' cap', e = .returned (.slice ad' m cap') ∧ ArgS w' ad' m z ∧ Below w.heap.size w w' := by
  cases ad with
  | some x => exact clone15_some x m cap z w hm h
  | none =>
    obtain ⟨rfl, rfl⟩ := hn rfl
    have hnl := nil25
    go_enter Try.func15, Try.ntmps15
    go_wp2
    go_ret
    exact ⟨none, ⟨0, rfl⟩, h, Below.refl _ _⟩

set_option maxHeartbeats 1000000 in
theorem clone16_some (x : Addr) (m cap : Nat) (z : Nat → Bool) (w : World) (hm : m ≤ 65536) (h : ArgB w (some x) m z) :
    Calls Try.prog 16 #[.slice (some x) m cap] w fun e w' => ∃ ad' cap', e = .returned (.slice ad' m cap') ∧ ArgB w' ad' m z ∧ Below w.heap.size w w' := by
  have hmk := make26 m hm w
  obtain ⟨f0, hR⟩ := Row.made w #[.bool false] 4 m
  have hb0 : Below w.heap.size w (w.alloc (.cells (madeCells #[.bool false] m) 4)) := (Below.refl _ _).alloc (Nat.le_refl _) _
  have hnl := nil26
  go_enter Try.func16, Try.ntmps16
  go_wp2
  generalize w.alloc (.cells (madeCells #[.bool false] m) 4) = w1 at hR hb0 ⊢
  clear hmk hnl
  go_loopw [4] (fun s wr => ∃ (i : Nat) (f : Nat → Value), i ≤ m ∧ s = .int .i64 i ∧ Row wr w.heap.size 4 m f ∧ (∀ j, j < i → f j = .bool (z j)) ∧ Below w.heap.size w wr) (fun s _ => m - (intOf s).toNat)
  case atStart => exact ⟨0, f0, Nat.zero_le _, rfl, hR, fun j hj => by omega, hb0⟩
  case round =>
    clear hR hb0
    obtain ⟨i, f, hi, rfl, hR, hf, hb⟩ := hrel
    by_cases hlt : i < m
    · obtain ⟨b, o, hxo, x1, x2⟩ := h i hlt
      obtain rfl := Option.some.inj hxo
      replace x1 := (hb.cell (p := ⟨b, o + i, none⟩) x2).trans x1
      have y1 := hR.cell hlt
      have y2 := hR.free i
      have l0 : (0 : Int) ≤ (i : Int) := by omega
      have l1 : (i : Int) < (m : Int) := by omega
      clear h
      go_wp2
      go_roundw
      case rel =>
        refine ⟨i + 1, _, by omega, by go_num, hR.set hlt _, fun j hj => ?_, hb.setCell (Nat.le_refl _) _⟩
        by_cases e : j = i
        · simp [e]
        · simp only [if_neg e]; exact hf j (by omega)
      case measure => simp [intOf]; omega
    · have e : i = m := by omega
      subst e
      go_wp2
      go_ret
      refine ⟨_, _, rfl, fun j hj => ⟨w.heap.size, 0, rfl, ?_, hR.lt⟩, hb⟩
      rw [Nat.zero_add, hR.cell hj, hf j hj]

theorem clone16 (ad : Option Addr) (m cap : Nat) (z : Nat → Bool) (w : World) (hm : m ≤ 65536) (h : ArgB w ad m z) (hn : ad = none → m = 0 ∧ cap = 0) :
    Calls Try.prog 16 #[.slice ad m cap] w fun e w' => ∃ ad' cap', e = .returned (.slice ad' m cap') ∧ ArgB w' ad' m z ∧ Below w.heap.size w w' := by
  cases ad with
  | some x => exact clone16_some x m cap z w hm h
  | none =>
    obtain ⟨rfl, rfl⟩ := hn rfl
    have hnl := nil26
    go_enter Try.func16, Try.ntmps16
    go_wp2
    go_ret
    exact ⟨none, ⟨0, rfl⟩, h, Below.refl _ _⟩
end Go.Proofs.Qxb6600226a
