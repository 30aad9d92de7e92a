import Derived.Test.Qxb6000427aRows
import Derived.Test.Qxb6000427aKit
import Derived.WalkKit
import Derived.ProofKit
import Derived.Below
import Derived.RegionTactic
import Derived.Deep.RegionHeld3
import Derived.Laws.IdiomStrings
namespace Go.Proofs.Qxb6000427a
open Go.RowKit

theorem Try.info46 : (Try.prog.info? 46).map (fun i => (i.zero, i.size, i.bytes)) = some (some (.agg #[.int .i64 0, .int .i64 0, .string ByteArray.empty, .string ByteArray.empty, .string ByteArray.empty, .int .i64 0]), 6, 72) := by kernel_rfl

/-- THE OPERATIONS lie from block B on, six cells each; the first k have been laid. -/
def Built (w : World) (B n k : Nat) (z0 z1 : List Int) (z2 : List UInt8) : Prop :=
  ∃ cur, w.heap[B]? = some (.cells cur 46 (0, 0)) ∧ cur.size = n * 6 ∧ ∀ i, i < k →
    cur[i * 6]? = some (.int .i64 (z0.getD i 0)) ∧ cur[i * 6 + 1]? = some (.int .i64 (z1.getD i 0)) ∧ cur[i * 6 + 2]? = some (.string ⟨#[]⟩) ∧
    cur[i * 6 + 3]? = some (encS (z2.getD i 0)) ∧ cur[i * 6 + 4]? = some (.string ⟨#[]⟩) ∧ cur[i * 6 + 5]? = some (.int .i64 0)

theorem Built.there {w : World} {B n k : Nat} {z0 z1 : List Int} {z2 : List UInt8} (h : Built w B n k z0 z1 z2) {j : Nat} (hj : j < n * 6) : ∃ v, w.cell? ⟨B, j, none⟩ = some v := by
  obtain ⟨cur, hb, hs, _⟩ := h
  refine ⟨cur[j]'(by omega), ?_⟩
  rw [cell_of_row w B j cur 46 (0, 0) hb]
  simp [hs, hj]

theorem Built.free {w : World} {B n k : Nat} {z0 z1 : List Int} {z2 : List UInt8} (h : Built w B n k z0 z1 z2) (j : Nat) : w.frozen? ⟨B, j, none⟩ = false := by
  obtain ⟨cur, hb, _⟩ := h
  exact frozen_of_row w B j cur 46 hb

theorem Built.drew {w : World} {B n k : Nat} {z0 z1 : List Int} {z2 : List UInt8} (h : Built w B n k z0 z1 z2) : Built w.drew B n k z0 z1 z2 := h

/-- six cells of an array set -/
def set6 (cur : Array Value) (o : Nat) (v0 v1 v2 v3 v4 v5 : Value) : Array Value :=
  (((((cur.setIfInBounds o v0).setIfInBounds (o + 1) v1).setIfInBounds (o + 2) v2).setIfInBounds (o + 3) v3).setIfInBounds (o + 4) v4).setIfInBounds (o + 5) v5

theorem size_set6 (cur : Array Value) (o : Nat) (v0 v1 v2 v3 v4 v5 : Value) : (set6 cur o v0 v1 v2 v3 v4 v5).size = cur.size := by simp [set6]

theorem set6_other (cur : Array Value) (o : Nat) (v0 v1 v2 v3 v4 v5 : Value) (j : Nat) (h : j < o ∨ o + 5 < j) : (set6 cur o v0 v1 v2 v3 v4 v5)[j]? = cur[j]? := by
  unfold set6
  simp only [Array.getElem?_setIfInBounds]
  rw [if_neg (by omega), if_neg (by omega), if_neg (by omega), if_neg (by omega), if_neg (by omega), if_neg (by omega)]

theorem set6_at (cur : Array Value) (o : Nat) (v0 v1 v2 v3 v4 v5 : Value) (h : o + 5 < cur.size) :
    (set6 cur o v0 v1 v2 v3 v4 v5)[o]? = some v0 ∧ (set6 cur o v0 v1 v2 v3 v4 v5)[o + 1]? = some v1 ∧ (set6 cur o v0 v1 v2 v3 v4 v5)[o + 2]? = some v2 ∧
    (set6 cur o v0 v1 v2 v3 v4 v5)[o + 3]? = some v3 ∧ (set6 cur o v0 v1 v2 v3 v4 v5)[o + 4]? = some v4 ∧ (set6 cur o v0 v1 v2 v3 v4 v5)[o + 5]? = some v5 := by
  unfold set6
  simp only [Array.getElem?_setIfInBounds, Array.size_setIfInBounds]
  refine ⟨?_, ?_, ?_, ?_, ?_, ?_⟩
  · rw [if_neg (by omega), if_neg (by omega), if_neg (by omega), if_neg (by omega), if_neg (by omega), if_pos trivial, if_pos (by omega)]
  · rw [if_neg (by omega), if_neg (by omega), if_neg (by omega), if_neg (by omega), if_pos trivial, if_pos (by omega)]
  · rw [if_neg (by omega), if_neg (by omega), if_neg (by omega), if_pos trivial, if_pos (by omega)]
  · rw [if_neg (by omega), if_neg (by omega), if_pos trivial, if_pos (by omega)]
  · rw [if_neg (by omega), if_pos trivial, if_pos (by omega)]
  · rw [if_pos trivial, if_pos (by omega)]

theorem heap_set6 (w : World) (B o : Nat) (cur : Array Value) (t : TypeId) (v0 v1 v2 v3 v4 v5 : Value) (hb : w.heap[B]? = some (.cells cur t (0, 0))) :
    ((((((w.setCell ⟨B, o, none⟩ v0).setCell ⟨B, o + 1, none⟩ v1).setCell ⟨B, o + 2, none⟩ v2).setCell ⟨B, o + 3, none⟩ v3).setCell ⟨B, o + 4, none⟩ v4).setCell ⟨B, o + 5, none⟩ v5).heap[B]? = some (.cells (set6 cur o v0 v1 v2 v3 v4 v5) t (0, 0)) :=
  heap_setCell_same _ B (o + 5) _ t v5 (heap_setCell_same _ B (o + 4) _ t v4 (heap_setCell_same _ B (o + 3) _ t v3 (heap_setCell_same _ B (o + 2) _ t v2 (heap_setCell_same _ B (o + 1) _ t v1 (heap_setCell_same w B o cur t v0 hb)))))

theorem Built.step {w : World} {B n k : Nat} {z0 z1 : List Int} {z2 : List UInt8} (h : Built w B n k z0 z1 z2) (hk : k < n) :
    Built ((((((w.setCell ⟨B, k * 6, none⟩ (.int .i64 (z0.getD k 0))).setCell ⟨B, k * 6 + 1, none⟩ (.int .i64 (z1.getD k 0))).setCell ⟨B, k * 6 + 2, none⟩ (.string ⟨#[]⟩)).setCell ⟨B, k * 6 + 3, none⟩ (.string ⟨#[z2.getD k 0]⟩)).setCell ⟨B, k * 6 + 4, none⟩ (.string ⟨#[]⟩)).setCell ⟨B, k * 6 + 5, none⟩ (.int .i64 0)) B n (k + 1) z0 z1 z2 := by
  obtain ⟨cur, hb, hs, hc⟩ := h
  refine ⟨_, heap_set6 w B (k * 6) cur 46 _ _ _ _ _ _ hb, (size_set6 _ _ _ _ _ _ _ _).trans hs, fun i hi => ?_⟩
  have hk6 : k * 6 + 5 < cur.size := by omega
  by_cases e : i = k
  · subst e
    exact set6_at cur (i * 6) _ _ _ _ _ _ hk6
  · have hik : i < k := by omega
    obtain ⟨q0, q1, q2, q3, q4, q5⟩ := hc i hik
    exact ⟨(set6_other _ _ _ _ _ _ _ _ _ (.inl (by omega))).trans q0, (set6_other _ _ _ _ _ _ _ _ _ (.inl (by omega))).trans q1, (set6_other _ _ _ _ _ _ _ _ _ (.inl (by omega))).trans q2,
      (set6_other _ _ _ _ _ _ _ _ _ (.inl (by omega))).trans q3, (set6_other _ _ _ _ _ _ _ _ _ (.inl (by omega))).trans q4, (set6_other _ _ _ _ _ _ _ _ _ (.inl (by omega))).trans q5⟩

theorem conv_one {W : World} {b o c : Nat} {u : UInt8} (h : W.cell? ⟨b, o, none⟩ = some (.int .u8 u.toNat)) :
    Sem.run Try.prog (convert 23 9 (Value.slice (some ⟨b, o, none⟩) 1 c)) W = .ok (.string ⟨#[u]⟩) W := by
  refine run_convert_bytes_back (P := Try.prog) W 23 9 5 ⟨b, o, none⟩ c [u] Try.underlying23 Try.underlying5 Try.underlying9 (fun j hj => ?_)
  have : j = 0 := by simpa using hj
  subst this
  simpa [Addr.add] using h

theorem bset {B o : Nat} {a w : World} {u : Value} (h : Below B a w) : Below B a (w.setCell ⟨B, o, none⟩ u) := h.setCell (Nat.le_refl _) u

theorem S_mk {P : Program} {B b0 b1 b2 p0 p1 p2 : Nat} {x0 x1 x2 v : Value} {c : Sem Value} {wr w' : World} (hB0 : b0 < B) (hB1 : b1 < B) (hB2 : b2 < B)
   (e0 : wr.cell? ⟨b0, p0, none⟩ = some x0) (e1 : wr.cell? ⟨b1, p1, none⟩ = some x1) (e2 : wr.cell? ⟨b2, p2, none⟩ = some x2)
   (hconv : ∀ W : World, W.cell? ⟨b2, p2, none⟩ = some x2 → Sem.run P c W = .ok v W) (h : Below B wr w') :
   w'.cell? ⟨b0, p0, none⟩ = some x0 ∧ w'.cell? ⟨b1, p1, none⟩ = some x1 ∧ w'.cell? ⟨b2, p2, none⟩ = some x2 ∧ Sem.run P c w' = .ok v w' :=
  ⟨(h.cell hB0).trans e0, (h.cell hB1).trans e1, (h.cell hB2).trans e2, hconv _ ((h.cell hB2).trans e2)⟩

set_option maxHeartbeats 1000000 in
theorem build_pos (b0 o0 b1 o1 b2 o2 n c0 c1 c2 : Nat) (z0 z1 : List Int) (z2 : List UInt8) (w : World) (hn : 0 < n) (hN : n ≤ 4096) (hc2 : n ≤ c2)
   (h0 : ∀ i, i < n → w.cell? ⟨b0, o0 + i, none⟩ = some (.int .i64 (z0.getD i 0)))
   (h1 : ∀ i, i < n → w.cell? ⟨b1, o1 + i, none⟩ = some (.int .i64 (z1.getD i 0)))
   (h2 : ∀ i, i < n → w.cell? ⟨b2, o2 + i, none⟩ = some (.int .u8 (z2.getD i 0).toNat)) :
    Calls Try.prog 12 #[.slice (some ⟨b0, o0, none⟩) n c0, .slice (some ⟨b1, o1, none⟩) n c1, .slice (some ⟨b2, o2, none⟩) n c2] w fun e w' => e = .returned (.slice (some ⟨w.heap.size, 0, none⟩) n n) ∧ Built w' w.heap.size n n z0 z1 z2 ∧ Below w.heap.size w w' := by
  obtain ⟨i0, hi, hz0, hz1, hz2⟩ := info_parts Try.info46
  have hB0 : b0 < w.heap.size := World.block_lt_of_cell? w ⟨b0, o0 + 0, none⟩ (h0 0 hn)
  have hB1 : b1 < w.heap.size := World.block_lt_of_cell? w ⟨b1, o1 + 0, none⟩ (h1 0 hn)
  have hB2 : b2 < w.heap.size := World.block_lt_of_cell? w ⟨b2, o2 + 0, none⟩ (h2 0 hn)
  go_enter Try.func12, Try.ntmps12
  go_wp2_with (at_make; refine wpList_make_full _ rfl _ _ 25 rfl w.heap.size 46 i0 _ 6 Try.underlying25 hi hz0 hz1 .i64 .i64 _ _ n rfl rfl rfl rfl (by rw [hz2]; omega) (by unfold maxLen; omega) (Nat.le_refl _) ?_; intro w1 hown1 hgrow1)
  have hbel1 : Below w.heap.size w w1 := (Below.refl _ _).grown hgrow1 (Nat.le_refl _) (fun k hk => by cases hk)
  have hbuilt1 : Built w1 w.heap.size n 0 z0 z1 z2 := by
    rcases hown1.2 with ⟨h', _⟩ | ⟨g, cap, cur, h', _, hg, _, _, hsz, _⟩
    · simp at h'
    · simp only [Value.slice.injEq, Option.some.injEq, Addr.mk.injEq, and_true, true_and] at h'
      obtain ⟨rfl, rfl⟩ := h'
      exact ⟨cur, hg, hsz, fun i hi => by omega⟩
  clear hown1 hgrow1 hi hz0 hz1 hz2
  go_loopw [8] (fun i wr => ∃ k : Nat, k ≤ n ∧ i = .int .i64 k ∧ Built wr w.heap.size n k z0 z1 z2 ∧ Below w.heap.size w wr) (fun i _ => n - (intOf i).toNat)
  case atStart => exact ⟨0, Nat.zero_le _, rfl, hbuilt1, hbel1⟩
  case round =>
    obtain ⟨k, hk, rfl, hown, hbel⟩ := hrel
    clear hbuilt1 hbel1
    by_cases hlt : k < n
    · have e0 : wr.cell? ⟨b0, o0 + k, none⟩ = some (.int .i64 (z0.getD k 0)) := (hbel.cell hB0).trans (h0 k hlt)
      have e1 : wr.cell? ⟨b1, o1 + k, none⟩ = some (.int .i64 (z1.getD k 0)) := (hbel.cell hB1).trans (h1 k hlt)
      have e2 : wr.cell? ⟨b2, o2 + k, none⟩ = some (.int .u8 (z2.getD k 0).toNat) := (hbel.cell hB2).trans (h2 k hlt)
      obtain ⟨v0, g0⟩ := hown.there (j := k * 6) (by omega)
      obtain ⟨v1, g1⟩ := hown.there (j := k * 6 + 1) (by omega)
      obtain ⟨v2, g2⟩ := hown.there (j := k * 6 + 2) (by omega)
      obtain ⟨v3, g3⟩ := hown.there (j := k * 6 + 3) (by omega)
      obtain ⟨v4, g4⟩ := hown.there (j := k * 6 + 4) (by omega)
      obtain ⟨v5, g5⟩ := hown.there (j := k * 6 + 5) (by omega)
      have hfz := fun j => hown.free j
      have l0 : (0 : Int) ≤ (k : Int) := by omega
      have l1 : (k : Int) < (n : Int) := by omega
      have l2 : (k : Int) + 1 ≤ (c2 : Int) := by omega
      have l3 : IntKind.i64.wrap ((k : Int) + 1) = (k : Int) + 1 := by rw [IntKind.wrap_i64]; omega
      have l4 : ¬ c2 = k := by omega
      have l5 : (k : Int) ≤ (k : Int) + 1 := by omega
      have l6 : (0 : Int) ≤ (k : Int) + 1 := by omega
      have hconv : ∀ W : World, W.cell? ⟨b2, o2 + k, none⟩ = some (.int .u8 (z2.getD k 0).toNat) → Sem.run Try.prog (convert 23 9 (Value.slice (some { block := b2, off := o2 + k }) 1 (c2 - k))) W = .ok (.string ⟨#[z2.getD k 0]⟩) W := fun W hW => conv_one hW
      clear h0 h1 h2
      go_wp2
      go_region_held3 (fun w' => w'.cell? ⟨b0, o0 + k, none⟩ = some (.int .i64 (z0.getD k 0)) ∧ w'.cell? ⟨b1, o1 + k, none⟩ = some (.int .i64 (z1.getD k 0)) ∧ w'.cell? ⟨b2, o2 + k, none⟩ = some (.int .u8 (z2.getD k 0).toNat) ∧ Sem.run Try.prog (convert 23 9 (Value.slice (some { block := b2, off := o2 + k }) 1 (c2 - k))) w' = .ok (.string ⟨#[z2.getD k 0]⟩) w') (first | (with_reducible refine S_mk hB0 hB1 hB2 e0 e1 e2 hconv ?_; repeat (with_reducible first | exact Below.refl _ _ | apply Below.drew | refine bset ?_)) | go_keep) (fail)
      go_wp2
      clear g0 g1 g2 g3 g4 g5 hfz e0 e1 e2 hconv
      go_roundw
      case rel =>
        refine ⟨k + 1, by omega, by go_num, ?_, ?_⟩
        · exact (hown.step hlt).drew
        · repeat (with_reducible first | exact hbel | apply Below.drew | refine bset ?_)
      case measure => simp [intOf]; omega
    · have e : k = n := by omega
      subst e
      go_wp2
      go_ret
      exact ⟨rfl, hown, hbel⟩
end Go.Proofs.Qxb6000427a
