/-
  Own work: zzChore, zzOverrides.
-/
import Derived.Test.Qxb6600226aRw
namespace Go.Proofs.Qxb6600226a
open Go.RowKit

theorem count34 (a b : Option Addr) (m k c d : Nat) (w : World) :
    Calls Try.prog 34 #[.slice a m c, .slice b k d] w fun e w' => w = w' ∧ e = .returned (.int .i64 (min m k : Nat)) := by
  by_cases h : k < m
  · have e : min m k = k := by omega
    rw [e]
    go_enter Try.func34, Try.ntmps34
    go_wp2
    go_ret
    exact ⟨rfl, rfl⟩
  · have e : min m k = m := by omega
    rw [e]
    go_enter Try.func34, Try.ntmps34
    go_wp2
    go_ret
    exact ⟨rfl, rfl⟩

/-- a row of pairs of strings -/
def VarRow (w : World) (b m : Nat) (x y : Nat → ByteArray) : Prop := ∃ f, Row w b 42 (m * 2) f ∧ ∀ i, i < m → f (i * 2) = .string (x i) ∧ f (i * 2 + 1) = .string (y i)
/-- a row of arguments -/
def ArgRow (w : World) (b m : Nat) (x y : Nat → ByteArray) (z : Nat → Bool) : Prop := ∃ f, Row w b 53 (m * 3) f ∧ ∀ i, i < m → f (i * 3) = .string (x i) ∧ f (i * 3 + 1) = .string (y i) ∧ f (i * 3 + 2) = .bool (z i)

theorem VarRow.cells {w : World} {b m : Nat} {x y : Nat → ByteArray} (h : VarRow w b m x y) {i : Nat} (hi : i < m) : w.cell? ⟨b, i * 2, none⟩ = some (.string (x i)) ∧ w.cell? ⟨b, i * 2 + 1, none⟩ = some (.string (y i)) := by
  obtain ⟨f, h1, h2⟩ := h
  obtain ⟨e1, e2⟩ := h2 i hi
  exact ⟨by rw [h1.cell (by omega), e1], by rw [h1.cell (by omega), e2]⟩
theorem ArgRow.cells {w : World} {b m : Nat} {x y : Nat → ByteArray} {z : Nat → Bool} (h : ArgRow w b m x y z) {i : Nat} (hi : i < m) : w.cell? ⟨b, i * 3, none⟩ = some (.string (x i)) ∧ w.cell? ⟨b, i * 3 + 1, none⟩ = some (.string (y i)) ∧ w.cell? ⟨b, i * 3 + 2, none⟩ = some (.bool (z i)) := by
  obtain ⟨f, h1, h2⟩ := h
  obtain ⟨e1, e2, e3⟩ := h2 i hi
  exact ⟨by rw [h1.cell (by omega), e1], by rw [h1.cell (by omega), e2], by rw [h1.cell (by omega), e3]⟩
theorem VarRow.lt {w : World} {b m : Nat} {x y : Nat → ByteArray} (h : VarRow w b m x y) : b < w.heap.size := by obtain ⟨f, h1, h2⟩ := h; exact h1.lt
theorem ArgRow.lt {w : World} {b m : Nat} {x y : Nat → ByteArray} {z : Nat → Bool} (h : ArgRow w b m x y z) : b < w.heap.size := by obtain ⟨f, h1, h2⟩ := h; exact h1.lt
theorem VarRow.of_block {w w' : World} {b m : Nat} {x y : Nat → ByteArray} (h : VarRow w b m x y) (e : w'.heap[b]? = w.heap[b]?) : VarRow w' b m x y := by obtain ⟨f, h1, h2⟩ := h; exact ⟨f, h1.of_block e, h2⟩
theorem ArgRow.of_block {w w' : World} {b m : Nat} {x y : Nat → ByteArray} {z : Nat → Bool} (h : ArgRow w b m x y z) (e : w'.heap[b]? = w.heap[b]?) : ArgRow w' b m x y z := by obtain ⟨f, h1, h2⟩ := h; exact ⟨f, h1.of_block e, h2⟩

theorem bset {B b o : Nat} {a w : World} {u : Value} (hb : B ≤ b) (h : Below B a w) : Below B a (w.setCell ⟨b, o, none⟩ u) := h.setCell hb u

set_option maxRecDepth 100000 in
set_option maxHeartbeats 4000000 in
theorem over18 (a b : Option Addr) (m k c d : Nat) (x y : Nat → ByteArray) (w : World) (hm : m ≤ 65536) (h1 : ArgS w a m x) (h2 : ArgS w b k y) :
    Calls Try.prog 18 #[.slice a m c, .slice b k d] w fun e w' => e = .returned (.slice (some ⟨w.heap.size, 0, none⟩) (min m k) (min m k)) ∧ VarRow w' w.heap.size (min m k) x y ∧ Below w.heap.size w w' := by
  have hc := count34 a b m k c d w
  have hN1 : min m k ≤ m := Nat.min_le_left _ _
  have hN2 : min m k ≤ k := Nat.min_le_right _ _
  generalize min m k = N at hc hN1 hN2 ⊢
  have hmk := make33 N (by omega) w
  obtain ⟨f0, hR⟩ := Row.made w #[.string ⟨#[]⟩, .string ⟨#[]⟩] 42 (N * 2)
  have hb0 : Below w.heap.size w (w.alloc (.cells (madeCells #[.string ⟨#[]⟩, .string ⟨#[]⟩] (N * 2)) 42)) := (Below.refl _ _).alloc (Nat.le_refl _) _
  generalize hB : w.heap.size = B at hR hb0 ⊢
  have HB : Hid (w.heap.size = B) := hB
  go_enter Try.func18, Try.ntmps18
  go_wp2_with (go_at_call 34; refine hc.mono ?_; rintro e w' ⟨rfl, rfl⟩)
  generalize w.alloc (.cells (madeCells #[.string ⟨#[]⟩, .string ⟨#[]⟩] (N * 2)) 42) = w1 at hR hb0 ⊢
  clear hmk hc hB
  go_loopw [7] (fun s wr => ∃ (i : Nat) (f : Nat → Value), i ≤ N ∧ s = .int .i64 i ∧ Row wr B 42 (N * 2) f ∧ (∀ j, j < i → f (j * 2) = .string (x j) ∧ f (j * 2 + 1) = .string (y j)) ∧ Below B w wr) (fun s _ => N - (intOf s).toNat)
  case atStart => exact ⟨0, f0, Nat.zero_le _, rfl, hR, fun j hj => by omega, hb0⟩
  case round =>
    clear hR hb0
    obtain ⟨i, f, hi, rfl, hR, hf, hb⟩ := hrel
    by_cases hlt : i < N
    · obtain ⟨b1, o1, rfl, x1, y1, t1⟩ := h1 i (by omega)
      obtain ⟨b2, o2, rfl, x2, y2, t2⟩ := h2 i (by omega)
      have HH := HB.out
      have y1' : b1 < B := by omega
      have y2' : b2 < B := by omega
      clear HH t1 t2 h1 h2
      have l0 : (0 : Int) ≤ (i : Int) := by omega
      have l1 : (i : Int) < (N : Int) := by omega
      have l2 : (i : Int) < (m : Int) := by omega
      have l3 : (i : Int) < (k : Int) := by omega
      have r1 := hR.cell (j := i * 2) (by omega)
      have r2 := hR.cell (j := i * 2 + 1) (by omega)
      have hfz := fun j => hR.free j
      have hR' := (hR.set (j := i * 2) (by omega) (.string (x i))).set (j := i * 2 + 1) (by omega) (.string (y i))
      have hf' : ∀ j, j < i + 1 → (fun q => if q = i * 2 + 1 then Value.string (y i) else (fun q => if q = i * 2 then Value.string (x i) else f q) q) (j * 2) = .string (x j) ∧ (fun q => if q = i * 2 + 1 then Value.string (y i) else (fun q => if q = i * 2 then Value.string (x i) else f q) q) (j * 2 + 1) = .string (y j) := fun j hj => by
        by_cases e : j = i
        · subst e
          dsimp only
          rw [if_neg (by omega), if_pos rfl, if_pos rfl]
          exact ⟨rfl, rfl⟩
        · dsimp only
          rw [if_neg (by omega), if_neg (by omega), if_neg (by omega), if_neg (by omega)]
          exact hf j (by omega)
      have HF : Hid (∀ j, j < i + 1 → (fun q => if q = i * 2 + 1 then Value.string (y i) else (fun q => if q = i * 2 then Value.string (x i) else f q) q) (j * 2) = .string (x j) ∧ (fun q => if q = i * 2 + 1 then Value.string (y i) else (fun q => if q = i * 2 then Value.string (x i) else f q) q) (j * 2 + 1) = .string (y j)) := hf'
      clear hf hf'
      have HK : Hid (∀ w', Below B wr w' → w'.cell? ⟨b1, o1 + i, none⟩ = some (.string (x i)) ∧ w'.cell? ⟨b2, o2 + i, none⟩ = some (.string (y i))) := fun w' h => ⟨(h.cell (p := ⟨b1, o1 + i, none⟩) y1').trans ((hb.cell (p := ⟨b1, o1 + i, none⟩) y1').trans x1), (h.cell (p := ⟨b2, o2 + i, none⟩) y2').trans ((hb.cell (p := ⟨b2, o2 + i, none⟩) y2').trans x2)⟩
      clear x1 x2
      go_wp2
      go_region_held3 (fun w' => w'.cell? ⟨b1, o1 + i, none⟩ = some (.string (x i)) ∧ w'.cell? ⟨b2, o2 + i, none⟩ = some (.string (y i)))
        (with_reducible (refine HK.out _ ?_; repeat (first | exact Below.refl _ _ | apply Below.drew | refine bset (Nat.le_refl _) ?_))) (fail)
      go_wp2
      go_roundw
      case rel =>
        refine ⟨i + 1, _, by omega, by go_num, hR'.drew, HF.out, ?_⟩
        repeat (with_reducible first | exact hb | apply Below.drew | refine bset (Nat.le_refl _) ?_)
      case measure => simp [intOf]; omega
    · have e : i = N := by omega
      subst e
      go_wp2
      go_ret
      exact ⟨rfl, ⟨f, hR, hf⟩, hb⟩
end Go.Proofs.Qxb6600226a
