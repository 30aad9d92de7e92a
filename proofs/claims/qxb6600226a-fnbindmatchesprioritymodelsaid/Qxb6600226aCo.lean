/-
  Own work: zzChore.
-/
import Derived.Test.Qxb6600226aCh
namespace Go.Proofs.Qxb6600226a
open Go.RowKit

def dfOf (D : Nat) (df : Nat → ByteArray) (i : Nat) : ByteArray := if i < D then df i else ⟨#[]⟩
def hdOf (D : Nat) (hd : Nat → Bool) (i : Nat) : Bool := if i < D then hd i else false

theorem three {f : Nat → Value} {x y : Nat → ByteArray} {z : Nat → Bool} {i : Nat} (hf : ∀ j, j < i → f (j * 3) = .string (x j) ∧ f (j * 3 + 1) = .string (y j) ∧ f (j * 3 + 2) = .bool (z j)) :
    ∀ j, j < i + 1 → (fun q => if q = i * 3 + 2 then Value.bool (z i) else (fun q => if q = i * 3 + 1 then Value.string (y i) else (fun q => if q = i * 3 then Value.string (x i) else f q) q) q) (j * 3) = .string (x j) ∧
      (fun q => if q = i * 3 + 2 then Value.bool (z i) else (fun q => if q = i * 3 + 1 then Value.string (y i) else (fun q => if q = i * 3 then Value.string (x i) else f q) q) q) (j * 3 + 1) = .string (y j) ∧
      (fun q => if q = i * 3 + 2 then Value.bool (z i) else (fun q => if q = i * 3 + 1 then Value.string (y i) else (fun q => if q = i * 3 then Value.string (x i) else f q) q) q) (j * 3 + 2) = .bool (z j) := fun j hj => by
  by_cases e : j = i
  · subst e
    dsimp only
    rw [if_neg (by omega), if_neg (by omega), if_pos rfl, if_neg (by omega), if_pos rfl, if_pos rfl]
    exact ⟨rfl, rfl, rfl⟩
  · dsimp only
    rw [if_neg (by omega), if_neg (by omega), if_neg (by omega), if_neg (by omega), if_neg (by omega), if_neg (by omega), if_neg (by omega), if_neg (by omega), if_neg (by omega)]
    exact hf j (by omega)

set_option maxRecDepth 100000 in
set_option maxHeartbeats 4000000 in
theorem chore17 (a b c : Option Addr) (n D E p q r : Nat) (nm df : Nat → ByteArray) (hd : Nat → Bool) (w : World) (hn : n ≤ 4096) (h1 : ArgS w a n nm) (h2 : ArgS w b D df) (h3 : ArgB w c E hd) :
    Calls Try.prog 17 #[.slice a n p, .slice b D q, .slice c E r] w fun e w' => ∃ C, e = .returned (.pointer (some ⟨C, 0, none⟩)) ∧ w'.cell? ⟨C, 4, none⟩ = some (.slice (some ⟨w.heap.size, 0, none⟩) n n) ∧ C < w'.heap.size ∧
      ArgRow w' w.heap.size n nm (dfOf D df) (hdOf E hd) ∧ Below w.heap.size w w' := by
  have hmk := make51 n (by omega) w
  obtain ⟨f0, hR⟩ := Row.made w #[.string ⟨#[]⟩, .string ⟨#[]⟩, .bool false] 53 (n * 3)
  have hb0 : Below w.heap.size w (w.alloc (.cells (madeCells #[.string ⟨#[]⟩, .string ⟨#[]⟩, .bool false] (n * 3)) 53)) := (Below.refl _ _).alloc (Nat.le_refl _) _
  generalize hB : w.heap.size = B at hR hb0 ⊢
  have HB : Hid (w.heap.size = B) := hB
  go_enter Try.func17, Try.ntmps17
  go_wp2
  generalize w.alloc (.cells (madeCells #[.string ⟨#[]⟩, .string ⟨#[]⟩, .bool false] (n * 3)) 53) = w1 at hR hb0 ⊢
  clear hmk hB
  go_loopw [8] (fun s wr => ∃ (i : Nat) (f : Nat → Value), i ≤ n ∧ s = .int .i64 i ∧ Row wr B 53 (n * 3) f ∧ (∀ j, j < i → f (j * 3) = .string (nm j) ∧ f (j * 3 + 1) = .string (dfOf D df j) ∧ f (j * 3 + 2) = .bool (hdOf E hd j)) ∧ Below B w wr) (fun s _ => n - (intOf s).toNat)
  case atStart => exact ⟨0, f0, Nat.zero_le _, rfl, hR, fun j hj => by omega, hb0⟩
  case round =>
    clear hR hb0
    obtain ⟨i, f, hi, rfl, hR, hf, hb⟩ := hrel
    by_cases hlt : i < n
    · obtain ⟨b1, o1, rfl, x1, y1, t1⟩ := h1 i hlt
      have HH := HB.out
      replace x1 := (hb.cell (p := ⟨b1, o1 + i, none⟩) (by show b1 < B; omega)).trans x1
      have HF : Hid (∀ j, j < i + 1 → _) := three hf
      have l0 : (0 : Int) ≤ (i : Int) := by omega
      have l1 : (i : Int) < (n : Int) := by omega
      have r1 := hR.cell (j := i * 3) (by omega)
      have r2 := hR.cell (j := i * 3 + 1) (by omega)
      have r3 := hR.cell (j := i * 3 + 2) (by omega)
      have hfz := fun j => hR.free j
      have hR' := ((hR.set (j := i * 3) (by omega) (.string (nm i))).set (j := i * 3 + 1) (by omega) (.string (dfOf D df i))).set (j := i * 3 + 2) (by omega) (.bool (hdOf E hd i))
      have hbb := (((hb.setCell (p := ⟨B, i * 3, none⟩) (Nat.le_refl _) (.string (nm i))).setCell (p := ⟨B, i * 3 + 1, none⟩) (Nat.le_refl _) (.string (dfOf D df i))).setCell (p := ⟨B, i * 3 + 2, none⟩) (Nat.le_refl _) (.bool (hdOf E hd i)))
      clear hf t1 h1
      by_cases hD : i < D
      · obtain ⟨b2, o2, rfl, x2, y2, t2⟩ := h2 i hD
        replace x2 := (hb.cell (p := ⟨b2, o2 + i, none⟩) (by show b2 < B; omega)).trans x2
        have e2 : dfOf D df i = df i := if_pos hD
        rw [← e2] at x2
        have l2 : (i : Int) < (D : Int) := by omega
        by_cases hE : i < E
        · obtain ⟨b3, o3, rfl, x3, y3⟩ := h3 i hE
          replace x3 := (hb.cell (p := ⟨b3, o3 + i, none⟩) (by show b3 < B; omega)).trans x3
          have e3 : hdOf E hd i = hd i := if_pos hE
          rw [← e3] at x3
          have l3 : (i : Int) < (E : Int) := by omega
          clear e2 e3 h2 h3 HH
          go_wp2
          go_roundw
          case rel => exact ⟨i + 1, _, by omega, by go_num, hR', HF.out, hbb⟩
          case measure => simp [intOf]; omega
        · have e3 : hdOf E hd i = false := if_neg hE
          have l3 : ¬ (i : Int) < (E : Int) := by omega
          rw [e3] at hR' HF hbb
          clear e2 e3 h2 h3 HH
          go_wp2
          go_roundw
          case rel => exact ⟨i + 1, _, by omega, by go_num, hR', HF.out, hbb⟩
          case measure => simp [intOf]; omega
      · have e2 : dfOf D df i = ⟨#[]⟩ := if_neg hD
        have l2 : ¬ (i : Int) < (D : Int) := by omega
        rw [e2] at hR' HF hbb
        by_cases hE : i < E
        · obtain ⟨b3, o3, rfl, x3, y3⟩ := h3 i hE
          replace x3 := (hb.cell (p := ⟨b3, o3 + i, none⟩) (by show b3 < B; omega)).trans x3
          have e3 : hdOf E hd i = hd i := if_pos hE
          rw [← e3] at x3
          have l3 : (i : Int) < (E : Int) := by omega
          clear e2 e3 h2 h3 HH
          go_wp2
          go_roundw
          case rel => exact ⟨i + 1, _, by omega, by go_num, hR', HF.out, hbb⟩
          case measure => simp [intOf]; omega
        · have e3 : hdOf E hd i = false := if_neg hE
          have l3 : ¬ (i : Int) < (E : Int) := by omega
          rw [e3] at hR' HF hbb
          clear e2 e3 h2 h3 HH
          go_wp2
          go_roundw
          case rel => exact ⟨i + 1, _, by omega, by go_num, hR', HF.out, hbb⟩
          case measure => simp [intOf]; omega
    · have e : i = n := by omega
      subst e
      have HH := HB.out
      have hsz := hb.size
      go_wp2
      go_ret
      refine ⟨wr.heap.size, rfl, ?_, by rw [sz_alloc]; omega, ⟨f, hR.of_block (heap_alloc_old _ _ hR.lt), hf⟩, hb.alloc (by omega) _⟩
      rw [cell_of_row _ _ _ _ _ _ (heap_alloc_new _ _)]
      rfl
end Go.Proofs.Qxb6600226a
