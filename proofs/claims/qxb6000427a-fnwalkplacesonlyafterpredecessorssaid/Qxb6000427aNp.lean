/-
  Own work: plain: what newWalk computes.
-/
import Derived.Test.Qxb6000427aWk
namespace Go.Proofs.Qxb6000427a
open Go.RowKit

theorem makeMap69 (n : Nat) (w : World) : (Instr.makeMap 69 (some (.int .i64 n))).run Try.prog w = .ok (.map (some w.heap.size)) (w.alloc (.map #[] 0)) := by
  simp [Instr.makeMap, asInt, asIntOf]

/-- the places of the first k transactions -/
def mapOf (k : Nat) : Int → Option Value := fun t => if (t + 5) % 3 = 0 ∧ 0 ≤ t + 5 ∧ (t + 5) / 3 < k then some (.int .i64 ((t + 5) / 3)) else none

theorem mapOf_zero (t : Int) : mapOf 0 t = none := by
  unfold mapOf
  rw [if_neg (by omega)]
theorem mapOf_step (k : Nat) (t : Int) : (if t = 3 * (k : Int) - 5 then some (.int .i64 k) else mapOf k t) = mapOf (k + 1) t := by
  unfold mapOf
  by_cases e : t = 3 * (k : Int) - 5
  · subst e
    have h1 : (3 * (k : Int) - 5 + 5) / 3 = k := by omega
    rw [if_pos rfl, if_pos (by omega), h1]
  · rw [if_neg e]
    by_cases q : (t + 5) % 3 = 0 ∧ 0 ≤ t + 5 ∧ (t + 5) / 3 < (k : Int)
    · rw [if_pos q, if_pos (by omega)]
    · rw [if_neg q, if_neg (by omega)]
theorem mapOf_at {n i : Nat} (h : i < n) : mapOf n (3 * (i : Int) - 5) = some (.int .i64 i) := by
  unfold mapOf
  have h1 : (3 * (i : Int) - 5 + 5) / 3 = i := by omega
  rw [if_pos (by omega), h1]

/-- the successors of j by the first k edges; how many of them lead to t -/
def sucOf (F T : Nat → Nat) : Nat → Nat → List Nat
  | 0, _ => []
  | k + 1, j => if j = F k then sucOf F T k j ++ [T k] else sucOf F T k j
def waitOf (T : Nat → Nat) : Nat → Nat → Nat
  | 0, _ => 0
  | k + 1, t => if t = T k then waitOf T k t + 1 else waitOf T k t

theorem sucOf_step (F T : Nat → Nat) (k : Nat) : (fun i => if i = F k then sucOf F T k (F k) ++ [T k] else sucOf F T k i) = sucOf F T (k + 1) := by
  funext i
  rw [sucOf]
  by_cases e : i = F k
  · rw [if_pos e, if_pos e, e]
  · rw [if_neg e, if_neg e]
theorem waitOf_step (T : Nat → Nat) (k : Nat) : (fun i => if i = T k then ((waitOf T k (T k) : Nat) : Int) + 1 else ((waitOf T k i : Nat) : Int)) = fun i => ((waitOf T (k + 1) i : Nat) : Int) := by
  funext i
  rw [waitOf]
  by_cases e : i = T k
  · rw [if_pos e, if_pos e, e]; omega
  · rw [if_neg e, if_neg e]
theorem sucOf_len (F T : Nat → Nat) (j : Nat) : ∀ k, (sucOf F T k j).length ≤ k
  | 0 => by simp [sucOf]
  | k + 1 => by
    have := sucOf_len F T j k
    rw [sucOf]
    split
    · simp; omega
    · omega
theorem waitOf_le (T : Nat → Nat) (t : Nat) : ∀ k, waitOf T k t ≤ k
  | 0 => by simp [waitOf]
  | k + 1 => by
    have := waitOf_le T t k
    rw [waitOf]
    split <;> omega

/-- the bits of the words -/
theorem bit_add0 (v : Nat → Nat) (p q : Nat) : bit (add0 v p) q = (bit v q || decide (q = p)) := by
  unfold bit add0
  by_cases e : q / 64 = p / 64
  · rw [if_pos e, Nat.testBit_or, Nat.testBit_two_pow]
    congr 1
    by_cases h : q = p
    · simp [h]
    · have : ¬ p % 64 = q % 64 := by omega
      simp [h, this]
  · rw [if_neg e]
    have : ¬ q = p := by intro h; rw [h] at e; exact e rfl
    simp [this]
theorem bit_rem0 (v : Nat → Nat) (p q : Nat) : bit (rem0 v p) q = (bit v q && !decide (q = p)) := by
  unfold bit rem0
  by_cases e : q / 64 = p / 64
  · rw [if_pos e, Nat.testBit_and]
    congr 1
    have h1 : 18446744073709551615 - 2 ^ (p % 64) = 2 ^ 64 - (2 ^ (p % 64) + 1) := by omega
    rw [h1, Nat.testBit_two_pow_sub_succ (Nat.pow_lt_pow_right (by omega) (by omega)), Nat.testBit_two_pow]
    have h2 : q % 64 < 64 := by omega
    by_cases h : q = p
    · simp [h]
    · have : ¬ p % 64 = q % 64 := by omega
      simp [h, this, h2]
  · rw [if_neg e]
    have : ¬ q = p := by intro h; rw [h] at e; exact e rfl
    simp [this]
theorem bit_zero (q : Nat) : bit (fun _ => 0) q = false := by simp [bit]
end Go.Proofs.Qxb6000427a
