/-
  Own work: plain: what bind computes.
-/
import Derived.Test.Qxb6600226aRw
namespace Go.Proofs.Qxb6600226a

/-- the last of the first k overrides of that name -/
def lastOv (on ov : Nat → ByteArray) (nm : ByteArray) : Nat → Option ByteArray
  | 0 => none
  | k + 1 => if on k = nm then some (ov k) else lastOv on ov nm k

/-- value and ok behind the first k overrides -/
def pick (on ov : Nat → ByteArray) (nm d : ByteArray) (h : Bool) (k : Nat) : ByteArray × Bool :=
  match lastOv on ov nm k with
  | some v => (v, true)
  | none => (d, h)

theorem pick_zero (on ov : Nat → ByteArray) (nm d : ByteArray) (h : Bool) : pick on ov nm d h 0 = (d, h) := rfl
theorem pick_hit {on ov : Nat → ByteArray} {nm : ByteArray} (d : ByteArray) (h : Bool) {k : Nat} (e : on k = nm) : pick on ov nm d h (k + 1) = (ov k, true) := by
  unfold pick
  rw [lastOv, if_pos e]
theorem pick_miss {on ov : Nat → ByteArray} {nm : ByteArray} (d : ByteArray) (h : Bool) {k : Nat} (e : ¬ on k = nm) : pick on ov nm d h (k + 1) = pick on ov nm d h k := by
  unfold pick
  rw [lastOv, if_neg e]

/-- all that goes in -/
structure In where
  n : Nat
  nm : Nat → ByteArray
  df : Nat → ByteArray
  hd : Nat → Bool
  W : Nat
  wd : Nat → ByteArray
  N : Nat
  on : Nat → ByteArray
  ov : Nat → ByteArray

/-- the value of the argument i -/
def In.res (x : In) (i : Nat) : Option ByteArray :=
  if i < x.W then some (x.wd i) else if (pick x.on x.ov (x.nm i) (x.df i) (x.hd i) x.N).2 = true then some (pick x.on x.ov (x.nm i) (x.df i) (x.hd i) x.N).1 else none

/-- what has a value, among the first k; what has none -/
def In.vals (x : In) : Nat → List (ByteArray × ByteArray)
  | 0 => []
  | k + 1 => match x.res k with
    | some v => x.vals k ++ [(x.nm k, v)]
    | none => x.vals k
def In.miss (x : In) : Nat → List ByteArray
  | 0 => []
  | k + 1 => match x.res k with
    | some _ => x.miss k
    | none => x.miss k ++ [x.nm k]

theorem In.vals_some {x : In} {k : Nat} {v : ByteArray} (h : x.res k = some v) : x.vals (k + 1) = x.vals k ++ [(x.nm k, v)] ∧ x.miss (k + 1) = x.miss k := by
  rw [In.vals, In.miss, h]
  exact ⟨rfl, rfl⟩
theorem In.vals_none {x : In} {k : Nat} (h : x.res k = none) : x.vals (k + 1) = x.vals k ∧ x.miss (k + 1) = x.miss k ++ [x.nm k] := by
  rw [In.vals, In.miss, h]
  exact ⟨rfl, rfl⟩
theorem In.len (x : In) : ∀ k, (x.vals k).length ≤ k ∧ (x.miss k).length ≤ k
  | 0 => by simp [In.vals, In.miss]
  | k + 1 => by
    have := x.len k
    cases h : x.res k with
    | some v => rw [(In.vals_some h).1, (In.vals_some h).2]; simp; omega
    | none => rw [(In.vals_none h).1, (In.vals_none h).2]; simp; omega

theorem In.res_word {x : In} {i : Nat} (h : i < x.W) : x.res i = some (x.wd i) := if_pos h
theorem In.res_pick {x : In} {i : Nat} (h : ¬ i < x.W) {v : ByteArray} {b : Bool} (hp : pick x.on x.ov (x.nm i) (x.df i) (x.hd i) x.N = (v, b)) : x.res i = if b = true then some v else none := by
  unfold In.res
  rw [if_neg h, hp]

/-- the model's search, seen from behind -/
theorem lastOv_skip {on ov : Nat → ByteArray} {nm : ByteArray} {k : Nat} (e : ¬ on k = nm) : lastOv on ov nm (k + 1) = lastOv on ov nm k := by rw [lastOv, if_neg e]
theorem lastOv_hit {on ov : Nat → ByteArray} {nm : ByteArray} {k : Nat} (e : on k = nm) : lastOv on ov nm (k + 1) = some (ov k) := by rw [lastOv, if_pos e]
theorem In.res_found {x : In} {i : Nat} (h : ¬ i < x.W) {v : ByteArray} (hp : lastOv x.on x.ov (x.nm i) x.N = some v) : x.res i = some v := by
  rw [In.res_pick h (v := v) (b := true) (by unfold pick; rw [hp])]
  rfl
theorem In.res_default {x : In} {i : Nat} (h : ¬ i < x.W) (hp : lastOv x.on x.ov (x.nm i) x.N = none) : x.res i = if x.hd i = true then some (x.df i) else none :=
  In.res_pick h (by unfold pick; rw [hp])
end Go.Proofs.Qxb6600226a
