/-
  Own work: place.
-/
import Derived.Test.Qxb6000427aNp
namespace Go.Proofs.Qxb6000427a
open Go.RowKit

def updI (f : Nat → Int) (t : Nat) (x : Int) : Nat → Int := fun i => if i = t then x else f i
def updB (f : Nat → Bool) (t : Nat) : Nat → Bool := fun i => f i || decide (i = t)

/-- a successor loses one that it waits for -/
def stp (s : (Nat → Int) × (Nat → Bool)) (t : Nat) : (Nat → Int) × (Nat → Bool) :=
  (updI s.1 t (s.1 t - 1), if s.1 t - 1 = 0 then updB s.2 t else s.2)

theorem foldl_stp_wait (l : List Nat) : ∀ (f : Nat → Int) (r : Nat → Bool) (t : Nat), (l.foldl stp (f, r)).1 t = f t - (l.count t : Nat) := by
  induction l with
  | nil => intro f r t; simp
  | cons a l ih =>
    intro f r t
    rw [List.foldl_cons]
    show (l.foldl stp (updI f a (f a - 1), if f a - 1 = 0 then updB r a else r)).1 t = _
    rw [ih, List.count_cons]
    unfold updI
    by_cases e : t = a
    · subst e; simp; omega
    · have : (a == t) = false := by simp; exact fun h => e h.symm
      simp [e, this]

theorem foldl_stp_ready (l : List Nat) : ∀ (f : Nat → Int) (r : Nat → Bool) (t : Nat), (∀ t, ((l.count t : Nat) : Int) ≤ f t) → (l.foldl stp (f, r)).2 t = (r t || (decide (t ∈ l) && decide (f t = (l.count t : Nat)))) := by
  induction l with
  | nil => intro f r t _; simp
  | cons a l ih =>
    intro f r t hle
    rw [List.foldl_cons]
    show (l.foldl stp (updI f a (f a - 1), if f a - 1 = 0 then updB r a else r)).2 t = _
    have ha := hle a
    rw [List.count_cons] at ha
    simp only [beq_self_eq_true, if_true] at ha
    rw [ih _ _ _ (fun t => ?_)]
    · unfold updI
      by_cases e : t = a
      · subst e
        simp only [if_true, List.count_cons, beq_self_eq_true, List.mem_cons, true_or, decide_true, Bool.true_and]
        by_cases h0 : f t - 1 = 0
        · have h1 : f t = ((l.count t + 1 : Nat) : Int) := by omega
          rw [if_pos h0, decide_eq_true h1]
          simp [updB]
        · rw [if_neg h0]
          have h1 : (f t - 1 = ((l.count t : Nat) : Int)) = (f t = ((l.count t + 1 : Nat) : Int)) := by apply propext; omega
          rw [show decide (f t - 1 = ((l.count t : Nat) : Int)) = decide (f t = ((l.count t + 1 : Nat) : Int)) by simp only [h1]]
          by_cases h2 : t ∈ l
          · simp [h2]
          · have h3 : l.count t = 0 := List.count_eq_zero.2 h2
            have h4 : ¬ f t = ((l.count t + 1 : Nat) : Int) := by omega
            rw [decide_eq_false h4]
            simp
      · have h1 : (a == t) = false := by simp; exact fun h => e h.symm
        have h2 : (if f a - 1 = 0 then updB r a else r) t = r t := by
          split
          · simp [updB, e]
          · rfl
        rw [h2, List.count_cons, h1]
        simp [e]
    · have := hle t
      rw [List.count_cons] at this
      unfold updI
      by_cases e : t = a
      · subst e; simp at this ⊢; omega
      · have h1 : (a == t) = false := by simp; exact fun h => e h.symm
        rw [h1] at this
        simpa [e] using this

theorem take_succ_foldl (l : List Nat) (i : Nat) (h : i < l.length) (s : (Nat → Int) × (Nat → Bool)) : (l.take (i + 1)).foldl stp s = stp ((l.take i).foldl stp s) l[i] := by
  rw [List.take_succ_eq_append_getElem h, List.foldl_append]
  rfl
theorem count_take_le (l : List Nat) (i t : Nat) : (l.take i).count t ≤ l.count t := List.Sublist.count_le t (List.take_sublist i l)
end Go.Proofs.Qxb6000427a
