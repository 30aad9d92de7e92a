/-
  Own work: plain: places in the order of placing.
-/
import Derived.Test.Qxb6000427aPc
namespace Go.Proofs.Qxb6000427a

theorem len_le : ∀ (n : Nat) (l : List Nat), l.Nodup → (∀ x, x ∈ l → x < n) → l.length ≤ n
  | 0, l, _, h => by
    cases l with
    | nil => simp
    | cons a l => exact absurd (h a (by simp)) (by omega)
  | n + 1, l, hn, h => by
    have h1 := len_le n (l.erase n) (hn.erase n) (fun x hx => by
      have := (hn.mem_erase_iff).1 hx
      have := h x this.2
      omega)
    rw [List.length_erase] at h1
    split at h1 <;> omega
theorem mem_full {n : Nat} {l : List Nat} (hn : l.Nodup) (h : ∀ x, x ∈ l → x < n) (hl : l.length = n) {q : Nat} (hq : q < n) : q ∈ l := by
  apply Classical.byContradiction
  intro hc
  have := len_le n (q :: l) (List.nodup_cons.2 ⟨hc, hn⟩) (fun x hx => by
    rcases List.mem_cons.1 hx with e | e
    · omega
    · exact h x e)
  simp at this
  omega

/-- when i was placed, or -1 -/
def posOf (S : List Nat) (i : Nat) : Int := if i ∈ S then (S.idxOf i : Nat) else -1

theorem posOf_in {S : List Nat} {i : Nat} (h : i ∈ S) : posOf S i = (S.idxOf i : Nat) := if_pos h
theorem posOf_out {S : List Nat} {i : Nat} (h : i ∉ S) : posOf S i = -1 := if_neg h
theorem posOf_nil (i : Nat) : posOf [] i = -1 := by simp [posOf]
theorem posOf_place {S : List Nat} {p : Nat} (hp : p ∉ S) (i : Nat) : (if i = p then ((S.length : Nat) : Int) else posOf S i) = posOf (S ++ [p]) i := by
  unfold posOf
  rw [List.idxOf_append]
  by_cases e : i = p
  · subst e
    simp [hp]
  · by_cases hm : i ∈ S
    · simp [e, hm]
    · simp [e, hm]
theorem getD_idx {S : List Nat} {i : Nat} (h : i ∈ S) : S.getD (S.idxOf i) 0 = i := by
  rw [List.getD_eq_getElem?_getD, List.getElem?_eq_getElem (List.idxOf_lt_length_iff.2 h)]
  simp

/-- heads come behind their tails -/
def Ord (m : Nat) (F T : Nat → Nat) (S : List Nat) : Prop := ∀ k, k < m → T k ∈ S → F k ∈ S ∧ S.idxOf (F k) < S.idxOf (T k)

theorem Ord.nil (m : Nat) (F T : Nat → Nat) : Ord m F T [] := fun k _ h => by simp at h
theorem Ord.place {n m : Nat} {F T : Nat → Nat} {S : List Nat} (h : Ord m F T S) {p : Nat} (hp : Rdy n m F T S p) : Ord m F T (S ++ [p]) := fun k hk hT => by
  obtain ⟨_, hpS, hpp⟩ := hp
  rw [List.idxOf_append, List.idxOf_append]
  rcases List.mem_append.1 hT with q | q
  · obtain ⟨h1, h2⟩ := h k hk q
    exact ⟨List.mem_append_left _ h1, by rw [if_pos h1, if_pos q]; exact h2⟩
  · have e : T k = p := by simpa using q
    have h1 := hpp k hk e
    refine ⟨List.mem_append_left _ h1, ?_⟩
    rw [if_pos h1, e, if_neg hpS]
    have := List.idxOf_lt_length_iff.2 h1
    omega

/-- who has an unplaced predecessor, by the first k edges -/
def hasB (F T : Nat → Nat) (S : List Nat) : Nat → Nat → Bool
  | 0, _ => false
  | k + 1, t => if t = T k ∧ T k ∉ S ∧ F k ∉ S then true else hasB F T S k t

theorem hasB_set (F T : Nat → Nat) (S : List Nat) (k : Nat) (h1 : T k ∉ S) (h2 : F k ∉ S) : (fun i => if i = T k then true else hasB F T S k i) = hasB F T S (k + 1) := by
  funext i
  rw [hasB]
  by_cases e : i = T k
  · rw [if_pos e, if_pos ⟨e, h1, h2⟩]
  · rw [if_neg e, if_neg (fun q => e q.1)]
theorem hasB_same (F T : Nat → Nat) (S : List Nat) (k : Nat) (h : ¬ (T k ∉ S ∧ F k ∉ S)) : hasB F T S k = hasB F T S (k + 1) := by
  funext i
  rw [hasB, if_neg (fun q => h q.2)]
theorem hasB_hit {F T : Nat → Nat} {S : List Nat} {t : Nat} (ht : t ∉ S) : ∀ {m k : Nat}, k < m → T k = t → F k ∉ S → hasB F T S m t = true
  | 0, k, hk, _, _ => by omega
  | m + 1, k, hk, h1, h2 => by
    rw [hasB]
    split
    · rfl
    · rename_i hn
      by_cases e : k = m
      · subst e
        exact absurd ⟨h1.symm, by rw [h1]; exact ht, h2⟩ hn
      · exact hasB_hit ht (by omega) h1 h2
theorem hasB_end {n m : Nat} {F T : Nat → Nat} {S : List Nat} (hno : ∀ q, ¬ Rdy n m F T S q) {t : Nat} (hn : t < n) (ht : t ∉ S) : hasB F T S m t = true := by
  apply Classical.byContradiction
  intro hc
  refine hno t ⟨hn, ht, fun k hk he => ?_⟩
  apply Classical.byContradiction
  intro hF
  exact hc (hasB_hit ht hk he hF)
end Go.Proofs.Qxb6000427a
