/-
  Own work: plain: the walk places only what is ready.
-/
import Derived.Test.Qxb6000427aPl
namespace Go.Proofs.Qxb6000427a

/-- how many of the first k edges lead to t from outside S -/
def outs (F T : Nat → Nat) (S : List Nat) (t : Nat) : Nat → Nat
  | 0 => 0
  | k + 1 => if t = T k ∧ F k ∉ S then outs F T S t k + 1 else outs F T S t k

theorem outs_le (F T : Nat → Nat) (S : List Nat) (t : Nat) : ∀ k, outs F T S t k ≤ k
  | 0 => by simp [outs]
  | k + 1 => by
    have := outs_le F T S t k
    rw [outs]
    split <;> omega
theorem outs_nil (F T : Nat → Nat) (t : Nat) : ∀ k, outs F T [] t k = waitOf T k t
  | 0 => rfl
  | k + 1 => by
    rw [outs, waitOf, outs_nil F T t k]
    simp
theorem outs_zero {F T : Nat → Nat} {S : List Nat} {t : Nat} : ∀ {k}, outs F T S t k = 0 → ∀ j, j < k → T j = t → F j ∈ S
  | 0, _, j, hj, _ => by omega
  | k + 1, h, j, hj, ht => by
    rw [outs] at h
    split at h
    · omega
    · rename_i hn
      by_cases e : j = k
      · subst e
        apply Classical.byContradiction
        intro hc
        exact hn ⟨ht.symm, hc⟩
      · exact outs_zero h j (by omega) ht
theorem outs_zero' {F T : Nat → Nat} {S : List Nat} {t : Nat} : ∀ {k}, (∀ j, j < k → T j = t → F j ∈ S) → outs F T S t k = 0
  | 0, _ => rfl
  | k + 1, h => by
    rw [outs, if_neg (fun q => q.2 (h k (by omega) q.1.symm))]
    exact outs_zero' (fun j hj => h j (by omega))

theorem mem_sucOf {F T : Nat → Nat} {p t : Nat} : ∀ {k}, t ∈ sucOf F T k p → ∃ j, j < k ∧ F j = p ∧ T j = t
  | 0, h => by simp [sucOf] at h
  | k + 1, h => by
    rw [sucOf] at h
    split at h
    · rename_i e
      rcases List.mem_append.1 h with h | h
      · obtain ⟨j, h1, h2⟩ := mem_sucOf h
        exact ⟨j, by omega, h2⟩
      · exact ⟨k, by omega, e.symm, (List.mem_singleton.1 h).symm⟩
    · obtain ⟨j, h1, h2⟩ := mem_sucOf h
      exact ⟨j, by omega, h2⟩

theorem outs_place {F T : Nat → Nat} {S : List Nat} {p : Nat} (hp : p ∉ S) (t : Nat) : ∀ k, outs F T (S ++ [p]) t k + (sucOf F T k p).count t = outs F T S t k
  | 0 => by simp [outs, sucOf]
  | k + 1 => by
    have ih := outs_place hp t k (F := F) (T := T)
    rw [outs, outs, sucOf]
    by_cases e : p = F k
    · have hn : ¬ (t = T k ∧ F k ∉ S ++ [p]) := fun q => q.2 (by simp [e])
      rw [if_neg hn, if_pos e, List.count_append]
      by_cases ht : t = T k
      · rw [if_pos ⟨ht, e ▸ hp⟩, ← ht]
        simp
        omega
      · rw [if_neg (fun q => ht q.1)]
        have : List.count t [T k] = 0 := List.count_eq_zero.2 (by simpa using ht)
        omega
    · rw [if_neg e]
      have hF : (F k ∉ S ++ [p]) = (F k ∉ S) := by
        apply propext
        simp
        exact fun _ q => e q.symm
      by_cases hq : t = T k ∧ F k ∉ S
      · rw [if_pos hq, if_pos ⟨hq.1, hF.symm ▸ hq.2⟩]; omega
      · rw [if_neg hq, if_neg (fun q => hq ⟨q.1, hF ▸ q.2⟩)]; omega

/-- what is placed, who waits, who is ready -/
structure Plc (n m : Nat) (F T : Nat → Nat) (S : List Nat) (wf : Nat → Int) (rd : Nat → Bool) : Prop where
  wait : ∀ t, wf t = (outs F T S t m : Nat)
  ready : ∀ t, rd t = true ↔ t < n ∧ t ∉ S ∧ outs F T S t m = 0
  pred : ∀ k, k < m → T k ∈ S → F k ∈ S
  lt : ∀ t, t ∈ S → t < n

/-- t may be placed -/
def Rdy (n m : Nat) (F T : Nat → Nat) (S : List Nat) (t : Nat) : Prop := t < n ∧ t ∉ S ∧ ∀ k, k < m → T k = t → F k ∈ S

theorem rdy_iff {n m : Nat} {F T : Nat → Nat} {S : List Nat} {wf : Nat → Int} {rd : Nat → Bool} (h : Plc n m F T S wf rd) (t : Nat) : rd t = true ↔ Rdy n m F T S t := by
  rw [h.ready]
  unfold Rdy
  constructor
  · exact fun ⟨a, b, c⟩ => ⟨a, b, outs_zero c⟩
  · exact fun ⟨a, b, c⟩ => ⟨a, b, outs_zero' c⟩

theorem Plc.start {n m : Nat} {F T : Nat → Nat} {rd : Nat → Bool} (h : ∀ p, rd p = (decide (p < n) && decide (waitOf T m p = 0))) : Plc n m F T [] (fun t => ((waitOf T m t : Nat) : Int)) rd :=
  ⟨fun t => by rw [outs_nil], fun t => by rw [h, outs_nil]; simp, fun k _ h => by simp at h, fun t h => by simp at h⟩

theorem Plc.count_le {n m : Nat} {F T : Nat → Nat} {S : List Nat} {wf : Nat → Int} {rd : Nat → Bool} (h : Plc n m F T S wf rd) {p : Nat} (hp : p ∉ S) (t : Nat) : ((((sucOf F T m p).count t : Nat) : Int) ≤ wf t) ∧ wf t ≤ m := by
  have h1 := outs_place (F := F) (T := T) hp t m
  have h2 := outs_le F T S t m
  rw [h.wait]
  omega

theorem Plc.place {n m : Nat} {F T : Nat → Nat} {S : List Nat} {wf : Nat → Int} {rd : Nat → Bool} (h : Plc n m F T S wf rd) (hT : ∀ k, k < m → T k < n) {p : Nat} (hp : Rdy n m F T S p) :
    Plc n m F T (S ++ [p]) ((sucOf F T m p).foldl stp (wf, fun q => rd q && !decide (q = p))).1 ((sucOf F T m p).foldl stp (wf, fun q => rd q && !decide (q = p))).2 := by
  obtain ⟨hpn, hpS, hpp⟩ := hp
  refine ⟨fun t => ?_, fun t => ?_, fun k hk hT' => ?_, fun t ht => ?_⟩
  · rw [foldl_stp_wait, h.wait]
    have := outs_place (F := F) (T := T) hpS t m
    omega
  · rw [foldl_stp_ready _ _ _ _ (fun t => (h.count_le hpS t).1), h.wait]
    have hc := outs_place (F := F) (T := T) hpS t m
    by_cases hm : t ∈ sucOf F T m p
    · obtain ⟨j, j1, j2, j3⟩ := mem_sucOf hm
      have tS : t ∉ S := fun q => hpS (j2 ▸ h.pred j j1 (j3.symm ▸ q))
      have tp : t ≠ p := fun q => hpS (j2 ▸ hpp j j1 (j3.trans q))
      have tn : t < n := j3 ▸ hT j j1
      have trd : rd t = false := by
        cases hr : rd t with
        | false => rfl
        | true => exact absurd (j2 ▸ outs_zero ((h.ready t).1 hr).2.2 j j1 j3) hpS
      rw [trd]
      simp only [Bool.false_and, Bool.false_or, hm, decide_true, Bool.true_and, decide_eq_true_eq, tn, true_and, List.mem_append, List.mem_singleton, tS, tp, or_self, not_false_eq_true]
      omega
    · have hc0 : (sucOf F T m p).count t = 0 := List.count_eq_zero.2 hm
      have he : outs F T (S ++ [p]) t m = outs F T S t m := by omega
      rw [he]
      simp only [hm, decide_false, Bool.false_and, Bool.or_false, Bool.and_eq_true, Bool.not_eq_true', decide_eq_false_iff_not, h.ready t, List.mem_append, List.mem_singleton, not_or]
      constructor
      · exact fun ⟨⟨a, b, c⟩, d⟩ => ⟨a, ⟨b, d⟩, c⟩
      · exact fun ⟨a, ⟨b, d⟩, c⟩ => ⟨⟨a, b, c⟩, d⟩
  · rcases List.mem_append.1 hT' with q | q
    · exact List.mem_append_left _ (h.pred k hk q)
    · exact List.mem_append_left _ (hpp k hk (by simpa using q))
  · rcases List.mem_append.1 ht with q | q
    · exact h.lt t q
    · have : t = p := by simpa using q
      omega
end Go.Proofs.Qxb6000427a
