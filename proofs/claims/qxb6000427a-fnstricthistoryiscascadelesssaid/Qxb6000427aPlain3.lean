/-
  Own work: a strict history (no transaction ending twice) is recoverable and cascadeless. No Go in sight.
-/
import Derived.Test.Qxb6000427aPlain2
import Derived.Test.Qxb6000427aEnds
namespace Go.Proofs.Qxb6000427a

theorem okS_drop : ∀ (k : Nat) (l : List (Int × Int × UInt8)), okS l = true → okS (l.drop k) = true
  | 0, _, h => h
  | _ + 1, [], h => h
  | k + 1, (_, _, _) :: r, h => by
    rw [List.drop_succ_cons]
    apply okS_drop k r
    rw [okS, Bool.and_eq_true] at h
    exact h.2

theorem viol_false (z0 z1 : List Int) (z2 : List UInt8) (n : Nat) (T : Int) (x : UInt8) : ∀ (d m : Nat), m + d = n → viol p12 T x ((opsOf z0 z1 z2 n).drop m) = false → ∀ j, m ≤ j → j < n → p12 (z0.getD j 0) = true → z1.getD j 0 ≠ T → z2.getD j 0 = x →
    ∃ e, m ≤ e ∧ e < j ∧ isEndB (z0.getD e 0) = true ∧ z1.getD e 0 = T
  | 0, m, hd, _, j, h1, h2, _, _, _ => by omega
  | d + 1, m, hd, hv, j, h1, h2, hp, ht, hx => by
    rw [opsOf_drop z0 z1 z2 n m (by omega), viol] at hv
    by_cases hT : z1.getD m 0 = T
    · rw [if_pos hT] at hv
      by_cases he : z0.getD m 0 = 5 ∨ z0.getD m 0 = 6
      · refine ⟨m, Nat.le_refl _, ?_, by simpa [isEndB] using he, hT⟩
        rcases Nat.lt_or_eq_of_le h1 with q | q
        · exact q
        · subst q; exact absurd hT ht
      · rw [if_neg he] at hv
        have hmj : m + 1 ≤ j := by
          rcases Nat.lt_or_eq_of_le h1 with q | q
          · exact q
          · subst q; exact absurd hT ht
        obtain ⟨e, q1, q2, q3, q4⟩ := viol_false z0 z1 z2 n T x d (m + 1) (by omega) hv j hmj h2 hp ht hx
        exact ⟨e, by omega, q2, q3, q4⟩
    · rw [if_neg hT] at hv
      by_cases hy : z2.getD m 0 = x ∧ p12 (z0.getD m 0) = true
      · rw [if_pos hy] at hv; cases hv
      · rw [if_neg hy] at hv
        have hmj : m + 1 ≤ j := by
          rcases Nat.lt_or_eq_of_le h1 with q | q
          · exact q
          · subst q; exact absurd ⟨hx, hp⟩ hy
        obtain ⟨e, q1, q2, q3, q4⟩ := viol_false z0 z1 z2 n T x d (m + 1) (by omega) hv j hmj h2 hp ht hx
        exact ⟨e, by omega, q2, q3, q4⟩

theorem fromDn_some {h : Hist} {n j : Nat} : ∀ {m i : Nat}, fromDn h n j m = some i → i < m ∧ lives h n j i = true
  | 0, i, q => by simp [fromDn] at q
  | m + 1, i, q => by
    rw [fromDn] at q
    by_cases hl : lives h n j m = true
    · rw [if_pos hl] at q
      cases q
      exact ⟨Nat.lt_succ_self _, hl⟩
    · rw [if_neg hl] at q
      obtain ⟨q1, q2⟩ := fromDn_some q
      exact ⟨by omega, q2⟩

theorem strict_reads {z0 z1 : List Int} {z2 : List UInt8} {n : Nat} (ho : Once (hist z0 z1 z2) n) (hs : okS (opsOf z0 z1 z2 n) = true) {j : Nat} {f : Int} (hj : j < n) (hr : RF (hist z0 z1 z2) n j f) :
    ∀ c, j ≤ c → c ≤ n → endedAs (hist z0 z1 z2) n f c 5 = true := by
  obtain ⟨hk, hf, hne⟩ := hr
  unfold readsFrom at hf
  obtain ⟨i, hi, htx⟩ := Option.map_eq_some_iff.1 hf
  obtain ⟨hij, hl⟩ := fromDn_some hi
  simp only [lives, Bool.and_eq_true, decide_eq_true_eq, Bool.not_eq_true'] at hl
  obtain ⟨⟨l1, l2⟩, l3⟩ := hl
  have hso := okS_drop i _ hs
  rw [opsOf_drop z0 z1 z2 n i (by omega), okS, Bool.and_eq_true] at hso
  have hv : viol p12 (z1.getD i 0) (z2.getD i 0) ((opsOf z0 z1 z2 n).drop (i + 1)) = false := by
    have h1 := hso.1
    have h2 : z0.getD i 0 = 2 := l1
    rw [h2] at h1
    simpa using h1
  have hkj : z0.getD j 0 = 1 := hk
  have htx' : z1.getD i 0 = f := htx
  obtain ⟨e, q1, q2, q3, q4⟩ := viol_false z0 z1 z2 n (z1.getD i 0) (z2.getD i 0) (n - (i + 1)) (i + 1) (by omega) hv j (by omega) hj (by rw [hkj]; rfl) (by rw [htx']; exact fun h => hne h.symm) l2.symm
  have hE : isEndB ((hist z0 z1 z2).kd e) = true := q3
  have hT : (hist z0 z1 z2).tx e = f := q4.trans htx'
  have key : ∀ c, j ≤ c → c ≤ n → ∀ v, endedAs (hist z0 z1 z2) n f c v = true ↔ (hist z0 z1 z2).kd e = v := fun c hc hcn v => by
    unfold endedAs
    rw [endUp_at ho (by omega) hE hT (by omega : e < n) (Nat.le_refl _)]
    simp only [Bool.and_eq_true, decide_eq_true_eq]
    constructor
    · exact fun h => h.2
    · exact fun h => ⟨by omega, h⟩
  have h56 : (hist z0 z1 z2).kd e = 5 ∨ (hist z0 z1 z2).kd e = 6 := by simpa [isEndB] using hE
  have h6 : ¬ (hist z0 z1 z2).kd e = 6 := fun h => by
    have := (key j (Nat.le_refl _) (by omega) 6).2 h
    have l3' : endedAs (hist z0 z1 z2) n f j 6 = false := by rw [← htx]; exact l3
    rw [l3'] at this
    cases this
  intro c hc hcn
  exact (key c hc hcn 5).2 (h56.resolve_right h6)

/-- STRICT => RECOVERABLE AND CASCADELESS -/
theorem strict_both {z0 z1 : List Int} {z2 : List UInt8} {n : Nat} (ho : Once (hist z0 z1 z2) n) (hs : (srun (opsOf z0 z1 z2 n) St.start).1 = true) : (rst (hist z0 z1 z2) n).rc = true ∧ (rst (hist z0 z1 z2) n).cl = true := by
  rw [srun_outer, outer_eq] at hs
  simp only [Bool.true_and] at hs
  refine ⟨(rst_rc ho (Nat.le_refl _)).2 fun c hc _ j f hj hr _ => strict_reads ho hs (by omega) hr c (by omega) (by omega), (rst_cl ho (Nat.le_refl _)).2 fun j f hj hr => strict_reads ho hs hj hr j (Nat.le_refl _) (by omega)⟩
end Go.Proofs.Qxb6000427a
