/-
  Own work: 'srun' answers as the pair-by-pair definition does. No Go in sight.
-/
import Derived.Test.Qxb6000427aPlain
namespace Go.Proofs.Qxb6000427a

/-- does an operation with 'p kind' by another transaction on the item x come before T's end? -/
def viol (p : Int → Bool) (T : Int) (x : UInt8) : List (Int × Int × UInt8) → Bool
  | [] => false
  | (k, t, y) :: r => if t = T then (if k = 5 ∨ k = 6 then false else viol p T x r) else if y = x ∧ p k = true then true else viol p T x r

def p12 (k : Int) : Bool := decide (k = 1 ∨ k = 2)
def p2 (k : Int) : Bool := decide (k = 2)

/-- the law's inner loop -/
def inner (k T : Int) (x : UInt8) : List (Int × Int × UInt8) → Bool × Bool → Bool × Bool
  | [], ab => ab
  | (kj, t, y) :: r, ab => if t = T then (if kj = 5 ∨ kj = 6 then ab else inner k T x r ab) else if y ≠ x then inner k T x r ab
    else inner k T x r (ab.1 && !(decide (k = 2) && p12 kj), ab.2 && !(decide (k = 1) && p2 kj))

/-- the law's outer loop -/
def outer : List (Int × Int × UInt8) → Bool × Bool → Bool × Bool
  | [], ab => ab
  | (k, T, x) :: r, ab => if k = 1 ∨ k = 2 then outer r (inner k T x r ab) else outer r ab

theorem inner_eq (k T : Int) (x : UInt8) : ∀ (l : List (Int × Int × UInt8)) (a b : Bool), inner k T x l (a, b) = (a && !(decide (k = 2) && viol p12 T x l), b && !(decide (k = 1) && viol p2 T x l))
  | [], a, b => by simp [inner, viol]
  | (kj, t, y) :: r, a, b => by
    unfold inner viol
    by_cases h1 : t = T
    · rw [if_pos h1, if_pos h1, if_pos h1]
      by_cases h2 : kj = 5 ∨ kj = 6
      · rw [if_pos h2, if_pos h2, if_pos h2]; simp
      · rw [if_neg h2, if_neg h2, if_neg h2]; exact inner_eq k T x r a b
    · rw [if_neg h1, if_neg h1, if_neg h1]
      by_cases h2 : y = x
      · rw [if_neg (by simpa using h2), inner_eq k T x r]
        simp only [h2, true_and]
        cases hp : p12 kj <;> cases hq : p2 kj <;> cases a <;> cases b <;> cases decide (k = 2) <;> cases decide (k = 1) <;> simp
      · rw [if_pos (by simpa using h2), inner_eq k T x r]
        simp [h2]

/-- strict as the definition has it; and its fellow for rigorous -/
def okS : List (Int × Int × UInt8) → Bool
  | [] => true
  | (k, T, x) :: r => !(decide (k = 2) && viol p12 T x r) && okS r
def okG : List (Int × Int × UInt8) → Bool
  | [] => true
  | (k, T, x) :: r => !(decide (k = 1) && viol p2 T x r) && okG r

theorem outer_eq : ∀ (l : List (Int × Int × UInt8)) (a b : Bool), outer l (a, b) = (a && okS l, b && okG l)
  | [], a, b => by simp [outer, okS, okG]
  | (k, T, x) :: r, a, b => by
    unfold outer okS okG
    by_cases h : k = 1 ∨ k = 2
    · rw [if_pos h, inner_eq, outer_eq r, Bool.and_assoc, Bool.and_assoc]
    · have h1 : ¬ k = 1 := fun e => h (.inl e)
      have h2 : ¬ k = 2 := fun e => h (.inr e)
      rw [if_neg h, outer_eq r]
      simp [h1, h2]

/-- the state holds together -/
structure Tied (s : St) : Prop where
  w : ∀ T x, x ∈ s.W T ↔ s.H x = some T
  d : ∀ T x, x ∈ s.D T ↔ T ∈ s.R x
  nd : ∀ x, (s.R x).Nodup

theorem tied_start : Tied St.start := ⟨fun T x => by simp [St.start], fun T x => by simp [St.start], fun x => by simp [St.start]⟩

theorem others_zero {s : St} (h : Tied s) (T : Int) (x : UInt8) : s.others T x = 0 ↔ ∀ t ∈ s.R x, t = T := by
  unfold St.others
  have hnd := h.nd x
  by_cases hT : T ∈ s.R x
  · rw [if_pos hT]
    constructor
    · intro hl t ht
      have h1 : (s.R x).length ≤ 1 := by omega
      match hR : s.R x with
      | [] => rw [hR] at ht; simp at ht
      | [a] => rw [hR] at ht hT; simp at ht hT; rw [ht, hT]
      | a :: b :: r => rw [hR] at h1; simp at h1
    · intro hall
      match hR : s.R x with
      | [] => simp
      | [a] => simp
      | a :: b :: r =>
        rw [hR] at hnd hall
        have h1 := hall a (by simp)
        have h2 := hall b (by simp)
        rw [h1, h2] at hnd
        simp at hnd
  · rw [if_neg hT]
    constructor
    · intro hl t ht
      have h1 : s.R x = [] := List.eq_nil_of_length_eq_zero (by omega)
      rw [h1] at ht; simp at ht
    · intro hall
      match hR : s.R x with
      | [] => simp
      | a :: r =>
        rw [hR] at hall hT
        have := hall a (by simp)
        simp [this] at hT

theorem Tied.read {s : St} (h : Tied s) (T : Int) (x : UInt8) : Tied (s.read T x) := by
  unfold St.read
  split
  · exact h
  · rename_i hT
    refine ⟨h.w, fun t y => ?_, fun y => ?_⟩
    · show y ∈ (if t = T then s.D T ++ [x] else s.D t) ↔ t ∈ (if y = x then s.R x ++ [T] else s.R y)
      by_cases h1 : t = T <;> by_cases h2 : y = x
      · subst h1; subst h2; simp
      · subst h1; simp [h2, h.d]
      · subst h2; simp [h1, h.d]
      · simp [h1, h2, h.d]
    · show (if y = x then s.R x ++ [T] else s.R y).Nodup
      split
      · refine List.nodup_append.2 ⟨h.nd x, by simp, ?_⟩
        intro a ha b hb
        simp at hb
        subst hb
        exact fun e => hT (e ▸ ha)
      · exact h.nd y

theorem Tied.write {s : St} (h : Tied s) (T : Int) (x : UInt8) : Tied (s.write T x) := by
  unfold St.write
  simp only
  split
  · rename_i hn
    refine ⟨fun t y => ?_, h.d, h.nd⟩
    show y ∈ (if t = T then s.W T ++ [x] else s.W t) ↔ (if y = x then some T else s.H y) = some t
    by_cases h1 : t = T <;> by_cases h2 : y = x
    · subst h1; subst h2; simp
    · subst h1; simp [h2, h.w]
    · subst h2
      have : ¬ T = t := fun e => h1 e.symm
      simp [h1, h.w, hn, this]
    · simp [h1, h2, h.w]
  · exact ⟨h.w, h.d, h.nd⟩

theorem Tied.ends {s : St} (h : Tied s) (T : Int) : Tied (s.ends T) := by
  refine ⟨fun t y => ?_, fun t y => ?_, fun y => ?_⟩
  · show y ∈ (if t = T then [] else s.W t) ↔ (if y ∈ s.W T then none else s.H y) = some t
    simp only [h.w T y]
    by_cases h1 : t = T
    · subst h1
      by_cases h2 : s.H y = some t <;> simp [h2]
    · by_cases h2 : s.H y = some T
      · have : ¬ T = t := fun e => h1 e.symm
        simp [h1, h2, h.w, this]
      · simp [h1, h2, h.w]
  · show y ∈ (if t = T then [] else s.D t) ↔ t ∈ (if y ∈ s.D T then (s.R y).filter (fun z => decide (z ≠ T)) else s.R y)
    simp only [h.d T y]
    by_cases h1 : t = T
    · subst h1
      by_cases h2 : t ∈ s.R y <;> simp [h2]
    · by_cases h2 : T ∈ s.R y <;> simp [h1, h2, h.d]
  · show (if y ∈ s.D T then (s.R y).filter (fun z => decide (z ≠ T)) else s.R y).Nodup
    split
    · exact (h.nd y).filter _
    · exact h.nd y

/-- nothing that is held, or read, is struck by what is still to come -/
def clearH (s : St) (l : List (Int × Int × UInt8)) : Prop := ∀ y t, s.H y = some t → viol p12 t y l = false
def clearR (s : St) (l : List (Int × Int × UInt8)) : Prop := ∀ y t, t ∈ s.R y → viol p2 t y l = false

theorem srun_eq : ∀ (l : List (Int × Int × UInt8)) (s : St), Tied s → ((srun l s).1 = true ↔ okS l = true ∧ clearH s l) ∧ ((srun l s).2 = true ↔ (okS l = true ∧ clearH s l) ∧ s.rig = true ∧ okG l = true ∧ clearR s l)
  | [], s, _ => by simp [srun, okS, okG, clearH, clearR, viol]
  | (kd, T, x) :: r, s, h => by
    by_cases h12 : kd = 1 ∨ kd = 2
    · by_cases hH : s.H x = none ∨ s.H x = some T
      · -- the operation goes on
        have hclH : clearH s ((kd, T, x) :: r) ↔ ∀ y t, s.H y = some t → viol p12 t y r = false := by
          unfold clearH
          refine forall_congr' fun y => forall_congr' fun t => ?_
          have hv : s.H y = some t → viol p12 t y ((kd, T, x) :: r) = viol p12 t y r := fun hy => by
            rw [viol]
            by_cases h1 : T = t
            · rw [if_pos h1, if_neg (by omega)]
            · rw [if_neg h1]
              by_cases h2 : x = y
              · subst h2
                rcases hH with q | q <;> rw [q] at hy
                · cases hy
                · cases hy; exact absurd rfl h1
              · rw [if_neg (by simp [h2])]
          constructor
          · intro q hy; rw [← hv hy]; exact q hy
          · intro q hy; rw [hv hy]; exact q hy
        rcases h12 with rfl | rfl
        · have hs : sstep s 1 T x = some (s.read T x) := by simp [sstep, hH]
          have ih := srun_eq r (s.read T x) (h.read T x)
          have e : srun ((1, T, x) :: r) s = srun r (s.read T x) := by simp [srun, hs]
          rw [e]
          have hS : okS ((1, T, x) :: r) = okS r := by simp [okS]
          have hG : okG ((1, T, x) :: r) = (!viol p2 T x r && okG r) := by simp [okG]
          have hreadH : (s.read T x).H = s.H := by unfold St.read; split <;> rfl
          have hreadg : (s.read T x).rig = s.rig := by unfold St.read; split <;> rfl
          have hcl1 : clearH (s.read T x) r ↔ clearH s ((1, T, x) :: r) := by rw [hclH]; unfold clearH; rw [hreadH]
          have hmem : ∀ y t, t ∈ (s.read T x).R y ↔ t ∈ s.R y ∨ (y = x ∧ t = T) := fun y t => by
            unfold St.read
            split
            · rename_i hT
              constructor
              · exact .inl
              · rintro (q | ⟨rfl, rfl⟩)
                · exact q
                · exact hT
            · show t ∈ (if y = x then s.R x ++ [T] else s.R y) ↔ _
              by_cases h2 : y = x
              · subst h2; simp
              · simp [h2]
          have hcl2 : (okG ((1, T, x) :: r) = true ∧ clearR s ((1, T, x) :: r)) ↔ (okG r = true ∧ clearR (s.read T x) r) := by
            rw [hG]
            have hv : ∀ y t, viol p2 t y ((1, T, x) :: r) = viol p2 t y r := fun y t => by
              rw [viol]
              by_cases h1 : T = t
              · rw [if_pos h1, if_neg (by omega)]
              · rw [if_neg h1, if_neg (by simp [p2])]
            unfold clearR
            simp only [hv, hmem, Bool.and_eq_true, Bool.not_eq_true']
            constructor
            · rintro ⟨⟨q1, q2⟩, q3⟩
              refine ⟨q2, fun y t q => ?_⟩
              rcases q with q | ⟨rfl, rfl⟩
              · exact q3 y t q
              · exact q1
            · rintro ⟨q1, q2⟩
              exact ⟨⟨q2 x T (.inr ⟨rfl, rfl⟩), q1⟩, fun y t q => q2 y t (.inl q)⟩
          rw [ih.1, ih.2, hS, hcl1, hreadg, hcl2]
          exact ⟨Iff.rfl, Iff.rfl⟩
        · have hs : sstep s 2 T x = some (s.write T x) := by simp [sstep, hH]
          have ih := srun_eq r (s.write T x) (h.write T x)
          have e : srun ((2, T, x) :: r) s = srun r (s.write T x) := by simp [srun, hs]
          rw [e]
          have hS : okS ((2, T, x) :: r) = (!viol p12 T x r && okS r) := by simp [okS]
          have hG : okG ((2, T, x) :: r) = okG r := by simp [okG]
          have hwR : (s.write T x).R = s.R := by unfold St.write; simp only; split <;> rfl
          have hwg : (s.write T x).rig = (s.rig && decide (s.others T x = 0)) := by unfold St.write; simp only; split <;> rfl
          have hwH : ∀ y, (s.write T x).H y = if y = x then some T else s.H y := fun y => by
            unfold St.write
            simp only
            split
            · rfl
            · rename_i hn
              have : s.H x = some T := by
                rcases hH with q | q
                · exact absurd q hn
                · exact q
              by_cases h2 : y = x
              · subst h2; simp [St.setRig, this]
              · simp [St.setRig, h2]
          have hcl1 : (okS ((2, T, x) :: r) = true ∧ clearH s ((2, T, x) :: r)) ↔ (okS r = true ∧ clearH (s.write T x) r) := by
            rw [hclH, hS]
            unfold clearH
            simp only [hwH, Bool.and_eq_true, Bool.not_eq_true']
            constructor
            · rintro ⟨⟨q1, q2⟩, q3⟩
              refine ⟨q2, fun y t q => ?_⟩
              by_cases h2 : y = x
              · subst h2; rw [if_pos rfl] at q; cases q; exact q1
              · rw [if_neg h2] at q; exact q3 y t q
            · rintro ⟨q1, q2⟩
              refine ⟨⟨q2 x T (by simp), q1⟩, fun y t q => ?_⟩
              by_cases h2 : y = x
              · subst h2
                rcases hH with q' | q' <;> rw [q'] at q
                · cases q
                · cases q; exact q2 y T (by simp)
              · exact q2 y t (by rw [if_neg h2]; exact q)
          have hcl2 : clearR s ((2, T, x) :: r) ↔ (∀ t ∈ s.R x, t = T) ∧ clearR (s.write T x) r := by
            unfold clearR
            rw [hwR]
            have hv : ∀ y t, viol p2 t y ((2, T, x) :: r) = if T = t then viol p2 t y r else if x = y then true else viol p2 t y r := fun y t => by
              rw [viol]
              by_cases h1 : T = t
              · rw [if_pos h1, if_pos h1, if_neg (by omega)]
              · rw [if_neg h1, if_neg h1]
                by_cases h2 : x = y <;> simp [h2, p2]
            simp only [hv]
            constructor
            · intro q
              refine ⟨fun t ht => ?_, fun y t ht => ?_⟩
              · have := q x t ht
                by_cases h1 : T = t
                · exact h1.symm
                · rw [if_neg h1, if_pos rfl] at this; cases this
              · have := q y t ht
                by_cases h1 : T = t
                · rw [if_pos h1] at this; exact this
                · rw [if_neg h1] at this
                  by_cases h2 : x = y
                  · rw [if_pos h2] at this; cases this
                  · rw [if_neg h2] at this; exact this
            · rintro ⟨q1, q2⟩ y t ht
              by_cases h1 : T = t
              · rw [if_pos h1]; exact q2 y t ht
              · rw [if_neg h1]
                by_cases h2 : x = y
                · subst h2; exact absurd (q1 t ht).symm h1
                · rw [if_neg h2]; exact q2 y t ht
          have ho := others_zero h T x
          rw [ih.1, ih.2, hcl1, hG, hwg, hcl2, Bool.and_eq_true, decide_eq_true_eq, ho]
          refine ⟨Iff.rfl, ?_⟩
          constructor
          · rintro ⟨a1, ⟨a2, a3⟩, a4, a5⟩; exact ⟨a1, a2, a4, a3, a5⟩
          · rintro ⟨a1, a2, a4, a3, a5⟩; exact ⟨a1, ⟨a2, a3⟩, a4, a5⟩
      · -- another holds the item
        obtain ⟨t, hHt⟩ : ∃ t, s.H x = some t := by
          cases q : s.H x with
          | none => exact absurd (.inl q) hH
          | some t => exact ⟨t, rfl⟩
        have htT : ¬ t = T := fun e => hH (.inr (by rw [hHt, e]))
        have hs : sstep s kd T x = none := by simp [sstep, h12, hHt, htT]
        have e : srun ((kd, T, x) :: r) s = (false, false) := by simp [srun, hs]
        have hno : ¬ clearH s ((kd, T, x) :: r) := fun q => by
          have := q x t hHt
          rw [viol, if_neg (fun e => htT e.symm), if_pos ⟨rfl, by simpa [p12] using h12⟩] at this
          cases this
        rw [e]
        exact ⟨⟨(fun q => by cases q), fun q => absurd q.2 hno⟩, ⟨(fun q => by cases q), fun q => absurd q.1.2 hno⟩⟩
    · have h1 : ¬ kd = 1 := fun e => h12 (.inl e)
      have h2 : ¬ kd = 2 := fun e => h12 (.inr e)
      have hS : okS ((kd, T, x) :: r) = okS r := by simp [okS, h2]
      have hG : okG ((kd, T, x) :: r) = okG r := by simp [okG, h1]
      by_cases h56 : kd = 5 ∨ kd = 6
      · have hs : sstep s kd T x = some (s.ends T) := by simp [sstep, h12, h56]
        have ih := srun_eq r (s.ends T) (h.ends T)
        have e : srun ((kd, T, x) :: r) s = srun r (s.ends T) := by simp [srun, hs]
        have hv12 : ∀ y t, viol p12 t y ((kd, T, x) :: r) = if T = t then false else viol p12 t y r := fun y t => by
          rw [viol]
          by_cases q : T = t
          · rw [if_pos q, if_pos q, if_pos h56]
          · rw [if_neg q, if_neg q, if_neg (by simp [p12, h1, h2])]
        have hv2 : ∀ y t, viol p2 t y ((kd, T, x) :: r) = if T = t then false else viol p2 t y r := fun y t => by
          rw [viol]
          by_cases q : T = t
          · rw [if_pos q, if_pos q, if_pos h56]
          · rw [if_neg q, if_neg q, if_neg (by simp [p2, h2])]
        have hc1 : clearH (s.ends T) r ↔ clearH s ((kd, T, x) :: r) := by
          unfold clearH
          simp only [hv12]
          have hEH : ∀ y t, (s.ends T).H y = some t ↔ s.H y = some t ∧ ¬ T = t := fun y t => by
            show (if y ∈ s.W T then none else s.H y) = some t ↔ _
            simp only [h.w T y]
            by_cases q : s.H y = some T
            · simp [q]
            · rw [if_neg q]
              constructor
              · intro q'; exact ⟨q', fun e => q (by rw [q', e])⟩
              · exact fun q' => q'.1
          simp only [hEH]
          constructor
          · intro q y t hy
            by_cases e1 : T = t
            · rw [if_pos e1]
            · rw [if_neg e1]; exact q y t ⟨hy, e1⟩
          · rintro q y t ⟨hy, e1⟩
            have := q y t hy
            rwa [if_neg e1] at this
        have hc2 : clearR (s.ends T) r ↔ clearR s ((kd, T, x) :: r) := by
          unfold clearR
          simp only [hv2]
          have hER : ∀ y t, t ∈ (s.ends T).R y ↔ t ∈ s.R y ∧ ¬ T = t := fun y t => by
            show t ∈ (if y ∈ s.D T then (s.R y).filter (fun z => decide (z ≠ T)) else s.R y) ↔ _
            simp only [h.d T y]
            by_cases q : T ∈ s.R y
            · rw [if_pos q]
              simp only [List.mem_filter, decide_eq_true_eq]
              constructor
              · rintro ⟨a, b⟩; exact ⟨a, fun e => b e.symm⟩
              · rintro ⟨a, b⟩; exact ⟨a, fun e => b e.symm⟩
            · rw [if_neg q]
              constructor
              · intro q'; exact ⟨q', fun e => q (e ▸ q')⟩
              · exact fun q' => q'.1
          simp only [hER]
          constructor
          · intro q y t hy
            by_cases e1 : T = t
            · rw [if_pos e1]
            · rw [if_neg e1]; exact q y t ⟨hy, e1⟩
          · rintro q y t ⟨hy, e1⟩
            have := q y t hy
            rwa [if_neg e1] at this
        rw [e, ih.1, ih.2, hS, hG, hc1, hc2]
        exact ⟨Iff.rfl, Iff.rfl⟩
      · have hs : sstep s kd T x = some s := by simp [sstep, h12, h56]
        have ih := srun_eq r s h
        have e : srun ((kd, T, x) :: r) s = srun r s := by simp [srun, hs]
        have hv : ∀ p : Int → Bool, p kd = false → ∀ y t, viol p t y ((kd, T, x) :: r) = viol p t y r := fun p hp y t => by
          rw [viol]
          by_cases q : T = t
          · rw [if_pos q, if_neg h56]
          · rw [if_neg q, if_neg (by simp [hp])]
        have hc1 : clearH s ((kd, T, x) :: r) ↔ clearH s r := by unfold clearH; simp only [hv p12 (by simp [p12, h1, h2])]
        have hc2 : clearR s ((kd, T, x) :: r) ↔ clearR s r := by unfold clearR; simp only [hv p2 (by simp [p2, h2])]
        rw [e, ih.1, ih.2, hS, hG, hc1, hc2]
        exact ⟨Iff.rfl, Iff.rfl⟩

/-- THE LAW: what 'strictness' answers is what the two loops of the law reckon. -/
theorem srun_outer (l : List (Int × Int × UInt8)) : srun l St.start = ((outer l (true, true)).1, (outer l (true, true)).2 && (outer l (true, true)).1) := by
  have h := srun_eq l St.start tied_start
  have c1 : clearH St.start l := fun y t q => by simp [St.start] at q
  have c2 : clearR St.start l := fun y t q => by simp [St.start] at q
  rw [outer_eq]
  simp only [Bool.true_and]
  have e1 : (srun l St.start).1 = okS l := by
    rw [Bool.eq_iff_iff, h.1]
    exact ⟨fun q => q.1, fun q => ⟨q, c1⟩⟩
  have e2 : (srun l St.start).2 = (okG l && okS l) := by
    rw [Bool.eq_iff_iff, h.2, Bool.and_eq_true]
    exact ⟨fun q => ⟨q.2.2.1, q.1.1⟩, fun q => ⟨⟨q.2, c1⟩, rfl, q.1, c2⟩⟩
  exact Prod.ext e1 e2

end Go.Proofs.Qxb6000427a
