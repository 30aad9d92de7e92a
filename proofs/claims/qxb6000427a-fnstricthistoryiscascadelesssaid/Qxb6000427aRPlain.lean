/-
  Own work: what 'recoverability' computes ('rst'), what the law's own model reckons ('mst'), and that the two agree where no transaction ends twice. No Go in sight.
-/
namespace Go.Proofs.Qxb6000427a

/-- a history: of its i-th operation the kind, the transaction, the item -/
structure Hist where
  kd : Nat → Int
  tx : Nat → Int
  it : Nat → UInt8

def isEndB (k : Int) : Bool := k == 5 || k == 6

/-- no transaction ends twice -/
def Once (h : Hist) (n : Nat) : Prop := ∀ i j, i < j → j < n → isEndB (h.kd i) = true → isEndB (h.kd j) = true → h.tx i ≠ h.tx j

/-- the state of 'recoverability' -/
structure Rc where
  rc : Bool
  cl : Bool
  E : Int → Option Int
  Wr : UInt8 → List Int
  F : Int → List Int

def Rc.start : Rc := ⟨true, true, fun _ => none, fun _ => [], fun _ => []⟩
def Rc.setE (s : Rc) (T v : Int) : Rc := { s with E := fun t => if t = T then some v else s.E t }
def Rc.setW (s : Rc) (x : UInt8) (l : List Int) : Rc := { s with Wr := fun y => if y = x then l else s.Wr y }
def Rc.addF (s : Rc) (T f : Int) : Rc := { s with F := fun t => if t = T then s.F T ++ [f] else s.F t }
def Rc.setCl (s : Rc) (b : Bool) : Rc := { s with cl := b }
def Rc.setRc (s : Rc) (b : Bool) : Rc := { s with rc := b }

def gone (E : Int → Option Int) (t : Int) : Bool := decide (E t = some 6)
def done (E : Int → Option Int) (t : Int) : Bool := decide (E t = some 5)

/-- those at the end that have aborted are dropped -/
def dropA (E : Int → Option Int) (l : List Int) : List Int := (l.reverse.dropWhile (gone E)).reverse

def Rc.read (s : Rc) (T : Int) (x : UInt8) : Rc :=
  match (dropA s.E (s.Wr x)).getLast? with
  | none => s.setW x (dropA s.E (s.Wr x))
  | some f => if f = T then s.setW x (dropA s.E (s.Wr x)) else ((s.setW x (dropA s.E (s.Wr x))).addF T f).setCl (s.cl && done s.E f)
def Rc.write (s : Rc) (T : Int) (x : UInt8) : Rc := if (s.Wr x).getLast? = some T then s else s.setW x (s.Wr x ++ [T])
def Rc.commit (s : Rc) (T : Int) : Rc := (s.setRc (s.rc && (s.F T).all (done s.E))).setE T 5
def Rc.abort (s : Rc) (T : Int) : Rc := s.setE T 6

def rstep (s : Rc) (kd T : Int) (x : UInt8) : Rc :=
  if kd = 1 then s.read T x else if kd = 2 then s.write T x else if kd = 5 then s.commit T else if kd = 6 then s.abort T else s

def rst (h : Hist) : Nat → Rc
  | 0 => Rc.start
  | k + 1 => rstep (rst h k) (h.kd k) (h.tx k) (h.it k)

theorem rst_succ (h : Hist) (k : Nat) : rst h (k + 1) = rstep (rst h k) (h.kd k) (h.tx k) (h.it k) := rfl

/-! ### the law's own model -/
/-- the first end of t among the first m operations -/
def endUp (h : Hist) (t : Int) : Nat → Option Nat
  | 0 => none
  | m + 1 => match endUp h t m with
    | some j => some j
    | none => if isEndB (h.kd m) = true ∧ h.tx m = t then some m else none

/-- did t end by k, before the place lim? -/
def endedAs (h : Hist) (n : Nat) (t : Int) (lim : Nat) (k : Int) : Bool :=
  match endUp h t n with
  | some e => decide (e < lim) && decide (h.kd e = k)
  | none => false

/-- is the write i one that the read j can read from? -/
def lives (h : Hist) (n j i : Nat) : Bool := decide (h.kd i = 2) && decide (h.it i = h.it j) && !endedAs h n (h.tx i) j 6

def fromDn (h : Hist) (n j : Nat) : Nat → Option Nat
  | 0 => none
  | i + 1 => if lives h n j i = true then some i else fromDn h n j i

/-- does the read j leave 'recoverable' standing? -/
def recAt (h : Hist) (n j : Nat) (f : Int) : Bool :=
  match endUp h (h.tx j) n with
  | some c => if j < c ∧ h.kd c = 5 then endedAs h n f c 5 else true
  | none => true

def mread (h : Hist) (n j : Nat) (ab : Bool × Bool) : Bool × Bool :=
  if h.kd j = 1 then
    match fromDn h n j j with
    | none => ab
    | some i => if h.tx i = h.tx j then ab else (ab.1 && recAt h n j (h.tx i), ab.2 && endedAs h n (h.tx i) j 5)
  else ab

def mst (h : Hist) (n : Nat) : Nat → Bool × Bool
  | 0 => (true, true)
  | j + 1 => mread h n j (mst h n j)

/-! ### ends -/
theorem endUp_some {h : Hist} {t : Int} : ∀ {m e : Nat}, endUp h t m = some e → e < m ∧ isEndB (h.kd e) = true ∧ h.tx e = t
  | 0, e, q => by simp [endUp] at q
  | m + 1, e, q => by
    unfold endUp at q
    split at q
    · rename_i j hj
      cases q
      have := endUp_some hj
      exact ⟨by omega, this.2⟩
    · split at q
      · rename_i hc
        cases q
        exact ⟨Nat.lt_succ_self _, hc⟩
      · cases q

theorem endUp_none {h : Hist} {t : Int} : ∀ {m : Nat}, endUp h t m = none → ∀ e, e < m → ¬ (isEndB (h.kd e) = true ∧ h.tx e = t)
  | 0, _, e, he => by omega
  | m + 1, q, e, he => by
    unfold endUp at q
    split at q
    · cases q
    · rename_i hn
      split at q
      · cases q
      · rename_i hc
        by_cases hm : e = m
        · subst hm; exact hc
        · exact endUp_none hn e (by omega)

theorem endUp_up {h : Hist} {t : Int} {m e : Nat} (q : endUp h t m = some e) : ∀ {k : Nat}, m ≤ k → endUp h t k = some e
  | 0, hk => by
    have : m = 0 := by omega
    subst this; exact q
  | k + 1, hk => by
    by_cases hm : m = k + 1
    · subst hm; exact q
    · unfold endUp
      rw [endUp_up q (k := k) (by omega)]

theorem endUp_at {h : Hist} {n : Nat} (ho : Once h n) {e : Nat} {t : Int} (he : e < n) (hE : isEndB (h.kd e) = true) (ht : h.tx e = t) {k : Nat} (hk : e < k) (hkn : k ≤ n) : endUp h t k = some e := by
  cases q : endUp h t k with
  | none => exact absurd ⟨hE, ht⟩ (endUp_none q e hk)
  | some e' =>
    obtain ⟨h1, h2, h3⟩ := endUp_some q
    by_cases hlt : e' < e
    · exact absurd (h3.trans ht.symm) (ho e' e hlt he h2 hE)
    · by_cases hgt : e < e'
      · exact absurd (ht.trans h3.symm) (ho e e' hgt (by omega) hE h2)
      · have : e' = e := by omega
        rw [this]

/-- what 'ended' holds behind k operations -/
theorem rst_E {h : Hist} {n : Nat} (ho : Once h n) (t : Int) : ∀ {k : Nat}, k ≤ n → (rst h k).E t = (endUp h t k).map h.kd
  | 0, _ => by simp [rst, endUp, Rc.start]
  | k + 1, hk => by
    have ih := rst_E ho t (k := k) (by omega)
    have hread : ∀ s : Rc, ∀ T x, (s.read T x).E = s.E := fun s T x => by
      unfold Rc.read
      split
      · rfl
      · split <;> rfl
    have hwrite : ∀ s : Rc, ∀ T x, (s.write T x).E = s.E := fun s T x => by
      unfold Rc.write
      split <;> rfl
    have hset : ∀ v, isEndB v = true → h.kd k = v → (if t = h.tx k then some v else (rst h k).E t) = (endUp h t (k + 1)).map h.kd := fun v hv hkv => by
      by_cases e : t = h.tx k
      · rw [if_pos e, endUp_at ho (e := k) (by omega) (by rw [hkv]; exact hv) e.symm (Nat.lt_succ_self _) hk]
        simp [hkv]
      · rw [if_neg e, ih, endUp]
        cases endUp h t k with
        | some j => rfl
        | none => rw [if_neg (fun q => e q.2.symm)]
    have hno : isEndB (h.kd k) = false → (rst h k).E t = (endUp h t (k + 1)).map h.kd := fun hv => by
      rw [ih, endUp]
      cases endUp h t k with
      | some j => rfl
      | none => rw [if_neg (fun q => by rw [hv] at q; exact absurd q.1 (by simp))]
    unfold rst rstep
    split
    · rename_i h1; rw [hread]; exact hno (by rw [h1]; rfl)
    · split
      · rename_i h2; rw [hwrite]; exact hno (by rw [h2]; rfl)
      · split
        · rename_i h5; exact hset 5 rfl h5
        · split
          · rename_i h6; exact hset 6 rfl h6
          · rename_i h5 h6
            exact hno (by simp [isEndB, h5, h6])

theorem ended_iff {h : Hist} {n : Nat} (ho : Once h n) {t : Int} {k : Nat} (hk : k ≤ n) {v : Int} : (rst h k).E t = some v ↔ endedAs h n t k v = true := by
  rw [rst_E ho t hk]
  unfold endedAs
  cases q : endUp h t k with
  | some e =>
    rw [endUp_up q hk]
    have := (endUp_some q).1
    simp [this]
  | none =>
    cases q' : endUp h t n with
    | none => simp
    | some e =>
      obtain ⟨h1, h2, h3⟩ := endUp_some q'
      have : ¬ e < k := fun hlt => endUp_none q e hlt ⟨h2, h3⟩
      simp [this]

theorem gone_eq {h : Hist} {n : Nat} (ho : Once h n) {k : Nat} (hk : k ≤ n) (t : Int) : gone (rst h k).E t = endedAs h n t k 6 := by
  rw [Bool.eq_iff_iff, ← ended_iff ho hk]; simp [gone]
theorem done_eq {h : Hist} {n : Nat} (ho : Once h n) {k : Nat} (hk : k ≤ n) (t : Int) : done (rst h k).E t = endedAs h n t k 5 := by
  rw [Bool.eq_iff_iff, ← ended_iff ho hk]; simp [done]

/-! ### writers -/
def lastNA (q : Int → Bool) (l : List Int) : Option Int := l.reverse.find? (fun t => !q t)

theorem lastNA_snoc (q : Int → Bool) (l : List Int) (t : Int) : lastNA q (l ++ [t]) = if q t = true then lastNA q l else some t := by
  unfold lastNA
  rw [List.reverse_append]
  simp only [List.reverse_cons, List.reverse_nil, List.nil_append, List.singleton_append, List.find?_cons]
  cases q t <;> simp

theorem last_dropA (E : Int → Option Int) (l : List Int) : (dropA E l).getLast? = lastNA (gone E) l := by
  unfold dropA lastNA
  rw [List.getLast?_reverse]
  generalize l.reverse = m
  induction m with
  | nil => rfl
  | cons a r ih =>
    rw [List.dropWhile_cons, List.find?_cons]
    cases gone E a
    · rfl
    · simpa using ih

theorem dropA_snoc (E : Int → Option Int) (l : List Int) (t : Int) : dropA E (l ++ [t]) = if gone E t = true then dropA E l else l ++ [t] := by
  unfold dropA
  rw [List.reverse_append]
  simp only [List.reverse_cons, List.reverse_nil, List.nil_append, List.singleton_append, List.dropWhile_cons]
  cases gone E t <;> simp

theorem lastNA_dropA (E : Int → Option Int) (q : Int → Bool) (hq : ∀ t, gone E t = true → q t = true) : ∀ l : List Int, lastNA q (dropA E l) = lastNA q l := by
  intro l
  have key : ∀ m : List Int, (m.dropWhile (gone E)).find? (fun t => !q t) = m.find? (fun t => !q t) := by
    intro m
    induction m with
    | nil => rfl
    | cons a r ih =>
      rw [List.dropWhile_cons]
      by_cases ha : gone E a = true
      · rw [if_pos ha, ih, List.find?_cons, hq a ha]
        rfl
      · rw [if_neg ha]
  unfold lastNA dropA
  rw [List.reverse_reverse]
  exact key _

/-- the writes of x among the first k operations -/
def ideal (h : Hist) (x : UInt8) : Nat → List Int
  | 0 => []
  | k + 1 => if h.kd k = 2 ∧ h.it k = x then ideal h x k ++ [h.tx k] else ideal h x k

theorem getLast_snoc {l : List Int} {t : Int} (h : l.getLast? = some t) : ∃ m, l = m ++ [t] := List.getLast?_eq_some_iff.1 h

theorem rst_W {h : Hist} {n : Nat} (ho : Once h n) (x : UInt8) : ∀ {k : Nat}, k ≤ n → ∀ q : Int → Bool, (∀ t, gone (rst h k).E t = true → q t = true) → lastNA q ((rst h k).Wr x) = lastNA q (ideal h x k)
  | 0, _, q, _ => by simp [rst, Rc.start, ideal]
  | k + 1, hk, q, hq => by
    have hmono : ∀ t, gone (rst h k).E t = true → q t = true := fun t ht => by
      refine hq t ?_
      rw [gone_eq ho (by omega)] at ht
      rw [gone_eq ho hk]
      unfold endedAs at *
      cases hE : endUp h t n with
      | none => rw [hE] at ht; cases ht
      | some e =>
        rw [hE] at ht
        simp at ht ⊢
        exact ⟨by omega, ht.2⟩
    have ih := rst_W ho x (k := k) (by omega) q hmono
    have hid : ¬ (h.kd k = 2) → ideal h x (k + 1) = ideal h x k := fun e => by rw [ideal, if_neg (fun p => e p.1)]
    unfold rst rstep
    split
    · rename_i h1
      rw [hid (by omega)]
      have hr : ((rst h k).read (h.tx k) (h.it k)).Wr x = if x = h.it k then dropA (rst h k).E ((rst h k).Wr (h.it k)) else (rst h k).Wr x := by
        unfold Rc.read
        split
        · rfl
        · split <;> rfl
      rw [hr]
      by_cases e : x = h.it k
      · rw [if_pos e, ← e, lastNA_dropA _ _ hmono]; exact ih
      · rw [if_neg e]; exact ih
    · split
      · rename_i h2
        unfold Rc.write
        by_cases e : h.it k = x
        · rw [show ideal h x (k + 1) = ideal h x k ++ [h.tx k] from if_pos ⟨h2, e⟩, lastNA_snoc, ← ih, e]
          split
          · rename_i hl
            obtain ⟨m, hm⟩ := getLast_snoc hl
            rw [hm, lastNA_snoc]
            cases q (h.tx k) <;> simp
          · show lastNA q (if x = x then (rst h k).Wr x ++ [h.tx k] else (rst h k).Wr x) = _
            rw [if_pos rfl, lastNA_snoc]
        · rw [show ideal h x (k + 1) = ideal h x k from if_neg (fun p => e p.2)]
          split
          · exact ih
          · show lastNA q (if x = h.it k then _ else (rst h k).Wr x) = _
            rw [if_neg (fun p => e p.symm)]; exact ih
      · rename_i h2
        rw [hid h2]
        split
        · exact ih
        · split <;> exact ih

theorem fromDn_eq {h : Hist} {n : Nat} (ho : Once h n) {j : Nat} (hj : j ≤ n) : ∀ m : Nat, (fromDn h n j m).map h.tx = lastNA (gone (rst h j).E) (ideal h (h.it j) m)
  | 0 => by simp [fromDn, ideal, lastNA]
  | m + 1 => by
    have ih := fromDn_eq ho hj m
    unfold fromDn ideal lives
    by_cases e : h.kd m = 2 ∧ h.it m = h.it j
    · rw [if_pos e, lastNA_snoc, ← ih, gone_eq ho hj]
      simp only [e.1, e.2, decide_true, Bool.true_and, Bool.not_eq_true']
      cases endedAs h n (h.tx m) j 6 <;> simp
    · rw [if_neg e, ← ih]
      have : ¬ ((decide (h.kd m = 2) && decide (h.it m = h.it j) && !endedAs h n (h.tx m) j 6) = true) := by
        intro q
        simp at q
        exact e ⟨q.1.1, q.1.2⟩
      rw [if_neg this]

/-- whom the read j reads from -/
def readsFrom (h : Hist) (n j : Nat) : Option Int := (fromDn h n j j).map h.tx

theorem read_last {h : Hist} {n : Nat} (ho : Once h n) {j : Nat} (hj : j ≤ n) : (dropA (rst h j).E ((rst h j).Wr (h.it j))).getLast? = readsFrom h n j := by
  rw [last_dropA, rst_W ho (h.it j) hj _ (fun t ht => ht)]
  exact (fromDn_eq ho hj j).symm

/-- the read j reads from another -/
def RF (h : Hist) (n j : Nat) (f : Int) : Prop := h.kd j = 1 ∧ readsFrom h n j = some f ∧ f ≠ h.tx j

/-! ### cascadeless -/
theorem rst_cl {h : Hist} {n : Nat} (ho : Once h n) : ∀ {k : Nat}, k ≤ n → ((rst h k).cl = true ↔ ∀ j f, j < k → RF h n j f → endedAs h n f j 5 = true)
  | 0, _ => by simp [rst, Rc.start]
  | k + 1, hk => by
    have ih := rst_cl ho (k := k) (by omega)
    have same : (rst h (k + 1)).cl = (rst h k).cl → (∀ f, ¬ RF h n k f) → ((rst h (k + 1)).cl = true ↔ ∀ j f, j < k + 1 → RF h n j f → endedAs h n f j 5 = true) := fun e hno => by
      rw [e, ih]
      constructor
      · intro q j f hj hr
        by_cases ej : j = k
        · subst ej; exact absurd hr (hno f)
        · exact q j f (by omega) hr
      · intro q j f hj hr; exact q j f (by omega) hr
    by_cases h1 : h.kd k = 1
    · have hl := read_last ho (j := k) (by omega)
      have hst : rst h (k + 1) = (rst h k).read (h.tx k) (h.it k) := by rw [rst, rstep, if_pos h1]
      cases hr : readsFrom h n k with
      | none =>
        rw [hr] at hl
        refine same (by rw [hst]; unfold Rc.read; rw [hl]; rfl) (fun f hf => by rw [RF, hr] at hf; simp at hf)
      | some f =>
        rw [hr] at hl
        by_cases hf : f = h.tx k
        · refine same (by rw [hst]; unfold Rc.read; rw [hl]; simp only; rw [if_pos hf]; rfl) (fun f' hf' => by
            rw [RF, hr] at hf'
            exact hf'.2.2 (by have := hf'.2.1; simp at this; rw [← this]; exact hf))
        · have hcl : (rst h (k + 1)).cl = ((rst h k).cl && done (rst h k).E f) := by
            rw [hst]; unfold Rc.read; rw [hl]; simp only; rw [if_neg hf]; rfl
          rw [hcl, Bool.and_eq_true, ih, done_eq ho (by omega)]
          constructor
          · rintro ⟨q1, q2⟩ j f' hj hr'
            by_cases ej : j = k
            · subst ej
              have := hr'.2.1
              rw [hr] at this
              simp at this
              rw [← this]; exact q2
            · exact q1 j f' (by omega) hr'
          · intro q
            exact ⟨fun j f' hj hr' => q j f' (by omega) hr', q k f (Nat.lt_succ_self _) ⟨h1, hr, hf⟩⟩
    · refine same ?_ (fun f hf => h1 hf.1)
      rw [rst_succ, rstep, if_neg h1]
      split
      · unfold Rc.write; split <;> rfl
      · split
        · rfl
        · split <;> rfl

/-! ### recoverable -/
theorem rst_F {h : Hist} {n : Nat} (ho : Once h n) (T f : Int) : ∀ {k : Nat}, k ≤ n → (f ∈ (rst h k).F T ↔ ∃ j, j < k ∧ RF h n j f ∧ h.tx j = T)
  | 0, _ => by simp [rst, Rc.start]
  | k + 1, hk => by
    have ih := rst_F ho T f (k := k) (by omega)
    have same : (rst h (k + 1)).F T = (rst h k).F T → (¬ (RF h n k f ∧ h.tx k = T)) → (f ∈ (rst h (k + 1)).F T ↔ ∃ j, j < k + 1 ∧ RF h n j f ∧ h.tx j = T) := fun e hno => by
      rw [e, ih]
      constructor
      · rintro ⟨j, hj, r⟩; exact ⟨j, by omega, r⟩
      · rintro ⟨j, hj, r⟩
        by_cases ej : j = k
        · subst ej; exact absurd r hno
        · exact ⟨j, by omega, r⟩
    by_cases h1 : h.kd k = 1
    · have hl := read_last ho (j := k) (by omega)
      have hst : rst h (k + 1) = (rst h k).read (h.tx k) (h.it k) := by rw [rst, rstep, if_pos h1]
      cases hr : readsFrom h n k with
      | none =>
        rw [hr] at hl
        refine same (by rw [hst]; unfold Rc.read; rw [hl]; rfl) (fun hf => by rw [RF, hr] at hf; simp at hf)
      | some g =>
        rw [hr] at hl
        by_cases hf : g = h.tx k
        · refine same (by rw [hst]; unfold Rc.read; rw [hl]; simp only; rw [if_pos hf]; rfl) (fun hf' => by
            have h2 := hf'.1.2.1
            rw [hr] at h2
            simp at h2
            exact hf'.1.2.2 (by rw [← h2]; exact hf))
        · have hF : (rst h (k + 1)).F T = if T = h.tx k then (rst h k).F (h.tx k) ++ [g] else (rst h k).F T := by
            rw [hst]; unfold Rc.read; rw [hl]; simp only; rw [if_neg hf]; rfl
          by_cases eT : T = h.tx k
          · rw [hF, if_pos eT, ← eT, List.mem_append, ih]
            constructor
            · rintro (⟨j, hj, r⟩ | q)
              · exact ⟨j, by omega, r⟩
              · simp at q
                exact ⟨k, Nat.lt_succ_self _, ⟨h1, by rw [hr, q], by rw [q]; exact hf⟩, eT.symm⟩
            · rintro ⟨j, hj, r⟩
              by_cases ej : j = k
              · subst ej
                have h2 := r.1.2.1
                rw [hr] at h2
                simp at h2
                right; simp [h2]
              · exact .inl ⟨j, by omega, r⟩
          · exact same (by rw [hF, if_neg eT]) (fun r => eT r.2.symm)
    · refine same ?_ (fun r => h1 r.1.1)
      rw [rst_succ, rstep, if_neg h1]
      split
      · unfold Rc.write; split <;> rfl
      · split
        · rfl
        · split <;> rfl

theorem rst_rc {h : Hist} {n : Nat} (ho : Once h n) : ∀ {k : Nat}, k ≤ n → ((rst h k).rc = true ↔ ∀ c, c < k → h.kd c = 5 → ∀ j f, j < c → RF h n j f → h.tx j = h.tx c → endedAs h n f c 5 = true)
  | 0, _ => by simp [rst, Rc.start]
  | k + 1, hk => by
    have ih := rst_rc ho (k := k) (by omega)
    by_cases h5 : h.kd k = 5
    · have hst : rst h (k + 1) = (rst h k).commit (h.tx k) := by rw [rst, rstep, if_neg (by omega), if_neg (by omega), if_pos h5]
      have hrc : (rst h (k + 1)).rc = ((rst h k).rc && ((rst h k).F (h.tx k)).all (done (rst h k).E)) := by rw [hst]; rfl
      rw [hrc, Bool.and_eq_true, ih, List.all_eq_true]
      constructor
      · rintro ⟨q1, q2⟩ c hc hc5 j f hj hr ht
        by_cases ec : c = k
        · subst ec
          rw [← done_eq ho (by omega)]
          exact q2 f ((rst_F ho _ f (by omega)).2 ⟨j, hj, hr, ht⟩)
        · exact q1 c (by omega) hc5 j f hj hr ht
      · intro q
        refine ⟨fun c hc => q c (by omega), fun f hf => ?_⟩
        obtain ⟨j, hj, hr, ht⟩ := (rst_F ho _ f (by omega)).1 hf
        rw [done_eq ho (by omega)]
        exact q k (Nat.lt_succ_self _) h5 j f hj hr ht
    · have hrc : (rst h (k + 1)).rc = (rst h k).rc := by
        rw [rst_succ]
        unfold rstep
        split
        · unfold Rc.read
          split
          · rfl
          · split <;> rfl
        · split
          · unfold Rc.write; split <;> rfl
          · split <;> rfl
      rw [hrc, ih]
      constructor
      · intro q c hc hc5
        by_cases ec : c = k
        · subst ec; exact absurd hc5 h5
        · exact q c (by omega) hc5
      · intro q c hc; exact q c (by omega)

/-! ### the model's two answers -/
theorem mst_2 (h : Hist) (n : Nat) : ∀ k : Nat, ((mst h n k).2 = true ↔ ∀ j f, j < k → RF h n j f → endedAs h n f j 5 = true) ∧ ((mst h n k).1 = true ↔ ∀ j f, j < k → RF h n j f → recAt h n j f = true)
  | 0 => by simp [mst]
  | k + 1 => by
    have ih := mst_2 h n k
    have same : mst h n (k + 1) = mst h n k → (∀ f, ¬ RF h n k f) → ((mst h n (k + 1)).2 = true ↔ ∀ j f, j < k + 1 → RF h n j f → endedAs h n f j 5 = true) ∧ ((mst h n (k + 1)).1 = true ↔ ∀ j f, j < k + 1 → RF h n j f → recAt h n j f = true) := fun e hno => by
      have up : ∀ (p : Nat → Int → Prop), (∀ j f, j < k → RF h n j f → p j f) ↔ (∀ j f, j < k + 1 → RF h n j f → p j f) := fun p => by
        constructor
        · intro q j f hj hr
          by_cases ej : j = k
          · subst ej; exact absurd hr (hno f)
          · exact q j f (by omega) hr
        · intro q j f hj hr; exact q j f (by omega) hr
      rw [e, ih.1, ih.2]
      exact ⟨up _, up _⟩
    by_cases h1 : h.kd k = 1
    · cases hr : fromDn h n k k with
      | none => exact same (by rw [mst, mread, if_pos h1, hr]) (fun f hf => by have := hf.2.1; rw [readsFrom, hr] at this; simp at this)
      | some i =>
        have hrf : readsFrom h n k = some (h.tx i) := by rw [readsFrom, hr]; rfl
        by_cases hi : h.tx i = h.tx k
        · exact same (by rw [mst, mread, if_pos h1, hr]; simp only; rw [if_pos hi]) (fun f hf => by
            have := hf.2.1
            rw [hrf] at this
            simp at this
            exact hf.2.2 (by rw [← this]; exact hi))
        · have e : mst h n (k + 1) = ((mst h n k).1 && recAt h n k (h.tx i), (mst h n k).2 && endedAs h n (h.tx i) k 5) := by
            rw [mst, mread, if_pos h1, hr]; simp only; rw [if_neg hi]
          have add : ∀ (p : Nat → Int → Prop), ((∀ j f, j < k → RF h n j f → p j f) ∧ p k (h.tx i)) ↔ (∀ j f, j < k + 1 → RF h n j f → p j f) := fun p => by
            constructor
            · rintro ⟨q1, q2⟩ j f hj hrj
              by_cases ej : j = k
              · subst ej
                have := hrj.2.1
                rw [hrf] at this
                simp at this
                rw [← this]; exact q2
              · exact q1 j f (by omega) hrj
            · intro q
              exact ⟨fun j f hj => q j f (by omega), q k (h.tx i) (Nat.lt_succ_self _) ⟨h1, hrf, hi⟩⟩
          rw [e]
          simp only [Bool.and_eq_true]
          rw [ih.1, ih.2]
          exact ⟨add (fun j f => endedAs h n f j 5 = true), add (fun j f => recAt h n j f = true)⟩
    · exact same (by rw [mst, mread, if_neg h1]) (fun f hf => h1 hf.1)

/-- THE LAW: 'recoverability' answers as the model does. -/
theorem rst_mst {h : Hist} {n : Nat} (ho : Once h n) : ((rst h n).rc, (rst h n).cl) = mst h n n := by
  have m := mst_2 h n n
  have e2 : (rst h n).cl = (mst h n n).2 := by
    rw [Bool.eq_iff_iff, rst_cl ho (Nat.le_refl _), m.1]
  have e1 : (rst h n).rc = (mst h n n).1 := by
    rw [Bool.eq_iff_iff, rst_rc ho (Nat.le_refl _), m.2]
    constructor
    · intro q j f hj hr
      unfold recAt
      cases hc : endUp h (h.tx j) n with
      | none => rfl
      | some c =>
        simp only
        split
        · rename_i hcc
          obtain ⟨g1, _, g3⟩ := endUp_some hc
          exact q c g1 hcc.2 j f hcc.1 hr g3.symm
        · rfl
    · intro q c hc hc5 j f hj hr ht
      have := q j f (by omega) hr
      have hce : endUp h (h.tx j) n = some c := endUp_at ho hc (by rw [hc5]; rfl) ht.symm hc (Nat.le_refl _)
      unfold recAt at this
      rw [hce] at this
      simp only at this
      rwa [if_pos ⟨hj, hc5⟩] at this
  rw [e1, e2]

end Go.Proofs.Qxb6000427a
