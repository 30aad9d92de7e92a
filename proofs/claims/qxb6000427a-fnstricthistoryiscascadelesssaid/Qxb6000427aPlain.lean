/-
  Own work: what 'strictness' computes, with no Go in sight.
-/
namespace Go.Proofs.Qxb6000427a

/-- The state of 'strictness' between two operations. -/
structure St where
  rig : Bool
  H : UInt8 → Option Int
  R : UInt8 → List Int
  W : Int → List UInt8
  D : Int → List UInt8

def St.start : St := ⟨true, fun _ => none, fun _ => [], fun _ => [], fun _ => []⟩

def St.setR (s : St) (x : UInt8) (l : List Int) : St := { s with R := fun y => if y = x then l else s.R y }
def St.addD (s : St) (T : Int) (x : UInt8) : St := { s with D := fun t => if t = T then s.D T ++ [x] else s.D t }
def St.putH (s : St) (x : UInt8) (T : Int) : St := { s with H := fun y => if y = x then some T else s.H y }
def St.addW (s : St) (T : Int) (x : UInt8) : St := { s with W := fun t => if t = T then s.W T ++ [x] else s.W t }
def St.setRig (s : St) (r : Bool) : St := { s with rig := r }
def St.delH (s : St) (l : List UInt8) : St := { s with H := fun y => if y ∈ l then none else s.H y }
def St.delR (s : St) (T : Int) (l : List UInt8) : St := { s with R := fun y => if y ∈ l then (s.R y).filter (fun z => decide (z ≠ T)) else s.R y }
def St.noW (s : St) (T : Int) : St := { s with W := fun t => if t = T then [] else s.W t }
def St.noD (s : St) (T : Int) : St := { s with D := fun t => if t = T then [] else s.D t }

def St.others (s : St) (T : Int) (x : UInt8) : Nat := (s.R x).length - (if T ∈ s.R x then 1 else 0)
def St.read (s : St) (T : Int) (x : UInt8) : St := if T ∈ s.R x then s else (s.setR x (s.R x ++ [T])).addD T x
def St.write (s : St) (T : Int) (x : UInt8) : St :=
  let s1 := s.setRig (s.rig && decide (s.others T x = 0))
  if s.H x = none then (s1.putH x T).addW T x else s1
def St.ends (s : St) (T : Int) : St := (((s.delH (s.W T)).delR T (s.D T)).noW T).noD T

def sstep (s : St) (kd T : Int) (x : UInt8) : Option St :=
  if kd = 1 ∨ kd = 2 then
    if s.H x = none ∨ s.H x = some T then some (if kd = 1 then s.read T x else s.write T x) else none
  else if kd = 5 ∨ kd = 6 then some (s.ends T) else some s

def srun : List (Int × Int × UInt8) → St → Bool × Bool
  | [], s => (true, s.rig)
  | (kd, T, x) :: r, s => match sstep s kd T x with
    | none => (false, false)
    | some s' => srun r s'

/-- what the walk must know of a state -/
structure Fine (s : St) (k : Nat) : Prop where
  nd : ∀ x, (s.R x).Nodup
  lr : ∀ x, (s.R x).length ≤ k
  lw : ∀ t, (s.W t).length ≤ k
  ld : ∀ t, (s.D t).length ≤ k

theorem fine_start : Fine St.start 0 := ⟨fun _ => List.nodup_nil, fun _ => Nat.le_refl _, fun _ => Nat.le_refl _, fun _ => Nat.le_refl _⟩

theorem Fine.mono {s : St} {k k' : Nat} (h : Fine s k) (hk : k ≤ k') : Fine s k' :=
  ⟨h.nd, fun x => Nat.le_trans (h.lr x) hk, fun x => Nat.le_trans (h.lw x) hk, fun x => Nat.le_trans (h.ld x) hk⟩

theorem Fine.read {s : St} {k : Nat} (h : Fine s k) (T : Int) (x : UInt8) : Fine (s.read T x) (k + 1) := by
  unfold St.read
  split
  · exact h.mono (Nat.le_succ _)
  · rename_i hT
    refine ⟨fun y => ?_, fun y => ?_, fun t => Nat.le_succ_of_le (h.lw t), fun t => ?_⟩
    · show (if y = x then s.R x ++ [T] else s.R y).Nodup
      split
      · refine List.nodup_append.2 ⟨h.nd x, by simp, ?_⟩
        intro a ha b hb
        simp at hb
        subst hb
        exact fun e => hT (e ▸ ha)
      · exact h.nd y
    · show (if y = x then s.R x ++ [T] else s.R y).length ≤ k + 1
      split
      · simpa using h.lr x
      · exact Nat.le_succ_of_le (h.lr y)
    · show (if t = T then s.D T ++ [x] else s.D t).length ≤ k + 1
      split
      · simpa using h.ld T
      · exact Nat.le_succ_of_le (h.ld t)

theorem Fine.write {s : St} {k : Nat} (h : Fine s k) (T : Int) (x : UInt8) : Fine (s.write T x) (k + 1) := by
  unfold St.write
  simp only
  split
  · refine ⟨h.nd, fun y => Nat.le_succ_of_le (h.lr y), fun t => ?_, fun t => Nat.le_succ_of_le (h.ld t)⟩
    show (if t = T then s.W T ++ [x] else s.W t).length ≤ k + 1
    split
    · simpa using h.lw T
    · exact Nat.le_succ_of_le (h.lw t)
  · exact ⟨h.nd, fun y => Nat.le_succ_of_le (h.lr y), fun t => Nat.le_succ_of_le (h.lw t), fun t => Nat.le_succ_of_le (h.ld t)⟩

theorem Fine.ends {s : St} {k : Nat} (h : Fine s k) (T : Int) : Fine (s.ends T) (k + 1) := by
  refine ⟨fun y => ?_, fun y => ?_, fun t => ?_, fun t => ?_⟩
  · show (if y ∈ s.D T then (s.R y).filter (fun z => decide (z ≠ T)) else s.R y).Nodup
    split
    · exact (h.nd y).filter _
    · exact h.nd y
  · show (if y ∈ s.D T then (s.R y).filter (fun z => decide (z ≠ T)) else s.R y).length ≤ k + 1
    split
    · exact Nat.le_succ_of_le (Nat.le_trans (List.length_filter_le _ _) (h.lr y))
    · exact Nat.le_succ_of_le (h.lr y)
  · show (if t = T then [] else s.W t).length ≤ k + 1
    split
    · simp
    · exact Nat.le_succ_of_le (h.lw t)
  · show (if t = T then [] else s.D t).length ≤ k + 1
    split
    · simp
    · exact Nat.le_succ_of_le (h.ld t)

/-- the history as a list -/
def opsOf (z0 z1 : List Int) (z2 : List UInt8) (n : Nat) : List (Int × Int × UInt8) := (List.range n).map fun i => (z0.getD i 0, z1.getD i 0, z2.getD i 0)

theorem opsOf_drop (z0 z1 : List Int) (z2 : List UInt8) (n k : Nat) (h : k < n) : (opsOf z0 z1 z2 n).drop k = (z0.getD k 0, z1.getD k 0, z2.getD k 0) :: (opsOf z0 z1 z2 n).drop (k + 1) := by
  have hl : k < (opsOf z0 z1 z2 n).length := by simpa [opsOf] using h
  rw [List.drop_eq_getElem_cons hl]
  simp [opsOf]

theorem opsOf_end (z0 z1 : List Int) (z2 : List UInt8) (n : Nat) : (opsOf z0 z1 z2 n).drop n = [] := by
  apply List.drop_eq_nil_of_le
  simp [opsOf]

end Go.Proofs.Qxb6000427a
