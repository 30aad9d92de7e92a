/-
  Own work: maps whose elements lead to memory of the call's own: slices ('Groups') and sets of integers ('Sets'). 'own g = some r': block g serves the role r; so two roles never share a block.
-/
import Derived.Test.Qxb6000427aKit
import Derived.Below
namespace Go.Proofs.Qxb6000427a
open Go.RowKit

/-- which block serves which role -/
def Own : Type := Nat → Option (Nat × Int)
def Own.le (own own' : Own) : Prop := ∀ g r, own g = some r → own' g = some r
def Own.set (own : Own) (g : Nat) (r : Nat × Int) : Own := fun x => if x = g then some r else own x
theorem Own.le_refl (own : Own) : own.le own := fun _ _ h => h
theorem Own.le_trans {a b c : Own} (h : a.le b) (k : b.le c) : a.le c := fun g r q => k g r (h g r q)
theorem Own.set_at (own : Own) (g : Nat) (r : Nat × Int) : own.set g r g = some r := by simp [Own.set]
theorem Own.set_ne (own : Own) {g x : Nat} (r : Nat × Int) (h : x ≠ g) : own.set g r x = own x := by simp [Own.set, h]
theorem Own.le_set {own : Own} {g : Nat} {r : Nat × Int} (h : own g = none ∨ own g = some r) : own.le (own.set g r) := fun x q hx => by
  by_cases e : x = g
  · subst e
    rcases h with h | h
    · rw [h] at hx; cases hx
    · rw [h] at hx; cases hx; exact Own.set_at _ _ _
  · rw [Own.set_ne _ _ e]; exact hx

/-- every block that serves lies from base on and is there -/
def OwnOk (w : World) (own : Own) (base : Nat) : Prop := ∀ g r, own g = some r → base ≤ g ∧ g < w.heap.size

theorem OwnOk.grown {w w' : World} {own : Own} {base : Nat} (h : OwnOk w own base) (hs : w.heap.size ≤ w'.heap.size) : OwnOk w' own base := fun g r q => ⟨(h g r q).1, Nat.lt_of_lt_of_le (h g r q).2 hs⟩
theorem OwnOk.set {w w' : World} {own : Own} {base g : Nat} {r : Nat × Int} (h : OwnOk w own base) (hs : w.heap.size ≤ w'.heap.size) (h1 : base ≤ g) (h2 : g < w'.heap.size) : OwnOk w' (own.set g r) base := fun x q hx => by
  by_cases e : x = g
  · subst e; exact ⟨h1, h2⟩
  · rw [Own.set_ne _ _ e] at hx; exact h.grown hs x q hx
theorem OwnOk.none {w : World} {own : Own} {base g : Nat} (h : OwnOk w own base) (hg : g < base ∨ w.heap.size ≤ g) : own g = none := by
  cases e : own g with
  | none => rfl
  | some r => have := h g r e; omega

section
variable {κ : Type}

/-- THE SLICE v OWNS THE VALUES ys, AND ITS BLOCK SERVES r. -/
def RowIs (w : World) (own : Own) (r : Nat × Int) (base : Nat) (e : TypeId) (v : Value) (ys : List Value) : Prop :=
  w.ownsRow base e 1 v ys.length ys ∧ ∀ g, v.ownBlock = some g → own g = some r

theorem RowIs.kept {w w' : World} {own own' : Own} {r : Nat × Int} {base : Nat} {e : TypeId} {v : Value} {ys : List Value} {row : Option Nat} (h : RowIs w own r base e v ys) (hg : w.grownBy w' row) (hle : own.le own') (hrow : ∀ j, row = some j → own j ≠ some r) :
    RowIs w' own' r base e v ys := by
  refine ⟨h.1.kept hg ?_, fun g hv => hle g r (h.2 g hv)⟩
  cases hv : v.ownBlock with
  | none => exact .inl rfl
  | some g => exact .inr (fun q => hrow g q.symm (h.2 g hv))

/-- A MAP OF SLICES OF THE CALL's OWN: at the key k the values G k. -/
def Groups (w : World) (own : Own) (b : Nat) (enc : κ → Value) (ρ : κ → Nat × Int) (base : Nat) (e : TypeId) (f : κ → Option Value) (G : κ → List Value) : Prop :=
  (∃ n, MapIs w b enc f n) ∧ ∀ k, RowIs w own (ρ k) base e ((f k).getD (.slice none 0 0)) (G k)

variable {w w' : World} {own own' : Own} {b base : Nat} {enc : κ → Value} {ρ : κ → Nat × Int} {e : TypeId} {f : κ → Option Value} {G : κ → List Value}

theorem Groups.kept {row : Option Nat} (h : Groups w own b enc ρ base e f G) (hg : w.grownBy w' row) (hle : own.le own') (hb : some b ≠ row) (hrow : ∀ j, row = some j → ∀ k, own j ≠ some (ρ k)) : Groups w' own' b enc ρ base e f G := by
  obtain ⟨⟨n, hm⟩, hr⟩ := h
  exact ⟨⟨n, hm.kept hg hb⟩, fun k => (hr k).kept hg hle (fun j hj => hrow j hj k)⟩

theorem groups_made (w : World) (own : Own) (enc : κ → Value) (ρ : κ → Nat × Int) (base : Nat) (e : TypeId) : Groups (w.alloc (.map #[] 0)) own w.heap.size enc ρ base e (fun _ => none) (fun _ => []) :=
  ⟨⟨0, mapIs_made w enc⟩, fun _ => ⟨World.ownsRow_nil _ _ _ _, fun g hg => by simp [Value.ownBlock] at hg⟩⟩

/-- BEHIND 'm[k] = append(m[k], ..)': w1: behind the append; w2: behind the store. -/
theorem Groups.stored [DecidableEq κ] {w1 w2 : World} {k : κ} {ys' : List Value} {v' : Value} {n' : Nat} (h : Groups w own b enc ρ base e f G) (hinj : ∀ a c, ρ a = ρ c → a = c) (hok : OwnOk w own base) (hbb : b < base)
    (hg1 : w.grownBy w1 ((f k).getD (.slice none 0 0)).ownBlock) (hv' : w1.ownsRow base e 1 v' ys'.length ys') (hle : own.le own') (hown : ∀ g, v'.ownBlock = some g → own' g = some (ρ k))
    (hm : MapIs w2 b enc (fun y => if y = k then some v' else f y) n') (hg2 : w1.grownBy w2 (some b)) :
    Groups w2 own' b enc ρ base e (fun y => if y = k then some v' else f y) (fun y => if y = k then ys' else G y) := by
  refine ⟨⟨n', hm⟩, fun y => ?_⟩
  have hbn : ∀ j, some b = some j → ∀ k', own' j ≠ some (ρ k') ∨ True := fun _ _ _ => .inr trivial
  by_cases q : y = k
  · subst q
    simp only [if_true, Option.getD_some]
    refine ⟨hv'.kept hg2 ?_, hown⟩
    cases hv : v'.ownBlock with
    | none => exact .inl rfl
    | some g =>
      refine .inr (fun q => ?_)
      cases q
      have := (hv'.lt b hv).1
      omega
  · simp only [if_neg q]
    obtain ⟨r1, r2⟩ := h.2 y
    have hlow : ∀ g, ((f y).getD (.slice none 0 0)).ownBlock = some g → g ≠ b := fun g hg e1 => by
      subst e1
      have := (hok g _ (r2 g hg)).1
      omega
    refine ⟨(r1.kept hg1 ?_).kept hg2 ?_, fun g hg => hle g _ (r2 g hg)⟩
    · cases hv : ((f y).getD (.slice none 0 0)).ownBlock with
      | none => exact .inl rfl
      | some g =>
        refine .inr (fun e1 => q ?_)
        have a1 := r2 g hv
        have a2 := (h.2 k).2 g e1.symm
        rw [a1] at a2
        exact hinj _ _ (Option.some.inj a2)
    · cases hv : ((f y).getD (.slice none 0 0)).ownBlock with
      | none => exact .inl rfl
      | some g => exact .inr (fun e1 => hlow g hv (Option.some.inj e1))

/-- BEHIND 'delete(m, k)'. -/
theorem Groups.deleted [DecidableEq κ] {k : κ} {n' : Nat} (h : Groups w own b enc ρ base e f G) (hok : OwnOk w own base) (hbb : b < base) (hm : MapIs w' b enc (fun y => if y = k then none else f y) n') (hg : w.grownBy w' (some b)) :
    Groups w' own b enc ρ base e (fun y => if y = k then none else f y) (fun y => if y = k then [] else G y) := by
  refine ⟨⟨n', hm⟩, fun y => ?_⟩
  by_cases q : y = k
  · subst q
    simp only [if_true, Option.getD_none]
    exact ⟨World.ownsRow_nil _ _ _ _, fun g hg => by simp [Value.ownBlock] at hg⟩
  · simp only [if_neg q]
    exact (h.2 y).kept hg (Own.le_refl _) (fun j hj e1 => by cases hj; have := (hok b _ e1).1; omega)

/-- BEHIND 'm[k] = m[k][:j]' or any store of a shorter slice of the same row. -/
theorem Groups.cut [DecidableEq κ] {k : κ} {n' : Nat} {v' : Value} {ys' : List Value} (h : Groups w own b enc ρ base e f G) (hok : OwnOk w own base) (hbb : b < base) (hv' : w.ownsRow base e 1 v' ys'.length ys') (hown : ∀ g, v'.ownBlock = some g → own g = some (ρ k))
    (hm : MapIs w' b enc (fun y => if y = k then some v' else f y) n') (hg : w.grownBy w' (some b)) :
    Groups w' own b enc ρ base e (fun y => if y = k then some v' else f y) (fun y => if y = k then ys' else G y) := by
  refine ⟨⟨n', hm⟩, fun y => ?_⟩
  by_cases q : y = k
  · subst q
    simp only [if_true, Option.getD_some]
    refine ⟨hv'.kept hg ?_, hown⟩
    cases hv : v'.ownBlock with
    | none => exact .inl rfl
    | some g => exact .inr (fun e1 => by cases e1; have := (hv'.lt b hv).1; omega)
  · simp only [if_neg q]
    exact (h.2 y).kept hg (Own.le_refl _) (fun j hj e1 => by cases hj; have := (hok b _ e1).1; omega)

/-- the characteristic function of a list, as a map's elements -/
def boolsOf (l : List Int) : Int → Option Value := fun t => if t ∈ l then some (.bool true) else none

/-- ONE ELEMENT OF A MAP OF SETS: nil and nothing in it, or a block of its own. -/
def SetIs (w : World) (own : Own) (r : Nat × Int) (o : Option Value) (l : List Int) : Prop :=
  (o = none ∧ l = []) ∨ ∃ m, o = some (.map (some m)) ∧ own m = some r ∧ MapIs w m encI (boolsOf l) l.length

theorem SetIs.kept {r : Nat × Int} {o : Option Value} {l : List Int} {row : Option Nat} (h : SetIs w own r o l) (hg : w.grownBy w' row) (hle : own.le own') (hrow : ∀ j, row = some j → own j ≠ some r) : SetIs w' own' r o l := by
  rcases h with h | ⟨m, h1, h2, h3⟩
  · exact .inl h
  · exact .inr ⟨m, h1, hle _ _ h2, h3.kept hg (fun q => hrow m q.symm h2)⟩

/-- A MAP OF SETS. -/
def Sets (w : World) (own : Own) (b : Nat) (enc : κ → Value) (ρ : κ → Nat × Int) (f : κ → Option Value) (S : κ → List Int) : Prop :=
  (∃ n, MapIs w b enc f n) ∧ ∀ k, SetIs w own (ρ k) (f k) (S k)

variable {S : κ → List Int}

theorem Sets.kept {row : Option Nat} (h : Sets w own b enc ρ f S) (hg : w.grownBy w' row) (hle : own.le own') (hb : some b ≠ row) (hrow : ∀ j, row = some j → ∀ k, own j ≠ some (ρ k)) : Sets w' own' b enc ρ f S := by
  obtain ⟨⟨n, hm⟩, hr⟩ := h
  exact ⟨⟨n, hm.kept hg hb⟩, fun k => (hr k).kept hg hle (fun j hj => hrow j hj k)⟩

theorem sets_made (w : World) (own : Own) (enc : κ → Value) (ρ : κ → Nat × Int) : Sets (w.alloc (.map #[] 0)) own w.heap.size enc ρ (fun _ => none) (fun _ => []) :=
  ⟨⟨0, mapIs_made w enc⟩, fun _ => .inl ⟨rfl, rfl⟩⟩

/-- A NEW SET IS STORED AT k: w1: behind its making at block m; w2: behind the store. -/
theorem Sets.newSet [DecidableEq κ] {w1 w2 : World} {k : κ} {m n' : Nat} (h : Sets w own b enc ρ f S) (hok : OwnOk w own base) (hbb : b < base) (hS : S k = []) (hg1 : w.grownBy w1 none) (hlt : w.heap.size ≤ m) (hm1 : MapIs w1 m encI (fun _ => none) 0)
    (hm : MapIs w2 b enc (fun y => if y = k then some (.map (some m)) else f y) n') (hg2 : w1.grownBy w2 (some b)) : Sets w2 (own.set m (ρ k)) b enc ρ (fun y => if y = k then some (.map (some m)) else f y) S := by
  have hle : own.le (own.set m (ρ k)) := Own.le_set (.inl (hok.none (.inr hlt)))
  have hbm : b < m := by
    obtain ⟨⟨n, h0⟩, _⟩ := h
    have := h0.lt
    omega
  refine ⟨⟨n', hm⟩, fun y => ?_⟩
  by_cases q : y = k
  · subst q
    simp only [if_true]
    refine .inr ⟨m, rfl, Own.set_at _ _ _, ?_⟩
    rw [hS]
    refine ((hm1.kept hg2 (by simp; omega)).congr (fun t => ?_))
    simp [boolsOf]
  · simp only [if_neg q]
    exact ((h.2 y).kept hg1 (Own.le_refl _) (fun j hj => by cases hj)).kept hg2 hle (fun j hj e1 => by cases hj; have := (hok b _ e1).1; omega)

/-- THE SET AT k IS TURNED. -/
theorem Sets.turned [DecidableEq κ] {k : κ} {m : Nat} {l : List Int} (h : Sets w own b enc ρ f S) (hinj : ∀ a c, ρ a = ρ c → a = c) (hok : OwnOk w own base) (hbb : b < base) (hf : f k = some (.map (some m))) (hm : MapIs w' m encI (boolsOf l) l.length) (hg : w.grownBy w' (some m)) :
    Sets w' own b enc ρ f (fun y => if y = k then l else S y) := by
  have hmk : own m = some (ρ k) := by
    rcases h.2 k with ⟨h1, _⟩ | ⟨m', h1, h2, _⟩
    · rw [hf] at h1; cases h1
    · rw [hf] at h1; cases h1; exact h2
  have hmb : b ≠ m := fun e1 => by subst e1; have := (hok b _ hmk).1; omega
  obtain ⟨⟨n, h0⟩, hr⟩ := h
  refine ⟨⟨n, h0.kept hg (by simp [hmb])⟩, fun y => ?_⟩
  by_cases q : y = k
  · subst q
    simp only [if_true]
    exact .inr ⟨m, hf, hmk, hm⟩
  · simp only [if_neg q]
    exact (hr y).kept hg (Own.le_refl _) (fun j hj e1 => by cases hj; rw [hmk] at e1; exact q (hinj _ _ (Option.some.inj e1)).symm)

end

/-! ### sets at the operation -/
theorem setIs_lookup {P : Program} {w : World} {own : Own} {r : Nat × Int} {o : Option Value} {l : List Int} {t kt et : TypeId} (h : SetIs w own r o l) (K : KeyEnc P kt encI) (hk : P.underlying kt = some (.int .i64)) (ht : P.underlying t = some (.map kt et)) (hz : (zeroValue et).run P w = .ok (.bool false) w) (x : Int) :
    (Instr.lookup t (o.getD (.map none)) (.int .i64 x) false).run P w = .ok (.bool (decide (x ∈ l))) w := by
  rcases h with ⟨rfl, rfl⟩ | ⟨m, rfl, _, h3⟩
  · have f1 : (Instr.findKey kt (.int .i64 x) []).run P w = .ok none w := MapKept.run_findKey hk rfl
    simp [Instr.lookup, run_underlying ht, MapKept.run_checkKey hk (k := .int .i64 x) (by simp [MapKept.IsKey]), f1, hz, Result.andThen]
  · have := h3.lookup K ht hz x false
    simp only [encI] at this
    simp only [Option.getD_some]
    rw [this]
    by_cases q : x ∈ l <;> simp [boolsOf, q]

theorem setIs_len {P : Program} {w : World} {own : Own} {r : Nat × Int} {o : Option Value} {l : List Int} {t kt et : TypeId} (h : SetIs w own r o l) (ht : P.underlying t = some (.map kt et)) (ty : TypeId) :
    (Builtin.len_ #[t] ty #[o.getD (.map none)]).run P w = .ok (.int .i64 l.length) w := by
  rcases h with ⟨rfl, rfl⟩ | ⟨m, rfl, _, h3⟩
  · simp [Builtin.len_, run_underlying ht, goInt, Result.andThen]
  · exact h3.len ht ty

section
variable {P : Program} (w : World) {ops : Array Oper} {rest : List Oper} {o : Oper} {a : Act} {Q : Exit → Act → World → Prop}

theorem wpList_lookup_set (hg : o.guard = none) (m x : Operand) (t : TypeId) (hop : o.op = Op.lookup t m x false) {kt et : TypeId} (hk : P.underlying kt = some (.int .i64)) (ht : P.underlying t = some (.map kt et)) (hz : ∀ w, (zeroValue et).run P w = .ok (.bool false) w)
    {own : Own} {r : Nat × Int} {v : Option Value} {l : List Int} (h : SetIs w own r v l) (hm : a.eval m = v.getD (.map none)) (k : Int) (hx : a.eval x = .int .i64 k)
    (hK : wpList P ops Q rest (a.put o.dst (.bool (decide (k ∈ l)))) w) : wpList P ops Q (o :: rest) a w := by
  refine wpList_plain hg fun K' hK' => ?_
  have hrun := setIs_lookup h (keyI hk) hk ht (hz w) k
  unfold Oper.wp
  simp only [execOp, hop, hm, hx]
  simp only [Sem.run_bind, hrun, Result.andThen]
  exact hK' _ _ hK

theorem wpList_len_set (hg : o.guard = none) (m : Operand) (t : TypeId) (hop : o.op = Op.call { callee := Callee.builtin Builtin.len, args := #[m], argTypes := #[t] }) {kt et : TypeId} (ht : P.underlying t = some (.map kt et))
    {own : Own} {r : Nat × Int} {v : Option Value} {l : List Int} (h : SetIs w own r v l) (hm : a.eval m = v.getD (.map none))
    (hK : wpList P ops Q rest (a.put o.dst (.int .i64 l.length)) w) : wpList P ops Q (o :: rest) a w := by
  refine wpList_plain hg fun K' hK' => ?_
  have hrun := setIs_len h ht o.type (P := P)
  unfold Oper.wp execOp
  simp only [hop, resolve, invoke, builtin, Sem.run_bind, Sem.run_pure, Result.andThen_ok, List.map_toArray, List.map_cons, List.map_nil, hm, hrun]
  exact hK' _ _ hK

/-- 'delete(m[x], t)': in the set at the key x, nil or not. -/
theorem wpList_delete_set {κ : Type} [DecidableEq κ] (hg : o.guard = none) (m x : Operand) (t kt : TypeId) (hop : o.op = Op.call { callee := Callee.builtin Builtin.delete, args := #[m, x], argTypes := #[t, kt] }) {et : TypeId} (hk : P.underlying kt = some (.int .i64)) (ht : P.underlying t = some (.map kt et))
    {own : Own} {b base : Nat} {enc : κ → Value} {ρ : κ → Nat × Int} {f : κ → Option Value} {S : κ → List Int} (h : Sets w own b enc ρ f S) (hinj : ∀ a c, ρ a = ρ c → a = c) (hok : OwnOk w own base) (hbb : b < base) (c : κ) (hnd : (S c).Nodup) (hm : a.eval m = (f c).getD (.map none)) (k : Int) (hx : a.eval x = .int .i64 k)
    (hK : ∀ w' row, Sets w' own b enc ρ f (fun y => if y = c then (S c).filter (fun z => decide (z ≠ k)) else S y) → w.grownBy w' row → (∀ j, row = some j → own j = some (ρ c)) → w'.heap.size = w.heap.size → wpList P ops Q rest (a.put o.dst (.tuple #[])) w') : wpList P ops Q (o :: rest) a w := by
  refine wpList_plain hg fun K' hK' => ?_
  have hnew : ∃ w' row, (Builtin.delete_ #[t, kt] o.type #[(f c).getD (.map none), .int .i64 k]).run P w = .ok (.tuple #[]) w' ∧ Sets w' own b enc ρ f (fun y => if y = c then (S c).filter (fun z => decide (z ≠ k)) else S y) ∧ w.grownBy w' row ∧ (∀ j, row = some j → own j = some (ρ c)) ∧ w'.heap.size = w.heap.size := by
    rcases h.2 c with ⟨h1, h2⟩ | ⟨mb, h1, h2, h3⟩
    · refine ⟨w, none, ?_, ?_, ⟨rfl, rfl, rfl, Nat.le_refl _, fun _ _ _ => rfl⟩, (fun j hj => by cases hj), rfl⟩
      · rw [h1]
        simp [Builtin.delete_, run_underlying ht, MapKept.run_checkKey hk (k := .int .i64 k) (by simp [MapKept.IsKey]), Result.andThen]
      · have e : (fun y => if y = c then (S c).filter (fun z => decide (z ≠ k)) else S y) = S := funext fun y => by
          by_cases q : y = c
          · subst q; simp [h2]
          · simp [q]
        rw [e]; exact h
    · obtain ⟨w', hrun, r1, r2, r3⟩ := h3.delete (keyI hk) ht k o.type
      refine ⟨w', some mb, by rw [h1]; exact hrun, ?_, r2, (fun j hj => by cases hj; exact h2), r3⟩
      refine h.turned hinj hok hbb h1 ?_ r2
      have e1 : (if (boolsOf (S c) k).isSome = true then (S c).length - 1 else (S c).length) = ((S c).filter (fun z => decide (z ≠ k))).length := by
        have hf : (S c).filter (fun z => decide (z ≠ k)) = (S c).erase k := by
          rw [List.Nodup.erase_eq_filter hnd]
          congr 1
          funext z
          by_cases q : z = k <;> simp [q, bne]
        by_cases q : k ∈ S c
        · rw [hf, List.length_erase_of_mem q]; simp [boolsOf, q]
        · rw [hf, List.erase_of_not_mem q]; simp [boolsOf, q]
      rw [e1] at r1
      refine r1.congr (fun y => ?_)
      by_cases q : y = k
      · subst q; simp [boolsOf]
      · by_cases q' : y ∈ S c <;> simp [boolsOf, q, q']
  obtain ⟨w', row, hrun, r1, r2, r3, r4⟩ := hnew
  unfold Oper.wp execOp
  simp only [hop, resolve, invoke, builtin, Sem.run_bind, Sem.run_pure, Result.andThen_ok, List.map_toArray, List.map_cons, List.map_nil, hm, hx, hrun]
  exact hK' _ _ (hK w' row r1 r2 r3 r4)

end
end Go.Proofs.Qxb6000427a
