/-
  Own work: the memory of 'strictness' between its operations ('SInv': between two rounds; 'RInv': inside a round, with the round's own copy of the operation in block g), and what each store does to it.
-/
import Derived.Test.Qxb6000427aOwn
import Derived.Test.Qxb6000427aPlain
namespace Go.Proofs.Qxb6000427a
open Go.RowKit

def ρR (x : UInt8) : Nat × Int := (0, (x.toNat : Int))
def ρW (t : Int) : Nat × Int := (1, t)
def ρD (t : Int) : Nat × Int := (2, t)
theorem ρR_inj (a c : UInt8) (h : ρR a = ρR c) : a = c := by
  simp only [ρR, Prod.mk.injEq, true_and] at h
  exact UInt8.toNat_inj.1 (by omega)
theorem ρW_inj (a c : Int) (h : ρW a = ρW c) : a = c := by simpa [ρW] using h
theorem ρD_inj (a c : Int) (h : ρD a = ρD c) : a = c := by simpa [ρD] using h

def holds (s : St) : UInt8 → Option Value := fun x => (s.H x).map encI

structure SInv (w0 w : World) (B : Nat) (own : Own) (fR : UInt8 → Option Value) (fW fD : Int → Option Value) (s : St) : Prop where
  below : Below B w0 w
  size : B + 4 ≤ w.heap.size
  ok : OwnOk w own (B + 4)
  mH : ∃ n, MapIs w B encS (holds s) n
  mR : Sets w own (B + 1) encS ρR fR s.R
  mW : Groups w own (B + 1 + 1) encI ρW (B + 4) 9 fW (fun t => (s.W t).map encS)
  mD : Groups w own (B + 1 + 1 + 1) encI ρD (B + 4) 9 fD (fun t => (s.D t).map encS)

def opCells (kd T : Int) (x : UInt8) : Array Value := #[.int .i64 kd, .int .i64 T, .string ⟨#[]⟩, .string ⟨#[x]⟩, .string ⟨#[]⟩, .int .i64 0]

structure RInv (w0 w : World) (B : Nat) (own : Own) (fR : UInt8 → Option Value) (fW fD : Int → Option Value) (s : St) (g : Nat) (kd T : Int) (x : UInt8) : Prop where
  inv : SInv w0 w B own fR fW fD s
  op : w.heap[g]? = some (.cells (opCells kd T x) 46 (0, 0))
  gn : own g = none
  gb : B + 4 ≤ g

section
variable {w0 w w' w1 w2 : World} {B g : Nat} {own : Own} {fR : UInt8 → Option Value} {fW fD : Int → Option Value} {s : St} {kd T : Int} {x : UInt8}

theorem ne_some {a b : Nat} (h : a ≠ b) : some a ≠ some b := fun e => h (Option.some.inj e)

theorem noRow {own : Own} {r : Nat × Int} : ∀ j, (none : Option Nat) = some j → own j ≠ some r := fun j hj => by cases hj

theorem SInv.grow (h : SInv w0 w B own fR fW fD s) (hg : w.grownBy w' none) : SInv w0 w' B own fR fW fD s := by
  obtain ⟨n, hH⟩ := h.mH
  exact ⟨h.below.grown hg (by have := h.size; omega) (fun k hk => by cases hk), Nat.le_trans h.size hg.size, h.ok.grown hg.size, ⟨n, hH.kept hg (by simp)⟩, h.mR.kept hg (Own.le_refl _) (by simp) (fun j hj => by cases hj),
    h.mW.kept hg (Own.le_refl _) (by simp) (fun j hj => by cases hj), h.mD.kept hg (Own.le_refl _) (by simp) (fun j hj => by cases hj)⟩

theorem SInv.drew (h : SInv w0 w B own fR fW fD s) : SInv w0 w.drew B own fR fW fD s := ⟨h.below.drew, h.size, h.ok, h.mH, h.mR, h.mW, h.mD⟩

theorem SInv.laid (h : SInv w0 w B own fR fW fD s) (kd T : Int) (x : UInt8) : RInv w0 (w.alloc (.cells (opCells kd T x) 46)) B own fR fW fD s w.heap.size kd T x :=
  ⟨h.grow (World.grownBy_alloc w _ none), heap_alloc_new w _, h.ok.none (.inr (Nat.le_refl _)), h.size⟩

theorem RInv.glt (h : RInv w0 w B own fR fW fD s g kd T x) : g < w.heap.size := (Array.getElem?_eq_some_iff.1 h.op).1

theorem RInv.grow (h : RInv w0 w B own fR fW fD s g kd T x) (hg : w.grownBy w' none) : RInv w0 w' B own fR fW fD s g kd T x :=
  ⟨h.inv.grow hg, (hg.block g h.glt (by simp)).trans h.op, h.gn, h.gb⟩

theorem RInv.drew (h : RInv w0 w B own fR fW fD s g kd T x) : RInv w0 w.drew B own fR fW fD s g kd T x := ⟨h.inv.drew, h.op, h.gn, h.gb⟩
theorem RInv.alloc (h : RInv w0 w B own fR fW fD s g kd T x) (o : Obj) : RInv w0 (w.alloc o) B own fR fW fD s g kd T x := h.grow (World.grownBy_alloc w o none)

theorem op_c0 (h : w.heap[g]? = some (.cells (opCells kd T x) 46 (0, 0))) : w.cell? ⟨g, 0, none⟩ = some (.int .i64 kd) := by rw [cell_of_row w g 0 _ _ _ h]; rfl
theorem op_c1 (h : w.heap[g]? = some (.cells (opCells kd T x) 46 (0, 0))) : w.cell? ⟨g, 1, none⟩ = some (.int .i64 T) := by rw [cell_of_row w g 1 _ _ _ h]; rfl
theorem op_c3 (h : w.heap[g]? = some (.cells (opCells kd T x) 46 (0, 0))) : w.cell? ⟨g, 3, none⟩ = some (.string ⟨#[x]⟩) := by rw [cell_of_row w g 3 _ _ _ h]; rfl

/-- a row that serves a role is neither the operation's block nor one of the four maps -/
theorem RInv.far (h : RInv w0 w B own fR fW fD s g kd T x) {j : Nat} {r : Nat × Int} (hj : own j = some r) : j ≠ g ∧ B + 4 ≤ j :=
  ⟨fun e => (by subst e; rw [h.gn] at hj; exact absurd hj (by simp)), (h.inv.ok j r hj).1⟩

theorem RInv.opKept (h : RInv w0 w B own fR fW fD s g kd T x) {row : Option Nat} (hg : w.grownBy w' row) (hne : some g ≠ row) : w'.heap[g]? = some (.cells (opCells kd T x) 46 (0, 0)) := (hg.block g h.glt hne).trans h.op

/-- 'readers[x] = make(map[int]bool)' -/
theorem RInv.newSet (h : RInv w0 w B own fR fW fD s g kd T x) (hS : s.R x = []) (hm : ∃ n, MapIs w2 (B + 1) encS (fun y => if y = x then some (.map (some w.heap.size)) else fR y) n) (hg2 : (w.alloc (.map #[] 0)).grownBy w2 (some (B + 1))) :
    RInv w0 w2 B (own.set w.heap.size (ρR x)) (fun y => if y = x then some (.map (some w.heap.size)) else fR y) fW fD s g kd T x := by
  have hg1 := World.grownBy_alloc w (.map #[] 0) none
  obtain ⟨n2, hm⟩ := hm
  obtain ⟨nH, hH⟩ := h.inv.mH
  have hsz := h.inv.size
  have hle : own.le (own.set w.heap.size (ρR x)) := Own.le_set (.inl (h.inv.ok.none (.inr (Nat.le_refl _))))
  have hs2 : w.heap.size + 1 ≤ w2.heap.size := by have := hg2.size; simpa using this
  have low : ∀ {b' : Nat} {r : Nat × Int}, own b' = some r → b' ≠ B + 1 := fun {b' r} q e => by subst e; have := (h.inv.ok _ _ q).1; omega
  have hne : g ≠ w.heap.size := Nat.ne_of_lt h.glt
  refine ⟨⟨?_, by omega, h.inv.ok.set (by omega) hsz (by omega), ⟨nH, (hH.kept hg1 (by simp)).kept hg2 (ne_some (by omega))⟩, h.inv.mR.newSet h.inv.ok (by omega) hS hg1 (Nat.le_refl _) (mapIs_made w encI) hm hg2, ?_, ?_⟩, ?_, ?_, h.gb⟩
  · exact (h.inv.below.alloc (by omega) _).grown hg2 (by simp; omega) (fun k hk => by cases hk; omega)
  · exact (h.inv.mW.kept hg1 (Own.le_refl _) (by simp) (fun j hj => by cases hj)).kept hg2 hle (ne_some (by omega)) (fun j hj k e => by cases hj; exact low e rfl)
  · exact (h.inv.mD.kept hg1 (Own.le_refl _) (by simp) (fun j hj => by cases hj)).kept hg2 hle (ne_some (by omega)) (fun j hj k e => by cases hj; exact low e rfl)
  · have hgb := h.gb
    exact (hg2.block g (by have := h.glt; simp; omega) (ne_some (by omega))).trans ((hg1.block g h.glt (by simp)).trans h.op)
  · rw [Own.set_ne _ _ hne]; exact h.gn

/-- 'readers[x][T] = true' -/
theorem RInv.insert (h : RInv w0 w B own fR fW fD s g kd T x) {m : Nat} (hf : fR x = some (.map (some m))) (hT : T ∉ s.R x)
    (hm : MapIs w' m encI (fun y => if y = T then some (.bool true) else boolsOf (s.R x) y) (if (boolsOf (s.R x) T).isSome then (s.R x).length else (s.R x).length + 1)) (hg : w.grownBy w' (some m)) :
    RInv w0 w' B own fR fW fD (s.setR x (s.R x ++ [T])) g kd T x := by
  obtain ⟨nH, hH⟩ := h.inv.mH
  have hsz := h.inv.size
  have hmo : own m = some (ρR x) := by
    rcases h.inv.mR.2 x with ⟨q, _⟩ | ⟨m', q, q2, _⟩
    · rw [hf] at q; cases q
    · rw [hf] at q; cases q; exact q2
  have hfar := h.far hmo
  refine ⟨⟨h.inv.below.grown hg (by omega) (fun k hk => by cases hk; omega), Nat.le_trans hsz hg.size, h.inv.ok.grown hg.size, ⟨nH, hH.kept hg (ne_some (by omega))⟩, ?_, ?_, ?_⟩, h.opKept hg (by simp; exact fun e => hfar.1 e.symm), h.gn, h.gb⟩
  · refine h.inv.mR.turned ρR_inj h.inv.ok (by omega) hf ?_ hg
    have e1 : (if (boolsOf (s.R x) T).isSome = true then (s.R x).length else (s.R x).length + 1) = (s.R x ++ [T]).length := by simp [boolsOf, hT]
    rw [e1] at hm
    refine hm.congr (fun y => ?_)
    by_cases q : y = T
    · subst q; simp [boolsOf]
    · by_cases q' : y ∈ s.R x <;> simp [boolsOf, q, q']
  · exact h.inv.mW.kept hg (Own.le_refl _) (ne_some (by omega)) (fun j hj k e => by cases hj; rw [hmo] at e; simp [ρR, ρW] at e)
  · exact h.inv.mD.kept hg (Own.le_refl _) (ne_some (by omega)) (fun j hj k e => by cases hj; rw [hmo] at e; simp [ρR, ρD] at e)

theorem vlow {v : Value} {w : World} {base : Nat} {e : TypeId} {n : Nat} {ys : List Value} (h : w.ownsRow base e 1 v n ys) {j : Nat} (hj : v.ownBlock = some j) : base ≤ j := (h.lt j hj).1

/-- 'read[T] = append(read[T], x)': from w to w1 (the append), to w2 (the store) -/
theorem RInv.appD (h : RInv w0 w B own fR fW fD s g kd T x) {gg cap : Nat} {z : Value} (hz : z = .slice (some ⟨gg, 0, none⟩) ((s.D T).length + 1) cap) (hg1 : w.grownBy w1 ((fD T).getD (.slice none 0 0)).ownBlock) (hown : w1.ownsRow (B + 4) 9 1 z ((s.D T).length + 1) ((s.D T).map encS ++ [encS x]))
    (hat : ((fD T).getD (.slice none 0 0)).ownBlock = some gg ∨ w.heap.size ≤ gg) (hm : ∃ n, MapIs w2 (B + 1 + 1 + 1) encI (fun y => if y = T then some z else fD y) n) (hg2 : w1.grownBy w2 (some (B + 1 + 1 + 1))) :
    RInv w0 w2 B (own.set gg (ρD T)) fR fW (fun y => if y = T then some z else fD y) (s.addD T x) g kd T x := by
  obtain ⟨nH, hH⟩ := h.inv.mH
  obtain ⟨n2, hm⟩ := hm
  have hsz := h.inv.size
  have hzb : z.ownBlock = some gg := by rw [hz]; rfl
  have hrow : ∀ j, ((fD T).getD (.slice none 0 0)).ownBlock = some j → own j = some (ρD T) := (h.inv.mD.2 T).2
  have hlow : ∀ j, ((fD T).getD (.slice none 0 0)).ownBlock = some j → j ≠ g ∧ B + 4 ≤ j := fun j hj => h.far (hrow j hj)
  have hgg : own gg = none ∨ own gg = some (ρD T) := by
    rcases hat with q | q
    · exact .inr (hrow gg q)
    · exact .inl (h.inv.ok.none (.inr q))
  have hle : own.le (own.set gg (ρD T)) := Own.le_set hgg
  have hgl : B + 4 ≤ gg ∧ gg < w1.heap.size := hown.lt gg hzb
  have hggn : g ≠ gg := by
    rcases hat with q | q
    · exact fun e => (hlow gg q).1 e.symm
    · have := h.glt; omega
  have s1 := hg1.size
  have s2 := hg2.size
  have low : ∀ {b' : Nat} {r : Nat × Int}, own b' = some r → b' ≠ B + 1 + 1 + 1 := fun {b' r} q e => by subst e; have := (h.inv.ok _ _ q).1; omega
  have nb : ∀ {b' : Nat}, b' < B + 4 → some b' ≠ ((fD T).getD (.slice none 0 0)).ownBlock := fun {b'} hb' e => by have := (hlow b' e.symm).2; omega
  refine ⟨⟨?_, by omega, h.inv.ok.set (by omega) hgl.1 (by omega), ⟨nH, (hH.kept hg1 (nb (by omega))).kept hg2 (ne_some (by omega))⟩, ?_, ?_, ?_⟩, ?_, ?_, h.gb⟩
  · exact (h.inv.below.grown hg1 (by omega) (fun k hk => by have := (hlow k hk).2; omega)).grown hg2 (by omega) (fun k hk => by cases hk; omega)
  · exact (h.inv.mR.kept hg1 (Own.le_refl _) (nb (by omega)) (fun j hj k e => by rw [hrow j hj] at e; simp [ρR, ρD] at e)).kept hg2 hle (ne_some (by omega)) (fun j hj k e => by cases hj; exact low e rfl)
  · exact (h.inv.mW.kept hg1 (Own.le_refl _) (nb (by omega)) (fun j hj k e => by rw [hrow j hj] at e; simp [ρW, ρD] at e)).kept hg2 hle (ne_some (by omega)) (fun j hj k e => by cases hj; exact low e rfl)
  · have hst := h.inv.mD.stored (k := T) (v' := z) (ys' := (s.D T).map encS ++ [encS x]) ρD_inj h.inv.ok (by omega) hg1 (by simpa using hown) hle (fun q hq => by rw [hzb] at hq; cases hq; exact Own.set_at _ _ _) hm hg2
    have e1 : (fun y => if y = T then (s.D T).map encS ++ [encS x] else (s.D y).map encS) = (fun t => ((s.addD T x).D t).map encS) := funext fun y => by
      by_cases q : y = T
      · subst q; simp [St.addD]
      · simp [St.addD, q]
    rw [e1] at hst
    exact hst
  · have hgb := h.gb
    exact (hg2.block g (by have := h.glt; omega) (ne_some (by omega))).trans (h.opKept hg1 (fun e => (hlow g e.symm).1 rfl))
  · rw [Own.set_ne _ _ hggn]; exact h.gn

/-- 'wrote[T] = append(wrote[T], x)' -/
theorem RInv.appW (h : RInv w0 w B own fR fW fD s g kd T x) {gg cap : Nat} {z : Value} (hz : z = .slice (some ⟨gg, 0, none⟩) ((s.W T).length + 1) cap) (hg1 : w.grownBy w1 ((fW T).getD (.slice none 0 0)).ownBlock) (hown : w1.ownsRow (B + 4) 9 1 z ((s.W T).length + 1) ((s.W T).map encS ++ [encS x]))
    (hat : ((fW T).getD (.slice none 0 0)).ownBlock = some gg ∨ w.heap.size ≤ gg) (hm : ∃ n, MapIs w2 (B + 1 + 1) encI (fun y => if y = T then some z else fW y) n) (hg2 : w1.grownBy w2 (some (B + 1 + 1))) :
    RInv w0 w2 B (own.set gg (ρW T)) fR (fun y => if y = T then some z else fW y) fD (s.addW T x) g kd T x := by
  obtain ⟨nH, hH⟩ := h.inv.mH
  obtain ⟨n2, hm⟩ := hm
  have hsz := h.inv.size
  have hzb : z.ownBlock = some gg := by rw [hz]; rfl
  have hrow : ∀ j, ((fW T).getD (.slice none 0 0)).ownBlock = some j → own j = some (ρW T) := (h.inv.mW.2 T).2
  have hlow : ∀ j, ((fW T).getD (.slice none 0 0)).ownBlock = some j → j ≠ g ∧ B + 4 ≤ j := fun j hj => h.far (hrow j hj)
  have hgg : own gg = none ∨ own gg = some (ρW T) := by
    rcases hat with q | q
    · exact .inr (hrow gg q)
    · exact .inl (h.inv.ok.none (.inr q))
  have hle : own.le (own.set gg (ρW T)) := Own.le_set hgg
  have hgl : B + 4 ≤ gg ∧ gg < w1.heap.size := hown.lt gg hzb
  have hggn : g ≠ gg := by
    rcases hat with q | q
    · exact fun e => (hlow gg q).1 e.symm
    · have := h.glt; omega
  have s1 := hg1.size
  have s2 := hg2.size
  have low : ∀ {b' : Nat} {r : Nat × Int}, own b' = some r → b' ≠ B + 1 + 1 := fun {b' r} q e => by subst e; have := (h.inv.ok _ _ q).1; omega
  have nb : ∀ {b' : Nat}, b' < B + 4 → some b' ≠ ((fW T).getD (.slice none 0 0)).ownBlock := fun {b'} hb' e => by have := (hlow b' e.symm).2; omega
  refine ⟨⟨?_, by omega, h.inv.ok.set (by omega) hgl.1 (by omega), ⟨nH, (hH.kept hg1 (nb (by omega))).kept hg2 (ne_some (by omega))⟩, ?_, ?_, ?_⟩, ?_, ?_, h.gb⟩
  · exact (h.inv.below.grown hg1 (by omega) (fun k hk => by have := (hlow k hk).2; omega)).grown hg2 (by omega) (fun k hk => by cases hk; omega)
  · exact (h.inv.mR.kept hg1 (Own.le_refl _) (nb (by omega)) (fun j hj k e => by rw [hrow j hj] at e; simp [ρR, ρW] at e)).kept hg2 hle (ne_some (by omega)) (fun j hj k e => by cases hj; exact low e rfl)
  · have hst := h.inv.mW.stored (k := T) (v' := z) (ys' := (s.W T).map encS ++ [encS x]) ρW_inj h.inv.ok (by omega) hg1 (by simpa using hown) hle (fun q hq => by rw [hzb] at hq; cases hq; exact Own.set_at _ _ _) hm hg2
    have e1 : (fun y => if y = T then (s.W T).map encS ++ [encS x] else (s.W y).map encS) = (fun t => ((s.addW T x).W t).map encS) := funext fun y => by
      by_cases q : y = T
      · subst q; simp [St.addW]
      · simp [St.addW, q]
    rw [e1] at hst
    exact hst
  · exact (h.inv.mD.kept hg1 (Own.le_refl _) (nb (by omega)) (fun j hj k e => by rw [hrow j hj] at e; simp [ρD, ρW] at e)).kept hg2 hle (ne_some (by omega)) (fun j hj k e => by cases hj; exact low e rfl)
  · have hgb := h.gb
    exact (hg2.block g (by have := h.glt; omega) (ne_some (by omega))).trans (h.opKept hg1 (fun e => (hlow g e.symm).1 rfl))
  · rw [Own.set_ne _ _ hggn]; exact h.gn

/-- a change of one of the four maps' own blocks keeps the other three -/
theorem RInv.base (h : RInv w0 w B own fR fW fD s g kd T x) {b : Nat} (hb : b < B + 4) (hB : B ≤ b) (hg : w.grownBy w' (some b)) :
    Below B w0 w' ∧ B + 4 ≤ w'.heap.size ∧ OwnOk w' own (B + 4) ∧ w'.heap[g]? = some (.cells (opCells kd T x) 46 (0, 0)) ∧ ∀ j r, some b = some j → own j ≠ some r := by
  have hgb := h.gb
  refine ⟨h.inv.below.grown hg (by have := h.inv.size; omega) (fun k hk => by cases hk; omega), Nat.le_trans h.inv.size hg.size, h.inv.ok.grown hg.size, h.opKept hg (ne_some (by omega)), fun j r hj e => ?_⟩
  cases hj
  have := (h.inv.ok _ _ e).1
  omega

/-- 'holder[x] = T' -/
theorem RInv.put (h : RInv w0 w B own fR fW fD s g kd T x) (hm : ∃ n, MapIs w' B encS (fun y => if y = x then some (.int .i64 T) else holds s y) n) (hg : w.grownBy w' (some B)) : RInv w0 w' B own fR fW fD (s.putH x T) g kd T x := by
  obtain ⟨q1, q2, q3, q4, q5⟩ := h.base (by omega) (Nat.le_refl _) hg
  obtain ⟨n, hm⟩ := hm
  refine ⟨⟨q1, q2, q3, ⟨n, hm.congr (fun y => ?_)⟩, h.inv.mR.kept hg (Own.le_refl _) (ne_some (by omega)) (fun j hj k => q5 j _ hj), h.inv.mW.kept hg (Own.le_refl _) (ne_some (by omega)) (fun j hj k => q5 j _ hj), h.inv.mD.kept hg (Own.le_refl _) (ne_some (by omega)) (fun j hj k => q5 j _ hj)⟩, q4, h.gn, h.gb⟩
  by_cases q : y = x <;> simp [holds, St.putH, q, encI]

theorem RInv.rig (h : RInv w0 w B own fR fW fD s g kd T x) (r : Bool) : RInv w0 w B own fR fW fD (s.setRig r) g kd T x := ⟨⟨h.inv.below, h.inv.size, h.inv.ok, h.inv.mH, h.inv.mR, h.inv.mW, h.inv.mD⟩, h.op, h.gn, h.gb⟩

/-- 'delete(holder, y)' -/
theorem RInv.dropH (h : RInv w0 w B own fR fW fD s g kd T x) {c : UInt8} {l : List UInt8} {s0 : St} (hs : s = s0.delH l) (hm : ∃ n, MapIs w' B encS (fun y => if y = c then none else holds s y) n) (hg : w.grownBy w' (some B)) : RInv w0 w' B own fR fW fD (s0.delH (l ++ [c])) g kd T x := by
  obtain ⟨q1, q2, q3, q4, q5⟩ := h.base (by omega) (Nat.le_refl _) hg
  obtain ⟨n, hm⟩ := hm
  subst hs
  refine ⟨⟨q1, q2, q3, ⟨n, hm.congr (fun y => ?_)⟩, h.inv.mR.kept hg (Own.le_refl _) (ne_some (by omega)) (fun j hj k => q5 j _ hj), h.inv.mW.kept hg (Own.le_refl _) (ne_some (by omega)) (fun j hj k => q5 j _ hj), h.inv.mD.kept hg (Own.le_refl _) (ne_some (by omega)) (fun j hj k => q5 j _ hj)⟩, q4, h.gn, h.gb⟩
  by_cases q : y = c
  · simp [holds, St.delH, q]
  · by_cases q' : y ∈ l <;> simp [holds, St.delH, q, q']

/-- 'delete(readers[c], T)' -/
theorem RInv.dropR (h : RInv w0 w B own fR fW fD s g kd T x) {c : UInt8} {l : List UInt8} {s0 : St} (hs : s = s0.delR T l) {row : Option Nat} (hm : Sets w' own (B + 1) encS ρR fR (fun y => if y = c then (s.R c).filter (fun z => decide (z ≠ T)) else s.R y)) (hg : w.grownBy w' row) (hrow : ∀ j, row = some j → own j = some (ρR c)) :
    RInv w0 w' B own fR fW fD (s0.delR T (l ++ [c])) g kd T x := by
  obtain ⟨nH, hH⟩ := h.inv.mH
  have hsz := h.inv.size
  have hfar : ∀ j, row = some j → j ≠ g ∧ B + 4 ≤ j := fun j hj => h.far (hrow j hj)
  have nb : ∀ {b' : Nat}, b' < B + 4 → some b' ≠ row := fun {b'} hb' e => by have := (hfar b' e.symm).2; omega
  subst hs
  refine ⟨⟨h.inv.below.grown hg (by omega) (fun k hk => by have := (hfar k hk).2; omega), Nat.le_trans hsz hg.size, h.inv.ok.grown hg.size, ⟨nH, hH.kept hg (nb (by omega))⟩, ?_, ?_, ?_⟩, h.opKept hg (fun e => (hfar g e.symm).1 rfl), h.gn, h.gb⟩
  · have e1 : (fun y => if y = c then ((s0.delR T l).R c).filter (fun z => decide (z ≠ T)) else (s0.delR T l).R y) = (s0.delR T (l ++ [c])).R := funext fun y => by
      by_cases q : y = c
      · subst q
        by_cases q' : y ∈ l <;> simp [St.delR, q', List.filter_filter]
      · by_cases q' : y ∈ l <;> simp [St.delR, q, q']
    rw [e1] at hm
    exact hm
  · exact h.inv.mW.kept hg (Own.le_refl _) (nb (by omega)) (fun j hj k e => by rw [hrow j hj] at e; simp [ρR, ρW] at e)
  · exact h.inv.mD.kept hg (Own.le_refl _) (nb (by omega)) (fun j hj k e => by rw [hrow j hj] at e; simp [ρR, ρD] at e)

/-- 'delete(wrote, T)' -/
theorem RInv.dropW (h : RInv w0 w B own fR fW fD s g kd T x) (hm : ∃ n, MapIs w' (B + 1 + 1) encI (fun y => if y = T then none else fW y) n) (hg : w.grownBy w' (some (B + 1 + 1))) : RInv w0 w' B own fR (fun y => if y = T then none else fW y) fD (s.noW T) g kd T x := by
  obtain ⟨nH, hH⟩ := h.inv.mH
  obtain ⟨q1, q2, q3, q4, q5⟩ := h.base (by omega) (by omega) hg
  obtain ⟨n, hm⟩ := hm
  refine ⟨⟨q1, q2, q3, ⟨nH, hH.kept hg (ne_some (by omega))⟩, h.inv.mR.kept hg (Own.le_refl _) (ne_some (by omega)) (fun j hj k => q5 j _ hj), ?_, h.inv.mD.kept hg (Own.le_refl _) (ne_some (by omega)) (fun j hj k => q5 j _ hj)⟩, q4, h.gn, h.gb⟩
  have hst := h.inv.mW.deleted (k := T) h.inv.ok (by omega) hm hg
  have e1 : (fun y => if y = T then [] else (s.W y).map encS) = (fun t => ((s.noW T).W t).map encS) := funext fun y => by
    by_cases q : y = T <;> simp [St.noW, q]
  rw [e1] at hst
  exact hst

/-- 'delete(read, T)' -/
theorem RInv.dropD (h : RInv w0 w B own fR fW fD s g kd T x) (hm : ∃ n, MapIs w' (B + 1 + 1 + 1) encI (fun y => if y = T then none else fD y) n) (hg : w.grownBy w' (some (B + 1 + 1 + 1))) : RInv w0 w' B own fR fW (fun y => if y = T then none else fD y) (s.noD T) g kd T x := by
  obtain ⟨nH, hH⟩ := h.inv.mH
  obtain ⟨q1, q2, q3, q4, q5⟩ := h.base (by omega) (by omega) hg
  obtain ⟨n, hm⟩ := hm
  refine ⟨⟨q1, q2, q3, ⟨nH, hH.kept hg (ne_some (by omega))⟩, h.inv.mR.kept hg (Own.le_refl _) (ne_some (by omega)) (fun j hj k => q5 j _ hj), h.inv.mW.kept hg (Own.le_refl _) (ne_some (by omega)) (fun j hj k => q5 j _ hj), ?_⟩, q4, h.gn, h.gb⟩
  have hst := h.inv.mD.deleted (k := T) h.inv.ok (by omega) hm hg
  have e1 : (fun y => if y = T then [] else (s.D y).map encS) = (fun t => ((s.noD T).D t).map encS) := funext fun y => by
    by_cases q : y = T <;> simp [St.noD, q]
  rw [e1] at hst
  exact hst

theorem RInv.newSet' (h : RInv w0 w B own fR fW fD s g kd T x) (hS : s.R x = []) {M : Nat} (hM : M = w.heap.size) (hm : ∃ n, MapIs w2 (B + 1) encS (fun y => if y = x then some (.map (some M)) else fR y) n) (hg2 : (w.alloc (.map #[] 0)).grownBy w2 (some (B + 1))) :
    ∃ own' fR', fR' x = some (.map (some M)) ∧ RInv w0 w2 B own' fR' fW fD s g kd T x := by
  subst hM
  exact ⟨_, _, by simp, h.newSet hS hm hg2⟩

theorem RInv.setAt (h : RInv w0 w B own fR fW fD s g kd T x) {m : Nat} (hf : fR x = some (.map (some m))) : MapIs w m encI (boolsOf (s.R x)) (s.R x).length := by
  rcases h.inv.mR.2 x with ⟨q, _⟩ | ⟨m', q, _, q3⟩
  · rw [hf] at q; cases q
  · rw [hf] at q; cases q; exact q3

theorem RInv.rowD (h : RInv w0 w B own fR fW fD s g kd T x) (t : Int) : w.ownsRow (B + 4) 9 1 ((fD t).getD (.slice none 0 0)) (s.D t).length ((s.D t).map encS) := by
  have := (h.inv.mD.2 t).1
  simpa using this
theorem RInv.rowW (h : RInv w0 w B own fR fW fD s g kd T x) (t : Int) : w.ownsRow (B + 4) 9 1 ((fW t).getD (.slice none 0 0)) (s.W t).length ((s.W t).map encS) := by
  have := (h.inv.mW.2 t).1
  simpa using this

theorem keep2 (h : w.heap[g]? = some (.cells (opCells kd T x) 46 (0, 0))) : w.cell? ⟨g, 1, none⟩ = some (.int .i64 T) ∧ w.cell? ⟨g, 3, none⟩ = some (.string ⟨#[x]⟩) := ⟨op_c1 h, op_c3 h⟩

/-- the operation's block behind the append to a row that serves -/
theorem RInv.opD (h : RInv w0 w B own fR fW fD s g kd T x) {t : Int} (hg : w.grownBy w' ((fD t).getD (.slice none 0 0)).ownBlock) : w'.heap[g]? = some (.cells (opCells kd T x) 46 (0, 0)) :=
  h.opKept hg (fun e => (h.far ((h.inv.mD.2 t).2 g e.symm)).1 rfl)
theorem RInv.opW (h : RInv w0 w B own fR fW fD s g kd T x) {t : Int} (hg : w.grownBy w' ((fW t).getD (.slice none 0 0)).ownBlock) : w'.heap[g]? = some (.cells (opCells kd T x) 46 (0, 0)) :=
  h.opKept hg (fun e => (h.far ((h.inv.mW.2 t).2 g e.symm)).1 rfl)
/-- the map of rows behind the append -/
theorem RInv.mapD (h : RInv w0 w B own fR fW fD s g kd T x) {t : Int} (hg : w.grownBy w' ((fD t).getD (.slice none 0 0)).ownBlock) : ∃ n, MapIs w' (B + 1 + 1 + 1) encI fD n := by
  obtain ⟨n, hm⟩ := h.inv.mD.1
  exact ⟨n, hm.kept hg (fun e => by have := (h.far ((h.inv.mD.2 t).2 _ e.symm)).2; omega)⟩
theorem RInv.mapW (h : RInv w0 w B own fR fW fD s g kd T x) {t : Int} (hg : w.grownBy w' ((fW t).getD (.slice none 0 0)).ownBlock) : ∃ n, MapIs w' (B + 1 + 1) encI fW n := by
  obtain ⟨n, hm⟩ := h.inv.mW.1
  exact ⟨n, hm.kept hg (fun e => by have := (h.far ((h.inv.mW.2 t).2 _ e.symm)).2; omega)⟩
theorem opOver {b : Nat} (h : w.heap[g]? = some (.cells (opCells kd T x) 46 (0, 0))) (hg : w.grownBy w' (some b)) (hb : g ≠ b) : w'.heap[g]? = some (.cells (opCells kd T x) 46 (0, 0)) :=
  (hg.block g (Array.getElem?_eq_some_iff.1 h).1 (ne_some hb)).trans h

end
end Go.Proofs.Qxb6000427a
