/-
  Own work: the memory of 'recoverability' between its operations ('QInv': between two rounds; 'PInv': inside a round, with the round's own copy of the operation in block g), and what each store does to it.
-/
import Derived.Test.Qxb6000427aSInv
import Derived.Test.Qxb6000427aRPlain
import Derived.Deep.Draws
namespace Go.Proofs.Qxb6000427a
open Go.RowKit

def ρF (t : Int) : Nat × Int := (1, t)
theorem ρF_inj (a c : Int) (h : ρF a = ρF c) : a = c := by simpa [ρF] using h

def endsIn (s : Rc) : Int → Option Value := fun t => (s.E t).map encI

structure QInv (w0 w : World) (B : Nat) (own : Own) (fW : UInt8 → Option Value) (fF : Int → Option Value) (s : Rc) : Prop where
  below : Below B w0 w
  size : B + 3 ≤ w.heap.size
  ok : OwnOk w own (B + 3)
  mE : ∃ n, MapIs w B encI (endsIn s) n
  mW : Groups w own (B + 1) encS ρR (B + 3) 3 fW (fun x => (s.Wr x).map encI)
  mF : Groups w own (B + 1 + 1) encI ρF (B + 3) 3 fF (fun t => (s.F t).map encI)

structure PInv (w0 w : World) (B : Nat) (own : Own) (fW : UInt8 → Option Value) (fF : Int → Option Value) (s : Rc) (g : Nat) (kd T : Int) (x : UInt8) : Prop where
  inv : QInv w0 w B own fW fF s
  op : w.heap[g]? = some (.cells (opCells kd T x) 46 (0, 0))
  gn : own g = none
  gb : B + 3 ≤ g

section
variable {w0 w w' w1 w2 : World} {B g : Nat} {own : Own} {fW : UInt8 → Option Value} {fF : Int → Option Value} {s : Rc} {kd T : Int} {x : UInt8}

theorem QInv.grow (h : QInv w0 w B own fW fF s) (hg : w.grownBy w' none) : QInv w0 w' B own fW fF s := by
  obtain ⟨n, hE⟩ := h.mE
  exact ⟨h.below.grown hg (by have := h.size; omega) (fun k hk => by cases hk), Nat.le_trans h.size hg.size, h.ok.grown hg.size, ⟨n, hE.kept hg (by simp)⟩,
    h.mW.kept hg (Own.le_refl _) (by simp) (fun j hj => by cases hj), h.mF.kept hg (Own.le_refl _) (by simp) (fun j hj => by cases hj)⟩

theorem QInv.drew (h : QInv w0 w B own fW fF s) : QInv w0 w.drew B own fW fF s := ⟨h.below.drew, h.size, h.ok, h.mE, h.mW, h.mF⟩

theorem QInv.laid (h : QInv w0 w B own fW fF s) (kd T : Int) (x : UInt8) : PInv w0 (w.alloc (.cells (opCells kd T x) 46)) B own fW fF s w.heap.size kd T x :=
  ⟨h.grow (World.grownBy_alloc w _ none), heap_alloc_new w _, h.ok.none (.inr (Nat.le_refl _)), h.size⟩

theorem PInv.glt (h : PInv w0 w B own fW fF s g kd T x) : g < w.heap.size := (Array.getElem?_eq_some_iff.1 h.op).1
theorem PInv.grow (h : PInv w0 w B own fW fF s g kd T x) (hg : w.grownBy w' none) : PInv w0 w' B own fW fF s g kd T x :=
  ⟨h.inv.grow hg, (hg.block g h.glt (by simp)).trans h.op, h.gn, h.gb⟩
theorem PInv.drew (h : PInv w0 w B own fW fF s g kd T x) : PInv w0 w.drew B own fW fF s g kd T x := ⟨h.inv.drew, h.op, h.gn, h.gb⟩
theorem PInv.drewN (h : PInv w0 w B own fW fF s g kd T x) (n : Nat) : PInv w0 (w.drewN n) B own fW fF s g kd T x :=
  ⟨⟨h.inv.below.trans ⟨rfl, rfl, rfl, Nat.le_refl _, fun _ _ => rfl⟩, h.inv.size, h.inv.ok, h.inv.mE, h.inv.mW, h.inv.mF⟩, h.op, h.gn, h.gb⟩
theorem PInv.alloc (h : PInv w0 w B own fW fF s g kd T x) (o : Obj) : PInv w0 (w.alloc o) B own fW fF s g kd T x := h.grow (World.grownBy_alloc w o none)

theorem PInv.far (h : PInv w0 w B own fW fF s g kd T x) {j : Nat} {r : Nat × Int} (hj : own j = some r) : j ≠ g ∧ B + 3 ≤ j :=
  ⟨fun e => (by subst e; rw [h.gn] at hj; exact absurd hj (by simp)), (h.inv.ok j r hj).1⟩
theorem PInv.opKept (h : PInv w0 w B own fW fF s g kd T x) {row : Option Nat} (hg : w.grownBy w' row) (hne : some g ≠ row) : w'.heap[g]? = some (.cells (opCells kd T x) 46 (0, 0)) := (hg.block g h.glt hne).trans h.op

/-- a change of one of the three maps' own blocks -/
theorem PInv.base (h : PInv w0 w B own fW fF s g kd T x) {b : Nat} (hb : b < B + 3) (hB : B ≤ b) (hg : w.grownBy w' (some b)) :
    Below B w0 w' ∧ B + 3 ≤ w'.heap.size ∧ OwnOk w' own (B + 3) ∧ w'.heap[g]? = some (.cells (opCells kd T x) 46 (0, 0)) ∧ ∀ j r, some b = some j → own j ≠ some r := by
  have hgb := h.gb
  refine ⟨h.inv.below.grown hg (by have := h.inv.size; omega) (fun k hk => by cases hk; omega), Nat.le_trans h.inv.size hg.size, h.inv.ok.grown hg.size, h.opKept hg (ne_some (by omega)), fun j r hj e => ?_⟩
  cases hj
  have := (h.inv.ok _ _ e).1
  omega

/-- 'ended[T] = v' -/
theorem PInv.setE (h : PInv w0 w B own fW fF s g kd T x) {v : Int} (hm : ∃ n, MapIs w' B encI (fun y => if y = T then some (.int .i64 v) else endsIn s y) n) (hg : w.grownBy w' (some B)) : PInv w0 w' B own fW fF (s.setE T v) g kd T x := by
  obtain ⟨q1, q2, q3, q4, q5⟩ := h.base (by omega) (Nat.le_refl _) hg
  obtain ⟨n, hm⟩ := hm
  refine ⟨⟨q1, q2, q3, ⟨n, hm.congr (fun y => ?_)⟩, h.inv.mW.kept hg (Own.le_refl _) (ne_some (by omega)) (fun j hj k => q5 j _ hj), h.inv.mF.kept hg (Own.le_refl _) (ne_some (by omega)) (fun j hj k => q5 j _ hj)⟩, q4, h.gn, h.gb⟩
  by_cases q : y = T <;> simp [endsIn, Rc.setE, q, encI]

theorem PInv.setCl (h : PInv w0 w B own fW fF s g kd T x) (r : Bool) : PInv w0 w B own fW fF (s.setCl r) g kd T x := ⟨⟨h.inv.below, h.inv.size, h.inv.ok, h.inv.mE, h.inv.mW, h.inv.mF⟩, h.op, h.gn, h.gb⟩
theorem PInv.setRc (h : PInv w0 w B own fW fF s g kd T x) (r : Bool) : PInv w0 w B own fW fF (s.setRc r) g kd T x := ⟨⟨h.inv.below, h.inv.size, h.inv.ok, h.inv.mE, h.inv.mW, h.inv.mF⟩, h.op, h.gn, h.gb⟩

theorem PInv.rowW (h : PInv w0 w B own fW fF s g kd T x) (y : UInt8) : w.ownsRow (B + 3) 3 1 ((fW y).getD (.slice none 0 0)) (s.Wr y).length ((s.Wr y).map encI) := by
  have := (h.inv.mW.2 y).1
  simpa using this
theorem PInv.rowF (h : PInv w0 w B own fW fF s g kd T x) (t : Int) : w.ownsRow (B + 3) 3 1 ((fF t).getD (.slice none 0 0)) (s.F t).length ((s.F t).map encI) := by
  have := (h.inv.mF.2 t).1
  simpa using this

/-- a shorter slice of the same row -/
theorem row_cut {w : World} {base n m cap : Nat} {ad : Option Addr} {e : TypeId} {l : List Int} (h : w.ownsRow base e 1 (.slice ad n cap) n (l.map encI)) (hm : m ≤ n) : w.ownsRow base e 1 (.slice ad m cap) m ((l.take m).map encI) := by
  have hl := h.1
  simp at hl
  refine ⟨by simp; omega, ?_⟩
  rcases h.2 with ⟨h1, h2⟩ | ⟨gw, c, cur, h1, h2, h3, h4, h5, h6, h7⟩
  · subst h2
    have : m = 0 := by omega
    subst this
    left
    simp at h1
    simp [h1]
  · simp only [Value.slice.injEq] at h1
    obtain ⟨rfl, _, rfl⟩ := h1
    refine .inr ⟨gw, cap, cur, rfl, h2, h3, by omega, h5, h6, ?_⟩
    rw [List.map_take, ← h7, List.take_take]
    congr 1
    omega

/-- 'writers[x] = w', w a shorter slice of writers[x] -/
theorem PInv.cutW (h : PInv w0 w B own fW fF s g kd T x) {ad : Option Addr} {m cap : Nat} (hv : (fW x).getD (.slice none 0 0) = .slice ad (s.Wr x).length cap) (hm : m ≤ (s.Wr x).length)
    (hu : ∃ n, MapIs w' (B + 1) encS (fun y => if y = x then some (.slice ad m cap) else fW y) n) (hg : w.grownBy w' (some (B + 1))) :
    ∃ fW', fW' x = some (.slice ad m cap) ∧ PInv w0 w' B own fW' fF (s.setW x ((s.Wr x).take m)) g kd T x := by
  obtain ⟨nE, hE⟩ := h.inv.mE
  obtain ⟨q1, q2, q3, q4, q5⟩ := h.base (by omega) (by omega) hg
  obtain ⟨n, hu⟩ := hu
  have hrow := h.rowW x
  rw [hv] at hrow
  have hc := row_cut hrow hm
  have hl : ((s.Wr x).take m).length = m := by simp; omega
  have hst := h.inv.mW.cut (k := x) (v' := .slice ad m cap) (ys' := ((s.Wr x).take m).map encI) h.inv.ok (by omega) (by rw [List.length_map, hl]; exact hc) (fun gg hgg => (h.inv.mW.2 x).2 gg (by rw [hv]; cases ad with | none => cases hgg | some a => exact hgg)) hu hg
  have e1 : (fun y => if y = x then ((s.Wr x).take m).map encI else (s.Wr y).map encI) = (fun y => ((s.setW x ((s.Wr x).take m)).Wr y).map encI) := funext fun y => by
    by_cases q : y = x <;> simp [Rc.setW, q]
  rw [e1] at hst
  exact ⟨_, by simp, ⟨⟨q1, q2, q3, ⟨nE, hE.kept hg (ne_some (by omega))⟩, hst, h.inv.mF.kept hg (Own.le_refl _) (ne_some (by omega)) (fun j hj k => q5 j _ hj)⟩, q4, h.gn, h.gb⟩⟩

/-- 'readFrom[T] = append(readFrom[T], f)' -/
theorem PInv.appF (h : PInv w0 w B own fW fF s g kd T x) {f : Int} {gg cap : Nat} {z : Value} (hz : z = .slice (some ⟨gg, 0, none⟩) ((s.F T).length + 1) cap) (hg1 : w.grownBy w1 ((fF T).getD (.slice none 0 0)).ownBlock) (hown : w1.ownsRow (B + 3) 3 1 z ((s.F T).length + 1) ((s.F T).map encI ++ [encI f]))
    (hat : ((fF T).getD (.slice none 0 0)).ownBlock = some gg ∨ w.heap.size ≤ gg) (hm : ∃ n, MapIs w2 (B + 1 + 1) encI (fun y => if y = T then some z else fF y) n) (hg2 : w1.grownBy w2 (some (B + 1 + 1))) :
    PInv w0 w2 B (own.set gg (ρF T)) fW (fun y => if y = T then some z else fF y) (s.addF T f) g kd T x := by
  obtain ⟨nE, hE⟩ := h.inv.mE
  obtain ⟨n2, hm⟩ := hm
  have hsz := h.inv.size
  have hzb : z.ownBlock = some gg := by rw [hz]; rfl
  have hrow : ∀ j, ((fF T).getD (.slice none 0 0)).ownBlock = some j → own j = some (ρF T) := (h.inv.mF.2 T).2
  have hlow : ∀ j, ((fF T).getD (.slice none 0 0)).ownBlock = some j → j ≠ g ∧ B + 3 ≤ j := fun j hj => h.far (hrow j hj)
  have hgg : own gg = none ∨ own gg = some (ρF T) := by
    rcases hat with q | q
    · exact .inr (hrow gg q)
    · exact .inl (h.inv.ok.none (.inr q))
  have hle : own.le (own.set gg (ρF T)) := Own.le_set hgg
  have hgl : B + 3 ≤ gg ∧ gg < w1.heap.size := hown.lt gg hzb
  have hggn : g ≠ gg := by
    rcases hat with q | q
    · exact fun e => (hlow gg q).1 e.symm
    · have := h.glt; omega
  have s1 := hg1.size
  have s2 := hg2.size
  have low : ∀ {b' : Nat} {r : Nat × Int}, own b' = some r → b' ≠ B + 1 + 1 := fun {b' r} q e => by subst e; have := (h.inv.ok _ _ q).1; omega
  have nb : ∀ {b' : Nat}, b' < B + 3 → some b' ≠ ((fF T).getD (.slice none 0 0)).ownBlock := fun {b'} hb' e => by have := (hlow b' e.symm).2; omega
  refine ⟨⟨?_, by omega, h.inv.ok.set (by omega) hgl.1 (by omega), ⟨nE, (hE.kept hg1 (nb (by omega))).kept hg2 (ne_some (by omega))⟩, ?_, ?_⟩, ?_, ?_, h.gb⟩
  · exact (h.inv.below.grown hg1 (by omega) (fun k hk => by have := (hlow k hk).2; omega)).grown hg2 (by omega) (fun k hk => by cases hk; omega)
  · exact (h.inv.mW.kept hg1 (Own.le_refl _) (nb (by omega)) (fun j hj k e => by rw [hrow j hj] at e; simp [ρR, ρF] at e)).kept hg2 hle (ne_some (by omega)) (fun j hj k e => by cases hj; exact low e rfl)
  · have hst := h.inv.mF.stored (k := T) (v' := z) (ys' := (s.F T).map encI ++ [encI f]) ρF_inj h.inv.ok (by omega) hg1 (by simpa using hown) hle (fun q hq => by rw [hzb] at hq; cases hq; exact Own.set_at _ _ _) hm hg2
    have e1 : (fun y => if y = T then (s.F T).map encI ++ [encI f] else (s.F y).map encI) = (fun t => ((s.addF T f).F t).map encI) := funext fun y => by
      by_cases q : y = T
      · subst q; simp [Rc.addF]
      · simp [Rc.addF, q]
    rw [e1] at hst
    exact hst
  · have hgb := h.gb
    exact (hg2.block g (by have := h.glt; omega) (ne_some (by omega))).trans (h.opKept hg1 (fun e => (hlow g e.symm).1 rfl))
  · rw [Own.set_ne _ _ hggn]; exact h.gn

/-- 'writers[x] = append(w, T)', w the slice at writers[x] -/
theorem PInv.appW (h : PInv w0 w B own fW fF s g kd T x) {gg cap : Nat} {z : Value} (hz : z = .slice (some ⟨gg, 0, none⟩) ((s.Wr x).length + 1) cap) (hg1 : w.grownBy w1 ((fW x).getD (.slice none 0 0)).ownBlock) (hown : w1.ownsRow (B + 3) 3 1 z ((s.Wr x).length + 1) ((s.Wr x).map encI ++ [encI T]))
    (hat : ((fW x).getD (.slice none 0 0)).ownBlock = some gg ∨ w.heap.size ≤ gg) (hm : ∃ n, MapIs w2 (B + 1) encS (fun y => if y = x then some z else fW y) n) (hg2 : w1.grownBy w2 (some (B + 1))) :
    PInv w0 w2 B (own.set gg (ρR x)) (fun y => if y = x then some z else fW y) fF (s.setW x (s.Wr x ++ [T])) g kd T x := by
  obtain ⟨nE, hE⟩ := h.inv.mE
  obtain ⟨n2, hm⟩ := hm
  have hsz := h.inv.size
  have hzb : z.ownBlock = some gg := by rw [hz]; rfl
  have hrow : ∀ j, ((fW x).getD (.slice none 0 0)).ownBlock = some j → own j = some (ρR x) := (h.inv.mW.2 x).2
  have hlow : ∀ j, ((fW x).getD (.slice none 0 0)).ownBlock = some j → j ≠ g ∧ B + 3 ≤ j := fun j hj => h.far (hrow j hj)
  have hgg : own gg = none ∨ own gg = some (ρR x) := by
    rcases hat with q | q
    · exact .inr (hrow gg q)
    · exact .inl (h.inv.ok.none (.inr q))
  have hle : own.le (own.set gg (ρR x)) := Own.le_set hgg
  have hgl : B + 3 ≤ gg ∧ gg < w1.heap.size := hown.lt gg hzb
  have hggn : g ≠ gg := by
    rcases hat with q | q
    · exact fun e => (hlow gg q).1 e.symm
    · have := h.glt; omega
  have s1 := hg1.size
  have s2 := hg2.size
  have low : ∀ {b' : Nat} {r : Nat × Int}, own b' = some r → b' ≠ B + 1 := fun {b' r} q e => by subst e; have := (h.inv.ok _ _ q).1; omega
  have nb : ∀ {b' : Nat}, b' < B + 3 → some b' ≠ ((fW x).getD (.slice none 0 0)).ownBlock := fun {b'} hb' e => by have := (hlow b' e.symm).2; omega
  refine ⟨⟨?_, by omega, h.inv.ok.set (by omega) hgl.1 (by omega), ⟨nE, (hE.kept hg1 (nb (by omega))).kept hg2 (ne_some (by omega))⟩, ?_, ?_⟩, ?_, ?_, h.gb⟩
  · exact (h.inv.below.grown hg1 (by omega) (fun k hk => by have := (hlow k hk).2; omega)).grown hg2 (by omega) (fun k hk => by cases hk; omega)
  · have hst := h.inv.mW.stored (k := x) (v' := z) (ys' := (s.Wr x).map encI ++ [encI T]) ρR_inj h.inv.ok (by omega) hg1 (by simpa using hown) hle (fun q hq => by rw [hzb] at hq; cases hq; exact Own.set_at _ _ _) hm hg2
    have e1 : (fun y => if y = x then (s.Wr x).map encI ++ [encI T] else (s.Wr y).map encI) = (fun y => ((s.setW x (s.Wr x ++ [T])).Wr y).map encI) := funext fun y => by
      by_cases q : y = x
      · subst q; simp [Rc.setW]
      · simp [Rc.setW, q]
    rw [e1] at hst
    exact hst
  · exact (h.inv.mF.kept hg1 (Own.le_refl _) (nb (by omega)) (fun j hj k e => by rw [hrow j hj] at e; simp [ρR, ρF] at e)).kept hg2 hle (ne_some (by omega)) (fun j hj k e => by cases hj; exact low e rfl)
  · have hgb := h.gb
    exact (hg2.block g (by have := h.glt; omega) (ne_some (by omega))).trans (h.opKept hg1 (fun e => (hlow g e.symm).1 rfl))
  · rw [Own.set_ne _ _ hggn]; exact h.gn

theorem PInv.opF (h : PInv w0 w B own fW fF s g kd T x) {t : Int} (hg : w.grownBy w' ((fF t).getD (.slice none 0 0)).ownBlock) : w'.heap[g]? = some (.cells (opCells kd T x) 46 (0, 0)) :=
  h.opKept hg (fun e => (h.far ((h.inv.mF.2 t).2 g e.symm)).1 rfl)
theorem PInv.opW (h : PInv w0 w B own fW fF s g kd T x) {y : UInt8} (hg : w.grownBy w' ((fW y).getD (.slice none 0 0)).ownBlock) : w'.heap[g]? = some (.cells (opCells kd T x) 46 (0, 0)) :=
  h.opKept hg (fun e => (h.far ((h.inv.mW.2 y).2 g e.symm)).1 rfl)
theorem PInv.mapF (h : PInv w0 w B own fW fF s g kd T x) {t : Int} (hg : w.grownBy w' ((fF t).getD (.slice none 0 0)).ownBlock) : ∃ n, MapIs w' (B + 1 + 1) encI fF n := by
  obtain ⟨n, hm⟩ := h.inv.mF.1
  exact ⟨n, hm.kept hg (fun e => by have := (h.far ((h.inv.mF.2 t).2 _ e.symm)).2; omega)⟩
theorem PInv.mapW (h : PInv w0 w B own fW fF s g kd T x) {y : UInt8} (hg : w.grownBy w' ((fW y).getD (.slice none 0 0)).ownBlock) : ∃ n, MapIs w' (B + 1) encS fW n := by
  obtain ⟨n, hm⟩ := h.inv.mW.1
  exact ⟨n, hm.kept hg (fun e => by have := (h.far ((h.inv.mW.2 y).2 _ e.symm)).2; omega)⟩

end
end Go.Proofs.Qxb6000427a
