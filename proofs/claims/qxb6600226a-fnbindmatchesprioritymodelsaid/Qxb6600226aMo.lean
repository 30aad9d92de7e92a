/-
  Own work: zzModelBind.
-/
import Derived.Test.Qxb6600226aBd
namespace Go.Proofs.Qxb6600226a
open Go.RowKit

/-- three slices of strings that the call has built -/
structure Three (w wr : World) (v1 v2 v3 : Value) (a b c : List ByteArray) : Prop where
  own1 : wr.ownsRow w.heap.size 9 1 v1 a.length (strs a)
  own2 : wr.ownsRow w.heap.size 9 1 v2 b.length (strs b)
  own3 : wr.ownsRow w.heap.size 9 1 v3 c.length (strs c)
  ne12 : ∀ d, v1.ownBlock = some d → v2.ownBlock ≠ some d
  ne13 : ∀ d, v1.ownBlock = some d → v3.ownBlock ≠ some d
  ne23 : ∀ d, v2.ownBlock = some d → v3.ownBlock ≠ some d
  below : Below w.heap.size w wr

section
variable {w wr w4 wx : World} {v1 v2 v3 : Value} {a b c : List ByteArray} {gg cp : Nat} {s : ByteArray}
theorem Three.later (h : Three w wr v1 v2 v3 a b c) (hb : Below wr.heap.size wr wx) : Three w wx v1 v2 v3 a b c :=
  ⟨ownsRow_later h.own1 hb, ownsRow_later h.own2 hb, ownsRow_later h.own3 hb, h.ne12, h.ne13, h.ne23, h.below.trans (hb.mono h.below.size)⟩
theorem Three.alloc (h : Three w wr v1 v2 v3 a b c) (o : Obj) : Three w (wr.alloc o) v1 v2 v3 a b c := h.later ((Below.refl _ _).alloc (Nat.le_refl _) o)

theorem fresh_ne {v u : Value} {base k : Nat} {e : TypeId} {xs : List Value} (hu : wr.ownsRow base e 1 u k xs) (hat : v.ownBlock = some gg ∨ gg = wr.heap.size) (hne : ∀ d, v.ownBlock = some d → u.ownBlock ≠ some d) : u.ownBlock ≠ some gg := fun hc => by
  rcases hat with q | q
  · exact hne gg q hc
  · have := (hu.lt gg hc).2
    omega
theorem block_eq {n d : Nat} (h : (Value.slice (some ⟨gg, 0, none⟩) n cp).ownBlock = some d) : gg = d := by simpa [Value.ownBlock] using h

theorem Three.app1 (h : Three w wr v1 v2 v3 a b c) (hg : wr.grownBy w4 v1.ownBlock) (hat : v1.ownBlock = some gg ∨ gg = wr.heap.size)
    (hown : w4.ownsRow w.heap.size 9 1 (.slice (some ⟨gg, 0, none⟩) (a.length + 1) cp) (a.length + 1) (strs a ++ [.string s])) : Three w w4 (.slice (some ⟨gg, 0, none⟩) (a.length + 1) cp) v2 v3 (a ++ [s]) b c := by
  refine ⟨by rw [strs_snoc]; simpa using hown, ownsRow_over h.own2 (fun d hd => hg.block d (h.own2.lt d hd).2 (fun e => h.ne12 d e.symm hd)), ownsRow_over h.own3 (fun d hd => hg.block d (h.own3.lt d hd).2 (fun e => h.ne13 d e.symm hd)), fun d hd => ?_, fun d hd => ?_, h.ne23, h.below.grown hg h.below.size (fun k hk => (h.own1.lt k hk).1)⟩
  · have := block_eq hd; subst this; exact fresh_ne h.own2 hat h.ne12
  · have := block_eq hd; subst this; exact fresh_ne h.own3 hat h.ne13
theorem Three.app2 (h : Three w wr v1 v2 v3 a b c) (hg : wr.grownBy w4 v2.ownBlock) (hat : v2.ownBlock = some gg ∨ gg = wr.heap.size)
    (hown : w4.ownsRow w.heap.size 9 1 (.slice (some ⟨gg, 0, none⟩) (b.length + 1) cp) (b.length + 1) (strs b ++ [.string s])) : Three w w4 v1 (.slice (some ⟨gg, 0, none⟩) (b.length + 1) cp) v3 a (b ++ [s]) c := by
  refine ⟨ownsRow_over h.own1 (fun d hd => hg.block d (h.own1.lt d hd).2 (fun e => h.ne12 d hd e.symm)), by rw [strs_snoc]; simpa using hown, ownsRow_over h.own3 (fun d hd => hg.block d (h.own3.lt d hd).2 (fun e => h.ne23 d e.symm hd)), fun d hd hc => ?_, h.ne13, fun d hd => ?_, h.below.grown hg h.below.size (fun k hk => (h.own2.lt k hk).1)⟩
  · have := block_eq hc; subst this
    exact fresh_ne (v := v2) h.own1 hat (fun d h1 h2 => h.ne12 d h2 h1) hd
  · have := block_eq hd; subst this; exact fresh_ne h.own3 hat h.ne23
theorem Three.app3 (h : Three w wr v1 v2 v3 a b c) (hg : wr.grownBy w4 v3.ownBlock) (hat : v3.ownBlock = some gg ∨ gg = wr.heap.size)
    (hown : w4.ownsRow w.heap.size 9 1 (.slice (some ⟨gg, 0, none⟩) (c.length + 1) cp) (c.length + 1) (strs c ++ [.string s])) : Three w w4 v1 v2 (.slice (some ⟨gg, 0, none⟩) (c.length + 1) cp) a b (c ++ [s]) := by
  refine ⟨ownsRow_over h.own1 (fun d hd => hg.block d (h.own1.lt d hd).2 (fun e => h.ne13 d hd e.symm)), ownsRow_over h.own2 (fun d hd => hg.block d (h.own2.lt d hd).2 (fun e => h.ne23 d hd e.symm)), by rw [strs_snoc]; simpa using hown, h.ne12, fun d hd hc => ?_, fun d hd hc => ?_, h.below.grown hg h.below.size (fun k hk => (h.own3.lt k hk).1)⟩
  · have := block_eq hc; subst this
    exact fresh_ne (v := v3) h.own1 hat (fun d h1 h2 => h.ne13 d h2 h1) hd
  · have := block_eq hc; subst this
    exact fresh_ne (v := v3) h.own2 hat (fun d h1 h2 => h.ne23 d h2 h1) hd
end
end Go.Proofs.Qxb6600226a
