/-
  Own work: a map's block seen as a function from keys to optional element values, with the number of its entries; the laws of make, lookup, update, delete and len over that view.
-/
import Derived.Maps.OwnSet
import Derived.Deep.AppendLies
import Derived.WalkKit
namespace Go.Proofs.Qxb6000427a
open Go.MapKept
open Go.ChangeMaps (setBlock heap_setBlock_same heap_setBlock_other)

/-- THE KEYS OF TYPE kt ARE WRITTEN BY enc. -/
structure KeyEnc {κ : Type} (P : Program) (kt : TypeId) (enc : κ → Value) : Prop where
  inj : ∀ a b, enc a = enc b → a = b
  key : ∃ d, P.underlying kt = some d ∧ ∀ a, IsKey d (enc a)

def encI (a : Int) : Value := .int .i64 a
def encS (u : UInt8) : Value := .string ⟨#[u]⟩

theorem keyI {P : Program} {kt : TypeId} (h : P.underlying kt = some (.int .i64)) : KeyEnc P kt encI :=
  ⟨fun a b e => by simpa [encI] using e, _, h, fun a => by simp [encI, IsKey]⟩
theorem keyS {P : Program} {kt : TypeId} (h : P.underlying kt = some .string) : KeyEnc P kt encS :=
  ⟨fun a b e => by simpa [encS] using e, _, h, fun a => by simp [encS, IsKey]⟩

section
variable {κ : Type}

/-- BLOCK b OF w IS A MAP OF n ENTRIES; AT THE KEY k IT HOLDS f k. -/
def MapIs (w : World) (b : Nat) (enc : κ → Value) (f : κ → Option Value) (n : Nat) : Prop :=
  ∃ es clock, w.heap[b]? = some (.map es clock) ∧ es.size = n ∧ (∀ (i : Nat) (e : MapEntry), es[i]? = some e → ∃ k, e.key = enc k ∧ f k = some e.val) ∧
    (∀ k v, f k = some v → ∃ (i : Nat) (e : MapEntry), es[i]? = some e ∧ e.key = enc k) ∧
    ∀ (i i' : Nat) (e e' : MapEntry), es[i]? = some e → es[i']? = some e' → e.key = e'.key → i = i'

variable {P : Program} {kt : TypeId} {enc : κ → Value} {f : κ → Option Value} {w : World} {b n : Nat}

theorem MapIs.lt (h : MapIs w b enc f n) : b < w.heap.size := by
  obtain ⟨es, clock, hb, _⟩ := h
  exact (Array.getElem?_eq_some_iff.1 hb).1

theorem MapIs.of_block {w' : World} (h : MapIs w b enc f n) (hb : w'.heap[b]? = w.heap[b]?) : MapIs w' b enc f n := by
  obtain ⟨es, clock, h1, r⟩ := h
  exact ⟨es, clock, hb.trans h1, r⟩

theorem MapIs.kept {w' : World} {row : Option Nat} (h : MapIs w b enc f n) (hg : w.grownBy w' row) (hne : some b ≠ row) : MapIs w' b enc f n :=
  h.of_block (hg.block b h.lt hne)

theorem MapIs.alloc (h : MapIs w b enc f n) (o : Obj) : MapIs (w.alloc o) b enc f n := h.kept (World.grownBy_alloc w o none) (by simp)

theorem mapIs_made (w : World) (enc : κ → Value) : MapIs (w.alloc (.map #[] 0)) w.heap.size enc (fun _ => none) 0 :=
  ⟨#[], 0, (MapKept.heap_alloc w _).1, rfl, by simp, by simp, by simp⟩

theorem MapIs.congr {f' : κ → Option Value} (h : MapIs w b enc f n) (e : ∀ k, f k = f' k) : MapIs w b enc f' n := by
  have : f = f' := funext e
  exact this ▸ h

/-- WHAT A SEARCH FINDS. -/
theorem find_is (K : KeyEnc P kt enc) {es : Array MapEntry} (h1 : ∀ (i : Nat) (e : MapEntry), es[i]? = some e → ∃ k, e.key = enc k ∧ f k = some e.val)
    (h2 : ∀ k v, f k = some v → ∃ (i : Nat) (e : MapEntry), es[i]? = some e ∧ e.key = enc k) (k : κ) :
    (f k = none ∧ (Instr.findKey kt (enc k) es.toList).run P w = .ok none w ∧ ∀ (i : Nat) (e : MapEntry), es[i]? = some e → e.key ≠ enc k) ∨
    ∃ (j : Nat) (e : MapEntry), f k = some e.val ∧ (Instr.findKey kt (enc k) es.toList).run P w = .ok (some (j, e.val)) w ∧ es[j]? = some e ∧ e.key = enc k := by
  obtain ⟨d, hd, hk⟩ := K.key
  have hks : ∀ x ∈ es.toList, IsKey d x.key := fun x hx => by
    obtain ⟨i, hi⟩ := List.getElem?_of_mem hx
    obtain ⟨a, ha, _⟩ := h1 i x (by simpa using hi)
    rw [ha]; exact hk a
  rcases findNow_spec (hk k) es.toList 0 hks with ⟨g1, g2⟩ | ⟨j, e, g1, g2, g3⟩
  · refine .inl ⟨?_, run_findKey hd g1, fun i e he => g2 e (List.mem_of_getElem? (i := i) (by simpa using he))⟩
    cases hf : f k with
    | none => rfl
    | some v =>
      obtain ⟨i, e, he, hke⟩ := h2 k v hf
      exact absurd hke (g2 e (List.mem_of_getElem? (i := i) (by simpa using he)))
  · have g2' : es[j]? = some e := by simpa using g2
    obtain ⟨k', hk', hf⟩ := h1 j e g2'
    have : k' = k := K.inj _ _ (hk'.symm.trans g3)
    subst this
    exact .inr ⟨j, e, hf, by simpa using run_findKey hd g1, g2', g3⟩

/-- 'm[k]', 'v, ok := m[k]'. -/
theorem MapIs.lookup (h : MapIs w b enc f n) (K : KeyEnc P kt enc) {t et : TypeId} (ht : P.underlying t = some (.map kt et)) {z : Value} (hz : (zeroValue et).run P w = .ok z w) (k : κ) (c : Bool) :
    (Instr.lookup t (.map (some b)) (enc k) c).run P w = .ok (if c then .tuple #[(f k).getD z, .bool (f k).isSome] else (f k).getD z) w := by
  obtain ⟨es, clock, hb, _, h1, h2, _⟩ := h
  obtain ⟨d, hd, hk⟩ := K.key
  rcases find_is (w := w) K h1 h2 k with ⟨g0, g1, _⟩ | ⟨j, e, g0, g1, _⟩
  · simp [Instr.lookup, run_underlying ht, MapKept.run_getObj_map hb, run_checkKey hd (hk k), g1, hz, g0, Result.andThen]
  · simp [Instr.lookup, run_underlying ht, MapKept.run_getObj_map hb, run_checkKey hd (hk k), g1, g0, Result.andThen]

theorem grown_setBlock {es : Array MapEntry} {clock : Nat} (hb : w.heap[b]? = some (.map es clock)) (o : Obj) : w.grownBy (setBlock w b o) (some b) :=
  ⟨rfl, rfl, rfl, by simp [setBlock], fun i _ hi => heap_setBlock_other hb _ (fun e => hi (by rw [e]))⟩

/-- 'm[k] = v'. -/
theorem MapIs.update [DecidableEq κ] (h : MapIs w b enc f n) (K : KeyEnc P kt enc) {t et : TypeId} (ht : P.underlying t = some (.map kt et)) (k : κ) (v : Value) :
    ∃ w', (Instr.mapUpdate t (.map (some b)) (enc k) v).run P w = .ok () w' ∧ MapIs w' b enc (fun y => if y = k then some v else f y) (if (f k).isSome then n else n + 1) ∧ w.grownBy w' (some b) ∧ w'.heap.size = w.heap.size := by
  obtain ⟨es, clock, hb, hn, h1, h2, h3⟩ := h
  obtain ⟨d, hd, hk⟩ := K.key
  rcases find_is (w := w) K h1 h2 k with ⟨g0, g1, g2⟩ | ⟨j, e, g0, g1, g2, g3⟩
  · refine ⟨setBlock w b (.map (es.push ⟨enc k, v, clock⟩) (clock + 1)), ?_, ⟨_, _, heap_setBlock_same hb _, ?_, ?_, ?_, ?_⟩, grown_setBlock hb _, by simp [setBlock]⟩
    · simp [Instr.mapUpdate, run_underlying ht, MapKept.run_getObj_map hb, run_checkKey hd (hk k), g1, MapKept.run_setObj_map _ hb, Result.andThen, setBlock]
    · simp [g0, hn]
    · intro i e he
      rw [Array.getElem?_push] at he
      split at he
      · cases he; exact ⟨k, rfl, by simp⟩
      · obtain ⟨k', hk', hf⟩ := h1 i e he
        refine ⟨k', hk', ?_⟩
        dsimp only
        rw [if_neg (fun q => by subst q; exact g2 i e he hk')]
        exact hf
    · intro y v' hy
      dsimp only at hy
      by_cases q : y = k
      · subst q; exact ⟨es.size, ⟨enc y, v, clock⟩, by simp, rfl⟩
      · rw [if_neg q] at hy
        obtain ⟨i, e, he, hke⟩ := h2 y v' hy
        have hi : i < es.size := (Array.getElem?_eq_some_iff.1 he).1
        exact ⟨i, e, by rw [Array.getElem?_push, if_neg (by omega)]; exact he, hke⟩
    · intro i i' e e' he he' hke
      rw [Array.getElem?_push] at he he'
      split at he <;> split at he'
      · omega
      · cases he; exact absurd hke.symm (g2 i' e' he')
      · cases he'; exact absurd hke (g2 i e he)
      · exact h3 i i' e e' he he' hke
  · refine ⟨setBlock w b (.map (es.modify j fun e => { e with key := enc k, val := v }) clock), ?_, ⟨_, _, heap_setBlock_same hb _, ?_, ?_, ?_, ?_⟩, grown_setBlock hb _, by simp [setBlock]⟩
    · simp [Instr.mapUpdate, run_underlying ht, MapKept.run_getObj_map hb, run_checkKey hd (hk k), g1, g2, g3, run_keyThatStays (hk k), MapKept.run_setObj_map _ hb, Result.andThen, setBlock]
    · simp [g0, hn]
    · intro i e' he'
      rw [Array.getElem?_modify] at he'
      split at he'
      · rename_i hij
        subst hij
        rw [g2] at he'
        cases he'
        exact ⟨k, rfl, by simp⟩
      · rename_i hij
        obtain ⟨k', hk', hf⟩ := h1 i e' he'
        refine ⟨k', hk', ?_⟩
        dsimp only
        rw [if_neg (fun q => by subst q; exact hij (h3 j i e e' g2 he' (g3.trans hk'.symm)))]
        exact hf
    · intro y v' hy
      dsimp only at hy
      by_cases q : y = k
      · subst q
        exact ⟨j, { e with key := enc y, val := v }, by rw [Array.getElem?_modify, if_pos rfl, g2]; rfl, rfl⟩
      · rw [if_neg q] at hy
        obtain ⟨i, e', he', hke⟩ := h2 y v' hy
        refine ⟨i, e', ?_, hke⟩
        rw [Array.getElem?_modify, if_neg (fun hij => by
          subst hij
          rw [g2] at he'
          cases he'
          exact q (K.inj _ _ (hke.symm.trans g3)))]
        exact he'
    · intro i i' a a' ha ha' hke
      have key : ∀ (i : Nat) (a : MapEntry), (es.modify j fun e => { e with key := enc k, val := v })[i]? = some a → ∃ a0, es[i]? = some a0 ∧ a0.key = a.key := fun i a ha => by
        rw [Array.getElem?_modify] at ha
        split at ha
        · rename_i hij
          subst hij
          rw [g2] at ha
          cases ha
          exact ⟨e, g2, g3⟩
        · exact ⟨a, ha, rfl⟩
      obtain ⟨a0, q1, q2⟩ := key i a ha
      obtain ⟨a0', q1', q2'⟩ := key i' a' ha'
      exact h3 i i' a0 a0' q1 q1' (q2.trans (hke.trans q2'.symm))

/-- 'delete(m, k)'. -/
theorem MapIs.delete [DecidableEq κ] (h : MapIs w b enc f n) (K : KeyEnc P kt enc) {t et : TypeId} (ht : P.underlying t = some (.map kt et)) (k : κ) (ty : TypeId) :
    ∃ w', (Builtin.delete_ #[t, kt] ty #[.map (some b), enc k]).run P w = .ok (.tuple #[]) w' ∧ MapIs w' b enc (fun y => if y = k then none else f y) (if (f k).isSome then n - 1 else n) ∧ w.grownBy w' (some b) ∧ w'.heap.size = w.heap.size := by
  obtain ⟨es, clock, hb, hn, h1, h2, h3⟩ := h
  obtain ⟨d, hd, hk⟩ := K.key
  rcases find_is (w := w) K h1 h2 k with ⟨g0, g1, g2⟩ | ⟨j, e, g0, g1, g2, g3⟩
  · refine ⟨setBlock w b (.map es clock), ?_, ⟨_, _, heap_setBlock_same hb _, ?_, ?_, ?_, h3⟩, grown_setBlock hb _, by simp [setBlock]⟩
    · simp [Builtin.delete_, run_underlying ht, MapKept.run_getObj_map hb, run_checkKey hd (hk k), g1, MapKept.run_setObj_map _ hb, Result.andThen, setBlock]
    · simp [g0, hn]
    · intro i e he
      obtain ⟨k', hk', hf⟩ := h1 i e he
      refine ⟨k', hk', ?_⟩
      dsimp only
      rw [if_neg (fun q => by subst q; exact g2 i e he hk')]
      exact hf
    · intro y v' hy
      dsimp only at hy
      by_cases q : y = k
      · rw [if_pos q] at hy; cases hy
      · rw [if_neg q] at hy; exact h2 y v' hy
  · have hj : j < es.size := (Array.getElem?_eq_some_iff.1 g2).1
    have he0 : es.eraseIdxIfInBounds j = es.eraseIdx j := by simp [Array.eraseIdxIfInBounds, hj]
    have hget : ∀ i, (es.eraseIdx j)[i]? = if i < j then es[i]? else es[i + 1]? := fun i => by
      rw [Array.getElem?_eraseIdx]
    refine ⟨setBlock w b (.map (es.eraseIdx j) clock), ?_, ⟨_, _, heap_setBlock_same hb _, ?_, ?_, ?_, ?_⟩, grown_setBlock hb _, by simp [setBlock]⟩
    · simp [Builtin.delete_, run_underlying ht, MapKept.run_getObj_map hb, run_checkKey hd (hk k), g1, MapKept.run_setObj_map _ hb, Result.andThen, setBlock, he0]
    · simp [g0, hn]
    · intro i e' he'
      rw [hget] at he'
      split at he'
      · obtain ⟨k', hk', hf⟩ := h1 i e' he'
        refine ⟨k', hk', ?_⟩
        dsimp only
        rw [if_neg (fun q => by subst q; have := h3 j i e e' g2 he' (g3.trans hk'.symm); omega)]
        exact hf
      · obtain ⟨k', hk', hf⟩ := h1 (i + 1) e' he'
        refine ⟨k', hk', ?_⟩
        dsimp only
        rw [if_neg (fun q => by subst q; have := h3 j (i + 1) e e' g2 he' (g3.trans hk'.symm); omega)]
        exact hf
    · intro y v' hy
      dsimp only at hy
      by_cases q : y = k
      · rw [if_pos q] at hy; cases hy
      · rw [if_neg q] at hy
        obtain ⟨i, e', he', hke⟩ := h2 y v' hy
        have hij : i ≠ j := fun hij => by
          subst hij
          rw [g2] at he'
          cases he'
          exact q (K.inj _ _ (hke.symm.trans g3))
        by_cases hlt : i < j
        · exact ⟨i, e', by rw [hget, if_pos hlt]; exact he', hke⟩
        · exact ⟨i - 1, e', by rw [hget, if_neg (by omega), show i - 1 + 1 = i by omega]; exact he', hke⟩
    · intro i i' a a' ha ha' hke
      rw [hget] at ha ha'
      split at ha <;> split at ha'
      · exact h3 _ _ a a' ha ha' hke
      · have := h3 _ _ a a' ha ha' hke; omega
      · have := h3 _ _ a a' ha ha' hke; omega
      · have := h3 _ _ a a' ha ha' hke; omega

/-- 'len(m)'. -/
theorem MapIs.len (h : MapIs w b enc f n) {t et : TypeId} (ht : P.underlying t = some (.map kt et)) (ty : TypeId) : (Builtin.len_ #[t] ty #[.map (some b)]).run P w = .ok (.int .i64 n) w := by
  obtain ⟨es, clock, hb, hn, _⟩ := h
  simp [Builtin.len_, run_underlying ht, MapKept.run_getObj_map hb, goInt, Result.andThen, hn]

end

/-! ### at the operation -/
section
variable {κ : Type} {P : Program} (w : World) {ops : Array Oper} {rest : List Oper} {o : Oper} {a : Act} {Q : Exit → Act → World → Prop}

theorem wpList_lookup_is (hg : o.guard = none) (m x : Operand) (t : TypeId) (c : Bool) (hop : o.op = Op.lookup t m x c) {kt et : TypeId} {enc : κ → Value} (K : KeyEnc P kt enc) (ht : P.underlying t = some (.map kt et)) {z : Value} (hz : ∀ w, (zeroValue et).run P w = .ok z w)
    {b n : Nat} {f : κ → Option Value} (hm : a.eval m = .map (some b)) (h : MapIs w b enc f n) (k : κ) (hx : a.eval x = enc k) (r : Option Value) (hr : f k = r)
    (hK : wpList P ops Q rest (a.put o.dst (if c then .tuple #[r.getD z, .bool r.isSome] else r.getD z)) w) : wpList P ops Q (o :: rest) a w := by
  refine wpList_plain hg fun K' hK' => ?_
  have hrun := h.lookup K ht (hz w) k c
  subst hr
  unfold Oper.wp
  simp only [execOp, hop, hm, hx]
  simp only [Sem.run_bind, hrun, Result.andThen]
  exact hK' _ _ hK

theorem step_lookup_is {K : Act → World → Prop} {E : Prop} (hg : o.guard = none) (m x : Operand) (t : TypeId) (c : Bool) (hop : o.op = Op.lookup t m x c) {kt et : TypeId} {enc : κ → Value} (KE : KeyEnc P kt enc) (ht : P.underlying t = some (.map kt et)) {z : Value} (hz : ∀ w, (zeroValue et).run P w = .ok z w)
    {b n : Nat} {f : κ → Option Value} (hm : a.eval m = .map (some b)) (h : MapIs w b enc f n) (k : κ) (hx : a.eval x = enc k) (r : Option Value) (hr : f k = r)
    (hK : K (a.put o.dst (if c then .tuple #[r.getD z, .bool r.isSome] else r.getD z)) w) :
    if Region.wanted o (yielded ops a.tmps) = true then Oper.wp P o a w K Q else E := by
  have hw : Region.wanted o (yielded ops a.tmps) = true := by simp [Region.wanted, hg]
  rw [if_pos hw]
  have hrun := h.lookup KE ht (hz w) k c
  subst hr
  unfold Oper.wp
  simp only [execOp, hop, hm, hx]
  simp only [Sem.run_bind, hrun, Result.andThen]
  exact hK

theorem wpList_update_is [DecidableEq κ] (hg : o.guard = none) (m x v : Operand) (t : TypeId) (hop : o.op = Op.mapUpdate t m x v) {kt et : TypeId} {enc : κ → Value} (K : KeyEnc P kt enc) (ht : P.underlying t = some (.map kt et))
    {b n : Nat} {f : κ → Option Value} (hm : a.eval m = .map (some b)) (h : MapIs w b enc f n) (k : κ) (hx : a.eval x = enc k) (val : Value) (hv : a.eval v = val)
    (hK : ∀ w', MapIs w' b enc (fun y => if y = k then some val else f y) (if (f k).isSome then n else n + 1) → w.grownBy w' (some b) → w'.heap.size = w.heap.size → wpList P ops Q rest (a.put o.dst undef) w') : wpList P ops Q (o :: rest) a w := by
  refine wpList_plain hg fun K' hK' => ?_
  obtain ⟨w', hrun, r1, r2, r3⟩ := h.update K ht k val
  unfold Oper.wp
  simp [execOp, hop, hm, hx, hv, hrun, Result.andThen]
  exact hK' _ _ (hK w' r1 r2 r3)

theorem step_update_is [DecidableEq κ] {K : Act → World → Prop} {E : Prop} (hg : o.guard = none) (m x v : Operand) (t : TypeId) (hop : o.op = Op.mapUpdate t m x v) {kt et : TypeId} {enc : κ → Value} (KE : KeyEnc P kt enc) (ht : P.underlying t = some (.map kt et))
    {b n : Nat} {f : κ → Option Value} (hm : a.eval m = .map (some b)) (h : MapIs w b enc f n) (k : κ) (hx : a.eval x = enc k) (val : Value) (hv : a.eval v = val)
    (hK : ∀ w', MapIs w' b enc (fun y => if y = k then some val else f y) (if (f k).isSome then n else n + 1) → w.grownBy w' (some b) → w'.heap.size = w.heap.size → K (a.put o.dst undef) w') :
    if Region.wanted o (yielded ops a.tmps) = true then Oper.wp P o a w K Q else E := by
  have hw : Region.wanted o (yielded ops a.tmps) = true := by simp [Region.wanted, hg]
  rw [if_pos hw]
  obtain ⟨w', hrun, r1, r2, r3⟩ := h.update KE ht k val
  unfold Oper.wp
  simp [execOp, hop, hm, hx, hv, hrun, Result.andThen]
  exact hK w' r1 r2 r3

theorem wpList_delete_is [DecidableEq κ] (hg : o.guard = none) (m x : Operand) (t kt : TypeId) (hop : o.op = Op.call { callee := Callee.builtin Builtin.delete, args := #[m, x], argTypes := #[t, kt] }) {et : TypeId} {enc : κ → Value} (K : KeyEnc P kt enc) (ht : P.underlying t = some (.map kt et))
    {b n : Nat} {f : κ → Option Value} (hm : a.eval m = .map (some b)) (h : MapIs w b enc f n) (k : κ) (hx : a.eval x = enc k)
    (hK : ∀ w', MapIs w' b enc (fun y => if y = k then none else f y) (if (f k).isSome then n - 1 else n) → w.grownBy w' (some b) → w'.heap.size = w.heap.size → wpList P ops Q rest (a.put o.dst (.tuple #[])) w') : wpList P ops Q (o :: rest) a w := by
  refine wpList_plain hg fun K' hK' => ?_
  obtain ⟨w', hrun, r1, r2, r3⟩ := h.delete K ht k o.type
  unfold Oper.wp execOp
  simp only [hop, resolve, invoke, builtin, Sem.run_bind, Sem.run_pure, Result.andThen_ok, List.map_toArray, List.map_cons, List.map_nil, hm, hx, hrun]
  exact hK' _ _ (hK w' r1 r2 r3)

theorem wpList_len_is (hg : o.guard = none) (m : Operand) (t : TypeId) (hop : o.op = Op.call { callee := Callee.builtin Builtin.len, args := #[m], argTypes := #[t] }) {kt et : TypeId} (ht : P.underlying t = some (.map kt et))
    {b n : Nat} {enc : κ → Value} {f : κ → Option Value} (hm : a.eval m = .map (some b)) (h : MapIs w b enc f n)
    (hK : wpList P ops Q rest (a.put o.dst (.int .i64 n)) w) : wpList P ops Q (o :: rest) a w := by
  refine wpList_plain hg fun K' hK' => ?_
  have hrun := h.len ht o.type (P := P)
  unfold Oper.wp execOp
  simp only [hop, resolve, invoke, builtin, Sem.run_bind, Sem.run_pure, Result.andThen_ok, List.map_toArray, List.map_cons, List.map_nil, hm, hrun]
  exact hK' _ _ hK

/-! ### the same, the number of entries left open -/
theorem wpList_lookup_ex (hg : o.guard = none) (m x : Operand) (t : TypeId) (c : Bool) (hop : o.op = Op.lookup t m x c) {kt et : TypeId} {enc : κ → Value} (K : KeyEnc P kt enc) (ht : P.underlying t = some (.map kt et)) {z : Value} (hz : ∀ w, (zeroValue et).run P w = .ok z w)
    {b : Nat} {f : κ → Option Value} (hm : a.eval m = .map (some b)) (h : ∃ n, MapIs w b enc f n) (k : κ) (hx : a.eval x = enc k) (r : Option Value) (hr : f k = r)
    (hK : wpList P ops Q rest (a.put o.dst (if c then .tuple #[r.getD z, .bool r.isSome] else r.getD z)) w) : wpList P ops Q (o :: rest) a w := by
  obtain ⟨n, h⟩ := h
  exact wpList_lookup_is w hg m x t c hop K ht hz hm h k hx r hr hK

theorem step_lookup_ex {K : Act → World → Prop} {E : Prop} (hg : o.guard = none) (m x : Operand) (t : TypeId) (c : Bool) (hop : o.op = Op.lookup t m x c) {kt et : TypeId} {enc : κ → Value} (KE : KeyEnc P kt enc) (ht : P.underlying t = some (.map kt et)) {z : Value} (hz : ∀ w, (zeroValue et).run P w = .ok z w)
    {b : Nat} {f : κ → Option Value} (hm : a.eval m = .map (some b)) (h : ∃ n, MapIs w b enc f n) (k : κ) (hx : a.eval x = enc k) (r : Option Value) (hr : f k = r)
    (hK : K (a.put o.dst (if c then .tuple #[r.getD z, .bool r.isSome] else r.getD z)) w) :
    if Region.wanted o (yielded ops a.tmps) = true then Oper.wp P o a w K Q else E := by
  obtain ⟨n, h⟩ := h
  exact step_lookup_is w hg m x t c hop KE ht hz hm h k hx r hr hK

theorem wpList_update_ex [DecidableEq κ] (hg : o.guard = none) (m x v : Operand) (t : TypeId) (hop : o.op = Op.mapUpdate t m x v) {kt et : TypeId} {enc : κ → Value} (K : KeyEnc P kt enc) (ht : P.underlying t = some (.map kt et))
    {b : Nat} {f : κ → Option Value} (hm : a.eval m = .map (some b)) (h : ∃ n, MapIs w b enc f n) (k : κ) (hx : a.eval x = enc k) (val : Value) (hv : a.eval v = val)
    (hK : ∀ w', (∃ n, MapIs w' b enc (fun y => if y = k then some val else f y) n) → w.grownBy w' (some b) → w'.heap.size = w.heap.size → wpList P ops Q rest (a.put o.dst undef) w') : wpList P ops Q (o :: rest) a w := by
  obtain ⟨n, h⟩ := h
  exact wpList_update_is w hg m x v t hop K ht hm h k hx val hv (fun w' h1 h2 h3 => hK w' ⟨_, h1⟩ h2 h3)

theorem step_update_ex [DecidableEq κ] {K : Act → World → Prop} {E : Prop} (hg : o.guard = none) (m x v : Operand) (t : TypeId) (hop : o.op = Op.mapUpdate t m x v) {kt et : TypeId} {enc : κ → Value} (KE : KeyEnc P kt enc) (ht : P.underlying t = some (.map kt et))
    {b : Nat} {f : κ → Option Value} (hm : a.eval m = .map (some b)) (h : ∃ n, MapIs w b enc f n) (k : κ) (hx : a.eval x = enc k) (val : Value) (hv : a.eval v = val)
    (hK : ∀ w', (∃ n, MapIs w' b enc (fun y => if y = k then some val else f y) n) → w.grownBy w' (some b) → w'.heap.size = w.heap.size → K (a.put o.dst undef) w') :
    if Region.wanted o (yielded ops a.tmps) = true then Oper.wp P o a w K Q else E := by
  obtain ⟨n, h⟩ := h
  exact step_update_is w hg m x v t hop KE ht hm h k hx val hv (fun w' h1 h2 h3 => hK w' ⟨_, h1⟩ h2 h3)

theorem wpList_delete_ex [DecidableEq κ] (hg : o.guard = none) (m x : Operand) (t kt : TypeId) (hop : o.op = Op.call { callee := Callee.builtin Builtin.delete, args := #[m, x], argTypes := #[t, kt] }) {et : TypeId} {enc : κ → Value} (K : KeyEnc P kt enc) (ht : P.underlying t = some (.map kt et))
    {b : Nat} {f : κ → Option Value} (hm : a.eval m = .map (some b)) (h : ∃ n, MapIs w b enc f n) (k : κ) (hx : a.eval x = enc k)
    (hK : ∀ w', (∃ n, MapIs w' b enc (fun y => if y = k then none else f y) n) → w.grownBy w' (some b) → w'.heap.size = w.heap.size → wpList P ops Q rest (a.put o.dst (.tuple #[])) w') : wpList P ops Q (o :: rest) a w := by
  obtain ⟨n, h⟩ := h
  exact wpList_delete_is w hg m x t kt hop K ht hm h k hx (fun w' h1 h2 h3 => hK w' ⟨_, h1⟩ h2 h3)

end
end Go.Proofs.Qxb6000427a
