/-
  Own work: the set of places in memory (levels of words), and what 'add' does to it.
-/
import Derived.Test.Qxb6000427aRows
import Derived.Test.Qxb6000427aKit
import Derived.WalkKit
import Derived.ProofKit
import Derived.Below
import Derived.RegionTactic
import Derived.Deep.RegionHeld3
import Derived.Deep.QuietTactic
import Derived.Laws.Bits64b
namespace Go.Proofs.Qxb6000427a
open Go.RowKit

/-- only the blocks of bs have turned; none is new -/
structure Only (bs : Nat → Prop) (w w' : World) : Prop where
  os : w'.os = w.os
  tape : w'.tape = w.tape
  output : w'.output = w.output
  size : w'.heap.size = w.heap.size
  block : ∀ b, ¬ bs b → w'.heap[b]? = w.heap[b]?

theorem Only.refl (bs : Nat → Prop) (w : World) : Only bs w w := ⟨rfl, rfl, rfl, rfl, fun _ _ => rfl⟩
theorem Only.trans {bs : Nat → Prop} {a b c : World} (h : Only bs a b) (k : Only bs b c) : Only bs a c :=
  ⟨k.os.trans h.os, k.tape.trans h.tape, k.output.trans h.output, k.size.trans h.size, fun x hx => (k.block x hx).trans (h.block x hx)⟩
theorem Only.drewN {bs : Nat → Prop} {a b : World} (h : Only bs a b) (q : Nat) : Only bs a (b.drewN q) := ⟨h.os, h.tape, h.output, h.size, h.block⟩
theorem Only.drew {bs : Nat → Prop} {a b : World} (h : Only bs a b) : Only bs a b.drew := ⟨h.os, h.tape, h.output, h.size, h.block⟩
theorem Only.set {bs : Nat → Prop} {a w : World} (h : Only bs a w) {p : Addr} (hp : bs p.block) (u : Value) : Only bs a (w.setCell p u) :=
  h.trans ⟨rfl, rfl, rfl, by simp [World.setCell], fun k hk => Below.heap_setCell _ _ _ _ (fun e => hk (e ▸ hp))⟩

/-- how many words the level d of a set of n places has -/
def sz (n : Nat) : Nat → Nat
  | 0 => max 1 ((n + 63) / 64)
  | d + 1 => max 1 ((sz n d + 63) / 64)

/-- THE SET IN MEMORY: ps: the struct; lv: the row of levels; lb d: the words of level d; V d j: word j of level d. -/
structure Ps (w : World) (n ps lv L cap : Nat) (lb : Nat → Nat) (V : Nat → Nat → Nat) : Prop where
  head : w.cell? ⟨ps, 0, none⟩ = some (.slice (some ⟨lv, 0, none⟩) L cap)
  lev : ∀ d, d < L → w.cell? ⟨lv, d, none⟩ = some (.slice (some ⟨lb d, 0, none⟩) (sz n d) (sz n d))
  row : ∀ d, d < L → ∃ cur, w.heap[lb d]? = some (.cells cur 52 (0, 0)) ∧ cur.size = sz n d ∧ ∀ j, j < sz n d → cur[j]? = some (.int .u64 (V d j))
  word : ∀ d j, V d j < 2 ^ 64
  inj : ∀ d d', d < L → d' < L → lb d = lb d' → d = d'
  nps : ∀ d, d < L → lb d ≠ ps
  nlv : ∀ d, d < L → lb d ≠ lv
  pos : 0 < L
  few : L ≤ 64

/-- the place that stands for p at level d -/
def pd (p : Nat) : Nat → Nat
  | 0 => p
  | d + 1 => pd p d / 64

theorem pd_lt {p n : Nat} (hp : p < n) : ∀ d, pd p d / 64 < sz n d
  | 0 => by show p / 64 < max 1 ((n + 63) / 64); omega
  | d + 1 => by
    have := pd_lt hp d
    show pd p d / 64 / 64 < max 1 ((sz n d + 63) / 64)
    omega

theorem pd_le (p : Nat) : ∀ d, pd p d ≤ p
  | 0 => Nat.le_refl _
  | d + 1 => Nat.le_trans (Nat.div_le_self _ _) (pd_le p d)

theorem sz_pos (n : Nat) : ∀ d, 0 < sz n d
  | 0 => by show 0 < max 1 _; omega
  | d + 1 => by show 0 < max 1 _; omega

/-- one word turned -/
def setV (V : Nat → Nat → Nat) (d j x : Nat) : Nat → Nat → Nat := fun d' j' => if d' = d ∧ j' = j then x else V d' j'

theorem Ps.cellw {w : World} {n ps lv L cap : Nat} {lb : Nat → Nat} {V : Nat → Nat → Nat} (h : Ps w n ps lv L cap lb V) {d j : Nat} (hd : d < L) (hj : j < sz n d) : w.cell? ⟨lb d, j, none⟩ = some (.int .u64 (V d j)) := by
  obtain ⟨cur, h1, h2, h3⟩ := h.row d hd
  rw [cell_of_row w (lb d) j cur 52 (0, 0) h1]
  exact h3 j hj

theorem Ps.free {w : World} {n ps lv L cap : Nat} {lb : Nat → Nat} {V : Nat → Nat → Nat} (h : Ps w n ps lv L cap lb V) {d : Nat} (hd : d < L) (j : Nat) : w.frozen? ⟨lb d, j, none⟩ = false := by
  obtain ⟨cur, h1, h2, h3⟩ := h.row d hd
  exact frozen_of_row w (lb d) j cur 52 h1

theorem Ps.set {w : World} {n ps lv L cap : Nat} {lb : Nat → Nat} {V : Nat → Nat → Nat} (h : Ps w n ps lv L cap lb V) {d j x : Nat} (hd : d < L) (hj : j < sz n d) (hx : x < 2 ^ 64) :
    Ps (w.setCell ⟨lb d, j, none⟩ (.int .u64 x)) n ps lv L cap lb (setV V d j x) := by
  refine ⟨?_, fun d' hd' => ?_, fun d' hd' => ?_, fun d' j' => ?_, h.inj, h.nps, h.nlv, h.pos, h.few⟩
  · rw [World.cell?_of_block (w := w) (Below.heap_setCell _ _ _ _ (fun e => h.nps d hd e.symm))]; exact h.head
  · rw [World.cell?_of_block (w := w) (Below.heap_setCell _ _ _ _ (fun e => h.nlv d hd e.symm))]; exact h.lev d' hd'
  · obtain ⟨cur, h1, h2, h3⟩ := h.row d' hd'
    by_cases e : d' = d
    · subst e
      refine ⟨_, heap_setCell_same w (lb d') j cur 52 _ h1, by simp [h2], fun j' hj' => ?_⟩
      rw [Array.getElem?_setIfInBounds]
      unfold setV
      by_cases ej : j' = j
      · subst ej
        rw [if_pos rfl, if_pos (by omega), if_pos ⟨rfl, rfl⟩]
      · rw [if_neg (fun q => ej q.symm), if_neg (fun q => ej q.2)]
        exact h3 j' hj'
    · refine ⟨cur, ?_, h2, fun j' hj' => ?_⟩
      · rw [Below.heap_setCell _ _ _ _ (fun q => e (h.inj d' d hd' hd q))]; exact h1
      · unfold setV
        rw [if_neg (fun q => e q.1)]
        exact h3 j' hj'
  · unfold setV
    split
    · exact hx
    · exact h.word d' j'

theorem Ps.drewN {w : World} {n ps lv L cap : Nat} {lb : Nat → Nat} {V : Nat → Nat → Nat} (h : Ps w n ps lv L cap lb V) (q : Nat) : Ps (w.drewN q) n ps lv L cap lb V := ⟨h.head, h.lev, h.row, h.word, h.inj, h.nps, h.nlv, h.pos, h.few⟩
theorem Ps.drew {w : World} {n ps lv L cap : Nat} {lb : Nat → Nat} {V : Nat → Nat → Nat} (h : Ps w n ps lv L cap lb V) : Ps w.drew n ps lv L cap lb V := ⟨h.head, h.lev, h.row, h.word, h.inj, h.nps, h.nlv, h.pos, h.few⟩

/-- 'add' has been at the levels below d -/
def addV (V : Nat → Nat → Nat) (p : Nat) : Nat → Nat → Nat → Nat
  | 0 => V
  | d + 1 => setV (addV V p d) d (pd p d / 64) (addV V p d d (pd p d / 64) ||| 2 ^ (pd p d % 64))

theorem add37 (n ps lv L cap p : Nat) (lb : Nat → Nat) (V : Nat → Nat → Nat) (w : World) (h : Ps w n ps lv L cap lb V) (hp : p < n) (hn : n ≤ 65536) :
    Calls Try.prog 37 #[.pointer (some ⟨ps, 0, none⟩), .int .i64 p] w fun e w' => e = .returned (.tuple #[]) ∧ Ps w' n ps lv L cap lb (addV V p L) ∧ Only (fun b => ∃ d, d < L ∧ b = lb d) w w' := by
  have hh := h.head
  go_enter Try.func37, Try.ntmps37
  go_wp2
  clear hh
  go_loopw [1, 11] (fun sp si wr => ∃ d : Nat, d ≤ L ∧ sp = .int .i64 (pd p d : Nat) ∧ si = .int .i64 d ∧ Ps wr n ps lv L cap lb (addV V p d) ∧ Only (fun b => ∃ d, d < L ∧ b = lb d) w wr) (fun _ si _ => L - (intOf si).toNat)
  case atStart => exact ⟨0, Nat.zero_le _, rfl, rfl, h, Only.refl _ _⟩
  case round =>
    obtain ⟨d, hd, rfl, rfl, hps, honly⟩ := hrel
    by_cases hlt : d < L
    · have hq := pd_lt hp d
      have hle := pd_le p d
      have e0 := hps.lev d hlt
      have e1 := hps.cellw hlt hq
      have fz := hps.free hlt (pd p d / 64)
      have l0 : (0 : Int) ≤ (d : Int) := by omega
      have l1 : (d : Int) < (L : Int) := by omega
      generalize hqe : pd p d = q at e1 fz hq hle ⊢
      have l2 : (0 : Int) ≤ (q : Int) / 64 := by omega
      have l3 : (q : Int) / 64 < (sz n d : Int) := by omega
      have l4 : (0 : Int) ≤ (q : Int) % 64 := by omega
      have l5 : (q : Int) % 64 < 64 := by omega
      have t1 : ((q : Int) / 64).toNat = q / 64 := by omega
      have t2 : ((q : Int) % 64).toNat = q % 64 := by omega
      have hw := hps.word d (q / 64)
      have h64 := h.few
      have hpow : 2 ^ (q % 64) < 18446744073709551616 := by
        have : 2 ^ (q % 64) ≤ 2 ^ 63 := Nat.pow_le_pow_right (by omega) (by omega)
        omega
      have e2 : ((2 : Int) ^ (q % 64)) = ((2 ^ (q % 64) : Nat) : Int) := by simp
      have t3 : IntKind.u64.wrap ((2 : Int) ^ (q % 64)) = (2 : Int) ^ (q % 64) := by
        rw [e2, IntKind.wrap_u64]
        generalize 2 ^ (q % 64) = X at hpow
        omega
      have t4 : bits BinOp.or IntKind.u64 (addV V p d d (q / 64) : Nat) ((2 : Int) ^ (q % 64)) = ((addV V p d d (q / 64) ||| 2 ^ (q % 64) : Nat) : Int) := by
        rw [e2]
        exact bits_or_u64_nat (addV V p d d (q / 64)) (2 ^ (q % 64)) (by simpa using hw) hpow
      clear e2
      have hor : addV V p d d (q / 64) ||| 2 ^ (q % 64) < 2 ^ 64 := Nat.or_lt_two_pow hw (by simpa using hpow)
      go_wp2
      go_region
      go_wp2
      go_roundw
      case rel =>
        refine ⟨d + 1, by omega, ?_, by go_num, ?_, ?_⟩
        · show _ = Value.int .i64 (pd p d / 64 : Nat)
          rw [hqe]
          simp
        · show Ps _ n ps lv L cap lb (setV (addV V p d) d (pd p d / 64) (addV V p d d (pd p d / 64) ||| 2 ^ (pd p d % 64)))
          rw [hqe]
          exact (hps.set hlt hq hor).drew
        · exact (honly.set ⟨d, hlt, rfl⟩ _).drew
      case measure => simp [intOf]; omega
    · have e : d = L := by omega
      subst e
      go_wp2
      go_end0
      exact ⟨rfl, hps, honly⟩
end Go.Proofs.Qxb6000427a
