/-
  The proof of 'Rows.FnBindMatchesPriorityModelSaid', after the make of the seats' shells: the walk is in Qxb6600226aLaw.lean.
-/
import Derived.Test.Qxb6600226aRows
import Derived.WalkKit
import Derived.ProofKit
import Derived.OpenShut
import Derived.ShutString
import Derived.ChangeOld
import Derived.Below
import Derived.Deep.Strs
import Derived.Deep.Grids
import Derived.Test.Qxb6600226aLaw
import Derived.Test.Qxb6600226aHead
namespace Go.Proofs.Qxb6600226a.fnBindMatchesPriorityModel
open Go.ChangeShapes Go.WideShapes Go.ChangeAt Go.RowKit
set_option linter.unusedVariables false

theorem own : ownKnob Try.prog.godebug = none := by kernel_rfl
theorem laidOut : laidOutB Try.prog = true := by kernel_rfl

/-- a slice of strings that came in -/
def IsStrs (w : World) (a : Option Addr) (len cap : Nat) (z : Nat → ByteArray) : Prop := len ≤ maxLen ∧ ArgS w a len z ∧ (a = none → len = 0 ∧ cap = 0)
/-- a slice of bools that came in -/
def IsBools (w : World) (a : Option Addr) (len cap : Nat) (z : Nat → Bool) : Prop := len ≤ maxLen ∧ ArgB w a len z ∧ (a = none → len = 0 ∧ cap = 0)

theorem isStrs_some {w : World} {x : Addr} {len cap m : Nat} {Sx : Nat → ByteArray} (hl : len ≤ cap) (hm : cap ≤ maxLen) (hmm : len ≤ m) (h : ∀ i, i < m → w.cell? (x.add i) = some (.string (Sx i)) ∧ (Sx i).size ≤ maxLen) : IsStrs w (some x) len cap Sx := by
  refine ⟨Nat.le_trans hl hm, fun i hi => ?_, fun h => by cases h⟩
  obtain ⟨b, off, spot⟩ := x
  have h0 := h i (by omega)
  have hspot : spot = none := by simpa [Addr.add] using World.cell?_spot (h 0 (by omega)).1
  subst hspot
  have h1 := h0.1
  rw [Go.WideShapes.add_plain] at h1
  exact ⟨b, off, rfl, h1, World.block_lt_of_cell? w _ h1, h0.2⟩
theorem isBools_some {w : World} {x : Addr} {len cap m : Nat} {Sx : Nat → Bool} (hl : len ≤ cap) (hm : cap ≤ maxLen) (hmm : len ≤ m) (h : ∀ i, i < m → w.cell? (x.add i) = some (.bool (Sx i))) : IsBools w (some x) len cap Sx := by
  refine ⟨Nat.le_trans hl hm, fun i hi => ?_, fun h => by cases h⟩
  obtain ⟨b, off, spot⟩ := x
  have h0 := h i (by omega)
  have hspot : spot = none := by simpa [Addr.add] using World.cell?_spot (h 0 (by omega))
  subst hspot
  have h1 := h0
  rw [Go.WideShapes.add_plain] at h1
  exact ⟨b, off, rfl, h1, World.block_lt_of_cell? w _ h1⟩

set_option maxRecDepth 100000 in
theorem lifted (os : Os) (started : os.Started) (H : Type) (enc : TypeId × Value → H) :
    ReturnsInHanded {} Try.checked os 5 .any (Rows.fnBindMatchesPriorityModelSpec.pre6 enc Try.prog Try.f5 Rows.fnBindMatchesPriorityModelRow.domain false) (Rows.fnBindMatchesPriorityModelSpec.post enc Try.prog Try.f5 false true false false) := by
  refine returnsInHanded_of_change (C := Try.checked) own started (by kernel_rfl) Try.func5
    (ChangeSpec.witness6 (enc := enc) (C := Try.checked) false ⟨#[], #[.slice none 0 0, .slice none 0 0, .slice none 0 0, .slice none 0 0, .slice none 0 0, .slice none 0 0], []⟩ 8 (by kernel_rfl) (by kernel_rfl) (by kernel_rfl) (by kernel_rfl)) ?_
  intro W base args ds gs before hval0 hW hcnd _
  have hval : ∀ (j : Nat) t v, Try.f5.params[j]? = some t → args[j]? = some v → Value.okWide Try.prog W .any base t v := hval0
  have hW' := hW
  obtain ⟨p, q, hA0, hV, rfl, hfz, hnd⟩ := hW
  have hA : DataW.TrodAll enc Try.prog W 0 (fun _ => true) true Try.f5.params.toList args.toList ds p := hA0
  rw [Try.params5] at hA hval
  obtain ⟨v0, vs0, d0, ds0, p0, q0, hargs, rfl, rfl, h0, r0⟩ := trodAll_cons hA
  obtain ⟨v1, vs1, d1, ds1, p1, q1, rfl, rfl, rfl, h1, r1⟩ := trodAll_cons r0
  obtain ⟨v2, vs2, d2, ds2, p2, q2, rfl, rfl, rfl, h2, r2⟩ := trodAll_cons r1
  obtain ⟨v3, vs3, d3, ds3, p3, q3, rfl, rfl, rfl, h3, r3⟩ := trodAll_cons r2
  obtain ⟨v4, vs4, d4, ds4, p4, q4, rfl, rfl, rfl, h4, r4⟩ := trodAll_cons r3
  obtain ⟨v5, vs5, d5, ds5, p5, q5, rfl, rfl, rfl, h5, r5⟩ := trodAll_cons r4
  obtain ⟨rfl, rfl, rfl⟩ := trodAll_nil r5
  obtain rfl : args = #[v0, v1, v2, v3, v4, v5] := by cases args; simp_all
  obtain ⟨rfl, rfl⟩ := trodVars_none hV
  obtain ⟨a0, len0, cap0, rfl⟩ := okWide_slice Try.underlying25 (hval 0 25 v0 rfl rfl)
  have k0 := h0
  have lt0 : ∀ x ∈ p0, x.block < W.heap.size := by obtain ⟨m, hm⟩ := k0; exact DataW.trod_lt m _ _ _ hm
  obtain ⟨z0, w0⟩ : ∃ zs, IsStrs W a0 len0 cap0 zs := by
    obtain ⟨fuel, hf⟩ := h0
    rcases Deep.open_strs Try.underlying25 Try.underlying9 (by kernel_rfl) hf with ⟨hcs, _⟩ | ⟨x, l, c, m, Sx, hcs, _, hl, hm, hmm, _, hcell⟩
    · simp [Value.cells] at hcs
      obtain ⟨rfl, rfl, rfl⟩ := hcs
      exact ⟨fun _ => ⟨#[]⟩, Nat.zero_le _, fun i hi => absurd hi (Nat.not_lt_zero i), fun _ => ⟨rfl, rfl⟩⟩
    · simp [Value.cells] at hcs
      obtain ⟨rfl, rfl, rfl⟩ := hcs
      exact ⟨Sx, isStrs_some hl hm (by simp at hmm; omega) hcell⟩
  obtain ⟨a1, len1, cap1, rfl⟩ := okWide_slice Try.underlying25 (hval 1 25 v1 rfl rfl)
  have k1 := h1
  have lt1 : ∀ x ∈ p1, x.block < W.heap.size := by obtain ⟨m, hm⟩ := k1; exact DataW.trod_lt m _ _ _ hm
  obtain ⟨z1, w1⟩ : ∃ zs, IsStrs W a1 len1 cap1 zs := by
    obtain ⟨fuel, hf⟩ := h1
    rcases Deep.open_strs Try.underlying25 Try.underlying9 (by kernel_rfl) hf with ⟨hcs, _⟩ | ⟨x, l, c, m, Sx, hcs, _, hl, hm, hmm, _, hcell⟩
    · simp [Value.cells] at hcs
      obtain ⟨rfl, rfl, rfl⟩ := hcs
      exact ⟨fun _ => ⟨#[]⟩, Nat.zero_le _, fun i hi => absurd hi (Nat.not_lt_zero i), fun _ => ⟨rfl, rfl⟩⟩
    · simp [Value.cells] at hcs
      obtain ⟨rfl, rfl, rfl⟩ := hcs
      exact ⟨Sx, isStrs_some hl hm (by simp at hmm; omega) hcell⟩
  obtain ⟨a2, len2, cap2, rfl⟩ := okWide_slice Try.underlying26 (hval 2 26 v2 rfl rfl)
  have k2 := h2
  have lt2 : ∀ x ∈ p2, x.block < W.heap.size := by obtain ⟨m, hm⟩ := k2; exact DataW.trod_lt m _ _ _ hm
  obtain ⟨z2, w2⟩ : ∃ zs, IsBools W a2 len2 cap2 zs := by
    obtain ⟨fuel, hf⟩ := h2
    rcases Deep.open_bools Try.underlying26 Try.underlying4 (by kernel_rfl) hf with ⟨hcs, _⟩ | ⟨x, l, c, Sx, hcs, _, hl, hm, _, hcell⟩
    · simp [Value.cells] at hcs
      obtain ⟨rfl, rfl, rfl⟩ := hcs
      exact ⟨fun _ => false, Nat.zero_le _, fun i hi => absurd hi (Nat.not_lt_zero i), fun _ => ⟨rfl, rfl⟩⟩
    · simp [Value.cells] at hcs
      obtain ⟨rfl, rfl, rfl⟩ := hcs
      exact ⟨Sx, isBools_some hl hm hl hcell⟩
  obtain ⟨a3, len3, cap3, rfl⟩ := okWide_slice Try.underlying25 (hval 3 25 v3 rfl rfl)
  have k3 := h3
  have lt3 : ∀ x ∈ p3, x.block < W.heap.size := by obtain ⟨m, hm⟩ := k3; exact DataW.trod_lt m _ _ _ hm
  obtain ⟨z3, w3⟩ : ∃ zs, IsStrs W a3 len3 cap3 zs := by
    obtain ⟨fuel, hf⟩ := h3
    rcases Deep.open_strs Try.underlying25 Try.underlying9 (by kernel_rfl) hf with ⟨hcs, _⟩ | ⟨x, l, c, m, Sx, hcs, _, hl, hm, hmm, _, hcell⟩
    · simp [Value.cells] at hcs
      obtain ⟨rfl, rfl, rfl⟩ := hcs
      exact ⟨fun _ => ⟨#[]⟩, Nat.zero_le _, fun i hi => absurd hi (Nat.not_lt_zero i), fun _ => ⟨rfl, rfl⟩⟩
    · simp [Value.cells] at hcs
      obtain ⟨rfl, rfl, rfl⟩ := hcs
      exact ⟨Sx, isStrs_some hl hm (by simp at hmm; omega) hcell⟩
  obtain ⟨a4, len4, cap4, rfl⟩ := okWide_slice Try.underlying25 (hval 4 25 v4 rfl rfl)
  have k4 := h4
  have lt4 : ∀ x ∈ p4, x.block < W.heap.size := by obtain ⟨m, hm⟩ := k4; exact DataW.trod_lt m _ _ _ hm
  obtain ⟨z4, w4⟩ : ∃ zs, IsStrs W a4 len4 cap4 zs := by
    obtain ⟨fuel, hf⟩ := h4
    rcases Deep.open_strs Try.underlying25 Try.underlying9 (by kernel_rfl) hf with ⟨hcs, _⟩ | ⟨x, l, c, m, Sx, hcs, _, hl, hm, hmm, _, hcell⟩
    · simp [Value.cells] at hcs
      obtain ⟨rfl, rfl, rfl⟩ := hcs
      exact ⟨fun _ => ⟨#[]⟩, Nat.zero_le _, fun i hi => absurd hi (Nat.not_lt_zero i), fun _ => ⟨rfl, rfl⟩⟩
    · simp [Value.cells] at hcs
      obtain ⟨rfl, rfl, rfl⟩ := hcs
      exact ⟨Sx, isStrs_some hl hm (by simp at hmm; omega) hcell⟩
  obtain ⟨a5, len5, cap5, rfl⟩ := okWide_slice Try.underlying25 (hval 5 25 v5 rfl rfl)
  have k5 := h5
  have lt5 : ∀ x ∈ p5, x.block < W.heap.size := by obtain ⟨m, hm⟩ := k5; exact DataW.trod_lt m _ _ _ hm
  obtain ⟨z5, w5⟩ : ∃ zs, IsStrs W a5 len5 cap5 zs := by
    obtain ⟨fuel, hf⟩ := h5
    rcases Deep.open_strs Try.underlying25 Try.underlying9 (by kernel_rfl) hf with ⟨hcs, _⟩ | ⟨x, l, c, m, Sx, hcs, _, hl, hm, hmm, _, hcell⟩
    · simp [Value.cells] at hcs
      obtain ⟨rfl, rfl, rfl⟩ := hcs
      exact ⟨fun _ => ⟨#[]⟩, Nat.zero_le _, fun i hi => absurd hi (Nat.not_lt_zero i), fun _ => ⟨rfl, rfl⟩⟩
    · simp [Value.cells] at hcs
      obtain ⟨rfl, rfl, rfl⟩ := hcs
      exact ⟨Sx, isStrs_some hl hm (by simp at hmm; omega) hcell⟩
  clear hA0 hval0
  refine (law5 a0 a1 a2 a3 a4 a5 len0 len1 len2 len3 len4 len5 cap0 cap1 cap2 cap3 cap4 cap5 z0 z1 z3 z4 z5 z2 W w0.1 w1.1 w2.1 w3.1 w4.1 w5.1 w0.2.1 w1.2.1 w2.2.1 w3.2.1 w4.2.1 w5.2.1 w0.2.2 w1.2.2 w2.2.2 w3.2.2 w4.2.2 w5.2.2).mono fun e W' ⟨he, bel⟩ => ?_
  subst he
  exact ⟨_, rfl, _, _, _, [], _, [], hW', trodAll_mk1 (shut_bool Try.underlying4 _), (trodAll_cons_mk (Below.trod laidOut (by kernel_rfl) (of_decide_eq_true (by kernel_rfl)) k0 bel lt0) (trodAll_cons_mk (Below.trod laidOut (by kernel_rfl) (of_decide_eq_true (by kernel_rfl)) k1 bel lt1) (trodAll_cons_mk (Below.trod laidOut (by kernel_rfl) (of_decide_eq_true (by kernel_rfl)) k2 bel lt2) (trodAll_cons_mk (Below.trod laidOut (by kernel_rfl) (of_decide_eq_true (by kernel_rfl)) k3 bel lt3) (trodAll_cons_mk (Below.trod laidOut (by kernel_rfl) (of_decide_eq_true (by kernel_rfl)) k4 bel lt4) (trodAll_cons_mk (Below.trod laidOut (by kernel_rfl) (of_decide_eq_true (by kernel_rfl)) k5 bel lt5) trodAll_mk0)))))), rfl, bel.frame _, fun h => by cases h⟩

set_option maxRecDepth 100000 in
theorem closed : joinedFacts Try.prog 5 Try.f5 Rows.fnBindMatchesPriorityModelSpec Rows.fnBindMatchesPriorityModelRow = true := by
  unfold joinedFacts
  repeat' (with_reducible refine andI ?_ ?_)
  all_goals first | (with_reducible exact head_may) | ((with_reducible refine head_lifts ?_) <;> exact rfl) | ((with_reducible refine head_make ?_) <;> exact rfl) | skip
  all_goals kernel_rfl

theorem over : Rows.fnBindMatchesPriorityModelRow.holds Try.pinned (OpenSpec.ofChange Rows.fnBindMatchesPriorityModelSpec) :=
  OpenClaim.holds_of_wide 5 Try.f5 rfl rfl rfl rfl rfl rfl rfl ⟨rfl, rfl, rfl, rfl, rfl⟩ rfl rfl rfl rfl rfl (by kernel_rfl) Try.func5 closed
    (of_decide_eq_true (by kernel_rfl)) (by unfold Func.isWrapper; first | (rw [if_pos (by decide +kernel)]; kernel_rfl) | (rw [if_neg (by decide +kernel)]; exact ⟨rfl, rfl⟩))
    (fun os started H enc _ => lifted os started H enc)

/-- THE STATEMENT -/
theorem proved : Rows.FnBindMatchesPriorityModelSaid := over
end Go.Proofs.Qxb6600226a.fnBindMatchesPriorityModel

/-- THE STATEMENT, in the seat's own namespace. -/
theorem Go.Proofs.Qxb6600226a.bind_said : Go.Proofs.Qxb6600226a.Rows.FnBindMatchesPriorityModelSaid := Go.Proofs.Qxb6600226a.fnBindMatchesPriorityModel.proved
