/-
  THE SHELL OF A PROOF OF 'Rows.FnCutTimeOfBuiltTextSaid' ('example.com/tamarack/tamarack/zzlaws_internal_toml_b1.FnCutTimeOfBuiltText'), WRITTEN BY PROGRAM (proof-skeleton.mjs) off the guide's own print for that function. Not trusted: Lean checks it.
  THE WALK IS OURS. ALL ELSE IS THE GUIDE's TEMPLATE (howto/template/XProofs.lean) at this function's number and types: leave it.
-/
import Derived.Test.Qxb6600271aRows
import Derived.Test.Qxb6600271aTxt
import Derived.Test.Qxb6600271aLawN
import Derived.Test.Qxb6600271aLawP
import Derived.Test.Qxb6600271aLawQ
import Derived.Test.Qxb6600271aLawR
import Derived.Test.Qxb6600271aLawE
import Derived.Test.Qxb6600271aLawF
import Derived.WalkKit
import Derived.ProofKit
import Derived.OpenShut
import Derived.ShutString
namespace Go.Proofs.Qxb6600271a.fnCutTimeOfBuiltText
open Go.ChangeShapes Go.WideShapes Go.ChangeAt Go.RowKit
open Go.ChangeMaps (open_string shut_string)
set_option linter.unusedVariables false      -- a walk need not use every 'w<i>' (that an integer argument fits its kind)

theorem own : ownKnob Try.prog.godebug = none := by kernel_rfl

/-! ### STEP 1: THE WALK: the Go text returns true. 'Grown w w'': the world has at most new blocks (Derived/RowKit3.lean). Part the cases AHEAD of 'go_enter' where a test parts the walk; take each callee by a contract of your own. -/
theorem walk (a0 : Int) (a1 : Int) (a2 : Int) (a3 : Bool) (a4 : ByteArray) (a5 : ByteArray) (w0 : (Lit.int .i64 a0).wf = true) (w1 : (Lit.int .i64 a1).wf = true) (w2 : (Lit.int .i64 a2).wf = true) (w4 : a4.size ≤ maxLen) (w5 : a5.size ≤ maxLen) (w : World) :
    Calls Try.prog 5 #[.int .i64 a0, .int .i64 a1, .int .i64 a2, .bool a3, .string a4, .string a5] w fun e w' => e = .returned (.bool true) ∧ Grown w w' := by
  by_cases hz : a4.size + a5.size ≤ 1048576
  rotate_left
  · exact e1 a0 a1 a2 a3 a4 a5 w hz
  by_cases hf : a4.size ≤ 65536
  rotate_left
  · exact e2 a0 a1 a2 a3 a4 a5 w hz (by omega)
  by_cases hs : a5.size ≤ 65536
  rotate_left
  · exact e3 a0 a1 a2 a3 a4 a5 w hz hf (by omega)
  by_cases h0 : 0 ≤ a0
  rotate_left
  · exact e4 a0 a1 a2 a3 a4 a5 w hz hf hs (by omega)
  by_cases h0' : a0 ≤ 99
  rotate_left
  · exact e5 a0 a1 a2 a3 a4 a5 w hz hf hs h0 (by omega)
  by_cases h1 : 0 ≤ a1
  rotate_left
  · exact e6 a0 a1 a2 a3 a4 a5 w hz hf hs h0 h0' (by omega)
  by_cases h1' : a1 ≤ 99
  rotate_left
  · exact e7 a0 a1 a2 a3 a4 a5 w hz hf hs h0 h0' h1 (by omega)
  by_cases h2 : -1 ≤ a2
  rotate_left
  · exact e8 a0 a1 a2 a3 a4 a5 w hz hf hs h0 h0' h1 h1' (by omega)
  by_cases h2' : a2 ≤ 99
  rotate_left
  · exact e9 a0 a1 a2 a3 a4 a5 w hz hf hs h0 h0' h1 h1' (by omega) (by omega)
  by_cases hD : ∀ i, i < a4.size → dig (gb a4 i) = true
  rotate_left
  · exact e10 a0 a1 a2 a3 a4 a5 w hz hf hs h0 h0' h1 h1' h2 h2' hD
  have nil4 : a4.toList = [] ↔ a4.size = 0 := by rw [Lib.toList_data, Lib.size_eq, List.length_eq_zero_iff]
  have nil5 : a5.toList = [] ↔ a5.size = 0 := by rw [Lib.toList_data, Lib.size_eq, List.length_eq_zero_iff]
  cases a3 with
  | false =>
    by_cases fe : a4.toList = []
    rotate_left
    · exact e11 a0 a1 a2 a4 a5 w hz hf hs h0 h0' h1 h1' h2 h2' hD fe
    by_cases hn : a2 = -1
    · subst hn
      by_cases x0 : a0 ≤ 23
      rotate_left
      · exact n3 a0 a1 a4 a5 w hz hf hs h0 h0' h1 h1' hD (by omega) fe (cuts_bad a0 a1 _ _ h0 h0' h1 h1' rfl (by omega))
      by_cases x1 : a1 ≤ 59
      rotate_left
      · exact n4 a0 a1 a4 a5 w hz hf hs h0 h0' h1 h1' hD x0 (by omega) fe (cuts_bad a0 a1 _ _ h0 h0' h1 h1' rfl (by omega))
      by_cases xs : a5.size < 3
      · exact n1 a0 a1 a4 a5 w hz hf hs h0 h0' h1 h1' hD x0 x1 fe xs (cuts_short a0 a1 a5 _ h0 x0 h1 x1 rfl (.inl xs))
      by_cases xc : gb a5 0 = 58
      · exact e13 a0 a1 a4 a5 w hz hf hs h0 h0' h1 h1' hD fe x0 x1 (by omega) xc
      · exact n2 a0 a1 a4 a5 w hz hf hs h0 h0' h1 h1' hD x0 x1 fe (by omega) xc (cuts_short a0 a1 a5 _ h0 x0 h1 x1 rfl (.inr xc))
    · have h2p : 0 ≤ a2 := by omega
      by_cases x0 : a0 ≤ 23
      rotate_left
      · exact p4 a0 a1 a2 a4 a5 w hz hf hs h0 h0' h1 h1' h2p h2' hD (by omega) fe (cuts_bad a0 a1 ([58] ++ tw a2 ++ a5.data.toList) _ h0 h0' h1 h1' (by simp only [List.append_assoc]) (by omega))
      by_cases x1 : a1 ≤ 59
      rotate_left
      · exact p5 a0 a1 a2 a4 a5 w hz hf hs h0 h0' h1 h1' h2p h2' hD x0 (by omega) fe (cuts_bad a0 a1 ([58] ++ tw a2 ++ a5.data.toList) _ h0 h0' h1 h1' (by simp only [List.append_assoc]) (by omega))
      by_cases x2 : a2 ≤ 60
      rotate_left
      · exact p3 a0 a1 a2 a4 a5 w hz hf hs h0 h0' h1 h1' h2p h2' hD x0 x1 (by omega) fe (cuts_late a0 a1 a2 a5.data.toList _ h0 x0 h1 x1 (by omega) h2' (by simp only [List.append_assoc]))
      by_cases es : a5.toList = []
      · exact p1 a0 a1 a2 a4 a5 w hz hf hs h0 h0' h1 h1' h2p h2' hD x0 x1 x2 fe es (cuts_nodot a0 a1 a2 a5 _ h0 x0 h1 x1 h2p x2 (by simp only [List.append_assoc]) (by have := nil5.1 es; omega))
      have i0 : 0 < a5.size := by
        have : ¬ a5.size = 0 := fun h => es (nil5.2 h)
        omega
      by_cases xc : gb a5 0 = 46
      · exact e14 a0 a1 a2 a4 a5 w hz hf hs h0 h0' h1 h1' hD fe x0 x1 h2p h2' x2 (by simpa using es) i0 xc
      · exact p2 a0 a1 a2 a4 a5 w hz hf hs h0 h0' h1 h1' h2p h2' hD x0 x1 x2 fe es i0 xc (cuts_nodot a0 a1 a2 a5 _ h0 x0 h1 x1 h2p x2 (by simp only [List.append_assoc]) (by omega))
  | true =>
    by_cases hn : a2 = -1
    · subst hn
      exact e12 a0 a1 a4 a5 w hz hf hs h0 h0' h1 h1' hD
    · have h2p : 0 ≤ a2 := by omega
      by_cases x0 : a0 ≤ 23
      rotate_left
      · exact q6 a0 a1 a2 a4 a5 w hz hf hs h0 h0' h1 h1' h2p h2' hD (by omega) (cuts_bad a0 a1 ([58] ++ tw a2 ++ [46] ++ a4.data.toList ++ a5.data.toList) _ h0 h0' h1 h1' (by simp only [List.append_assoc]) (by omega))
      by_cases x1 : a1 ≤ 59
      rotate_left
      · exact q7 a0 a1 a2 a4 a5 w hz hf hs h0 h0' h1 h1' h2p h2' hD x0 (by omega) (cuts_bad a0 a1 ([58] ++ tw a2 ++ [46] ++ a4.data.toList ++ a5.data.toList) _ h0 h0' h1 h1' (by simp only [List.append_assoc]) (by omega))
      by_cases x2 : a2 ≤ 60
      rotate_left
      · exact q5 a0 a1 a2 a4 a5 w hz hf hs h0 h0' h1 h1' h2p h2' hD x0 x1 (by omega) (cuts_late a0 a1 a2 ([46] ++ a4.data.toList ++ a5.data.toList) _ h0 x0 h1 x1 (by omega) h2' (by simp only [List.append_assoc]))
      by_cases xd : 0 < a5.size ∧ dig (gb a5 0) = true
      · have es : ¬ a5.toList = [] := fun h => by have := nil5.1 h; omega
        exact e15 a0 a1 a2 a4 a5 w hz hf hs h0 h0' h1 h1' hD x0 x1 h2p h2' x2 (by simpa using es) xd.1 xd.2
      have hcut := cuts_dot a0 a1 a2 a4 a5 (tw a0 ++ [58] ++ tw a1 ++ [58] ++ tw a2 ++ [46] ++ a4.data.toList ++ a5.data.toList) h0 x0 h1 x1 h2p x2 (by simp only [List.append_assoc, List.cons_append, List.nil_append]) hD
        (fun h => by rw [← Bool.not_eq_true]; exact fun k => xd ⟨h, k⟩) hf hs
      by_cases fe : a4.toList = []
      · rw [if_pos (nil4.1 fe), decide_eq_false (by simpa using nil4.1 fe)] at hcut
        by_cases es : a5.toList = []
        · exact q1 a0 a1 a2 a4 a5 w hz hf hs h0 h0' h1 h1' h2p h2' hD x0 x1 x2 fe es hcut
        · have i0 : 0 < a5.size := by
            have : ¬ a5.size = 0 := fun h => es (nil5.2 h)
            omega
          exact q2 a0 a1 a2 a4 a5 w hz hf hs h0 h0' h1 h1' h2p h2' hD x0 x1 x2 fe es i0 (by rw [← Bool.not_eq_true]; exact fun k => xd ⟨i0, k⟩) hcut
      · have hne : ¬ a4.size = 0 := fun h => fe (nil4.2 h)
        rw [if_neg hne, decide_eq_true hne] at hcut
        have fe' : (a4.toList == []) = false := by
          rw [← Bool.not_eq_true, beq_iff_eq]
          exact fe
        by_cases es : a5.toList = []
        · exact q3 a0 a1 a2 a4 a5 w hz hf hs h0 h0' h1 h1' h2p h2' hD x0 x1 x2 fe' es hcut
        · have i0 : 0 < a5.size := by
            have : ¬ a5.size = 0 := fun h => es (nil5.2 h)
            omega
          exact q4 a0 a1 a2 a4 a5 w hz hf hs h0 h0' h1 h1' h2p h2' hD x0 x1 x2 fe' es i0 (by rw [← Bool.not_eq_true]; exact fun k => xd ⟨i0, k⟩) hcut

/-! ### THE ROW's STEP: WRITTEN OUT: LEAVE IT -/
set_option maxRecDepth 100000 in
theorem lifted (os : Os) (started : os.Started) (H : Type) (enc : TypeId × Value → H) :
    ReturnsInHanded {} Try.checked os 5 .any (Rows.fnCutTimeOfBuiltTextSpec.pre6 enc Try.prog Try.f5 Rows.fnCutTimeOfBuiltTextRow.domain false) (Rows.fnCutTimeOfBuiltTextSpec.post enc Try.prog Try.f5 false true false false) := by
  refine returnsInHanded_of_change (C := Try.checked) own started (by kernel_rfl) Try.func5
    (ChangeSpec.witness6 (enc := enc) (C := Try.checked) false ⟨#[], #[.int .i64 0, .int .i64 0, .int .i64 0, .bool false, .string ByteArray.empty, .string ByteArray.empty], []⟩ 8 (by kernel_rfl) (by kernel_rfl) (by kernel_rfl) (by kernel_rfl)) ?_
  intro W base args ds gs before hval0 hW hcnd _
  have hval : ∀ (j : Nat) t v, Try.f5.params[j]? = some t → args[j]? = some v → Value.okWide Try.prog W .any base t v := hval0
  have hW' := hW
  obtain ⟨p, q, hA0, hV, rfl, hfz, hnd⟩ := hW
  have hA : DataW.TrodAll enc Try.prog W 0 (fun _ => true) true Try.f5.params.toList args.toList ds p := hA0
  rw [Try.params5] at hA hval
  obtain ⟨v0, vs0, d0, ds0, p0, q0, hargs, rfl, rfl, h0, r0⟩ := trodAll_cons hA
  obtain ⟨v1, vs1, d1, ds1, p1, q1, rfl, rfl, rfl, h1, r1⟩ := trodAll_cons r0
  obtain ⟨v2, vs2, d2, ds2, p2, q2, rfl, rfl, rfl, h2, r2⟩ := trodAll_cons r1
  obtain ⟨v3, vs3, d3, ds3, p3, q3, rfl, rfl, rfl, h3, r3⟩ := trodAll_cons r2
  obtain ⟨v4, vs4, d4, ds4, p4, q4, rfl, rfl, rfl, h4, r4⟩ := trodAll_cons r3
  obtain ⟨v5, vs5, d5, ds5, p5, q5, rfl, rfl, rfl, h5, r5⟩ := trodAll_cons r4
  obtain ⟨rfl, rfl, rfl⟩ := trodAll_nil r5
  obtain rfl : args = #[v0, v1, v2, v3, v4, v5] := by cases args; simp_all
  obtain ⟨rfl, rfl⟩ := trodVars_none hV
  obtain ⟨a0, rfl, rfl, rfl, w0⟩ := open_int Try.underlying3 (hval 0 3 v0 rfl rfl) h0
  obtain ⟨a1, rfl, rfl, rfl, w1⟩ := open_int Try.underlying3 (hval 1 3 v1 rfl rfl) h1
  obtain ⟨a2, rfl, rfl, rfl, w2⟩ := open_int Try.underlying3 (hval 2 3 v2 rfl rfl) h2
  obtain ⟨a3, rfl, rfl, rfl⟩ := open_bool Try.underlying4 (hval 3 4 v3 rfl rfl) h3
  obtain ⟨a4, rfl, rfl, rfl, w4⟩ := open_string Try.underlying9 (hval 4 9 v4 rfl rfl) h4
  obtain ⟨a5, rfl, rfl, rfl, w5⟩ := open_string Try.underlying9 (hval 5 9 v5 rfl rfl) h5
  clear hA0 hval0
  simp only [List.append_nil] at hW'
  refine (walk a0 a1 a2 a3 a4 a5 w0 w1 w2 w4 w5 W).mono fun e W' ⟨he, hg⟩ => ?_
  subst he
  exact ⟨_, rfl, post_of_same (pa := []) (pv := []) hW' (fun _ _ _ => (trodAll_cons_mk (shut_bool Try.underlying4 _) trodAll_mk0)) (fun sp _ => (trodAll_cons_mk (shut_int Try.underlying3 w0) (trodAll_cons_mk (shut_int Try.underlying3 w1) (trodAll_cons_mk (shut_int Try.underlying3 w2) (trodAll_cons_mk (shut_bool Try.underlying4 _) (trodAll_cons_mk (shut_string Try.underlying9 w4) (trodAll_cons_mk (shut_string Try.underlying9 w5) trodAll_mk0))))))) (fun _ _ => rfl) rfl
    (hg.frame _) hg.2.1 (ok_one (by kernel_rfl) rfl (okWide_bool_mk Try.underlying4 _))⟩

theorem over : Rows.fnCutTimeOfBuiltTextRow.holds Try.pinned (OpenSpec.ofChange Rows.fnCutTimeOfBuiltTextSpec) :=
  OpenClaim.holds_of_wide 5 Try.f5 rfl rfl rfl rfl rfl rfl rfl ⟨rfl, rfl, rfl, rfl, rfl⟩ rfl rfl rfl rfl rfl (by kernel_rfl) Try.func5 (by kernel_rfl)
    (of_decide_eq_true (by kernel_rfl)) (by unfold Func.isWrapper; first | (rw [if_pos (by decide +kernel)]; kernel_rfl) | (rw [if_neg (by decide +kernel)]; exact ⟨rfl, rfl⟩))
    (fun os started H enc _ => lifted os started H enc)

/-- ████ THE STATEMENT ████ -/
theorem proved : Rows.FnCutTimeOfBuiltTextSaid :=
  over
end Go.Proofs.Qxb6600271a.fnCutTimeOfBuiltText

/-- THE STATEMENT, in the seat's own namespace. -/
theorem Go.Proofs.Qxb6600271a.cuttime_said : Go.Proofs.Qxb6600271a.Rows.FnCutTimeOfBuiltTextSaid := Go.Proofs.Qxb6600271a.fnCutTimeOfBuiltText.proved
