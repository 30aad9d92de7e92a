import Derived.Test.Qxb6600271aLaw
set_option linter.unusedVariables false
namespace Go.Proofs.Qxb6600271a
open Go.RowKit

theorem bytes15f (a0 a1 a2 : Int) (a3 : Bool) (fr su : ByteArray) (h : ¬ fr.size + su.size ≤ 1048576) (w : World) :
    Calls Try.prog 15 #[.int .i64 a0, .int .i64 a1, .int .i64 a2, .bool a3, .string fr, .string su] w fun e w' => e = .returned (.bool false) ∧ Drawn w w' :=
  (bytes15 a0 a1 a2 a3 fr su false (by rw [decide_eq_false h]) w).mono fun _ _ ⟨h1, h2⟩ => ⟨h1, by rw [h2]; exact Drawn.refl _⟩

set_option maxRecDepth 100000 in
set_option maxHeartbeats 4000000 in
theorem e1 (a0 a1 a2 : Int) (a3 : Bool) (fr su : ByteArray) (w : World) (hz : ¬ fr.size + su.size ≤ 1048576) :
    Calls Try.prog 5 #[.int .i64 a0, .int .i64 a1, .int .i64 a2, .bool a3, .string fr, .string su] w fun e w' => e = .returned (.bool true) ∧ Grown w w' := by
  have hb15 := fun w => bytes15f a0 a1 a2 a3 fr su hz w
  have hdw : Drawn w w := Drawn.refl w
  go_enter Try.func5, Try.ntmps5
  go_wp2_with (first | (go_at_call 15; refine (hb15 _).mono ?_; rintro e w' ⟨rfl, hd⟩; replace hdw := hdw.trans hd))
  go_ret
  exact ⟨rfl, Grown.of_drawn hdw (Grown.refl _)⟩

set_option maxRecDepth 100000 in
set_option maxHeartbeats 4000000 in
theorem e2 (a0 a1 a2 : Int) (a3 : Bool) (fr su : ByteArray) (w : World) (hz : fr.size + su.size ≤ 1048576) (hf : 65536 < fr.size) :
    Calls Try.prog 5 #[.int .i64 a0, .int .i64 a1, .int .i64 a2, .bool a3, .string fr, .string su] w fun e w' => e = .returned (.bool true) ∧ Grown w w' := by
  have hb15 := fun w => bytes15' a0 a1 a2 a3 fr su hz w
  have i1 : (65536 : Int) < fr.size := by omega
  have hdw : Drawn w w := Drawn.refl w
  go_enter Try.func5, Try.ntmps5
  go_wp2_with (first | (go_at_call 15; refine (hb15 _).mono ?_; rintro e w' ⟨rfl, hd⟩; replace hdw := hdw.trans hd))
  go_ret
  exact ⟨rfl, Grown.of_drawn hdw (Grown.refl _)⟩

set_option maxRecDepth 100000 in
set_option maxHeartbeats 4000000 in
theorem e3 (a0 a1 a2 : Int) (a3 : Bool) (fr su : ByteArray) (w : World) (hz : fr.size + su.size ≤ 1048576) (hf : fr.size ≤ 65536) (hs : 65536 < su.size) :
    Calls Try.prog 5 #[.int .i64 a0, .int .i64 a1, .int .i64 a2, .bool a3, .string fr, .string su] w fun e w' => e = .returned (.bool true) ∧ Grown w w' := by
  have hb15 := fun w => bytes15' a0 a1 a2 a3 fr su hz w
  have i1 : ¬ (65536 : Int) < fr.size := by omega
  have i2 : (65536 : Int) < su.size := by omega
  have hdw : Drawn w w := Drawn.refl w
  go_enter Try.func5, Try.ntmps5
  go_wp2_with (first | (go_at_call 15; refine (hb15 _).mono ?_; rintro e w' ⟨rfl, hd⟩; replace hdw := hdw.trans hd))
  go_ret
  exact ⟨rfl, Grown.of_drawn hdw (Grown.refl _)⟩

set_option maxRecDepth 100000 in
set_option maxHeartbeats 4000000 in
theorem e4 (a0 a1 a2 : Int) (a3 : Bool) (fr su : ByteArray) (w : World) (hz : fr.size + su.size ≤ 1048576)(hf : fr.size ≤ 65536) (hs : su.size ≤ 65536) (h0 : a0 < 0) :
    Calls Try.prog 5 #[.int .i64 a0, .int .i64 a1, .int .i64 a2, .bool a3, .string fr, .string su] w fun e w' => e = .returned (.bool true) ∧ Grown w w' := by
  have hb15 := fun w => bytes15' a0 a1 a2 a3 fr su hz w
  have i1 : ¬ (65536 : Int) < fr.size := by omega
  have i2 : ¬ (65536 : Int) < su.size := by omega
  have hdw : Drawn w w := Drawn.refl w
  go_enter Try.func5, Try.ntmps5
  go_wp2_with (first | (go_at_call 15; refine (hb15 _).mono ?_; rintro e w' ⟨rfl, hd⟩; replace hdw := hdw.trans hd))
  go_ret
  exact ⟨rfl, Grown.of_drawn hdw (Grown.refl _)⟩

set_option maxRecDepth 100000 in
set_option maxHeartbeats 4000000 in
theorem e5 (a0 a1 a2 : Int) (a3 : Bool) (fr su : ByteArray) (w : World) (hz : fr.size + su.size ≤ 1048576)(hf : fr.size ≤ 65536) (hs : su.size ≤ 65536) (h0 : 0 ≤ a0) (h0' : 99 < a0) :
    Calls Try.prog 5 #[.int .i64 a0, .int .i64 a1, .int .i64 a2, .bool a3, .string fr, .string su] w fun e w' => e = .returned (.bool true) ∧ Grown w w' := by
  have hb15 := fun w => bytes15' a0 a1 a2 a3 fr su hz w
  have i1 : ¬ (65536 : Int) < fr.size := by omega
  have i2 : ¬ (65536 : Int) < su.size := by omega
  have i4 : ¬ a0 < 0 := by omega
  have hdw : Drawn w w := Drawn.refl w
  go_enter Try.func5, Try.ntmps5
  go_wp2_with (first | (go_at_call 15; refine (hb15 _).mono ?_; rintro e w' ⟨rfl, hd⟩; replace hdw := hdw.trans hd))
  go_ret
  exact ⟨rfl, Grown.of_drawn hdw (Grown.refl _)⟩

set_option maxRecDepth 100000 in
set_option maxHeartbeats 4000000 in
theorem e6 (a0 a1 a2 : Int) (a3 : Bool) (fr su : ByteArray) (w : World) (hz : fr.size + su.size ≤ 1048576)(hf : fr.size ≤ 65536) (hs : su.size ≤ 65536) (h0 : 0 ≤ a0) (h0' : a0 ≤ 99) (h1 : a1 < 0) :
    Calls Try.prog 5 #[.int .i64 a0, .int .i64 a1, .int .i64 a2, .bool a3, .string fr, .string su] w fun e w' => e = .returned (.bool true) ∧ Grown w w' := by
  have hb15 := fun w => bytes15' a0 a1 a2 a3 fr su hz w
  have i1 : ¬ (65536 : Int) < fr.size := by omega
  have i2 : ¬ (65536 : Int) < su.size := by omega
  have i4 : ¬ a0 < 0 := by omega
  have i5 : ¬ 99 < a0 := by omega
  have hdw : Drawn w w := Drawn.refl w
  go_enter Try.func5, Try.ntmps5
  go_wp2_with (first | (go_at_call 15; refine (hb15 _).mono ?_; rintro e w' ⟨rfl, hd⟩; replace hdw := hdw.trans hd))
  go_ret
  exact ⟨rfl, Grown.of_drawn hdw (Grown.refl _)⟩

set_option maxRecDepth 100000 in
set_option maxHeartbeats 4000000 in
theorem e7 (a0 a1 a2 : Int) (a3 : Bool) (fr su : ByteArray) (w : World) (hz : fr.size + su.size ≤ 1048576)(hf : fr.size ≤ 65536) (hs : su.size ≤ 65536) (h0 : 0 ≤ a0) (h0' : a0 ≤ 99) (h1 : 0 ≤ a1) (h1' : 99 < a1) :
    Calls Try.prog 5 #[.int .i64 a0, .int .i64 a1, .int .i64 a2, .bool a3, .string fr, .string su] w fun e w' => e = .returned (.bool true) ∧ Grown w w' := by
  have hb15 := fun w => bytes15' a0 a1 a2 a3 fr su hz w
  have i1 : ¬ (65536 : Int) < fr.size := by omega
  have i2 : ¬ (65536 : Int) < su.size := by omega
  have i4 : ¬ a0 < 0 := by omega
  have i5 : ¬ 99 < a0 := by omega
  have i6 : ¬ a1 < 0 := by omega
  have hdw : Drawn w w := Drawn.refl w
  go_enter Try.func5, Try.ntmps5
  go_wp2_with (first | (go_at_call 15; refine (hb15 _).mono ?_; rintro e w' ⟨rfl, hd⟩; replace hdw := hdw.trans hd))
  go_ret
  exact ⟨rfl, Grown.of_drawn hdw (Grown.refl _)⟩

end Go.Proofs.Qxb6600271a
