import Derived.Test.Qxb6600271aLaw
set_option linter.unusedVariables false
namespace Go.Proofs.Qxb6600271a
open Go.RowKit

set_option maxRecDepth 100000 in
set_option maxHeartbeats 4000000 in
theorem e8 (a0 a1 a2 : Int) (a3 : Bool) (fr su : ByteArray) (w : World) (hz : fr.size + su.size ≤ 1048576)(hf : fr.size ≤ 65536) (hs : su.size ≤ 65536)(h0 : 0 ≤ a0) (h0' : a0 ≤ 99) (h1 : 0 ≤ a1) (h1' : a1 ≤ 99) (h2 : a2 < -1) :
    Calls Try.prog 5 #[.int .i64 a0, .int .i64 a1, .int .i64 a2, .bool a3, .string fr, .string su] w fun e w' => e = .returned (.bool true) ∧ Grown w w' := by
  have hb15 := fun w => bytes15' a0 a1 a2 a3 fr su hz w
  have i1 : ¬ (65536 : Int) < fr.size := by omega
  have i2 : ¬ (65536 : Int) < su.size := by omega
  have i4 : ¬ a0 < 0 := by omega
  have i5 : ¬ 99 < a0 := by omega
  have i6 : ¬ a1 < 0 := by omega
  have i7 : ¬ 99 < a1 := by omega
  have hdw : Drawn w w := Drawn.refl w
  go_enter Try.func5, Try.ntmps5
  go_wp2_with (first | (go_at_call 15; refine (hb15 _).mono ?_; rintro e w' ⟨rfl, hd⟩; replace hdw := hdw.trans hd))
  go_ret
  exact ⟨rfl, Grown.of_drawn hdw (Grown.refl _)⟩

set_option maxRecDepth 100000 in
set_option maxHeartbeats 4000000 in
theorem e9 (a0 a1 a2 : Int) (a3 : Bool) (fr su : ByteArray) (w : World) (hz : fr.size + su.size ≤ 1048576)(hf : fr.size ≤ 65536) (hs : su.size ≤ 65536)(h0 : 0 ≤ a0) (h0' : a0 ≤ 99) (h1 : 0 ≤ a1) (h1' : a1 ≤ 99) (h2 : ¬ a2 < -1) (h2' : 99 < a2) :
    Calls Try.prog 5 #[.int .i64 a0, .int .i64 a1, .int .i64 a2, .bool a3, .string fr, .string su] w fun e w' => e = .returned (.bool true) ∧ Grown w w' := by
  have hb15 := fun w => bytes15' a0 a1 a2 a3 fr su hz w
  have i1 : ¬ (65536 : Int) < fr.size := by omega
  have i2 : ¬ (65536 : Int) < su.size := by omega
  have i4 : ¬ a0 < 0 := by omega
  have i5 : ¬ 99 < a0 := by omega
  have i6 : ¬ a1 < 0 := by omega
  have i7 : ¬ 99 < a1 := by omega
  have hdw : Drawn w w := Drawn.refl w
  go_enter Try.func5, Try.ntmps5
  go_wp2_with (first | (go_at_call 15; refine (hb15 _).mono ?_; rintro e w' ⟨rfl, hd⟩; replace hdw := hdw.trans hd))
  go_ret
  exact ⟨rfl, Grown.of_drawn hdw (Grown.refl _)⟩

set_option maxRecDepth 100000 in
set_option maxHeartbeats 4000000 in
theorem e10 (a0 a1 a2 : Int) (a3 : Bool) (fr su : ByteArray) (w : World) (hz : fr.size + su.size ≤ 1048576)(hf : fr.size ≤ 65536) (hs : su.size ≤ 65536)(h0 : 0 ≤ a0) (h0' : a0 ≤ 99) (h1 : 0 ≤ a1) (h1' : a1 ≤ 99) (h2 : -1 ≤ a2) (h2' : a2 ≤ 99) (hD : ¬ ∀ i, i < fr.size → dig (gb fr i) = true) :
    Calls Try.prog 5 #[.int .i64 a0, .int .i64 a1, .int .i64 a2, .bool a3, .string fr, .string su] w fun e w' => e = .returned (.bool true) ∧ Grown w w' := by
  have hb15 := fun w => bytes15' a0 a1 a2 a3 fr su hz w
  have i1 : ¬ (65536 : Int) < fr.size := by omega
  have i2 : ¬ (65536 : Int) < su.size := by omega
  have i4 : ¬ a0 < 0 := by omega
  have i5 : ¬ 99 < a0 := by omega
  have i6 : ¬ a1 < 0 := by omega
  have i7 : ¬ 99 < a1 := by omega
  have i9 : ¬ a2 < -1 := by omega
  have i10 : ¬ 99 < a2 := by omega
  have hb8 := fun w => all8 fr false w ⟨fun h => (Bool.noConfusion h), fun h => (hD h).elim⟩ (by omega)
  clear hD
  have hdw : Drawn w w := Drawn.refl w
  go_enter Try.func5, Try.ntmps5
  go_wp2_with (first | (go_at_call 15; refine (hb15 _).mono ?_; rintro e w' ⟨rfl, hd⟩; replace hdw := hdw.trans hd) | (go_at_call 8; refine (hb8 _).mono ?_; rintro e w' ⟨rfl, hd⟩; replace hdw := hdw.trans hd))
  go_ret
  exact ⟨rfl, Grown.of_drawn hdw (Grown.refl _)⟩

set_option maxRecDepth 100000 in
set_option maxHeartbeats 4000000 in
theorem e11 (a0 a1 a2 : Int) (fr su : ByteArray) (w : World) (hz : fr.size + su.size ≤ 1048576)(hf : fr.size ≤ 65536) (hs : su.size ≤ 65536)(h0 : 0 ≤ a0) (h0' : a0 ≤ 99) (h1 : 0 ≤ a1) (h1' : a1 ≤ 99) (h2 : -1 ≤ a2) (h2' : a2 ≤ 99) (hD : ∀ i, i < fr.size → dig (gb fr i) = true) (fe : ¬ fr.toList = []) :
    Calls Try.prog 5 #[.int .i64 a0, .int .i64 a1, .int .i64 a2, .bool false, .string fr, .string su] w fun e w' => e = .returned (.bool true) ∧ Grown w w' := by
  have hb15 := fun w => bytes15' a0 a1 a2 false fr su hz w
  have i1 : ¬ (65536 : Int) < fr.size := by omega
  have i2 : ¬ (65536 : Int) < su.size := by omega
  have i4 : ¬ a0 < 0 := by omega
  have i5 : ¬ 99 < a0 := by omega
  have i6 : ¬ a1 < 0 := by omega
  have i7 : ¬ 99 < a1 := by omega
  have i9 : ¬ a2 < -1 := by omega
  have i10 : ¬ 99 < a2 := by omega
  have hb8 := fun w => all8 fr true w ⟨fun _ => hD, fun _ => rfl⟩ (by omega)
  clear hD
  have hdw : Drawn w w := Drawn.refl w
  go_enter Try.func5, Try.ntmps5
  go_wp2_with (first | (go_at_call 15; refine (hb15 _).mono ?_; rintro e w' ⟨rfl, hd⟩; replace hdw := hdw.trans hd) | (go_at_call 8; refine (hb8 _).mono ?_; rintro e w' ⟨rfl, hd⟩; replace hdw := hdw.trans hd))
  go_ret
  exact ⟨rfl, Grown.of_drawn hdw (Grown.refl _)⟩

set_option maxRecDepth 100000 in
set_option maxHeartbeats 4000000 in
theorem e12 (a0 a1 : Int) (fr su : ByteArray) (w : World) (hz : fr.size + su.size ≤ 1048576)(hf : fr.size ≤ 65536) (hs : su.size ≤ 65536)(h0 : 0 ≤ a0) (h0' : a0 ≤ 99) (h1 : 0 ≤ a1) (h1' : a1 ≤ 99)(hD : ∀ i, i < fr.size → dig (gb fr i) = true) :
    Calls Try.prog 5 #[.int .i64 a0, .int .i64 a1, .int .i64 (-1), .bool true, .string fr, .string su] w fun e w' => e = .returned (.bool true) ∧ Grown w w' := by
  have hb15 := fun w => bytes15' a0 a1 (-1) true fr su hz w
  have i1 : ¬ (65536 : Int) < fr.size := by omega
  have i2 : ¬ (65536 : Int) < su.size := by omega
  have i4 : ¬ a0 < 0 := by omega
  have i5 : ¬ 99 < a0 := by omega
  have i6 : ¬ a1 < 0 := by omega
  have i7 : ¬ 99 < a1 := by omega
  have hb8 := fun w => all8 fr true w ⟨fun _ => hD, fun _ => rfl⟩ (by omega)
  clear hD
  have hdw : Drawn w w := Drawn.refl w
  go_enter Try.func5, Try.ntmps5
  go_wp2_with (first | (go_at_call 15; refine (hb15 _).mono ?_; rintro e w' ⟨rfl, hd⟩; replace hdw := hdw.trans hd) | (go_at_call 8; refine (hb8 _).mono ?_; rintro e w' ⟨rfl, hd⟩; replace hdw := hdw.trans hd))
  go_ret
  exact ⟨rfl, Grown.of_drawn hdw (Grown.refl _)⟩

set_option maxRecDepth 100000 in
set_option maxHeartbeats 4000000 in
theorem e13 (a0 a1 : Int) (fr su : ByteArray) (w : World) (hz : fr.size + su.size ≤ 1048576)(hf : fr.size ≤ 65536) (hs : su.size ≤ 65536)(h0 : 0 ≤ a0) (h0' : a0 ≤ 99) (h1 : 0 ≤ a1) (h1' : a1 ≤ 99)(hD : ∀ i, i < fr.size → dig (gb fr i) = true)(fe : fr.toList = [])(x0 : a0 ≤ 23) (x1 : a1 ≤ 59) (xs : 3 ≤ su.size) (xc : gb su 0 = 58) :
    Calls Try.prog 5 #[.int .i64 a0, .int .i64 a1, .int .i64 (-1), .bool false, .string fr, .string su] w fun e w' => e = .returned (.bool true) ∧ Grown w w' := by
  have hb15 := fun w => bytes15' a0 a1 (-1) false fr su hz w
  have i1 : ¬ (65536 : Int) < fr.size := by omega
  have i2 : ¬ (65536 : Int) < su.size := by omega
  have i4 : ¬ a0 < 0 := by omega
  have i5 : ¬ 99 < a0 := by omega
  have i6 : ¬ a1 < 0 := by omega
  have i7 : ¬ 99 < a1 := by omega
  have hb8 := fun w => all8 fr true w ⟨fun _ => hD, fun _ => rfl⟩ (by omega)
  clear hD
  have i3 : (3 : Int) ≤ su.size := by omega
  have i0 : 0 < su.size := by omega
  have gsu := gb_of su
  have hdw : Drawn w w := Drawn.refl w
  go_enter Try.func5, Try.ntmps5
  go_wp2_with (first | (go_at_call 15; refine (hb15 _).mono ?_; rintro e w' ⟨rfl, hd⟩; replace hdw := hdw.trans hd) | (go_at_call 8; refine (hb8 _).mono ?_; rintro e w' ⟨rfl, hd⟩; replace hdw := hdw.trans hd))
  go_ret
  exact ⟨rfl, Grown.of_drawn hdw (Grown.refl _)⟩

set_option maxRecDepth 100000 in
set_option maxHeartbeats 4000000 in
theorem e14 (a0 a1 a2 : Int) (fr su : ByteArray) (w : World) (hz : fr.size + su.size ≤ 1048576)(hf : fr.size ≤ 65536) (hs : su.size ≤ 65536)(h0 : 0 ≤ a0) (h0' : a0 ≤ 99) (h1 : 0 ≤ a1) (h1' : a1 ≤ 99)(hD : ∀ i, i < fr.size → dig (gb fr i) = true)(fe : fr.toList = [])(x0 : a0 ≤ 23) (x1 : a1 ≤ 59)(h2 : 0 ≤ a2) (h2' : a2 ≤ 99) (x2 : a2 ≤ 60) (en : su.toList.isEmpty = false) (i0 : 0 < su.size) (xc : gb su 0 = 46) :
    Calls Try.prog 5 #[.int .i64 a0, .int .i64 a1, .int .i64 a2, .bool false, .string fr, .string su] w fun e w' => e = .returned (.bool true) ∧ Grown w w' := by
  have hb15 := fun w => bytes15' a0 a1 a2 false fr su hz w
  have i1 : ¬ (65536 : Int) < fr.size := by omega
  have i2 : ¬ (65536 : Int) < su.size := by omega
  have i4 : ¬ a0 < 0 := by omega
  have i5 : ¬ 99 < a0 := by omega
  have i6 : ¬ a1 < 0 := by omega
  have i7 : ¬ 99 < a1 := by omega
  have i9 : ¬ a2 < -1 := by omega
  have i10 : ¬ 99 < a2 := by omega
  have hb8 := fun w => all8 fr true w ⟨fun _ => hD, fun _ => rfl⟩ (by omega)
  clear hD
  have i8 : ¬ a2 < 0 := by omega
  have gsu := gb_of su
  have hdw : Drawn w w := Drawn.refl w
  go_enter Try.func5, Try.ntmps5
  go_wp2_with (first | (go_at_call 15; refine (hb15 _).mono ?_; rintro e w' ⟨rfl, hd⟩; replace hdw := hdw.trans hd) | (go_at_call 8; refine (hb8 _).mono ?_; rintro e w' ⟨rfl, hd⟩; replace hdw := hdw.trans hd))
  go_ret
  exact ⟨rfl, Grown.of_drawn hdw (Grown.refl _)⟩

set_option maxRecDepth 100000 in
set_option maxHeartbeats 4000000 in
theorem e15 (a0 a1 a2 : Int) (fr su : ByteArray) (w : World) (hz : fr.size + su.size ≤ 1048576)(hf : fr.size ≤ 65536) (hs : su.size ≤ 65536)(h0 : 0 ≤ a0) (h0' : a0 ≤ 99) (h1 : 0 ≤ a1) (h1' : a1 ≤ 99)(hD : ∀ i, i < fr.size → dig (gb fr i) = true)(x0 : a0 ≤ 23) (x1 : a1 ≤ 59)(h2 : 0 ≤ a2) (h2' : a2 ≤ 99) (x2 : a2 ≤ 60) (en : su.toList.isEmpty = false) (i0 : 0 < su.size) (xd : dig (gb su 0) = true) :
    Calls Try.prog 5 #[.int .i64 a0, .int .i64 a1, .int .i64 a2, .bool true, .string fr, .string su] w fun e w' => e = .returned (.bool true) ∧ Grown w w' := by
  have hb15 := fun w => bytes15' a0 a1 a2 true fr su hz w
  have i1 : ¬ (65536 : Int) < fr.size := by omega
  have i2 : ¬ (65536 : Int) < su.size := by omega
  have i4 : ¬ a0 < 0 := by omega
  have i5 : ¬ 99 < a0 := by omega
  have i6 : ¬ a1 < 0 := by omega
  have i7 : ¬ 99 < a1 := by omega
  have i9 : ¬ a2 < -1 := by omega
  have i10 : ¬ 99 < a2 := by omega
  have hb8 := fun w => all8 fr true w ⟨fun _ => hD, fun _ => rfl⟩ (by omega)
  clear hD
  have i8 : ¬ a2 < 0 := by omega
  have gsu := gb_of su
  have hdw : Drawn w w := Drawn.refl w
  go_enter Try.func5, Try.ntmps5
  go_wp2_with (first | (go_at_call 15; refine (hb15 _).mono ?_; rintro e w' ⟨rfl, hd⟩; replace hdw := hdw.trans hd) | (go_at_call 8; refine (hb8 _).mono ?_; rintro e w' ⟨rfl, hd⟩; replace hdw := hdw.trans hd) | (go_at_call 16; refine (dig16' _ _).mono ?_; rintro e w' ⟨rfl, hd⟩; replace hdw := hdw.trans hd))
  go_ret
  exact ⟨rfl, Grown.of_drawn hdw (Grown.refl _)⟩

end Go.Proofs.Qxb6600271a
