import Derived.Test.Qxb6600271aLaw
set_option linter.unusedVariables false
namespace Go.Proofs.Qxb6600271a
open Go.RowKit

set_option maxRecDepth 100000 in
set_option maxHeartbeats 4000000 in
theorem q5 (a0 a1 a2 : Int) (fr su : ByteArray) (w : World) (hz : fr.size + su.size ≤ 1048576) (hf : fr.size ≤ 65536) (hs : su.size ≤ 65536)
    (h0 : 0 ≤ a0) (h0' : a0 ≤ 99) (h1 : 0 ≤ a1) (h1' : a1 ≤ 99) (h2 : 0 ≤ a2) (h2' : a2 ≤ 99) (hD : ∀ i, i < fr.size → dig (gb fr i) = true)
    (x0 : a0 ≤ 23) (x1 : a1 ≤ 59) (x2 : 60 < a2) (hcut : Cuts (tw a0 ++ [58] ++ tw a1 ++ [58] ++ tw a2 ++ [46] ++ fr.data.toList ++ su.data.toList) ⟨#[]⟩ false) :
    Calls Try.prog 5 #[.int .i64 a0, .int .i64 a1, .int .i64 a2, .bool true, .string fr, .string su] w fun e w' => e = .returned (.bool true) ∧ Grown w w' := by
  have hb15 := fun w => bytes15' a0 a1 a2 true fr su hz w
  have hb8 := fun w => all8 fr true w ⟨fun _ => hD, fun _ => rfl⟩ (by omega)
  have gsu := gb_of su
  have i1 : ¬ (65536 : Int) < fr.size := by omega
  have i2 : ¬ (65536 : Int) < su.size := by omega
  have i4 : ¬ a0 < 0 := by omega
  have i5 : ¬ 99 < a0 := by omega
  have i6 : ¬ a1 < 0 := by omega
  have i7 : ¬ 99 < a1 := by omega
  have i8 : ¬ a2 < 0 := by omega
  have i9 : ¬ a2 < -1 := by omega
  have i10 : ¬ 99 < a2 := by omega
  have j2 : ¬ a2 ≤ 60 := by omega
  have k1 : IntKind.i64.wrap (16 + (fr.size : Int)) = 16 + (fr.size : Int) := by rw [IntKind.wrap_i64]; omega
  have k2 : IntKind.i64.wrap (16 + (fr.size : Int) + (su.size : Int)) = 16 + (fr.size : Int) + (su.size : Int) := by rw [IntKind.wrap_i64]; omega
  clear hD
  obtain ⟨c, c1, c2⟩ : ∃ c : Nat, 16 + fr.size + su.size ≤ c ∧ c ≤ 16 + fr.size + su.size := ⟨_, Nat.le_refl _, Nat.le_refl _⟩
  have hdw : Drawn w w := Drawn.refl w
  go_enter Try.func5, Try.ntmps5
  go_wp2_with (first
    | (go_at_call 15; refine (hb15 _).mono ?_; rintro e w' ⟨rfl, hd⟩; replace hdw := hdw.trans hd)
    | (go_at_call 8; refine (hb8 _).mono ?_; rintro e w' ⟨rfl, hd⟩; replace hdw := hdw.trans hd)
    | (go_at_call 16; refine (dig16' _ _).mono ?_; rintro e w' ⟨rfl, hd⟩; replace hdw := hdw.trans hd)
    | (at_make; refine wpList_buf_make rfl _ _ rfl c _ rfl rfl (by omega) (by omega) ?_; intro w1 hb1)
    | (go_at_call 10; refine (two10 _ _ _ _ _ _ _ (by assumption) (by simp [tw]) (by omega) (by omega) (by omega)).mono ?_; rintro e w' ⟨rfl, hb2⟩)
    | (at_builtin; refine wpList_buf_bytes rfl _ _ rfl _ _ _ _ _ [58] _ rfl (by assumption) _ 1 rfl (by simp [tw]) rfl 1 rfl (by omega) ?_; intro w1 hb1)
    | (at_builtin; refine wpList_buf_bytes rfl _ _ rfl _ _ _ _ _ [46] _ rfl (by assumption) _ 1 rfl (by simp [tw]) rfl 1 rfl (by omega) ?_; intro w1 hb1)
    | (at_builtin; refine wpList_buf_text rfl _ _ rfl _ _ _ _ _ (by assumption) _ rfl (by first | (simp [tw]; done) | (simp [tw]; omega)) rfl (by omega) ?_; intro w1 hb1))
  all_goals
    have htx := Buf.text (w := w1) (by assumption) (9 + fr.size + su.size) (by first | (simp only [tw, List.length_append, List.length_cons, List.length_nil, len_data]; done) | (simp only [tw, List.length_append, List.length_cons, List.length_nil, len_data]; omega))
    rw [htx]
    have hgw : ∀ w', Drawn w1 w' → Grown w w' := fun w' hw' => Grown.of_drawn hdw (Buf.drawn (w := w1) (by assumption) hw').grown
    go_wp2_with (go_at_call 14; refine (hcut.at _ (by simp [tw])).mono ?_; rintro e w' ⟨rfl, hd⟩)
  all_goals go_ret
  all_goals exact ⟨rfl, hgw _ (by assumption)⟩

set_option maxRecDepth 100000 in
set_option maxHeartbeats 4000000 in
theorem q6 (a0 a1 a2 : Int) (fr su : ByteArray) (w : World) (hz : fr.size + su.size ≤ 1048576) (hf : fr.size ≤ 65536) (hs : su.size ≤ 65536)
    (h0 : 0 ≤ a0) (h0' : a0 ≤ 99) (h1 : 0 ≤ a1) (h1' : a1 ≤ 99) (h2 : 0 ≤ a2) (h2' : a2 ≤ 99) (hD : ∀ i, i < fr.size → dig (gb fr i) = true)
    (x0 : 23 < a0) (hcut : Cuts (tw a0 ++ [58] ++ tw a1 ++ [58] ++ tw a2 ++ [46] ++ fr.data.toList ++ su.data.toList) ⟨#[]⟩ false) :
    Calls Try.prog 5 #[.int .i64 a0, .int .i64 a1, .int .i64 a2, .bool true, .string fr, .string su] w fun e w' => e = .returned (.bool true) ∧ Grown w w' := by
  have hb15 := fun w => bytes15' a0 a1 a2 true fr su hz w
  have hb8 := fun w => all8 fr true w ⟨fun _ => hD, fun _ => rfl⟩ (by omega)
  have gsu := gb_of su
  have i1 : ¬ (65536 : Int) < fr.size := by omega
  have i2 : ¬ (65536 : Int) < su.size := by omega
  have i4 : ¬ a0 < 0 := by omega
  have i5 : ¬ 99 < a0 := by omega
  have i6 : ¬ a1 < 0 := by omega
  have i7 : ¬ 99 < a1 := by omega
  have i8 : ¬ a2 < 0 := by omega
  have i9 : ¬ a2 < -1 := by omega
  have i10 : ¬ 99 < a2 := by omega
  have j0 : ¬ a0 ≤ 23 := by omega
  have k1 : IntKind.i64.wrap (16 + (fr.size : Int)) = 16 + (fr.size : Int) := by rw [IntKind.wrap_i64]; omega
  have k2 : IntKind.i64.wrap (16 + (fr.size : Int) + (su.size : Int)) = 16 + (fr.size : Int) + (su.size : Int) := by rw [IntKind.wrap_i64]; omega
  clear hD
  obtain ⟨c, c1, c2⟩ : ∃ c : Nat, 16 + fr.size + su.size ≤ c ∧ c ≤ 16 + fr.size + su.size := ⟨_, Nat.le_refl _, Nat.le_refl _⟩
  have hdw : Drawn w w := Drawn.refl w
  go_enter Try.func5, Try.ntmps5
  go_wp2_with (first
    | (go_at_call 15; refine (hb15 _).mono ?_; rintro e w' ⟨rfl, hd⟩; replace hdw := hdw.trans hd)
    | (go_at_call 8; refine (hb8 _).mono ?_; rintro e w' ⟨rfl, hd⟩; replace hdw := hdw.trans hd)
    | (go_at_call 16; refine (dig16' _ _).mono ?_; rintro e w' ⟨rfl, hd⟩; replace hdw := hdw.trans hd)
    | (at_make; refine wpList_buf_make rfl _ _ rfl c _ rfl rfl (by omega) (by omega) ?_; intro w1 hb1)
    | (go_at_call 10; refine (two10 _ _ _ _ _ _ _ (by assumption) (by simp [tw]) (by omega) (by omega) (by omega)).mono ?_; rintro e w' ⟨rfl, hb2⟩)
    | (at_builtin; refine wpList_buf_bytes rfl _ _ rfl _ _ _ _ _ [58] _ rfl (by assumption) _ 1 rfl (by simp [tw]) rfl 1 rfl (by omega) ?_; intro w1 hb1)
    | (at_builtin; refine wpList_buf_bytes rfl _ _ rfl _ _ _ _ _ [46] _ rfl (by assumption) _ 1 rfl (by simp [tw]) rfl 1 rfl (by omega) ?_; intro w1 hb1)
    | (at_builtin; refine wpList_buf_text rfl _ _ rfl _ _ _ _ _ (by assumption) _ rfl (by first | (simp [tw]; done) | (simp [tw]; omega)) rfl (by omega) ?_; intro w1 hb1))
  all_goals
    have htx := Buf.text (w := w1) (by assumption) (9 + fr.size + su.size) (by first | (simp only [tw, List.length_append, List.length_cons, List.length_nil, len_data]; done) | (simp only [tw, List.length_append, List.length_cons, List.length_nil, len_data]; omega))
    rw [htx]
    have hgw : ∀ w', Drawn w1 w' → Grown w w' := fun w' hw' => Grown.of_drawn hdw (Buf.drawn (w := w1) (by assumption) hw').grown
    go_wp2_with (go_at_call 14; refine (hcut.at _ (by simp [tw])).mono ?_; rintro e w' ⟨rfl, hd⟩)
  all_goals go_ret
  all_goals exact ⟨rfl, hgw _ (by assumption)⟩

set_option maxRecDepth 100000 in
set_option maxHeartbeats 4000000 in
theorem q7 (a0 a1 a2 : Int) (fr su : ByteArray) (w : World) (hz : fr.size + su.size ≤ 1048576) (hf : fr.size ≤ 65536) (hs : su.size ≤ 65536)
    (h0 : 0 ≤ a0) (h0' : a0 ≤ 99) (h1 : 0 ≤ a1) (h1' : a1 ≤ 99) (h2 : 0 ≤ a2) (h2' : a2 ≤ 99) (hD : ∀ i, i < fr.size → dig (gb fr i) = true)
    (x0 : a0 ≤ 23) (x1 : 59 < a1) (hcut : Cuts (tw a0 ++ [58] ++ tw a1 ++ [58] ++ tw a2 ++ [46] ++ fr.data.toList ++ su.data.toList) ⟨#[]⟩ false) :
    Calls Try.prog 5 #[.int .i64 a0, .int .i64 a1, .int .i64 a2, .bool true, .string fr, .string su] w fun e w' => e = .returned (.bool true) ∧ Grown w w' := by
  have hb15 := fun w => bytes15' a0 a1 a2 true fr su hz w
  have hb8 := fun w => all8 fr true w ⟨fun _ => hD, fun _ => rfl⟩ (by omega)
  have gsu := gb_of su
  have i1 : ¬ (65536 : Int) < fr.size := by omega
  have i2 : ¬ (65536 : Int) < su.size := by omega
  have i4 : ¬ a0 < 0 := by omega
  have i5 : ¬ 99 < a0 := by omega
  have i6 : ¬ a1 < 0 := by omega
  have i7 : ¬ 99 < a1 := by omega
  have i8 : ¬ a2 < 0 := by omega
  have i9 : ¬ a2 < -1 := by omega
  have i10 : ¬ 99 < a2 := by omega
  have j0 : ¬ a1 ≤ 59 := by omega
  have k1 : IntKind.i64.wrap (16 + (fr.size : Int)) = 16 + (fr.size : Int) := by rw [IntKind.wrap_i64]; omega
  have k2 : IntKind.i64.wrap (16 + (fr.size : Int) + (su.size : Int)) = 16 + (fr.size : Int) + (su.size : Int) := by rw [IntKind.wrap_i64]; omega
  clear hD
  obtain ⟨c, c1, c2⟩ : ∃ c : Nat, 16 + fr.size + su.size ≤ c ∧ c ≤ 16 + fr.size + su.size := ⟨_, Nat.le_refl _, Nat.le_refl _⟩
  have hdw : Drawn w w := Drawn.refl w
  go_enter Try.func5, Try.ntmps5
  go_wp2_with (first
    | (go_at_call 15; refine (hb15 _).mono ?_; rintro e w' ⟨rfl, hd⟩; replace hdw := hdw.trans hd)
    | (go_at_call 8; refine (hb8 _).mono ?_; rintro e w' ⟨rfl, hd⟩; replace hdw := hdw.trans hd)
    | (go_at_call 16; refine (dig16' _ _).mono ?_; rintro e w' ⟨rfl, hd⟩; replace hdw := hdw.trans hd)
    | (at_make; refine wpList_buf_make rfl _ _ rfl c _ rfl rfl (by omega) (by omega) ?_; intro w1 hb1)
    | (go_at_call 10; refine (two10 _ _ _ _ _ _ _ (by assumption) (by simp [tw]) (by omega) (by omega) (by omega)).mono ?_; rintro e w' ⟨rfl, hb2⟩)
    | (at_builtin; refine wpList_buf_bytes rfl _ _ rfl _ _ _ _ _ [58] _ rfl (by assumption) _ 1 rfl (by simp [tw]) rfl 1 rfl (by omega) ?_; intro w1 hb1)
    | (at_builtin; refine wpList_buf_bytes rfl _ _ rfl _ _ _ _ _ [46] _ rfl (by assumption) _ 1 rfl (by simp [tw]) rfl 1 rfl (by omega) ?_; intro w1 hb1)
    | (at_builtin; refine wpList_buf_text rfl _ _ rfl _ _ _ _ _ (by assumption) _ rfl (by first | (simp [tw]; done) | (simp [tw]; omega)) rfl (by omega) ?_; intro w1 hb1))
  all_goals
    have htx := Buf.text (w := w1) (by assumption) (9 + fr.size + su.size) (by first | (simp only [tw, List.length_append, List.length_cons, List.length_nil, len_data]; done) | (simp only [tw, List.length_append, List.length_cons, List.length_nil, len_data]; omega))
    rw [htx]
    have hgw : ∀ w', Drawn w1 w' → Grown w w' := fun w' hw' => Grown.of_drawn hdw (Buf.drawn (w := w1) (by assumption) hw').grown
    go_wp2_with (go_at_call 14; refine (hcut.at _ (by simp [tw])).mono ?_; rintro e w' ⟨rfl, hd⟩)
  all_goals go_ret
  all_goals exact ⟨rfl, hgw _ (by assumption)⟩

end Go.Proofs.Qxb6600271a
