import Derived.Test.Qxb6600271aRows
import Derived.WalkKit
import Derived.ProofKit
import Derived.WalkSpells
import Derived.Deep.QuietTactic
import Derived.Lib.Strings
namespace Go.Proofs.Qxb6600271a
open Go.RowKit

/-- nothing but draws -/
def Drawn (w w' : World) : Prop := ∃ q, w' = w.drewN q
theorem Drawn.refl (w : World) : Drawn w w := ⟨0, rfl⟩
theorem Drawn.trans {a b c : World} (h : Drawn a b) (k : Drawn b c) : Drawn a c := by
  obtain ⟨q, rfl⟩ := h
  obtain ⟨r, rfl⟩ := k
  exact ⟨q + r, World.drewN_drewN _ _ _⟩
theorem Drawn.drewN {a b : World} (h : Drawn a b) (q : Nat) : Drawn a (b.drewN q) := h.trans ⟨q, rfl⟩

/-- a decimal digit -/
def dig (c : Int) : Bool := decide (48 ≤ c) && decide (c ≤ 57)

theorem dig16 (c : Int) (w : World) : Calls Try.prog 16 #[.int .u8 c] w fun e w' => e = .returned (.bool (dig c)) ∧ w' = w := by
  by_cases h0 : 48 ≤ c
  · by_cases h1 : c ≤ 57
    · go_enter Try.func16, Try.ntmps16
      go_wp2
      go_ret
      exact ⟨by simp [dig, h0, h1], rfl⟩
    · go_enter Try.func16, Try.ntmps16
      go_wp2
      go_ret
      exact ⟨by simp [dig, h0, h1], rfl⟩
  · go_enter Try.func16, Try.ntmps16
    go_wp2
    go_ret
    exact ⟨by simp only [dig, decide_eq_false (show ¬ 48 ≤ c by omega), Bool.false_and]; rfl, rfl⟩

theorem dig26 (c : Int) (w : World) : Calls Try.prog 26 #[.int .u8 c] w fun e w' => e = .returned (.bool (dig c)) ∧ w' = w := by
  by_cases h0 : 48 ≤ c
  · by_cases h1 : c ≤ 57
    · go_enter Try.func26, Try.ntmps26
      go_wp2
      go_ret
      exact ⟨by simp [dig, h0, h1], rfl⟩
    · go_enter Try.func26, Try.ntmps26
      go_wp2
      go_ret
      exact ⟨by simp [dig, h0, h1], rfl⟩
  · go_enter Try.func26, Try.ntmps26
    go_wp2
    go_ret
    exact ⟨by simp only [dig, decide_eq_false (show ¬ 48 ≤ c by omega), Bool.false_and]; rfl, rfl⟩

/-- byte i of a text -/
def gb (s : ByteArray) (i : Nat) : Nat := (s.data.toList.getD i 0).toNat

theorem gb_of (s : ByteArray) (i : Nat) (h : i < s.size) : (s[i]'h).toNat = gb s i := by
  have h' : i < s.data.size := h
  unfold gb
  rw [List.getD_eq_getElem?_getD, List.getElem?_eq_getElem (by simpa using h')]
  rfl

theorem gb_lt (s : ByteArray) (i : Nat) : gb s i < 256 := UInt8.toNat_lt _

/-- the number that the two bytes from i on write -/
def v2 (s : ByteArray) (i : Nat) : Int := ((gb s i : Int) - 48) * 10 + ((gb s (i + 1) : Int) - 48)

structure Two (s : ByteArray) (i : Nat) : Prop where
  d0 : dig (gb s i) = true
  d1 : dig (gb s (i + 1)) = true

theorem dig_iff (c : Int) : dig c = true ↔ 48 ≤ c ∧ c ≤ 57 := by simp [dig]

theorem Two.le {s : ByteArray} {i : Nat} (h : Two s i) : 48 ≤ gb s i ∧ gb s i ≤ 57 ∧ 48 ≤ gb s (i + 1) ∧ gb s (i + 1) ≤ 57 := by
  have h0 := (dig_iff _).1 h.d0
  have h1 := (dig_iff _).1 h.d1
  omega

theorem gb_ext (s : ByteArray) (a b i : Nat) (hb : b ≤ s.size) (h : a + i < b) : gb (s.extract a b) i = gb s (a + i) := by
  have h1 : i < (s.extract a b).size := by rw [ByteArray.size_extract]; omega
  have h2 : a + i < s.size := by omega
  rw [← gb_of _ _ h1, ← gb_of _ _ h2, ByteArray.getElem_extract]

theorem v2_ext (s : ByteArray) (a b : Nat) (hb : b ≤ s.size) (i : Nat) (hi : a + i + 2 ≤ b) : v2 (s.extract a b) i = v2 s (a + i) := by
  unfold v2
  rw [gb_ext s a b i hb (by omega), gb_ext s a b (i + 1) hb (by omega)]
  rfl

theorem Two.ext {s : ByteArray} {a i : Nat} (b : Nat) (t : Two s (a + i)) (hb : b ≤ s.size) (hi : a + i + 2 ≤ b) : Two (s.extract a b) i :=
  ⟨by rw [gb_ext s a b i hb (by omega)]; exact t.d0, by rw [gb_ext s a b (i + 1) hb (by omega)]; exact t.d1⟩

/-- two decimal digits, read -/
theorem two24 (s : ByteArray) (w : World) (hs : s.size = 2) (ht : Two s 0) :
    Calls Try.prog 24 #[.string s] w fun e w' => e = .returned (.tuple #[.int .i64 (v2 s 0), .bool true]) ∧ Drawn w w' := by
  have hg := gb_of s
  have d0 : dig (gb s 0) = true := ht.d0
  have d1 : dig (gb s 1) = true := ht.d1
  have hl : 48 ≤ gb s 0 ∧ gb s 0 ≤ 57 ∧ 48 ≤ gb s 1 ∧ gb s 1 ≤ 57 := ht.le
  have q0 : IntKind.u8.wrap ((gb s 0 : Int) - 48) = (gb s 0 : Int) - 48 := by rw [IntKind.wrap_u8]; omega
  have q1 : IntKind.u8.wrap ((gb s 1 : Int) - 48) = (gb s 1 : Int) - 48 := by rw [IntKind.wrap_u8]; omega
  have q2 : IntKind.i64.wrap ((gb s 0 : Int) - 48) = (gb s 0 : Int) - 48 := by rw [IntKind.wrap_i64]; omega
  have q3 : IntKind.i64.wrap ((gb s 1 : Int) - 48) = (gb s 1 : Int) - 48 := by rw [IntKind.wrap_i64]; omega
  have q4 : IntKind.i64.wrap (((gb s 0 : Int) - 48) * 10) = ((gb s 0 : Int) - 48) * 10 := by rw [IntKind.wrap_i64]; omega
  have q5 : IntKind.i64.wrap (((gb s 0 : Int) - 48) * 10 + ((gb s 1 : Int) - 48)) = ((gb s 0 : Int) - 48) * 10 + ((gb s 1 : Int) - 48) := by rw [IntKind.wrap_i64]; omega
  go_enter Try.func24, Try.ntmps24
  go_wp2_with (go_at_call 26; refine (dig26 _ _).mono ?_; rintro e w' ⟨rfl, rfl⟩)
  go_quiet (fail)
  go_wp2
  go_ret2
  exact ⟨rfl, (Drawn.refl _).drewN _⟩

/-- HH:MM, read -/
theorem clock23 (s : ByteArray) (w : World) (hs : s.size = 5) (h2 : gb s 2 = 58) (t0 : Two s 0) (t1 : Two s 3) :
    Calls Try.prog 23 #[.string s, .int .i64 23] w fun e w' => e = .returned (.bool (decide (v2 s 0 ≤ 23) && decide (v2 s 3 ≤ 59))) ∧ Drawn w w' := by
  have hg := gb_of s
  have z0 : (s.extract 0 2).size = 2 := by simp [ByteArray.size_extract, hs]
  have z1 : (s.extract 3 5).size = 2 := by simp [ByteArray.size_extract, hs]
  have e0 : v2 (s.extract 0 2) 0 = v2 s 0 := v2_ext s 0 2 (by omega) 0 (by omega)
  have e1 : v2 (s.extract 3 5) 0 = v2 s 3 := v2_ext s 3 5 (by omega) 0 (by omega)
  have u0 : Two (s.extract 0 2) 0 := Two.ext (a := 0) (i := 0) 2 t0 (by omega) (by omega)
  have u1 : Two (s.extract 3 5) 0 := Two.ext (a := 3) (i := 0) 5 t1 (by omega) (by omega)
  go_enter Try.func23, Try.ntmps23
  go_wp2_with (go_at_call 24; refine (two24 _ _ (by first | exact z0 | exact z1) (by first | exact u0 | exact u1)).mono ?_; rintro e w' ⟨rfl, hd⟩)
  · have hp : v2 s 0 ≤ 23 := by assumption
    go_ret
    exact ⟨by rw [decide_eq_true hp, Bool.true_and]; rfl, by first | exact Drawn.trans (by assumption) (by assumption)⟩
  · have hn : ¬ v2 s 0 ≤ 23 := by omega
    go_ret
    exact ⟨by rw [decide_eq_false hn]; rfl, Drawn.trans (by assumption) (by assumption)⟩

theorem dot_eq (s : ByteArray) (h : 0 < s.size) : ((s.extract 0 1).toList == [46]) = decide (gb s 0 = 46) := by
  rw [Lib.extract_toList]
  have h1 : 0 < s.data.toList.length := by rw [← Lib.size_eq]; exact h
  unfold gb
  match hm : s.data.toList, h1 with
  | c :: r, _ =>
    rw [Bool.eq_iff_iff]
    simp only [List.drop_zero, Nat.sub_zero, List.take_succ_cons, List.take_zero, List.getD_cons_zero, beq_iff_eq, List.cons.injEq, and_true, decide_eq_true_eq]
    constructor
    · rintro rfl; rfl
    · intro h; exact UInt8.toNat_inj.1 h

theorem dot25 (s : ByteArray) (w : World) : Calls Try.prog 25 #[.string s, .string ⟨#[46]⟩] w fun e w' => e = .returned (.bool (decide (0 < s.size) && decide (gb s 0 = 46))) ∧ w' = w := by
  have hg := gb_of s
  by_cases h : 0 < s.size
  · have h' : (1 : Int) ≤ s.size := by omega
    have hq := dot_eq s h
    go_enter Try.func25, Try.ntmps25
    go_wp2
    go_ret
    exact ⟨by simp [h], rfl⟩
  · have h' : s.size = 0 := by omega
    go_enter Try.func25, Try.ntmps25
    go_wp2
    go_ret
    exact ⟨by simp [h'], rfl⟩
end Go.Proofs.Qxb6600271a
