/-
  Own work: smallestReady gives the smallest place of the set.
-/
import Derived.Test.Qxb6000427aPs2
import Derived.WalkSmall
namespace Go.Proofs.Qxb6000427a
open Go.RowKit

/-- is the place p in the set? -/
def bit (v : Nat → Nat) (p : Nat) : Bool := (v (p / 64)).testBit (p % 64)

/-- r is the smallest place of the first m words, or -1 -/
def Least (v : Nat → Nat) (m : Nat) (r : Int) : Prop :=
  (∃ p : Nat, r = (p : Int) ∧ p < 64 * m ∧ bit v p = true ∧ ∀ q, q < p → bit v q = false) ∨ (r = -1 ∧ ∀ q, q < 64 * m → bit v q = false)

theorem ready34 (n wb ps lv L cap : Nat) (lb : Nat → Nat) (V : Nat → Nat → Nat) (w : World) (h : Ps w n ps lv L cap lb V) (hw : w.cell? ⟨wb, 3, none⟩ = some (.pointer (some ⟨ps, 0, none⟩))) :
    Calls Try.prog 34 #[.pointer (some ⟨wb, 0, none⟩)] w fun e w' => e = .returned (.slice (some ⟨lb 0, 0, none⟩) (sz n 0) (sz n 0)) ∧ w' = w := by
  have hh := h.head
  have h0 := h.lev 0 h.pos
  have hp := h.pos
  have hp' : (0 : Int) < (L : Int) := by omega
  go_enter Try.func34, Try.ntmps34
  go_wp2
  go_ret
  exact ⟨rfl, rfl⟩

set_option maxHeartbeats 1000000 in
theorem least26 (n wb ps lv L cap : Nat) (lb : Nat → Nat) (V : Nat → Nat → Nat) (w : World) (h : Ps w n ps lv L cap lb V) (hw : w.cell? ⟨wb, 3, none⟩ = some (.pointer (some ⟨ps, 0, none⟩))) (hn : n ≤ 65536) :
    Calls Try.prog 26 #[.pointer (some ⟨wb, 0, none⟩)] w fun e w' => (∃ r : Int, e = .returned (.int .i64 r) ∧ Least (V 0) (sz n 0) r) ∧ w' = w := by
  have hr := ready34 n wb ps lv L cap lb V w h hw
  have hs : sz n 0 ≤ 1024 := by show max 1 ((n + 63) / 64) ≤ 1024; omega
  have hcell : ∀ j, j < sz n 0 → w.cell? ⟨lb 0, j, none⟩ = some (.int .u64 (V 0 j)) := fun j hj => h.cellw h.pos hj
  have hword := h.word 0
  clear h hw
  generalize V 0 = v at hcell hword ⊢
  generalize sz n 0 = m at hr hs hcell ⊢
  go_enter Try.func26, Try.ntmps26
  go_wp2_with (go_at_call 34; refine hr.mono ?_; rintro e w' ⟨rfl, rfl⟩)
  clear hr
  go_loop [4] (fun si => ∃ i : Nat, i ≤ m ∧ si = .int .i64 i ∧ ∀ j, j < i → v j = 0) (fun si => m - (intOf si).toNat)
  case atStart => exact ⟨0, Nat.zero_le _, rfl, fun j hj => absurd hj (by omega)⟩
  case round =>
    obtain ⟨i, hi, rfl, hz⟩ := hrel
    by_cases hlt : i < m
    · have e0 := hcell i hlt
      have l0 : (0 : Int) ≤ (i : Int) := by omega
      have l1 : (i : Int) < (m : Int) := by omega
      have hwi := hword i
      by_cases hv0 : v i = 0
      · have hz' : ∀ j, j < i + 1 → v j = 0 := fun j hj => by
          by_cases e : j = i
          · subst e; exact hv0
          · exact hz j (by omega)
        have e0' : w'.cell? ⟨lb 0, i, none⟩ = some (.int .u64 0) := by rw [e0, hv0]; rfl
        clear e0 hcell hword hwi hv0 hz
        go_wp2
        go_round
        case rel => exact ⟨i + 1, by omega, by go_num, hz'⟩
        case measure => simp [intOf]; omega
      · have hne : ((v i : Int) == 0) = false := by simp; exact hv0
        clear hcell hword
        go_wp2
        go_loop [5, 6] (fun sx sb => ∃ b : Nat, b < 64 ∧ sb = .int .i64 b ∧ sx = .int .u64 (v i / 2 ^ b : Nat) ∧ v i / 2 ^ b ≠ 0 ∧ ∀ c, c < b → (v i).testBit c = false) (fun _ sb => 64 - (intOf sb).toNat)
        case atStart => exact ⟨0, by omega, rfl, by simp, by simpa using hv0, fun c hc => absurd hc (by omega)⟩
        case round =>
          obtain ⟨b, hb, rfl, rfl, hx0, hbz⟩ := hrel
          have hxlt : v i / 2 ^ b < 18446744073709551616 := Nat.lt_of_le_of_lt (Nat.div_le_self _ _) (by simpa using hwi)
          have htb : (v i).testBit b = decide (v i / 2 ^ b % 2 = 1) := Nat.testBit_eq_decide_div_mod_eq
          have hsucc : v i / 2 ^ (b + 1) = v i / 2 ^ b / 2 := by rw [Nat.pow_succ, Nat.div_div_eq_div_mul]
          generalize hxe : v i / 2 ^ b = x at hx0 hxlt htb hsucc ⊢
          have hand := and_one_u64 (x : Int) (by omega) (by omega)
          by_cases hodd : x % 2 = 1
          · have hne2 : (((x : Int) % 2) == 0) = false := by simp; omega
            have hbit : (v i).testBit b = true := by rw [htb]; simpa using hodd
            go_wp2
            go_ret
            refine ⟨⟨i * 64 + b, rfl, ?_⟩, rfl⟩
            refine .inl ⟨i * 64 + b, by omega, by omega, ?_, fun q hq => ?_⟩
            · unfold bit
              rw [show (i * 64 + b) / 64 = i by omega, show (i * 64 + b) % 64 = b by omega]
              exact hbit
            · unfold bit
              by_cases hqi : q / 64 = i
              · rw [hqi]
                exact hbz _ (by omega)
              · rw [hz _ (by omega)]
                simp
          · have hev : (((x : Int) % 2) == 0) = true := by simp; omega
            have hx2 : x / 2 ≠ 0 := by omega
            have hb63 : b + 1 < 64 := by
              apply Classical.byContradiction
              intro hge
              have hb' : b = 63 := by omega
              subst hb'
              have : v i < 2 ^ 64 := hwi
              have h63 : v i / 2 ^ 63 < 2 := by omega
              omega
            have hbz' : ∀ c, c < b + 1 → (v i).testBit c = false := fun c hc => by
              by_cases e : c = b
              · subst e; rw [htb]; simpa using hodd
              · exact hbz c (by omega)
            clear hz hbz htb hxe
            have HS : Hid (v i / 2 ^ (b + 1) = x / 2) := hsucc
            clear hsucc
            go_wp2
            go_round
            case rel => exact ⟨b + 1, hb63, by go_num, by rw [HS.out]; simp, by rw [HS.out]; exact hx2, hbz'⟩
            case measure => simp [intOf]; omega
    · have e : i = m := by omega
      subst e
      clear hcell
      go_wp2
      go_ret
      refine ⟨⟨-1, rfl, .inr ⟨rfl, fun q hq => ?_⟩⟩, rfl⟩
      unfold bit
      rw [hz _ (by omega)]
      simp
end Go.Proofs.Qxb6000427a
