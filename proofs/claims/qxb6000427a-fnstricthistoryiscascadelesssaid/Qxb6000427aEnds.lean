/-
  Own work: the walks of isEnd and endsOnce.
-/
import Derived.Test.Qxb6000427aRows
import Derived.Test.Qxb6000427aRPlain
import Derived.WalkKit
import Derived.ProofKit
import Derived.Below
import Derived.Deep.QuietTactic
import Derived.BigQuiet
import Derived.WalkSmall
namespace Go.Proofs.Qxb6000427a
open Go.RowKit

def hist (z0 z1 : List Int) (z2 : List UInt8) : Hist := ⟨fun i => z0.getD i 0, fun i => z1.getD i 0, fun i => z2.getD i 0⟩

theorem isEnd_t (k : Int) (w : World) (h : isEndB k = true) : Calls Try.prog 32 #[.int .i64 k] w fun e w' => e = .returned (.bool true) ∧ w' = w := by
  have h' : k = 5 ∨ k = 6 := by simpa [isEndB] using h
  clear h
  rcases h' with rfl | rfl
  all_goals
    go_enter Try.func32, Try.ntmps32
    go_wp2
    go_ret
    exact ⟨rfl, rfl⟩
theorem isEnd_f (k : Int) (w : World) (h : isEndB k = false) : Calls Try.prog 32 #[.int .i64 k] w fun e w' => e = .returned (.bool false) ∧ w' = w := by
  have h5 : (k == 5) = false := by cases q : k == 5 <;> simp_all [isEndB]
  have h6 : (k == 6) = false := by cases q : k == 6 <;> simp_all [isEndB]
  clear h
  go_enter Try.func32, Try.ntmps32
  go_wp2
  go_ret
  exact ⟨rfl, rfl⟩

/-- no end before the place i is followed by another end of its transaction -/
def OnceTo (h : Hist) (n i : Nat) : Prop := ∀ a b, a < i → a < b → b < n → isEndB (h.kd a) = true → isEndB (h.kd b) = true → h.tx a ≠ h.tx b
def ClearTo (h : Hist) (i j : Nat) : Prop := ∀ b, i < b → b < j → isEndB (h.kd b) = true → h.tx i ≠ h.tx b

theorem drewN_more {w wr : World} (h : ∃ d, wr = w.drewN d) (n : Nat) : ∃ d, wr.drewN n = w.drewN d := by
  obtain ⟨d, rfl⟩ := h
  exact ⟨d + n, World.drewN_drewN _ _ _⟩
theorem ne_of_beq_false' {a b : Int} (h : (a == b) = false) : a ≠ b := by simpa using h

def Rel17 (w wr : World) (h : Hist) (n : Nat) (si : Value) : Prop := ∃ i : Nat, i ≤ n ∧ si = .int .i64 i ∧ OnceTo h n i ∧ ∃ d, wr = w.drewN d
def Rel17in (w wr : World) (h : Hist) (n i : Nat) (sj : Value) : Prop := ∃ j : Nat, i < j ∧ j ≤ n ∧ sj = .int .i64 j ∧ ClearTo h i j ∧ ∃ d, wr = w.drewN d

theorem once_skip {h : Hist} {n i : Nat} (ho : OnceTo h n i) (hE : isEndB (h.kd i) = false) : OnceTo h n (i + 1) := fun a b ha hab hb h1 h2 => by
  by_cases e : a = i
  · subst e; rw [hE] at h1; cases h1
  · exact ho a b (by omega) hab hb h1 h2
theorem once_step {h : Hist} {n i : Nat} (ho : OnceTo h n i) (hc : ClearTo h i n) : OnceTo h n (i + 1) := fun a b ha hab hb h1 h2 => by
  by_cases e : a = i
  · subst e; exact hc b hab hb h2
  · exact ho a b (by omega) hab hb h1 h2
theorem clear_step {h : Hist} {i j : Nat} (hc : ClearTo h i j) (hn : isEndB (h.kd j) = true → h.tx i ≠ h.tx j) : ClearTo h i (j + 1) := fun b hb hbj h1 => by
  by_cases e : b = j
  · subst e; exact hn h1
  · exact hc b hb (by omega) h1

set_option maxRecDepth 100000 in
set_option maxHeartbeats 4000000 in
theorem once_pos (b0 o0 b1 o1 n c0 c1 : Nat) (z0 z1 : List Int) (z2 : List UInt8) (w : World) (hN : n ≤ 4096)
   (h0 : ∀ i, i < n → w.cell? ⟨b0, o0 + i, none⟩ = some (.int .i64 (z0.getD i 0)))
   (h1 : ∀ i, i < n → w.cell? ⟨b1, o1 + i, none⟩ = some (.int .i64 (z1.getD i 0))) :
    Calls Try.prog 17 #[.slice (some ⟨b0, o0, none⟩) n c0, .slice (some ⟨b1, o1, none⟩) n c1] w fun e w' => ∃ b, e = .returned (.bool b) ∧ (b = true → Once (hist z0 z1 z2) n) ∧ ∃ d, w' = w.drewN d := by
  have H0 : Hid (∀ i, i < n → w.cell? ⟨b0, o0 + i, none⟩ = some (.int .i64 (z0.getD i 0))) := h0
  have H1 : Hid (∀ i, i < n → w.cell? ⟨b1, o1 + i, none⟩ = some (.int .i64 (z1.getD i 0))) := h1
  clear h0 h1
  go_enter Try.func17, Try.ntmps17
  go_wp2
  go_loopw [5] (fun si wr => Rel17 w wr (hist z0 z1 z2) n si) (fun si _ => n - (intOf si).toNat)
  case atStart => exact ⟨0, Nat.zero_le _, rfl, (fun a b ha => by omega), 0, rfl⟩
  case round =>
    obtain ⟨i, hi, rfl, HO, HW⟩ := hrel
    have HWW : Hid (∃ d, wr = w.drewN d) := HW
    have hcell : ∀ a, wr.cell? a = w.cell? a := fun a => by obtain ⟨d, rfl⟩ := HW; rfl
    clear HW
    have HOO : Hid (OnceTo (hist z0 z1 z2) n i) := HO
    clear HO
    by_cases hlt : i < n
    · have d0 : wr.cell? ⟨b0, o0 + i, none⟩ = _ := (hcell _).trans (H0.out i hlt)
      have d1 : w.cell? ⟨b1, o1 + i, none⟩ = _ := H1.out i hlt
      clear hcell
      have HK : Hid ((hist z0 z1 z2).kd i = z0.getD i 0) := rfl
      have HT : Hid ((hist z0 z1 z2).tx i = z1.getD i 0) := rfl
      generalize z0.getD i 0 = kd at d0 HK
      generalize z1.getD i 0 = T at d1 HT
      have D1 : Hid (w.cell? ⟨b1, o1 + i, none⟩ = some (.int .i64 T)) := d1
      clear d1
      cases hE : isEndB kd
      · go_wp2_with (go_at_call 32; refine (isEnd_f _ _ hE).mono ?_; rintro e w' ⟨rfl, rfl⟩)
        go_roundw
        case rel => exact ⟨i + 1, hlt, by go_num, once_skip HOO.out (by rw [HK.out]; exact hE), HWW.out⟩
        case measure => simp [intOf]; omega
      · go_wp2_with (go_at_call 32; refine (isEnd_t _ _ hE).mono ?_; rintro e w' ⟨rfl, rfl⟩)
        go_loopw [6] (fun sj wr => Rel17in w wr (hist z0 z1 z2) n i sj) (fun sj _ => n - (intOf sj).toNat)
        case atStart => exact ⟨i + 1, Nat.lt_succ_self _, hlt, by go_num, fun b hb hbj => by omega, HWW.out⟩
        case round =>
          clear d0
          obtain ⟨j, hij, hj, rfl, HC, HW⟩ := hrel
          have HX : Hid (∃ d, wr = w.drewN d) := HW
          have hcell : ∀ a, wr.cell? a = w.cell? a := fun a => by obtain ⟨d, rfl⟩ := HW; rfl
          clear HW
          have HCC : Hid (ClearTo (hist z0 z1 z2) i j) := HC
          clear HC
          by_cases hjl : j < n
          · have g0 : wr.cell? ⟨b0, o0 + j, none⟩ = _ := (hcell _).trans (H0.out j hjl)
            have g1 : wr.cell? ⟨b1, o1 + j, none⟩ = _ := (hcell _).trans (H1.out j hjl)
            have f1 : wr.cell? ⟨b1, o1 + i, none⟩ = _ := (hcell _).trans D1.out
            clear hcell
            have HKJ : Hid ((hist z0 z1 z2).kd j = z0.getD j 0) := rfl
            have HTJ : Hid ((hist z0 z1 z2).tx j = z1.getD j 0) := rfl
            generalize z0.getD j 0 = kj at g0 HKJ
            generalize z1.getD j 0 = t at g1 HTJ
            have q0 : (0 : Int) ≤ (j : Int) := by omega
            have q1 : (j : Int) < (n : Int) := by omega
            have q2 : (0 : Int) ≤ (i : Int) := by omega
            have q3 : (i : Int) < (n : Int) := by omega
            cases hEj : isEndB kj
            · go_wp2
              go_quiet ((go_at_call 32; exact Calls.quiet_of_same (isEnd_f _ _ hEj)))
              go_wp2
              go_roundw
              case rel => exact ⟨j + 1, by omega, hjl, by go_num, clear_step HCC.out (fun q => by rw [HKJ.out, hEj] at q; cases q), drewN_more HX.out _⟩
              case measure => simp [intOf]; omega
            · go_wp2
              go_quiet ((go_at_call 32; exact Calls.quiet_of_same (isEnd_t _ _ hEj)))
              go_wp2
              · go_ret
                exact ⟨false, rfl, (fun q => by cases q), drewN_more HX.out _⟩
              · go_roundw
                case rel => exact ⟨j + 1, by omega, hjl, by go_num, clear_step HCC.out (fun _ => by rw [HT.out, HTJ.out]; exact fun e => ne_of_beq_false' (by assumption) e.symm), drewN_more HX.out _⟩
                case measure => simp [intOf]; omega
          · have hjn : j = n := by omega
            subst hjn
            go_wp2
            go_roundw
            case rel => exact ⟨i + 1, hlt, by go_num, once_step HOO.out HCC.out, HX.out⟩
            case measure => simp [intOf]; omega
    · have hin : i = n := by omega
      subst hin
      go_wp2
      go_ret
      exact ⟨true, rfl, fun _ a b hab hb => HOO.out a b (by omega) hab hb, HWW.out⟩
end Go.Proofs.Qxb6000427a
