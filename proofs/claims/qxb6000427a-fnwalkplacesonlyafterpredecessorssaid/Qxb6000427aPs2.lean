/-
  Own work: what 'remove' does to the set of places.
-/
import Derived.Test.Qxb6000427aPs
import Derived.Laws.BitsAllLaws
namespace Go.Proofs.Qxb6000427a
open Go.RowKit

/-- the words of level 0 with the bit of p struck, set -/
def rem0 (v : Nat → Nat) (p : Nat) : Nat → Nat := fun j => if j = p / 64 then v j &&& (18446744073709551615 - 2 ^ (p % 64)) else v j
def add0 (v : Nat → Nat) (p : Nat) : Nat → Nat := fun j => if j = p / 64 then v j ||| 2 ^ (p % 64) else v j

theorem setV_at (V : Nat → Nat → Nat) (d j x j' : Nat) : setV V d j x d j' = if j' = j then x else V d j' := by
  unfold setV
  by_cases e : j' = j
  · rw [if_pos ⟨rfl, e⟩, if_pos e]
  · rw [if_neg (fun q => e q.2), if_neg e]
theorem setV_ne (V : Nat → Nat → Nat) {d d' : Nat} (j x : Nat) (h : d' ≠ d) : setV V d j x d' = V d' := by
  funext j'
  unfold setV
  rw [if_neg (fun q => h q.1)]
theorem pd_zero (p : Nat) : pd p 0 = p := rfl

theorem addV_zero (V : Nat → Nat → Nat) (p : Nat) : ∀ L, 0 < L → addV V p L 0 = add0 (V 0) p
  | 0, h => by omega
  | 1, _ => by
    funext j
    rw [addV, setV_at, pd_zero, addV, add0]
    by_cases e : j = p / 64
    · rw [if_pos e, if_pos e, e]
    · rw [if_neg e, if_neg e]
  | d + 2, _ => by
    rw [← addV_zero V p (d + 1) (by omega), addV, setV_ne _ _ _ (by omega)]

set_option maxHeartbeats 1000000 in
theorem rem38 (n ps lv L cap p : Nat) (lb : Nat → Nat) (V : Nat → Nat → Nat) (w : World) (h : Ps w n ps lv L cap lb V) (hp : p < n) (hn : n ≤ 65536) :
    Calls Try.prog 38 #[.pointer (some ⟨ps, 0, none⟩), .int .i64 p] w fun e w' => e = .returned (.tuple #[]) ∧ (∃ V', Ps w' n ps lv L cap lb V' ∧ V' 0 = rem0 (V 0) p) ∧ Only (fun b => ∃ d, d < L ∧ b = lb d) w w' := by
  have hh := h.head
  go_enter Try.func38, Try.ntmps38
  go_wp2
  clear hh
  go_loopw [1, 11] (fun sp si wr => ∃ (d : Nat) (V' : Nat → Nat → Nat), d ≤ L ∧ sp = .int .i64 (pd p d : Nat) ∧ si = .int .i64 d ∧ Ps wr n ps lv L cap lb V' ∧ (d = 0 → V' = V) ∧ (0 < d → V' 0 = rem0 (V 0) p) ∧ Only (fun b => ∃ d, d < L ∧ b = lb d) w wr) (fun _ si _ => L - (intOf si).toNat)
  case atStart => exact ⟨0, V, Nat.zero_le _, rfl, rfl, h, fun _ => rfl, fun q => absurd q (by omega), Only.refl _ _⟩
  case round =>
    obtain ⟨d, V', hd, rfl, rfl, hps, hz, hpz, honly⟩ := hrel
    by_cases hlt : d < L
    · have hq := pd_lt hp d
      have hle := pd_le p d
      have e0 := hps.lev d hlt
      have e1 := hps.cellw hlt hq
      have fz := hps.free hlt (pd p d / 64)
      have l0 : (0 : Int) ≤ (d : Int) := by omega
      have l1 : (d : Int) < (L : Int) := by omega
      have hnext : (setV V' d (pd p d / 64) (V' d (pd p d / 64) &&& (18446744073709551615 - 2 ^ (pd p d % 64)))) 0 = rem0 (V 0) p := by
        by_cases ed : d = 0
        · subst ed
          have e := hz rfl
          subst e
          funext j
          rw [setV_at, pd_zero, rem0]
          by_cases ej : j = p / 64
          · rw [if_pos ej, if_pos ej, ej]
          · rw [if_neg ej, if_neg ej]
        · rw [setV_ne _ _ _ (fun q => ed q.symm)]
          exact hpz (by omega)
      have hpd : pd p (d + 1) = pd p d / 64 := rfl
      clear hz hpz
      generalize hqe : pd p d = q at e1 fz hq hle hnext hpd ⊢
      have l2 : (0 : Int) ≤ (q : Int) / 64 := by omega
      have l3 : (q : Int) / 64 < (sz n d : Int) := by omega
      have l4 : (0 : Int) ≤ (q : Int) % 64 := by omega
      have l5 : (q : Int) % 64 < 64 := by omega
      have t1 : ((q : Int) / 64).toNat = q / 64 := by omega
      have t2 : ((q : Int) % 64).toNat = q % 64 := by omega
      have hw := hps.word d (q / 64)
      have h64 := h.few
      have hpow : 2 ^ (q % 64) < 18446744073709551616 := by
        have : 2 ^ (q % 64) ≤ 2 ^ 63 := Nat.pow_le_pow_right (by omega) (by omega)
        omega
      have e2 : ((2 : Int) ^ (q % 64)) = ((2 ^ (q % 64) : Nat) : Int) := by simp
      have t3 : IntKind.u64.wrap ((2 : Int) ^ (q % 64)) = (2 : Int) ^ (q % 64) := by
        rw [e2, IntKind.wrap_u64]
        generalize 2 ^ (q % 64) = X at hpow
        omega
      generalize hY : V' d (q / 64) &&& (18446744073709551615 - 2 ^ (q % 64)) = Y at hnext
      have t4 : bits BinOp.andNot IntKind.u64 (V' d (q / 64) : Nat) ((2 : Int) ^ (q % 64)) = (Y : Int) := by
        rw [e2, ← hY]
        exact u64_andNot_nat (V' d (q / 64)) (2 ^ (q % 64)) (by simpa using hw) hpow
      have hor : Y < 2 ^ 64 := by
        rw [← hY]
        exact Nat.lt_of_le_of_lt Nat.and_le_left hw
      have hps' := (hps.set hlt hq hor).drew
      have hon' : Only (fun b => ∃ d, d < L ∧ b = lb d) w (wr.setCell ⟨lb d, q / 64, none⟩ (.int .u64 Y)).drew := (honly.set ⟨d, hlt, rfl⟩ _).drew
      have e3 := hps'.cellw hlt hq
      simp only [setV, and_self, if_true] at e3
      clear e2 hY
      go_wp2
      go_region
      generalize (wr.setCell ⟨lb d, q / 64, none⟩ (.int .u64 Y)).drew = w2 at hps' hon' e3 ⊢
      clear e1 fz
      by_cases hY0 : Y = 0
      · have hY0' : (Y : Int) = 0 := by omega
        go_wp2
        go_roundw
        case rel => exact ⟨d + 1, _, by omega, by rw [hpd]; simp, by go_num, hps', fun q => absurd q (by omega), fun _ => hnext, hon'⟩
        case measure => simp [intOf]; omega
      · have hY0' : ((Y : Int) != 0) = true := by simp; omega
        go_wp2
        (try simp only [Exit.inBlock, Exit.then])
        refine bodyPost_ret (results_none rfl _ _ _) rfl ?_
        exact ⟨rfl, ⟨_, hps', hnext⟩, hon'⟩
    · have e : d = L := by omega
      subst e
      go_wp2
      go_end0
      exact ⟨rfl, ⟨V', hps, hpz h.pos⟩, honly⟩
end Go.Proofs.Qxb6000427a
