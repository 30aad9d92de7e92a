/-
  Own work: the walk of analysis.strictness: it computes 'srun'.
-/
import Derived.Test.Qxb6000427aBuild
import Derived.Test.Qxb6000427aSInv
import Derived.Carry
import Derived.Deep.DrawnRows
namespace Go.Proofs.Qxb6000427a
open Go.RowKit
attribute [local go_sem ↓] Go.wp_at_zero Go.wp_at_succ

theorem Try.info9 : (Try.prog.info? 9).map (fun i => (i.zero, i.size, i.bytes)) = some (some (.string ByteArray.empty), 1, 16) := by kernel_rfl
theorem zero3 (w : World) : (zeroValue 3).run Try.prog w = .ok (.int .i64 0) w := by kernel_rfl
theorem zero4 (w : World) : (zeroValue 4).run Try.prog w = .ok (.bool false) w := by kernel_rfl
theorem zero63 (w : World) : (zeroValue 63).run Try.prog w = .ok (.map none) w := by kernel_rfl
theorem zero64 (w : World) : (zeroValue 64).run Try.prog w = .ok (.slice none 0 0) w := by kernel_rfl

theorem eqm0 (W : World) : Sem.run Try.prog (binOp BinOp.eql 63 (Value.map none) (Value.map none)) W = .ok (.bool true) W := by kernel_rfl
theorem eqm1 (W : World) (m : Nat) : Sem.run Try.prog (binOp BinOp.eql 63 (Value.map (some m)) (Value.map none)) W = .ok (.bool false) W := by kernel_rfl

theorem Built.cells {w : World} {B n : Nat} {z0 z1 : List Int} {z2 : List UInt8} (h : Built w B n n z0 z1 z2) {i : Nat} (hi : i < n) :
    w.cell? ⟨B, i * 6, none⟩ = some (.int .i64 (z0.getD i 0)) ∧ w.cell? ⟨B, i * 6 + 1, none⟩ = some (.int .i64 (z1.getD i 0)) ∧ w.cell? ⟨B, i * 6 + 2, none⟩ = some (.string ⟨#[]⟩) ∧
    w.cell? ⟨B, i * 6 + 3, none⟩ = some (.string ⟨#[z2.getD i 0]⟩) ∧ w.cell? ⟨B, i * 6 + 4, none⟩ = some (.string ⟨#[]⟩) ∧ w.cell? ⟨B, i * 6 + 5, none⟩ = some (.int .i64 0) := by
  obtain ⟨cur, hb, _, hc⟩ := h
  obtain ⟨q0, q1, q2, q3, q4, q5⟩ := hc i hi
  simp only [cell_of_row w B _ cur 46 (0, 0) hb]
  exact ⟨q0, q1, q2, q3, q4, q5⟩

theorem Built.lt {w : World} {B n k : Nat} {z0 z1 : List Int} {z2 : List UInt8} (h : Built w B n k z0 z1 z2) : B < w.heap.size := by
  obtain ⟨cur, hb, _⟩ := h
  exact (Array.getElem?_eq_some_iff.1 hb).1

theorem RInv.lookD {w0 w : World} {B g : Nat} {own : Own} {fR : UInt8 → Option Value} {fW fD : Int → Option Value} {s : St} {kd T : Int} {x : UInt8} (h : RInv w0 w B own fR fW fD s g kd T x) (t : Int) :
    Sem.run Try.prog (Instr.lookup 61 (.map (some (B + 1 + 1 + 1))) (.int .i64 t) false) w = .ok ((fD t).getD (.slice none 0 0)) w := by
  obtain ⟨n, hm⟩ := h.inv.mD.1
  exact hm.lookup (keyI Try.underlying3) Try.underlying61 (zero64 w) t false
theorem RInv.lookW {w0 w : World} {B g : Nat} {own : Own} {fR : UInt8 → Option Value} {fW fD : Int → Option Value} {s : St} {kd T : Int} {x : UInt8} (h : RInv w0 w B own fR fW fD s g kd T x) (t : Int) :
    Sem.run Try.prog (Instr.lookup 61 (.map (some (B + 1 + 1))) (.int .i64 t) false) w = .ok ((fW t).getD (.slice none 0 0)) w := by
  obtain ⟨n, hm⟩ := h.inv.mW.1
  exact hm.lookup (keyI Try.underlying3) Try.underlying61 (zero64 w) t false
theorem store61 {w : World} {b : Nat} {f : Int → Option Value} (h : ∃ n, MapIs w b encI f n) (t : Int) (v : Value) :
    ∃ w', Sem.run Try.prog (Instr.mapUpdate 61 (.map (some b)) (.int .i64 t) v) w = .ok () w' ∧ (∃ n, MapIs w' b encI (fun y => if y = t then some v else f y) n) ∧ w.grownBy w' (some b) := by
  obtain ⟨n, hm⟩ := h
  obtain ⟨w', h1, h2, h3, _⟩ := hm.update (keyI Try.underlying3) Try.underlying61 t v
  exact ⟨w', h1, ⟨_, h2⟩, h3⟩

/-- what a round of 'strictness' says -/
def Rel (w0 wr : World) (B n : Nat) (L : List (Int × Int × UInt8)) (r i : Value) : Prop :=
  ∃ (k : Nat) (s : St) (own : Own) (fR : UInt8 → Option Value) (fW fD : Int → Option Value), k ≤ n ∧ i = .int .i64 k ∧ r = .bool s.rig ∧ SInv w0 wr B own fR fW fD s ∧ Fine s k ∧ srun (L.drop k) s = srun L St.start

theorem Fine.step {s s' : St} {k : Nat} {kd T : Int} {x : UInt8} (h : Fine s k) (hs : sstep s kd T x = some s') : Fine s' (k + 1) := by
  unfold sstep at hs
  split at hs
  · split at hs
    · cases hs
      split
      · exact h.read T x
      · exact h.write T x
    · cases hs
  · split at hs
    · cases hs; exact h.ends T
    · cases hs; exact h.mono (Nat.le_succ _)

theorem rel_next {w0 w' : World} {B n k : Nat} {L : List (Int × Int × UInt8)} {own : Own} {fR : UInt8 → Option Value} {fW fD : Int → Option Value} {s s' : St} {kd T : Int} {x : UInt8} {r : Value} (hk : k < n) (hF : Fine s k)
    (HA : Hid (srun ((kd, T, x) :: L.drop (k + 1)) s = srun L St.start)) (hs : sstep s kd T x = some s') (hr : r = .bool s'.rig) (hS : SInv w0 w' B own fR fW fD s') : Rel w0 w' B n L r (.int .i64 ((k : Int) + 1)) := by
  refine ⟨k + 1, s', own, fR, fW, fD, hk, by simp, hr, hS, hF.step hs, ?_⟩
  have := HA.out
  simp only [srun, hs] at this
  exact this

theorem sstep_read {s : St} {T : Int} {x : UInt8} (h : s.H x = none ∨ s.H x = some T) : sstep s 1 T x = some (s.read T x) := by simp [sstep, h]
theorem sstep_write {s : St} {T : Int} {x : UInt8} (h : s.H x = none ∨ s.H x = some T) : sstep s 2 T x = some (s.write T x) := by simp [sstep, h]
theorem srun_stop {s : St} {kd T t : Int} {x : UInt8} {L R : List (Int × Int × UInt8)} (hk : kd = 1 ∨ kd = 2) (h : s.H x = some t) (ht : ¬ t = T) (HA : Hid (srun ((kd, T, x) :: R) s = srun L St.start)) : srun L St.start = (false, false) := by
  have e : sstep s kd T x = none := by simp [sstep, hk, h, ht]
  have := HA.out
  simp only [srun, e] at this
  exact this.symm

theorem rel_readOld {w0 w' : World} {B n k g : Nat} {L : List (Int × Int × UInt8)} {own : Own} {fR : UInt8 → Option Value} {fW fD : Int → Option Value} {s : St} {T : Int} {x : UInt8} (hk : k < n) (hF : Fine s k)
    (HA : Hid (srun ((1, T, x) :: L.drop (k + 1)) s = srun L St.start)) (hH : s.H x = none ∨ s.H x = some T) (hT : T ∈ s.R x) (hI : RInv w0 w' B own fR fW fD s g 1 T x) : Rel w0 w' B n L (.bool s.rig) (.int .i64 ((k : Int) + 1)) := by
  refine rel_next hk hF HA (sstep_read hH) ?_ (own := own) (fR := fR) (fW := fW) (fD := fD) ?_
  · simp [St.read, hT]
  · simp only [St.read, hT, if_true]; exact hI.inv

theorem rel_readNew {w0 w3 w4 w5 : World} {B n k g gg cap : Nat} {o : Obj} {L : List (Int × Int × UInt8)} {own : Own} {fR : UInt8 → Option Value} {fW fD : Int → Option Value} {s : St} {T : Int} {x : UInt8} (hk : k < n) (hF : Fine s k)
    (HA : Hid (srun ((1, T, x) :: L.drop (k + 1)) s = srun L St.start)) (hH : s.H x = none ∨ s.H x = some T) (hT : T ∉ s.R x) (hI : RInv w0 w3 B own fR fW fD (s.setR x (s.R x ++ [T])) g 1 T x)
    (hown : w4.ownsRow (B + 4) 9 1 (.slice (some ⟨gg, 0, none⟩) ((s.D T).length + 1) cap) ((s.D T).length + 1) ((s.D T).map encS ++ [encS x])) (hg4 : (w3.alloc o).drew.grownBy w4 ((fD T).getD (.slice none 0 0)).ownBlock)
    (hat : ((fD T).getD (.slice none 0 0)).ownBlock = some gg ∨ gg = (w3.alloc o).drew.heap.size) (hm : ∃ n, MapIs w5 (B + 1 + 1 + 1) encI (fun y => if y = T then some (.slice (some ⟨gg, 0, none⟩) ((s.D T).length + 1) cap) else fD y) n) (hg5 : w4.grownBy w5 (some (B + 1 + 1 + 1))) :
    Rel w0 w5 B n L (.bool s.rig) (.int .i64 ((k : Int) + 1)) := by
  have h2 := (hI.alloc o).drew.appD (T := T) rfl hg4 hown (hat.imp id (fun e => by rw [e]; exact Nat.le_refl _)) hm hg5
  have e : s.read T x = (s.setR x (s.R x ++ [T])).addD T x := by simp [St.read, hT]
  have h3 := h2.inv
  rw [← e] at h3
  exact rel_next hk hF HA (sstep_read hH) (by rw [e]; rfl) h3

theorem write_rig (s : St) (T : Int) (x : UInt8) : (s.write T x).rig = (s.rig && decide (s.others T x = 0)) := by
  unfold St.write
  simp only
  split <;> rfl

theorem rig_in {s : St} {T : Int} {x : UInt8} {r : Bool} (hr : s.rig = true) (hT : T ∈ s.R x) (h : r = (((s.R x).length : Int) - 1 == 0)) : r = (s.write T x).rig := by
  have hp : 0 < (s.R x).length := List.length_pos_of_mem hT
  rw [write_rig, hr, h, Bool.eq_iff_iff]
  simp [St.others, hT]
  omega

theorem rig_out {s : St} {T : Int} {x : UInt8} {r : Bool} (hr : s.rig = true) (hT : ¬ T ∈ s.R x) (h : r = (((s.R x).length : Int) == 0)) : r = (s.write T x).rig := by
  rw [write_rig, hr, h, Bool.eq_iff_iff]
  simp [St.others, hT]

theorem rig_no {s : St} {T : Int} {x : UInt8} (hr : s.rig = false) : false = (s.write T x).rig := by
  rw [write_rig, hr]; rfl

theorem rel_writeHeld {w0 w' : World} {B n k g : Nat} {L : List (Int × Int × UInt8)} {own : Own} {fR : UInt8 → Option Value} {fW fD : Int → Option Value} {s : St} {T : Int} {x : UInt8} {r : Bool} (hk : k < n) (hF : Fine s k)
    (HA : Hid (srun ((2, T, x) :: L.drop (k + 1)) s = srun L St.start)) (hH : s.H x = some T) (hr : r = (s.write T x).rig) (hI : RInv w0 w' B own fR fW fD s g 2 T x) : Rel w0 w' B n L (.bool r) (.int .i64 ((k : Int) + 1)) := by
  have e : s.write T x = s.setRig (s.rig && decide (s.others T x = 0)) := by simp [St.write, hH]
  have h3 := (hI.rig (s.rig && decide (s.others T x = 0))).inv
  rw [← e] at h3
  exact rel_next hk hF HA (sstep_write (.inr hH)) (by rw [hr]) h3

theorem rel_writeNew {w0 w3 w4 w5 : World} {B n k g gg cap : Nat} {o : Obj} {L : List (Int × Int × UInt8)} {own : Own} {fR : UInt8 → Option Value} {fW fD : Int → Option Value} {s : St} {T : Int} {x : UInt8} {r : Bool} (hk : k < n) (hF : Fine s k)
    (HA : Hid (srun ((2, T, x) :: L.drop (k + 1)) s = srun L St.start)) (hH : s.H x = none) (hr : r = (s.write T x).rig) (hI : RInv w0 w3 B own fR fW fD (s.putH x T) g 2 T x)
    (hown : w4.ownsRow (B + 4) 9 1 (.slice (some ⟨gg, 0, none⟩) ((s.W T).length + 1) cap) ((s.W T).length + 1) ((s.W T).map encS ++ [encS x])) (hg4 : (w3.alloc o).drew.grownBy w4 ((fW T).getD (.slice none 0 0)).ownBlock)
    (hat : ((fW T).getD (.slice none 0 0)).ownBlock = some gg ∨ gg = (w3.alloc o).drew.heap.size) (hm : ∃ n, MapIs w5 (B + 1 + 1) encI (fun y => if y = T then some (.slice (some ⟨gg, 0, none⟩) ((s.W T).length + 1) cap) else fW y) n) (hg5 : w4.grownBy w5 (some (B + 1 + 1))) :
    Rel w0 w5 B n L (.bool r) (.int .i64 ((k : Int) + 1)) := by
  have h2 := ((hI.alloc o).drew.appW (T := T) rfl hg4 hown (hat.imp id (fun e => by rw [e]; exact Nat.le_refl _)) hm hg5).rig (s.rig && decide (s.others T x = 0))
  have e : s.write T x = ((s.putH x T).addW T x).setRig (s.rig && decide (s.others T x = 0)) := by simp [St.write, hH]; rfl
  have h3 := h2.inv
  rw [← e] at h3
  exact rel_next hk hF HA (sstep_write (.inl hH)) (by rw [hr]) h3

section
variable {w0 w : World} {B g : Nat} {own : Own} {fR : UInt8 → Option Value} {fW fD : Int → Option Value} {s : St} {kd T : Int} {x : UInt8}
theorem row_form {w : World} {base n : Nat} {e : TypeId} {v : Value} {ys : List Value} (h : w.ownsRow base e 1 v n ys) : ∃ ad cap, v = .slice ad n cap ∧ ∀ j, j < n → ∃ gw, ad = some ⟨gw, 0, none⟩ := by
  rcases h.2 with ⟨h1, h2⟩ | ⟨gw, cap, cur, h1, _⟩
  · subst h2
    exact ⟨none, 0, h1, fun j hj => by omega⟩
  · exact ⟨some ⟨gw, 0, none⟩, cap, h1, fun j _ => ⟨gw, rfl⟩⟩
theorem RInv.formW (h : RInv w0 w B own fR fW fD s g kd T x) (t : Int) : ∃ ad cap, (fW t).getD (.slice none 0 0) = .slice ad (s.W t).length cap ∧ ∀ j, j < (s.W t).length → ∃ gw, ad = some ⟨gw, 0, none⟩ := row_form (h.rowW t)
theorem RInv.formD (h : RInv w0 w B own fR fW fD s g kd T x) (t : Int) : ∃ ad cap, (fD t).getD (.slice none 0 0) = .slice ad (s.D t).length cap ∧ ∀ j, j < (s.D t).length → ∃ gw, ad = some ⟨gw, 0, none⟩ := row_form (h.rowD t)
theorem row_cell {w : World} {base n gw cap : Nat} {e : TypeId} {v : Value} {l : List UInt8} (h : w.ownsRow base e 1 v n (l.map encS)) (hv : v = .slice (some ⟨gw, 0, none⟩) n cap) {j : Nat} (hj : j < l.length) : w.cell? ⟨gw, j, none⟩ = some (.string ⟨#[l[j]]⟩) := by
  subst hv
  have hl := h.1
  simp at hl
  rw [h.cellAt j (by omega)]
  simp [List.getElem?_eq_getElem hj, encS]
theorem RInv.cellW (h : RInv w0 w B own fR fW fD s g kd T x) {t : Int} {gw cap : Nat} (hv : (fW t).getD (.slice none 0 0) = .slice (some ⟨gw, 0, none⟩) (s.W t).length cap) {j : Nat} (hj : j < (s.W t).length) : w.cell? ⟨gw, j, none⟩ = some (.string ⟨#[(s.W t)[j]]⟩) := row_cell (h.rowW t) hv hj
theorem RInv.cellD (h : RInv w0 w B own fR fW fD s g kd T x) {t : Int} {gw cap : Nat} (hv : (fD t).getD (.slice none 0 0) = .slice (some ⟨gw, 0, none⟩) (s.D t).length cap) {j : Nat} (hj : j < (s.D t).length) : w.cell? ⟨gw, j, none⟩ = some (.string ⟨#[(s.D t)[j]]⟩) := row_cell (h.rowD t) hv hj
end

theorem nodup_delR {s : St} (hnd : ∀ x, (s.R x).Nodup) (l : List UInt8) (T : Int) (l' : List UInt8) (c : UInt8) : (((s.delH l).delR T l').R c).Nodup := by
  show (if c ∈ l' then (s.R c).filter (fun z => decide (z ≠ T)) else s.R c).Nodup
  split
  · exact (hnd c).filter _
  · exact hnd c

theorem inv_start (w : World) : SInv w ((((w.alloc (.map #[] 0)).alloc (.map #[] 0)).alloc (.map #[] 0)).alloc (.map #[] 0)) w.heap.size (fun _ => none) (fun _ => none) (fun _ => none) (fun _ => none) St.start := by
  have e1 : (w.alloc (.map #[] 0)).heap.size = w.heap.size + 1 := by simp
  have e2 : ((w.alloc (.map #[] 0)).alloc (.map #[] 0)).heap.size = w.heap.size + 1 + 1 := by simp
  have e3 : (((w.alloc (.map #[] 0)).alloc (.map #[] 0)).alloc (.map #[] 0)).heap.size = w.heap.size + 1 + 1 + 1 := by simp
  refine ⟨((((Below.refl _ _).alloc (Nat.le_refl _) _).alloc (by omega) _).alloc (by omega) _).alloc (by omega) _, by simp, (fun g r h => by cases h), ⟨0, ?_⟩, ?_, ?_, ?_⟩
  · exact (((mapIs_made w encS).alloc _).alloc _).alloc _
  · have := sets_made (w.alloc (.map #[] 0)) (fun _ => none) encS ρR
    rw [e1] at this
    exact ((this.kept (World.grownBy_alloc _ _ none) (Own.le_refl _) (by simp) (fun j hj => by cases hj)).kept (World.grownBy_alloc _ _ none) (Own.le_refl _) (by simp) (fun j hj => by cases hj))
  · have := groups_made ((w.alloc (.map #[] 0)).alloc (.map #[] 0)) (fun _ => none) encI ρW (w.heap.size + 4) 9
    rw [e2] at this
    exact this.kept (World.grownBy_alloc _ _ none) (Own.le_refl _) (by simp) (fun j hj => by cases hj)
  · have := groups_made (((w.alloc (.map #[] 0)).alloc (.map #[] 0)).alloc (.map #[] 0)) (fun _ => none) encI ρD (w.heap.size + 4) 9
    rw [e3] at this
    exact this

set_option maxRecDepth 100000 in
set_option maxHeartbeats 40000000 in
theorem strict_any (Bo n : Nat) (z0 z1 : List Int) (z2 : List UInt8) (w : World) (hN : n ≤ 4096) (hb : Built w Bo n n z0 z1 z2) :
    Calls Try.prog 30 #[.slice (some ⟨Bo, 0, none⟩) n n] w fun e w' => e = .returned (.tuple #[.bool (srun (opsOf z0 z1 z2 n) St.start).1, .bool (srun (opsOf z0 z1 z2 n) St.start).2]) ∧ Below w.heap.size w w' := by
  have hmm := @run_makeMap Try.prog
  have he0 := eqm0
  have he1 := eqm1
  obtain ⟨i9, hi9, hz90, hz91, hz92⟩ := info_parts Try.info9
  have hBo := hb.lt
  have hS0 := inv_start w
  obtain ⟨B, hB⟩ : ∃ B, w.heap.size = B := ⟨_, rfl⟩
  rw [hB] at hBo hS0
  have HB : Hid (w.heap.size = B) := hB
  go_enter Try.func30, Try.ntmps30
  go_wp2_with fail
  clear hB
  go_loopw [3, 23] (fun r i wr => Rel w wr B n (opsOf z0 z1 z2 n) r i) (fun _ i _ => n - (intOf i).toNat)
  case atStart => exact ⟨0, St.start, _, _, _, _, Nat.zero_le _, rfl, rfl, hS0, fine_start, rfl⟩
  case round =>
    clear hS0
    obtain ⟨k, s, own, fR, fW, fD, hk, rfl, rfl, hS, hF, hA⟩ := hrel
    by_cases hlt : k < n
    · have hAA := hA
      rw [opsOf_drop z0 z1 z2 n k hlt] at hAA
      obtain ⟨q0, q1, q2, q3, q4, q5⟩ := hb.cells hlt
      rw [← hS.below.cell hBo] at q0 q1 q2 q3 q4 q5
      generalize z0.getD k 0 = kd at q0 hAA
      generalize z1.getD k 0 = T at q1 hAA
      generalize z2.getD k 0 = x at q3 hAA
      have HA : Hid (srun ((kd, T, x) :: (opsOf z0 z1 z2 n).drop (k + 1)) s = srun (opsOf z0 z1 z2 n) St.start) := hAA
      clear hA hAA hb
      have hI : RInv w (wr.alloc (.cells #[.int .i64 kd, .int .i64 T, .string ⟨#[]⟩, .string ⟨#[x]⟩, .string ⟨#[]⟩, .int .i64 0] 46)) B own fR fW fD s wr.heap.size kd T x := hS.laid kd T x
      have hsz := hS.size
      have hld := hF.ld T
      have hlw := hF.lw T
      clear hS
      by_cases hk1 : kd = 1
      · subst hk1
        by_cases hbad : s.H x = none ∨ s.H x = some T
        · have hHx : holds s x = none ∨ holds s x = some (.int .i64 T) := by rcases hbad with q | q <;> simp [holds, q, encI]
          rcases hI.inv.mR.2 x with ⟨hfx, hR0⟩ | ⟨m, hfx, _, _⟩
          · have hT : ¬ T ∈ s.R x := by simp [hR0]
            have hne : ¬ (wr.heap.size = B + 1 + 1 + 1) := by omega
            rcases hHx with hHx | hHx
            all_goals
              go_wp2_with (first
                | (at_lookup; refine wpList_lookup_ex _ rfl _ _ 59 true rfl (keyS Try.underlying9) Try.underlying59 zero3 rfl hI.inv.mH x rfl (holds s x) rfl ?_)
                | (at_lookup; refine wpList_lookup_ex _ rfl _ _ 60 false rfl (keyS Try.underlying9) Try.underlying60 zero63 rfl hI.inv.mR.1 x rfl _ rfl ?_)
                | (at_lookup; refine wpList_lookup_set _ rfl _ _ 63 rfl Try.underlying3 Try.underlying63 zero4 (hI.inv.mR.2 x) (by rw [hfx]; rfl) T rfl ?_)
                | (at_mapUpdate; refine wpList_update_ex _ rfl _ _ _ 60 rfl (keyS Try.underlying9) Try.underlying60 rfl (hI.alloc _).inv.mR.1 x rfl _ rfl ?_; intro w2 hm2 hg2 hs2; clear hs2; obtain ⟨own, fR, hfx, hI⟩ := hI.newSet' hR0 (by simp) hm2 hg2; have k1 := op_c1 hI.op; have k3 := op_c3 hI.op)
                | (at_mapUpdate; refine wpList_update_is _ rfl _ _ _ 63 rfl (keyI Try.underlying3) Try.underlying63 rfl (hI.setAt hfx) T rfl _ rfl ?_; intro w3 hm3 hg3 hs3; clear hs3; have hI := hI.insert hfx hT hm3 hg3; have k1 := op_c1 hI.op; have k3 := op_c3 hI.op; have hsz3 := hI.inv.size))
              have hl1 := hI.drew.lookD T
              have hl2 := fun o => (hI.alloc o).drew.lookD T
              go_region_held3 (fun w' => w'.cell? ⟨wr.heap.size, 1, none⟩ = some (.int .i64 T) ∧ w'.cell? ⟨wr.heap.size, 3, none⟩ = some (.string ⟨#[x]⟩))
                (first | exact keep2 hI.op | exact keep2 (hI.alloc _).op | exact keep2 hO4 | exact keep2 hO5)
                ((refine step_append_lies _ (by rfl) _ _ 64 (by rfl) (B + 4) 9 i9 _ 1 16 Try.underlying64 hi9 hz90 hz91 hz92 rfl (by omega) ((fD T).getD (.slice none 0 0)) (s.D T).length ((s.D T).map encS) (by rfl) ((hI.alloc _).drew.rowD T) ⟨_, 0, none⟩ 1 1 [encS x] (by rfl) (by rfl) (World.news_of_block (cs := #[.string ⟨#[x]⟩]) (t := 9) (fr := (0, 0)) (heap_alloc_new _ _)) (by simp [encS, Value.oneCell']) (by omega) (by unfold maxLen; omega) (by omega) (by simp; omega) _ rfl ?_; intro gg cap w4 hown4 hg4 hat4 hlt4; have hO4 := (hI.alloc _).drew.opD hg4; obtain ⟨w5, hr5, hm5, hg5⟩ := store61 ((hI.alloc _).drew.mapD hg4) T (.slice (some ⟨gg, 0, none⟩) ((s.D T).length + 1) cap); have hO5 := opOver hO4 hg5 hne))
              all_goals
                go_wp2
                go_roundw
                case rel => exact rel_readNew hlt hF HA hbad hT hI hown4 hg4 hat4 hm5 hg5
                case measure => simp [intOf]; omega
          · by_cases hT : T ∈ s.R x
            · rcases hHx with hHx | hHx
              all_goals
                go_wp2_with (first
                  | (at_lookup; refine wpList_lookup_ex _ rfl _ _ 59 true rfl (keyS Try.underlying9) Try.underlying59 zero3 rfl hI.inv.mH x rfl (holds s x) rfl ?_)
                  | (at_lookup; refine wpList_lookup_ex _ rfl _ _ 60 false rfl (keyS Try.underlying9) Try.underlying60 zero63 rfl hI.inv.mR.1 x rfl _ rfl ?_)
                  | (at_lookup; refine wpList_lookup_set _ rfl _ _ 63 rfl Try.underlying3 Try.underlying63 zero4 (hI.inv.mR.2 x) (by rw [hfx]; rfl) T rfl ?_))
                go_roundw
                case rel => exact rel_readOld hlt hF HA hbad hT hI
                case measure => simp [intOf]; omega
            · have hne : ¬ (wr.heap.size = B + 1 + 1 + 1) := by omega
              rcases hHx with hHx | hHx
              all_goals
                go_wp2_with (first
                  | (at_lookup; refine wpList_lookup_ex _ rfl _ _ 59 true rfl (keyS Try.underlying9) Try.underlying59 zero3 rfl hI.inv.mH x rfl (holds s x) rfl ?_)
                  | (at_lookup; refine wpList_lookup_ex _ rfl _ _ 60 false rfl (keyS Try.underlying9) Try.underlying60 zero63 rfl hI.inv.mR.1 x rfl _ rfl ?_)
                  | (at_lookup; refine wpList_lookup_set _ rfl _ _ 63 rfl Try.underlying3 Try.underlying63 zero4 (hI.inv.mR.2 x) (by rw [hfx]; rfl) T rfl ?_)
                  | (at_mapUpdate; refine wpList_update_is _ rfl _ _ _ 63 rfl (keyI Try.underlying3) Try.underlying63 rfl (hI.setAt hfx) T rfl _ rfl ?_; intro w3 hm3 hg3 hs3; clear hs3; have hI := hI.insert hfx hT hm3 hg3; have k1 := op_c1 hI.op; have k3 := op_c3 hI.op; have hsz3 := hI.inv.size))
                have hl1 := hI.drew.lookD T
                have hl2 := fun o => (hI.alloc o).drew.lookD T
                go_region_held3 (fun w' => w'.cell? ⟨wr.heap.size, 1, none⟩ = some (.int .i64 T) ∧ w'.cell? ⟨wr.heap.size, 3, none⟩ = some (.string ⟨#[x]⟩))
                  (first | exact keep2 hI.op | exact keep2 (hI.alloc _).op | exact keep2 hO4 | exact keep2 hO5)
                  ((refine step_append_lies _ (by rfl) _ _ 64 (by rfl) (B + 4) 9 i9 _ 1 16 Try.underlying64 hi9 hz90 hz91 hz92 rfl (by omega) ((fD T).getD (.slice none 0 0)) (s.D T).length ((s.D T).map encS) (by rfl) ((hI.alloc _).drew.rowD T) ⟨_, 0, none⟩ 1 1 [encS x] (by rfl) (by rfl) (World.news_of_block (cs := #[.string ⟨#[x]⟩]) (t := 9) (fr := (0, 0)) (heap_alloc_new _ _)) (by simp [encS, Value.oneCell']) (by omega) (by unfold maxLen; omega) (by omega) (by simp; omega) _ rfl ?_; intro gg cap w4 hown4 hg4 hat4 hlt4; have hO4 := (hI.alloc _).drew.opD hg4; obtain ⟨w5, hr5, hm5, hg5⟩ := store61 ((hI.alloc _).drew.mapD hg4) T (.slice (some ⟨gg, 0, none⟩) ((s.D T).length + 1) cap); have hO5 := opOver hO4 hg5 hne))
                all_goals
                  go_wp2
                  go_roundw
                  case rel => exact rel_readNew hlt hF HA hbad hT hI hown4 hg4 hat4 hm5 hg5
                  case measure => simp [intOf]; omega
        · obtain ⟨t, hHt⟩ : ∃ t, s.H x = some t := by
            cases q : s.H x with
            | none => exact absurd (.inl q) hbad
            | some t => exact ⟨t, rfl⟩
          have htT : ¬ t = T := fun e => hbad (.inr (by rw [hHt, e]))
          have hHx : holds s x = some (.int .i64 t) := by simp [holds, hHt, encI]
          have htb : (t != T) = true := by simpa using htT
          have hfin := srun_stop (.inl rfl) hHt htT HA
          have HF : Hid (srun (opsOf z0 z1 z2 n) St.start = (false, false)) := hfin
          clear hfin
          go_wp2_with (first
            | (at_lookup; refine wpList_lookup_ex _ rfl _ _ 59 true rfl (keyS Try.underlying9) Try.underlying59 zero3 rfl hI.inv.mH x rfl (holds s x) rfl ?_))
          go_ret2
          exact ⟨by rw [HF.out]; rfl, by rw [HB.out]; exact hI.inv.below⟩
      · by_cases hk2 : kd = 2
        · subst hk2
          by_cases hbad : s.H x = none ∨ s.H x = some T
          · have hlr := hF.lr x
            rcases hbad with hH | hH
            · have hHx : holds s x = none := by simp [holds, hH]
              have hne : ¬ (wr.heap.size = B + 1 + 1) := by omega
              by_cases hT : T ∈ s.R x
              all_goals
                cases hrig : s.rig
                all_goals
                  go_wp2_with (first
                    | (at_lookup; refine wpList_lookup_ex _ rfl _ _ 59 true rfl (keyS Try.underlying9) Try.underlying59 zero3 rfl hI.inv.mH x rfl (holds s x) rfl ?_)
                    | (at_lookup; refine wpList_lookup_ex _ rfl _ _ 60 false rfl (keyS Try.underlying9) Try.underlying60 zero63 rfl hI.inv.mR.1 x rfl _ rfl ?_)
                    | (at_len; refine wpList_len_set _ rfl _ 63 rfl Try.underlying63 (hI.inv.mR.2 x) rfl ?_)
                    | (at_lookup; refine wpList_lookup_set _ rfl _ _ 63 rfl Try.underlying3 Try.underlying63 zero4 (hI.inv.mR.2 x) rfl T rfl ?_)
                    | (at_mapUpdate; refine wpList_update_ex _ rfl _ _ _ 59 rfl (keyS Try.underlying9) Try.underlying59 rfl hI.inv.mH x rfl _ rfl ?_; intro w3 hm3 hg3 hs3; clear hs3; have hI := hI.put hm3 hg3; have k1 := op_c1 hI.op; have k3 := op_c3 hI.op; have hsz3 := hI.inv.size))
                  have hl1 := hI.drew.lookW T
                  have hl2 := fun o => (hI.alloc o).drew.lookW T
                  go_region_held3 (fun w' => w'.cell? ⟨wr.heap.size, 1, none⟩ = some (.int .i64 T) ∧ w'.cell? ⟨wr.heap.size, 3, none⟩ = some (.string ⟨#[x]⟩))
                    (first | exact keep2 hI.op | exact keep2 (hI.alloc _).op | exact keep2 hO4 | exact keep2 hO5)
                    ((refine step_append_lies _ (by rfl) _ _ 64 (by rfl) (B + 4) 9 i9 _ 1 16 Try.underlying64 hi9 hz90 hz91 hz92 rfl (by omega) ((fW T).getD (.slice none 0 0)) (s.W T).length ((s.W T).map encS) (by rfl) ((hI.alloc _).drew.rowW T) ⟨_, 0, none⟩ 1 1 [encS x] (by rfl) (by rfl) (World.news_of_block (cs := #[.string ⟨#[x]⟩]) (t := 9) (fr := (0, 0)) (heap_alloc_new _ _)) (by simp [encS, Value.oneCell']) (by omega) (by unfold maxLen; omega) (by omega) (by simp; omega) _ rfl ?_; intro gg cap w4 hown4 hg4 hat4 hlt4; have hO4 := (hI.alloc _).drew.opW hg4; obtain ⟨w5, hr5, hm5, hg5⟩ := store61 ((hI.alloc _).drew.mapW hg4) T (.slice (some ⟨gg, 0, none⟩) ((s.W T).length + 1) cap); have hO5 := opOver hO4 hg5 hne))
                  all_goals
                    go_wp2
                    go_roundw
                    case rel => exact rel_writeNew hlt hF HA hH (by first | exact rig_no hrig | exact rig_in hrig hT rfl | exact rig_out hrig hT rfl) hI hown4 hg4 hat4 hm5 hg5
                    case measure => simp [intOf]; omega
            · have hHx : holds s x = some (.int .i64 T) := by simp [holds, hH, encI]
              by_cases hT : T ∈ s.R x
              all_goals
                cases hrig : s.rig
                all_goals
                  go_wp2_with (first
                    | (at_lookup; refine wpList_lookup_ex _ rfl _ _ 59 true rfl (keyS Try.underlying9) Try.underlying59 zero3 rfl hI.inv.mH x rfl (holds s x) rfl ?_)
                    | (at_lookup; refine wpList_lookup_ex _ rfl _ _ 60 false rfl (keyS Try.underlying9) Try.underlying60 zero63 rfl hI.inv.mR.1 x rfl _ rfl ?_)
                    | (at_len; refine wpList_len_set _ rfl _ 63 rfl Try.underlying63 (hI.inv.mR.2 x) rfl ?_)
                    | (at_lookup; refine wpList_lookup_set _ rfl _ _ 63 rfl Try.underlying3 Try.underlying63 zero4 (hI.inv.mR.2 x) rfl T rfl ?_))
                  go_roundw
                  case rel => exact rel_writeHeld hlt hF HA hH (by first | exact rig_no hrig | exact rig_in hrig hT rfl | exact rig_out hrig hT rfl) hI
                  case measure => simp [intOf]; omega
          · obtain ⟨t, hHt⟩ : ∃ t, s.H x = some t := by
              cases q : s.H x with
              | none => exact absurd (.inl q) hbad
              | some t => exact ⟨t, rfl⟩
            have htT : ¬ t = T := fun e => hbad (.inr (by rw [hHt, e]))
            have hHx : holds s x = some (.int .i64 t) := by simp [holds, hHt, encI]
            have htb : (t != T) = true := by simpa using htT
            have hfin := srun_stop (.inr rfl) hHt htT HA
            have HF : Hid (srun (opsOf z0 z1 z2 n) St.start = (false, false)) := hfin
            clear hfin
            go_wp2_with (first
              | (at_lookup; refine wpList_lookup_ex _ rfl _ _ 59 true rfl (keyS Try.underlying9) Try.underlying59 zero3 rfl hI.inv.mH x rfl (holds s x) rfl ?_))
            go_ret2
            exact ⟨by rw [HF.out]; rfl, by rw [HB.out]; exact hI.inv.below⟩
        · by_cases hk56 : kd = 5 ∨ kd = 6
          · obtain ⟨wo, hwo⟩ : ∃ wo, wo = wr := ⟨_, rfl⟩
            subst hwo
            obtain ⟨adW, capW, hvW, hformW⟩ := hI.formW T
            obtain ⟨adD, capD, hvD, hformD⟩ := hI.formD T
            have hnd := hF.nd
            rcases hk56 with hk5 | hk6
            all_goals
              subst kd
              go_wp2_with (first
                | (at_lookup; refine wpList_lookup_ex _ rfl _ _ 61 false rfl (keyI Try.underlying3) Try.underlying61 zero64 rfl hI.inv.mW.1 T rfl _ rfl ?_))
              go_loopw [128] (fun i w1 => ∃ j : Nat, j ≤ (s.W T).length ∧ i = .int .i64 j ∧ RInv w w1 B own fR fW fD (s.delH ((s.W T).take j)) wo.heap.size _ T x) (fun i _ => (s.W T).length - (intOf i).toNat)
              case atStart => exact ⟨0, Nat.zero_le _, rfl, by simpa [St.delH] using hI⟩
              case round =>
                clear hI
                obtain ⟨j, hj, rfl, hI⟩ := hrel
                by_cases hjl : j < (s.W T).length
                · obtain ⟨gw, rfl⟩ := hformW j hjl
                  have hc := hI.cellW hvW hjl
                  have k1 := op_c1 hI.op
                  go_wp2_with (first
                    | (at_delete; refine wpList_delete_ex _ rfl _ _ 59 9 rfl (keyS Try.underlying9) Try.underlying59 rfl hI.inv.mH _ rfl ?_; intro w2 hm2 hg2 hs2; clear hs2; have hI := hI.dropH rfl hm2 hg2))
                  go_roundw
                  case rel => exact ⟨j + 1, hjl, by go_num, by rw [List.take_succ_eq_append_getElem hjl]; exact hI⟩
                  case measure => simp [intOf]; omega
                · have hjn : j = (s.W T).length := by omega
                  subst hjn
                  rw [List.take_length] at hI
                  have k1 := op_c1 hI.op
                  go_wp2_with (first
                    | (at_lookup; refine wpList_lookup_ex _ rfl _ _ 61 false rfl (keyI Try.underlying3) Try.underlying61 zero64 rfl hI.inv.mD.1 T rfl _ rfl ?_))
                  go_loopw [140] (fun i w1 => ∃ j : Nat, j ≤ (s.D T).length ∧ i = .int .i64 j ∧ RInv w w1 B own fR fW fD ((s.delH (s.W T)).delR T ((s.D T).take j)) wo.heap.size _ T x) (fun i _ => (s.D T).length - (intOf i).toNat)
                  case atStart => exact ⟨0, Nat.zero_le _, rfl, by simpa [St.delR] using hI⟩
                  case round =>
                    clear hI k1
                    obtain ⟨j, hj, rfl, hI⟩ := hrel
                    have k1 := op_c1 hI.op
                    by_cases hjl : j < (s.D T).length
                    · obtain ⟨gw, rfl⟩ := hformD j hjl
                      have hc := hI.cellD hvD hjl
                      go_wp2_with (first
                        | (at_lookup; refine wpList_lookup_ex _ rfl _ _ 60 false rfl (keyS Try.underlying9) Try.underlying60 zero63 rfl hI.inv.mR.1 _ rfl _ rfl ?_)
                        | (at_delete; refine wpList_delete_set _ rfl _ _ 63 3 rfl Try.underlying3 Try.underlying63 hI.inv.mR ρR_inj hI.inv.ok (by omega) ((s.D T)[j]) (nodup_delR hnd _ _ _ _) rfl T rfl ?_; intro w2 row hm2 hg2 hrow2 hs2; clear hs2; have hI := hI.dropR rfl hm2 hg2 hrow2))
                      go_roundw
                      case rel => exact ⟨j + 1, hjl, by go_num, by rw [List.take_succ_eq_append_getElem hjl]; exact hI⟩
                      case measure => simp [intOf]; omega
                    · have hjn : j = (s.D T).length := by omega
                      subst hjn
                      rw [List.take_length] at hI
                      go_wp2_with (first
                        | (at_delete; refine wpList_delete_ex _ rfl _ _ 61 3 rfl (keyI Try.underlying3) Try.underlying61 rfl hI.inv.mW.1 T rfl ?_; intro w2 hm2 hg2 hs2; clear hs2; have hI := hI.dropW hm2 hg2; have k1 := op_c1 hI.op)
                        | (at_delete; refine wpList_delete_ex _ rfl _ _ 61 3 rfl (keyI Try.underlying3) Try.underlying61 rfl hI.inv.mD.1 T rfl ?_; intro w3 hm3 hg3 hs3; clear hs3; have hI := hI.dropD hm3 hg3))
                      go_roundw
                      case rel => exact rel_next (s' := s.ends T) hlt hF HA (by simp [sstep]) rfl hI.inv
                      case measure => simp [intOf]; omega
          · have t1 : (kd == 1) = false := by simpa using hk1
            have t2 : (kd == 2) = false := by simpa using hk2
            have t5 : (kd == 5) = false := by simpa using (fun q => hk56 (.inl q) : ¬ kd = 5)
            have t6 : (kd == 6) = false := by simpa using (fun q => hk56 (.inr q) : ¬ kd = 6)
            go_wp2_with fail
            go_roundw
            case rel => exact rel_next hlt hF HA (by simp [sstep, hk1, hk2, hk56]) rfl hI.inv
            case measure => simp [intOf]; omega
    · have hkn : k = n := by omega
      subst hkn
      rw [opsOf_end] at hA
      have HF : Hid ((true, s.rig) = srun (opsOf z0 z1 z2 k) St.start) := hA
      clear hA
      go_wp2
      go_ret2
      exact ⟨by rw [← HF.out]; rfl, by rw [HB.out]; exact hS.below⟩
end Go.Proofs.Qxb6000427a
