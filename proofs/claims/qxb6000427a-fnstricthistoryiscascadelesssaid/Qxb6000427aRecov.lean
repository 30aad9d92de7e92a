/-
  Own work: the walk of analysis.recoverability: it computes 'rst'.
-/
import Derived.Test.Qxb6000427aStrict
import Derived.Test.Qxb6000427aQInv
import Derived.Test.Qxb6000427aEnds
import Derived.Deep.QuietTactic
import Derived.BigQuiet
import Derived.WalkSmall
namespace Go.Proofs.Qxb6000427a
open Go.RowKit
attribute [local go_sem ↓] Go.wp_at_zero Go.wp_at_succ

theorem Try.info3 : (Try.prog.info? 3).map (fun i => (i.zero, i.size, i.bytes)) = some (some (.int .i64 0), 1, 8) := by kernel_rfl
theorem zero29 (w : World) : (zeroValue 29).run Try.prog w = .ok (.int .i64 0) w := by kernel_rfl
theorem zero22 (w : World) : (zeroValue 22).run Try.prog w = .ok (.slice none 0 0) w := by kernel_rfl

def lenOf : Value → Nat | .slice _ n _ => n | _ => 0

/-- what 'ended[t]' reads -/
def evOf (s : Rc) (t : Int) : Int := (s.E t).getD 0

section
variable {w0 w : World} {B g : Nat} {own : Own} {fW : UInt8 → Option Value} {fF : Int → Option Value} {s : Rc} {kd T : Int} {x : UInt8}
theorem PInv.lookE (h : PInv w0 w B own fW fF s g kd T x) (t : Int) : Sem.run Try.prog (Instr.lookup 65 (.map (some B)) (.int .i64 t) false) w = .ok (.int .i64 (evOf s t)) w := by
  obtain ⟨n, hm⟩ := h.inv.mE
  have := hm.lookup (keyI Try.underlying3) Try.underlying65 (zero29 w) t false
  rw [show (Value.int .i64 t) = encI t from rfl, this]
  unfold evOf endsIn
  cases s.E t <;> rfl
theorem PInv.lookF (h : PInv w0 w B own fW fF s g kd T x) (t : Int) : Sem.run Try.prog (Instr.lookup 67 (.map (some (B + 1 + 1))) (.int .i64 t) false) w = .ok ((fF t).getD (.slice none 0 0)) w := by
  obtain ⟨n, hm⟩ := h.inv.mF.1
  exact hm.lookup (keyI Try.underlying3) Try.underlying67 (zero22 w) t false
theorem PInv.formW (h : PInv w0 w B own fW fF s g kd T x) (y : UInt8) : ∃ ad cap, (fW y).getD (.slice none 0 0) = .slice ad (s.Wr y).length cap ∧ ∀ j, j < (s.Wr y).length → ∃ gw, ad = some ⟨gw, 0, none⟩ := row_form (h.rowW y)
theorem PInv.formF (h : PInv w0 w B own fW fF s g kd T x) (t : Int) : ∃ ad cap, (fF t).getD (.slice none 0 0) = .slice ad (s.F t).length cap ∧ ∀ j, j < (s.F t).length → ∃ gw, ad = some ⟨gw, 0, none⟩ := row_form (h.rowF t)
end

theorem row_cellI {w : World} {base n gw cap : Nat} {e : TypeId} {v : Value} {l : List Int} (h : w.ownsRow base e 1 v n (l.map encI)) (hv : v = .slice (some ⟨gw, 0, none⟩) n cap) {j : Nat} (hj : j < l.length) : w.cell? ⟨gw, j, none⟩ = some (.int .i64 l[j]) := by
  subst hv
  have hl := h.1
  simp at hl
  rw [h.cellAt j (by omega)]
  simp [List.getElem?_eq_getElem hj, encI]

theorem store67 {w : World} {b : Nat} {f : Int → Option Value} (h : ∃ n, MapIs w b encI f n) (t : Int) (v : Value) :
    ∃ w', Sem.run Try.prog (Instr.mapUpdate 67 (.map (some b)) (.int .i64 t) v) w = .ok () w' ∧ (∃ n, MapIs w' b encI (fun y => if y = t then some v else f y) n) ∧ w.grownBy w' (some b) := by
  obtain ⟨n, hm⟩ := h
  obtain ⟨w', h1, h2, h3, _⟩ := hm.update (keyI Try.underlying3) Try.underlying67 t v
  exact ⟨w', h1, ⟨_, h2⟩, h3⟩
theorem store66 {w : World} {b : Nat} {f : UInt8 → Option Value} (h : ∃ n, MapIs w b encS f n) (x : UInt8) (v : Value) :
    ∃ w', Sem.run Try.prog (Instr.mapUpdate 66 (.map (some b)) (.string ⟨#[x]⟩) v) w = .ok () w' ∧ (∃ n, MapIs w' b encS (fun y => if y = x then some v else f y) n) ∧ w.grownBy w' (some b) := by
  obtain ⟨n, hm⟩ := h
  obtain ⟨w', h1, h2, h3, _⟩ := hm.update (keyS Try.underlying9) Try.underlying66 x v
  exact ⟨w', h1, ⟨_, h2⟩, h3⟩

/-- how long the rows can be -/
theorem rst_len (h : Hist) : ∀ k, (∀ x, ((rst h k).Wr x).length ≤ k) ∧ ∀ t, ((rst h k).F t).length ≤ k
  | 0 => ⟨fun x => by simp [rst, Rc.start], fun t => by simp [rst, Rc.start]⟩
  | k + 1 => by
    obtain ⟨h1, h2⟩ := rst_len h k
    generalize hs : rst h k = s at h1 h2
    have hd : ∀ x, (dropA s.E (s.Wr x)).length ≤ k := fun x => by
      unfold dropA
      rw [List.length_reverse]
      exact Nat.le_trans (List.dropWhile_sublist _).length_le (by simpa using h1 x)
    rw [rst_succ, hs]
    have keep : (∀ x, (s.Wr x).length ≤ k + 1) ∧ ∀ t, (s.F t).length ≤ k + 1 := ⟨fun x => Nat.le_succ_of_le (h1 x), fun t => Nat.le_succ_of_le (h2 t)⟩
    have setW : ∀ (x : UInt8) (l : List Int), l.length ≤ k + 1 → ∀ y, ((s.setW x l).Wr y).length ≤ k + 1 := fun x l hl y => by
      show (if y = x then l else s.Wr y).length ≤ k + 1
      split
      · exact hl
      · exact keep.1 y
    unfold rstep
    split
    · unfold Rc.read
      split
      · exact ⟨setW _ _ (Nat.le_succ_of_le (hd _)), keep.2⟩
      · split
        · exact ⟨setW _ _ (Nat.le_succ_of_le (hd _)), keep.2⟩
        · refine ⟨setW _ _ (Nat.le_succ_of_le (hd _)), fun t => ?_⟩
          show (if t = h.tx k then s.F (h.tx k) ++ [_] else s.F t).length ≤ k + 1
          split
          · simpa using h2 (h.tx k)
          · exact keep.2 t
    · split
      · unfold Rc.write
        split
        · exact keep
        · exact ⟨setW _ _ (by simpa using h1 (h.it k)), keep.2⟩
      · split
        · exact keep
        · split <;> exact keep

/-- what a round of 'recoverability' says -/
def Rel2 (w0 wr : World) (B n : Nat) (h : Hist) (r2 r3 i : Value) : Prop :=
  ∃ (k : Nat) (own : Own) (fW : UInt8 → Option Value) (fF : Int → Option Value), k ≤ n ∧ i = .int .i64 k ∧ r2 = .bool (rst h k).rc ∧ r3 = .bool (rst h k).cl ∧ QInv w0 wr B own fW fF (rst h k)

theorem rel2_next {w0 w' : World} {B n k : Nat} {h : Hist} {own : Own} {fW : UInt8 → Option Value} {fF : Int → Option Value} {s' : Rc} {r2 r3 : Value} (hk : k < n) (hs : Hid (rst h (k + 1) = s')) (h2 : r2 = .bool s'.rc) (h3 : r3 = .bool s'.cl) (hQ : QInv w0 w' B own fW fF s') :
    Rel2 w0 w' B n h r2 r3 (.int .i64 ((k : Int) + 1)) :=
  ⟨k + 1, own, fW, fF, hk, by simp, by rw [h2, hs.out], by rw [h3, hs.out], by rw [hs.out]; exact hQ⟩

theorem inv2_start (w : World) : QInv w (((w.alloc (.map #[] 0)).alloc (.map #[] 0)).alloc (.map #[] 0)) w.heap.size (fun _ => none) (fun _ => none) (fun _ => none) Rc.start := by
  have e1 : (w.alloc (.map #[] 0)).heap.size = w.heap.size + 1 := by simp
  have e2 : ((w.alloc (.map #[] 0)).alloc (.map #[] 0)).heap.size = w.heap.size + 1 + 1 := by simp
  refine ⟨(((Below.refl _ _).alloc (Nat.le_refl _) _).alloc (by omega) _).alloc (by omega) _, by simp, (fun g r h => by cases h), ⟨0, ?_⟩, ?_, ?_⟩
  · exact ((mapIs_made w encI).alloc _).alloc _
  · have := groups_made (w.alloc (.map #[] 0)) (fun _ => none) encS ρR (w.heap.size + 3) 3
    rw [e1] at this
    exact this.kept (World.grownBy_alloc _ _ none) (Own.le_refl _) (by simp) (fun j hj => by cases hj)
  · have := groups_made ((w.alloc (.map #[] 0)).alloc (.map #[] 0)) (fun _ => none) encI ρF (w.heap.size + 3) 3
    rw [e2] at this
    exact this

/-! ### the rounds' ends -/
section
variable {w0 w' w3 w4 w5 : World} {B n k g gg cap : Nat} {o : Obj} {h : Hist} {own : Own} {fW : UInt8 → Option Value} {fF : Int → Option Value} {s : Rc} {T : Int} {x : UInt8}

theorem rel2_readStay {m : Nat} (hk : k < n) (HS : Hid (rst h (k + 1) = rstep s 1 T x)) (hd : dropA s.E (s.Wr x) = (s.Wr x).take m) (hl : ((s.Wr x).take m).getLast? = none ∨ ((s.Wr x).take m).getLast? = some T) (hI : PInv w0 w' B own fW fF (s.setW x ((s.Wr x).take m)) g 1 T x) :
    Rel2 w0 w' B n h (.bool s.rc) (.bool s.cl) (.int .i64 ((k : Int) + 1)) := by
  have e : rstep s 1 T x = s.setW x ((s.Wr x).take m) := by
    unfold rstep Rc.read
    rw [if_pos rfl, hd]
    rcases hl with q | q
    · rw [q]
    · rw [q]; simp
  have hq := hI.inv
  exact rel2_next hk (show Hid (rst h (k + 1) = s.setW x ((s.Wr x).take m)) from HS.out.trans e) rfl rfl hq

theorem rel2_readNew {m : Nat} {f : Int} {r : Bool} (hk : k < n) (HS : Hid (rst h (k + 1) = rstep s 1 T x)) (hd : dropA s.E (s.Wr x) = (s.Wr x).take m) (hl : ((s.Wr x).take m).getLast? = some f) (hf : ¬ f = T) (hr : r = (s.cl && done s.E f))
    (hI : PInv w0 w3 B own fW fF (s.setW x ((s.Wr x).take m)) g 1 T x)
    (hown : w4.ownsRow (B + 3) 3 1 (.slice (some ⟨gg, 0, none⟩) ((s.F T).length + 1) cap) ((s.F T).length + 1) ((s.F T).map encI ++ [encI f])) (hg4 : (w3.alloc o).drew.grownBy w4 ((fF T).getD (.slice none 0 0)).ownBlock)
    (hat : ((fF T).getD (.slice none 0 0)).ownBlock = some gg ∨ gg = (w3.alloc o).drew.heap.size) (hm : ∃ n, MapIs w5 (B + 1 + 1) encI (fun y => if y = T then some (.slice (some ⟨gg, 0, none⟩) ((s.F T).length + 1) cap) else fF y) n) (hg5 : w4.grownBy w5 (some (B + 1 + 1))) :
    Rel2 w0 w5 B n h (.bool s.rc) (.bool r) (.int .i64 ((k : Int) + 1)) := by
  have h2 := ((hI.alloc o).drew.appF (T := T) (f := f) rfl hg4 hown (hat.imp id (fun e => by rw [e]; exact Nat.le_refl _)) hm hg5).setCl (s.cl && done s.E f)
  have e : rstep s 1 T x = (((s.setW x ((s.Wr x).take m)).addF T f).setCl (s.cl && done s.E f)) := by
    unfold rstep Rc.read
    rw [if_pos rfl, hd, hl]
    simp only
    rw [if_neg hf]
  exact rel2_next hk (show Hid (rst h (k + 1) = _) from HS.out.trans e) rfl (by rw [hr]; rfl) h2.inv

theorem rel2_writeStay (hk : k < n) (HS : Hid (rst h (k + 1) = rstep s 2 T x)) (hl : (s.Wr x).getLast? = some T) (hI : PInv w0 w' B own fW fF s g 2 T x) : Rel2 w0 w' B n h (.bool s.rc) (.bool s.cl) (.int .i64 ((k : Int) + 1)) := by
  have e : rstep s 2 T x = s := by
    unfold rstep Rc.write
    rw [if_neg (by omega), if_pos rfl, if_pos hl]
  exact rel2_next hk (show Hid (rst h (k + 1) = s) from HS.out.trans e) rfl rfl hI.inv

theorem rel2_writeNew {L : Nat} {v : Value} (hk : k < n) (HS : Hid (rst h (k + 1) = rstep s 2 T x)) (hl : ¬ (s.Wr x).getLast? = some T) (hL : (s.Wr x).length = L) (hv : (fW x).getD (.slice none 0 0) = v) (hI : PInv w0 w3 B own fW fF s g 2 T x)
    (hown : w4.ownsRow (B + 3) 3 1 (.slice (some ⟨gg, 0, none⟩) (L + 1) cap) (L + 1) ((s.Wr x).map encI ++ [encI T])) (hg4 : (w3.alloc o).drew.grownBy w4 v.ownBlock)
    (hat : v.ownBlock = some gg ∨ gg = (w3.alloc o).drew.heap.size) (hm : ∃ n, MapIs w5 (B + 1) encS (fun y => if y = x then some (.slice (some ⟨gg, 0, none⟩) (L + 1) cap) else fW y) n) (hg5 : w4.grownBy w5 (some (B + 1))) :
    Rel2 w0 w5 B n h (.bool s.rc) (.bool s.cl) (.int .i64 ((k : Int) + 1)) := by
  subst hL
  subst hv
  have h2 := (hI.alloc o).drew.appW rfl hg4 hown (hat.imp id (fun e => by rw [e]; exact Nat.le_refl _)) hm hg5
  have e : rstep s 2 T x = s.setW x (s.Wr x ++ [T]) := by
    unfold rstep Rc.write
    rw [if_neg (by omega), if_pos rfl, if_neg hl]
  exact rel2_next hk (show Hid (rst h (k + 1) = _) from HS.out.trans e) rfl rfl h2.inv

theorem rel2_commit {r : Bool} (hk : k < n) (HS : Hid (rst h (k + 1) = rstep s 5 T x)) (hr : r = (s.rc && (s.F T).all (done s.E))) (hI : PInv w0 w' B own fW fF (s.setE T 5) g 5 T x) : Rel2 w0 w' B n h (.bool r) (.bool s.cl) (.int .i64 ((k : Int) + 1)) := by
  have e : rstep s 5 T x = (s.setE T 5).setRc (s.rc && (s.F T).all (done s.E)) := by
    unfold rstep
    rw [if_neg (by omega), if_neg (by omega), if_pos rfl]
    rfl
  exact rel2_next hk (show Hid (rst h (k + 1) = _) from HS.out.trans e) (by rw [hr]; rfl) rfl (hI.setRc _).inv

theorem rel2_abort (hk : k < n) (HS : Hid (rst h (k + 1) = rstep s 6 T x)) (hI : PInv w0 w' B own fW fF (s.setE T 6) g 6 T x) : Rel2 w0 w' B n h (.bool s.rc) (.bool s.cl) (.int .i64 ((k : Int) + 1)) := by
  have e : rstep s 6 T x = s.setE T 6 := by
    unfold rstep
    rw [if_neg (by omega), if_neg (by omega), if_neg (by omega), if_pos rfl]
    rfl
  exact rel2_next hk (show Hid (rst h (k + 1) = _) from HS.out.trans e) rfl rfl hI.inv

theorem rel2_other {kd : Int} (hk : k < n) (HS : Hid (rst h (k + 1) = rstep s kd T x)) (h1 : ¬ kd = 1) (h2 : ¬ kd = 2) (h5 : ¬ kd = 5) (h6 : ¬ kd = 6) (hI : PInv w0 w' B own fW fF s g kd T x) : Rel2 w0 w' B n h (.bool s.rc) (.bool s.cl) (.int .i64 ((k : Int) + 1)) := by
  have e : rstep s kd T x = s := by
    unfold rstep
    rw [if_neg h1, if_neg h2, if_neg h5, if_neg h6]
  exact rel2_next hk (show Hid (rst h (k + 1) = s) from HS.out.trans e) rfl rfl hI.inv
end

theorem row_cap {w : World} {base n cap : Nat} {ad : Option Addr} {e : TypeId} {ys : List Value} (h : w.ownsRow base e 1 (.slice ad n cap) n ys) : n ≤ cap := by
  rcases h.2 with ⟨_, h2⟩ | ⟨gw, c, cur, h1, _, _, h4, _⟩
  · omega
  · simp only [Value.slice.injEq] at h1
    omega

theorem row_at {w : World} {base n L : Nat} {e : TypeId} {u v : Value} {ys : List Value} (h : w.ownsRow base e 1 u n ys) (hv : u = v) (hL : n = L) : w.ownsRow base e 1 v L ys := by
  subst hv
  subst hL
  exact h
theorem all_step {l : List Int} {p : Int → Bool} {r : Bool} {j : Nat} (hj : j < l.length) : (r && (l.take (j + 1)).all p) = ((r && (l.take j).all p) && p (l[j]'hj)) := by
  rw [List.take_succ_eq_append_getElem hj, List.all_append]
  simp [Bool.and_assoc]

/-! ### the stack of writers -/
theorem take_last {l : List Int} {m : Nat} (hm : m + 1 ≤ l.length) : (l.take (m + 1)).getLast? = some (l[m]'(by omega)) := by
  have e : l.take (m + 1) = l.take m ++ [l[m]'(by omega)] := List.take_succ_eq_append_getElem (by omega)
  rw [e, List.getLast?_append]
  rfl
theorem drop_stop {E : Int → Option Int} {l : List Int} {m : Nat} (h : Hid (dropA E (l.take m) = dropA E l)) (hm : m = 0 ∨ ∃ t, (l.take m).getLast? = some t ∧ gone E t = false) : dropA E l = l.take m := by
  rw [← h.out]
  rcases hm with rfl | ⟨t, h1, h2⟩
  · simp [dropA]
  · obtain ⟨r, hr⟩ := getLast_snoc h1
    rw [hr, dropA_snoc, h2]
    rfl
theorem drop_go {E : Int → Option Int} {l : List Int} {m : Nat} (h : Hid (dropA E (l.take (m + 1)) = dropA E l)) (hm : m + 1 ≤ l.length) (hg : gone E (l[m]'(by omega)) = true) : Hid (dropA E (l.take m) = dropA E l) := by
  have := h.out
  rw [List.take_succ_eq_append_getElem (by omega), dropA_snoc, hg, if_pos rfl] at this
  exact this
theorem gone_ev {s : Rc} {t : Int} : gone s.E t = (evOf s t == 6) := by
  unfold gone evOf
  cases q : s.E t with
  | none => rfl
  | some v => by_cases e : v = 6 <;> simp [e]
theorem done_ev {s : Rc} {t : Int} : done s.E t = (evOf s t == 5) := by
  unfold done evOf
  cases q : s.E t with
  | none => rfl
  | some v => by_cases e : v = 5 <;> simp [e]

set_option maxRecDepth 100000 in
set_option maxHeartbeats 40000000 in
theorem recov_any (Bo n : Nat) (z0 z1 : List Int) (z2 : List UInt8) (w : World) (hN : n ≤ 4096) (hb : Built w Bo n n z0 z1 z2) :
    Calls Try.prog 31 #[.slice (some ⟨Bo, 0, none⟩) n n] w fun e w' => e = .returned (.tuple #[.bool (rst (hist z0 z1 z2) n).rc, .bool (rst (hist z0 z1 z2) n).cl]) ∧ Below w.heap.size w w' := by
  have hmm := @run_makeMap Try.prog
  obtain ⟨i3, hi3, hz30, hz31, hz32⟩ := info_parts Try.info3
  have hBo := hb.lt
  have hS0 := inv2_start w
  obtain ⟨B, hB⟩ : ∃ B, w.heap.size = B := ⟨_, rfl⟩
  rw [hB] at hBo hS0
  have HB : Hid (w.heap.size = B) := hB
  go_enter Try.func31, Try.ntmps31
  go_wp2_with fail
  clear hB hmm
  go_loopw [2, 3, 19] (fun r2 r3 i wr => Rel2 w wr B n (hist z0 z1 z2) r2 r3 i) (fun _ _ i _ => n - (intOf i).toNat)
  case atStart => exact ⟨0, _, _, _, Nat.zero_le _, rfl, rfl, rfl, hS0⟩
  case round =>
    clear hS0
    obtain ⟨k, own, fW, fF, hk, rfl, rfl, rfl, hS⟩ := hrel
    by_cases hlt : k < n
    · obtain ⟨q0, q1, q2, q3, q4, q5⟩ := hb.cells hlt
      rw [← hS.below.cell hBo] at q0 q1 q2 q3 q4 q5
      have HS : Hid (rst (hist z0 z1 z2) (k + 1) = rstep (rst (hist z0 z1 z2) k) (z0.getD k 0) (z1.getD k 0) (z2.getD k 0)) := rfl
      have hlen := rst_len (hist z0 z1 z2) k
      generalize rst (hist z0 z1 z2) k = s at HS hS hlen ⊢
      generalize z0.getD k 0 = kd at q0 HS
      generalize z1.getD k 0 = T at q1 HS
      generalize z2.getD k 0 = x at q3 HS
      clear hb
      have hI : PInv w (wr.alloc (.cells #[.int .i64 kd, .int .i64 T, .string ⟨#[]⟩, .string ⟨#[x]⟩, .string ⟨#[]⟩, .int .i64 0] 46)) B own fW fF s wr.heap.size kd T x := hS.laid kd T x
      have hsz := hS.size
      have hlw := hlen.1 x
      have hlf := hlen.2 T
      clear hS hlen
      by_cases hk1 : kd = 1
      · subst hk1
        obtain ⟨ad, cap, hv, hform⟩ := hI.formW x
        have hrowW := hI.rowW x
        rw [hv] at hrowW
        have hcap : (s.Wr x).length ≤ cap := row_cap hrowW
        go_wp2_with (first
          | (at_lookup; refine wpList_lookup_ex _ rfl _ _ 66 false rfl (keyS Try.underlying9) Try.underlying66 zero22 rfl hI.inv.mW.1 x rfl _ rfl ?_))
        go_loop [9] (fun v => ∃ m : Nat, m ≤ (s.Wr x).length ∧ v = .slice ad m cap ∧ Hid (dropA s.E ((s.Wr x).take m) = dropA s.E (s.Wr x))) (fun v => lenOf v)
        case atStart => exact ⟨_, Nat.le_refl _, rfl, by rw [List.take_length]; rfl⟩
        case round =>
          obtain ⟨m, hm, rfl, HD⟩ := hrel
          have hmm : m ≤ cap := by omega
          rcases m with _ | m
          · have HDD : Hid (dropA s.E (s.Wr x) = (s.Wr x).take 0) := drop_stop HD (.inl rfl)
            go_wp2_with (first
              | (at_mapUpdate; refine wpList_update_ex _ rfl _ _ _ 66 rfl (keyS Try.underlying9) Try.underlying66 rfl hI.inv.mW.1 x rfl _ rfl ?_; intro w2 hm2 hg2 hs2; clear hs2; obtain ⟨fW, hfx, hI⟩ := hI.cutW hv hm hm2 hg2; have k1 := op_c1 hI.op))
            go_quiet (fail)
            go_wp2
            go_roundw
            case rel => exact rel2_readStay hlt HS HDD.out (.inl (by simp)) (hI.drewN _)
            case measure => simp [intOf]; omega
          · obtain ⟨gw, rfl⟩ := hform m (by omega)
            have hc := row_cellI hrowW rfl (j := m) (by omega)
            have hgw : B + 3 ≤ gw := (hrowW.lt gw rfl).1
            have hle := hI.lookE ((s.Wr x)[m]'(by omega))
            have hge := @gone_ev s ((s.Wr x)[m]'(by omega))
            have hlast := take_last hm
            have hgo := fun q => drop_go HD hm q
            generalize (s.Wr x)[m]'(by omega) = t at hc hle hge hlast hgo
            have HG : Hid (gone s.E t = (evOf s t == 6)) := hge
            have HL : Hid (((s.Wr x).take (m + 1)).getLast? = some t) := hlast
            have HO : Hid (gone s.E t = true → Hid (dropA s.E ((s.Wr x).take m) = dropA s.E (s.Wr x))) := hgo
            clear hge hlast hgo
            by_cases h6 : (evOf s t == 6) = true
            · go_wp2
              go_round
              case rel => exact ⟨m, by omega, rfl, HO.out (HG.out.trans h6)⟩
              case measure => simp [lenOf]
            · have h6' : (evOf s t == 6) = false := by simpa using h6
              have HDD : Hid (dropA s.E (s.Wr x) = (s.Wr x).take (m + 1)) := drop_stop HD (.inr ⟨t, HL.out, HG.out.trans h6'⟩)
              clear h6
              by_cases htT : t = T
              · subst htT
                go_wp2_with (first
                  | (at_mapUpdate; refine wpList_update_ex _ rfl _ _ _ 66 rfl (keyS Try.underlying9) Try.underlying66 rfl hI.inv.mW.1 x rfl _ rfl ?_; intro w2 hm2 hg2 hs2; clear hs2; have hc2 := hg2.cell hc (ne_some (show gw ≠ B + 1 by omega)); obtain ⟨fW, hfx, hI⟩ := hI.cutW hv hm hm2 hg2; have k1 := op_c1 hI.op))
                go_quiet (fail)
                go_wp2
                go_roundw
                case rel => exact rel2_readStay hlt HS HDD.out (.inr HL.out) (hI.drewN _)
                case measure => simp [intOf]; omega
              · have hne : (t != T) = true := by simpa using htT
                have hgn : ¬ (wr.heap.size = B + 1 + 1) := by omega
                cases hcl : s.cl
                all_goals
                  go_wp2_with (first
                    | (at_mapUpdate; refine wpList_update_ex _ rfl _ _ _ 66 rfl (keyS Try.underlying9) Try.underlying66 rfl hI.inv.mW.1 x rfl _ rfl ?_; intro w2 hm2 hg2 hs2; clear hs2; have hc2 := hg2.cell hc (ne_some (show gw ≠ B + 1 by omega)); obtain ⟨fW, hfx, hI⟩ := hI.cutW hv hm hm2 hg2; have k1 := op_c1 hI.op))
                  go_quiet (fail)
                  replace hI := hI.drewN nq
                  have hc3 : (w2.drewN nq).cell? ⟨gw, m, none⟩ = some (.int .i64 t) := hc2
                  have k1 : (w2.drewN nq).cell? ⟨wr.heap.size, 1, none⟩ = some (.int .i64 T) := op_c1 hI.op
                  generalize w2.drewN nq = w3 at hI hc3 k1 ⊢
                  go_wp2
                  have hsz3 := hI.inv.size
                  have hl1 := hI.drew.lookF T
                  have hl2 := fun o => (hI.alloc o).drew.lookF T
                  go_region_held3 (fun w' => w'.cell? ⟨wr.heap.size, 1, none⟩ = some (.int .i64 T))
                    (first | exact op_c1 hI.op | exact op_c1 (hI.alloc _).op | exact op_c1 hO4 | exact op_c1 hO5)
                    ((refine step_append_lies _ (by rfl) _ _ 22 (by rfl) (B + 3) 3 i3 _ 1 8 Try.underlying22 hi3 hz30 hz31 hz32 rfl (by omega) ((fF T).getD (.slice none 0 0)) (s.F T).length ((s.F T).map encI) (by rfl) ((hI.alloc _).drew.rowF T) ⟨_, 0, none⟩ 1 1 [encI t] (by rfl) (by rfl) (World.news_of_block (cs := #[.int .i64 t]) (t := 3) (fr := (0, 0)) (heap_alloc_new _ _)) (by simp [encI, Value.oneCell']) (by omega) (by unfold maxLen; omega) (by omega) (by simp; omega) _ rfl ?_; intro gg cp w4 hown4 hg4 hat4 hlt4; have hO4 := (hI.alloc _).drew.opF hg4; obtain ⟨w5, hr5, hm5, hg5⟩ := store67 ((hI.alloc _).drew.mapF hg4) T (.slice (some ⟨gg, 0, none⟩) ((s.F T).length + 1) cp); have hO5 := opOver hO4 hg5 hgn))
                  all_goals
                    have hle5 : Sem.run Try.prog (Instr.lookup 65 (.map (some B)) (.int .i64 t) false) w5 = .ok (.int .i64 (evOf s t)) w5 := ((hI.alloc _).drew.appF (T := T) (f := t) rfl hg4 hown4 (hat4.imp id (fun e => by rw [e]; exact Nat.le_refl _)) hm5 hg5).lookE t
                    go_wp2
                    go_roundw
                    case rel => exact rel2_readNew hlt HS HDD.out HL.out htT (by rw [hcl, done_ev]; rfl) hI hown4 hg4 hat4 hm5 hg5
                    case measure => simp [intOf]; omega
      · by_cases hk2 : kd = 2
        · subst hk2
          obtain ⟨ad, cap, hv, hform⟩ := hI.formW x
          have hrowW := hI.rowW x
          rw [hv] at hrowW
          have hgn : ¬ (wr.heap.size = B + 1) := by omega
          rcases hL : (s.Wr x).length with _ | m
          · have hv0 : (fW x).getD (.slice none 0 0) = .slice ad 0 cap := by rw [hv, hL]
            have HLast : Hid (¬ (s.Wr x).getLast? = some T) := by
              have : s.Wr x = [] := List.eq_nil_of_length_eq_zero hL
              rw [this]; simp [Hid]
            have HV : Hid ((fW x).getD (.slice none 0 0) = .slice ad 0 cap) := hv0
            have HLL : Hid ((s.Wr x).length = 0) := hL
            clear hv hrowW hlw
            go_wp2_with (first
              | (at_lookup; refine wpList_lookup_ex _ rfl _ _ 66 false rfl (keyS Try.underlying9) Try.underlying66 zero22 rfl hI.inv.mW.1 x rfl _ rfl ?_))
            go_quiet (fail)
            replace hI := hI.drewN nq
            have k1 : (World.drewN _ nq).cell? ⟨wr.heap.size, 1, none⟩ = some (.int .i64 T) := op_c1 hI.op
            have k3 : (World.drewN _ nq).cell? ⟨wr.heap.size, 3, none⟩ = some (.string ⟨#[x]⟩) := op_c3 hI.op
            generalize World.drewN _ nq = w3 at hI k1 k3 ⊢
            go_wp2
            have hsz3 := hI.inv.size
            have hrow3 := fun o => row_at ((hI.alloc o).drew.rowW x) HV.out HLL.out
            clear hL hv0
            go_region_held3 (fun w' => w'.cell? ⟨wr.heap.size, 1, none⟩ = some (.int .i64 T) ∧ w'.cell? ⟨wr.heap.size, 3, none⟩ = some (.string ⟨#[x]⟩))
              (first | exact keep2 hI.op | exact keep2 (hI.alloc _).op | exact keep2 hO4 | exact keep2 hO5)
              ((refine step_append_lies _ (by rfl) _ _ 22 (by rfl) (B + 3) 3 i3 _ 1 8 Try.underlying22 hi3 hz30 hz31 hz32 rfl (by omega) (.slice ad 0 cap) 0 ((s.Wr x).map encI) (by rfl) (hrow3 _) ⟨_, 0, none⟩ 1 1 [encI T] (by rfl) (by rfl) (World.news_of_block (cs := #[.int .i64 T]) (t := 3) (fr := (0, 0)) (heap_alloc_new _ _)) (by simp [encI, Value.oneCell']) (by omega) (by unfold maxLen; omega) (by omega) (by simp; omega) _ rfl ?_; intro gg cp w4 hown4 hg4 hat4 hlt4; have hO4 := (hI.alloc _).drew.opW (y := x) (by rw [HV.out]; exact hg4); obtain ⟨w5, hr5, hm5, hg5⟩ := store66 ((hI.alloc _).drew.mapW (y := x) (by rw [HV.out]; exact hg4)) x (.slice (some ⟨gg, 0, none⟩) (0 + 1) cp); have hO5 := opOver hO4 hg5 hgn))
            all_goals
              go_wp2
              go_roundw
              case rel => exact rel2_writeNew hlt HS HLast.out HLL.out HV.out hI hown4 hg4 hat4 hm5 hg5
              case measure => simp [intOf]; omega
          · obtain ⟨gw, rfl⟩ := hform m (by omega)
            have hc := row_cellI hrowW rfl (j := m) (by omega)
            have hlast : (s.Wr x).getLast? = some ((s.Wr x)[m]'(by omega)) := by
              have := take_last (l := s.Wr x) (m := m) (by omega)
              rwa [List.take_of_length_le (by omega)] at this
            generalize (s.Wr x)[m]'(by omega) = t at hc hlast
            have hv0 : (fW x).getD (.slice none 0 0) = .slice (some ⟨gw, 0, none⟩) (m + 1) cap := by rw [hv, hL]
            have HV : Hid ((fW x).getD (.slice none 0 0) = .slice (some ⟨gw, 0, none⟩) (m + 1) cap) := hv0
            have HLL : Hid ((s.Wr x).length = m + 1) := hL
            have HLast : Hid ((s.Wr x).getLast? = some t) := hlast
            have hmk : m + 1 ≤ k := by omega
            have hmc : m + 1 ≤ cap := by have := row_cap hrowW; omega
            have i0 : (0 : Int) ≤ (m : Int) := by omega
            have i1 : (m : Int) < (m : Int) + 1 := by omega
            have i2 : ((m : Int) + 1 == 0) = false := by
              have : ¬ (m : Int) + 1 = 0 := by omega
              simp [this]
            clear hv hrowW hlw hlast hform
            by_cases htT : t = T
            · subst htT
              go_wp2_with (first
                | (at_lookup; refine wpList_lookup_ex _ rfl _ _ 66 false rfl (keyS Try.underlying9) Try.underlying66 zero22 rfl hI.inv.mW.1 x rfl _ rfl ?_))
              go_quiet (fail)
              go_wp2
              go_roundw
              case rel => exact rel2_writeStay hlt HS HLast.out (hI.drewN _)
              case measure => simp [intOf]; omega
            · have hne : (t != T) = true := by simpa using htT
              have HNot : Hid (¬ (s.Wr x).getLast? = some T) := by rw [HLast.out]; intro e; exact htT (Option.some.inj e)
              go_wp2_with (first
                | (at_lookup; refine wpList_lookup_ex _ rfl _ _ 66 false rfl (keyS Try.underlying9) Try.underlying66 zero22 rfl hI.inv.mW.1 x rfl _ rfl ?_))
              go_quiet (fail)
              replace hI := hI.drewN nq
              have k1 : (World.drewN _ nq).cell? ⟨wr.heap.size, 1, none⟩ = some (.int .i64 T) := op_c1 hI.op
              have k3 : (World.drewN _ nq).cell? ⟨wr.heap.size, 3, none⟩ = some (.string ⟨#[x]⟩) := op_c3 hI.op
              generalize World.drewN _ nq = w3 at hI k1 k3 ⊢
              go_wp2
              have hsz3 := hI.inv.size
              have hrow3 := fun o => row_at ((hI.alloc o).drew.rowW x) HV.out HLL.out
              clear hL hv0
              go_region_held3 (fun w' => w'.cell? ⟨wr.heap.size, 1, none⟩ = some (.int .i64 T) ∧ w'.cell? ⟨wr.heap.size, 3, none⟩ = some (.string ⟨#[x]⟩))
                (first | exact keep2 hI.op | exact keep2 (hI.alloc _).op | exact keep2 hO4 | exact keep2 hO5)
                ((refine step_append_lies _ (by rfl) _ _ 22 (by rfl) (B + 3) 3 i3 _ 1 8 Try.underlying22 hi3 hz30 hz31 hz32 rfl (by omega) (.slice (some ⟨gw, 0, none⟩) (m + 1) cap) (m + 1) ((s.Wr x).map encI) (by rfl) (hrow3 _) ⟨_, 0, none⟩ 1 1 [encI T] (by rfl) (by rfl) (World.news_of_block (cs := #[.int .i64 T]) (t := 3) (fr := (0, 0)) (heap_alloc_new _ _)) (by simp [encI, Value.oneCell']) (by omega) (by unfold maxLen; omega) (by omega) (by simp; omega) _ rfl ?_; intro gg cp w4 hown4 hg4 hat4 hlt4; have hO4 := (hI.alloc _).drew.opW (y := x) (by rw [HV.out]; exact hg4); obtain ⟨w5, hr5, hm5, hg5⟩ := store66 ((hI.alloc _).drew.mapW (y := x) (by rw [HV.out]; exact hg4)) x (.slice (some ⟨gg, 0, none⟩) (m + 1 + 1) cp); have hO5 := opOver hO4 hg5 hgn))
              all_goals
                go_wp2
                go_roundw
                case rel => exact rel2_writeNew hlt HS HNot.out HLL.out HV.out hI hown4 hg4 hat4 hm5 hg5
                case measure => simp [intOf]; omega
        · by_cases hk5 : kd = 5
          · subst hk5
            obtain ⟨ad, cap, hv, hform⟩ := hI.formF T
            have hrowF := hI.rowF T
            rw [hv] at hrowF
            go_wp2_with (first
              | (at_lookup; refine wpList_lookup_ex _ rfl _ _ 67 false rfl (keyI Try.underlying3) Try.underlying67 zero22 rfl hI.inv.mF.1 T rfl _ rfl ?_))
            go_loop [2, 126] (fun r i => ∃ (j : Nat) (b : Bool), j ≤ (s.F T).length ∧ i = .int .i64 j ∧ r = .bool b ∧ Hid (b = (s.rc && ((s.F T).take j).all (done s.E)))) (fun _ i => (s.F T).length - (intOf i).toNat)
            case atStart => exact ⟨0, s.rc, Nat.zero_le _, rfl, rfl, by simp [Hid]⟩
            case round =>
              obtain ⟨j, b, hj, rfl, rfl, HBB⟩ := hrel
              by_cases hjl : j < (s.F T).length
              · obtain ⟨gw, rfl⟩ := hform j hjl
                have hc := row_cellI hrowF rfl hjl
                have hle := hI.lookE ((s.F T)[j]'hjl)
                have hst := all_step (p := done s.E) (r := s.rc) hjl
                rw [done_ev] at hst
                have HST : Hid ((s.rc && ((s.F T).take (j + 1)).all (done s.E)) = ((s.rc && ((s.F T).take j).all (done s.E)) && (evOf s ((s.F T)[j]'hjl) == 5))) := hst
                clear hst
                generalize (s.F T)[j]'hjl = f at hc hle HST
                cases b
                all_goals
                  go_wp2
                  go_round
                  case rel => exact ⟨j + 1, _, hjl, by go_num, rfl, by show _ = _; rw [HST.out, ← HBB.out]; rfl⟩
                  case measure => simp [intOf]; omega
              · have hjn : j = (s.F T).length := by omega
                subst hjn
                have HB2 : Hid (b = (s.rc && (s.F T).all (done s.E))) := by have := HBB.out; rw [List.take_length] at this; exact this
                go_wp2_with (first
                  | (at_mapUpdate; refine wpList_update_ex _ rfl _ _ _ 65 rfl (keyI Try.underlying3) Try.underlying65 rfl hI.inv.mE T rfl _ rfl ?_; intro w2 hm2 hg2 hs2; clear hs2; have hI := hI.setE hm2 hg2))
                go_roundw
                case rel => exact rel2_commit hlt HS HB2.out hI
                case measure => simp [intOf]; omega
          · by_cases hk6 : kd = 6
            · subst hk6
              go_wp2_with (first
                | (at_mapUpdate; refine wpList_update_ex _ rfl _ _ _ 65 rfl (keyI Try.underlying3) Try.underlying65 rfl hI.inv.mE T rfl _ rfl ?_; intro w2 hm2 hg2 hs2; clear hs2; have hI := hI.setE hm2 hg2))
              go_roundw
              case rel => exact rel2_abort hlt HS hI
              case measure => simp [intOf]; omega
            · have t1 : (kd == 1) = false := by simpa using hk1
              have t2 : (kd == 2) = false := by simpa using hk2
              have t5 : (kd == 5) = false := by simpa using hk5
              have t6 : (kd == 6) = false := by simpa using hk6
              go_wp2_with fail
              go_roundw
              case rel => exact rel2_other hlt HS hk1 hk2 hk5 hk6 hI
              case measure => simp [intOf]; omega
    · have hkn : k = n := by omega
      subst hkn
      go_wp2
      go_ret2
      exact ⟨rfl, by rw [HB.out]; exact hS.below⟩
end Go.Proofs.Qxb6000427a
