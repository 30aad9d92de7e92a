/-
  Own work: the walk of place: what has no role stays.
-/
import Derived.Test.Qxb6000427aPw
namespace Go.Proofs.Qxb6000427a
open Go.RowKit

/-- blocks of no role are as they were -/
def Kept (ρ : Nat → Nat) (w w' : World) : Prop := ∀ b, b < w.heap.size → ρ b = 0 → w'.heap[b]? = w.heap[b]?

theorem Kept.only {ρ : Nat → Nat} {bs : Nat → Prop} {w w' : World} (hb : ∀ b, bs b → ρ b ≠ 0) (h : Only bs w w') : Kept ρ w w' := fun b _ hz => h.block b (fun q => hb b q hz)
theorem Kept.alloc {ρ : Nat → Nat} {w w' : World} (h : Kept ρ w w') (hs : w'.heap.size = w.heap.size) (o : Obj) : Kept ρ w (w'.alloc o) := fun b hb hz => (heap_alloc_old w' o (by omega)).trans (h b hb hz)
theorem Kept.setCell {ρ : Nat → Nat} {w w' : World} (h : Kept ρ w w') {p : Addr} (hp : ρ p.block ≠ 0) (v : Value) : Kept ρ w (w'.setCell p v) := fun b hb hz => (Below.heap_setCell _ _ _ _ (fun e => hp (by rw [← e]; exact hz))).trans (h b hb hz)
theorem Kept.then {ρ : Nat → Nat} {a b c : World} (h : Kept ρ a b) (k : Kept ρ b c) (hs : a.heap.size ≤ b.heap.size) : Kept ρ a c := fun x hx hz => (k x (by omega) hz).trans (h x hx hz)

set_option maxRecDepth 100000 in
set_option maxHeartbeats 4000000 in
theorem place35k {base n : Nat} {tx : Value} {g : Geo} {V : Nat → Nat → Nat} {sv : Nat → Value} {su : Nat → List Nat} {wf : Nat → Int} {pl : List Nat} {ρ : Nat → Nat} (w : World) (p : Nat) (h : Wk w base n tx g V sv su wf pl ρ) (hbw : base ≤ w.heap.size) (hp : p < n) (hn : n ≤ 65536) (hl : pl.length < n)
    (hsu : ∀ t, t ∈ su p → t < n) (hlen : (su p).length ≤ 65536) (hcnt : ∀ t, (((su p).count t : Nat) : Int) ≤ wf t ∧ wf t ≤ 65536) :
    Calls Try.prog 35 #[.pointer (some ⟨g.wb, 0, none⟩), .int .i64 p] w fun e w' => e = .returned (.tuple #[]) ∧ Below base w w' ∧ Kept ρ w w' ∧
      ∃ V', Wk w' base n tx g V' sv su ((su p).foldl stp (wf, fun q => bit (V 0) q && !decide (q = p))).1 (pl ++ [p]) ρ ∧ ∀ q, bit (V' 0) q = ((su p).foldl stp (wf, fun q => bit (V 0) q && !decide (q = p))).2 q := by
  generalize hR : (fun q => bit (V 0) q && !decide (q = p)) = R
  have HR : Hid ((fun q => bit (V 0) q && !decide (q = p)) = R) := hR
  clear hR
  obtain ⟨p1, p2, p3, p4, p5⟩ := h.cells
  have hps := h.set
  have hne : g.wb ≠ g.pb := fun e => by have := h.rwb; rw [e, h.rpb] at this; omega
  go_enter Try.func35, Try.ntmps35
  go_upto_region 2 with (go_at_call 38; refine (rem38 n g.ps g.lv g.L g.cap p g.lb V _ hps hp hn).mono ?_; rintro e w' ⟨rfl, ⟨V1, hps', hV1⟩, hon⟩; have hW1 := h.turned hps' hon; obtain ⟨q1, q2, q3, q4, q5⟩ := hW1.cells; have t1 := hW1.plc.cell hl; have t2 := hW1.plc.free pl.length; have l0 : pl.length + 1 ≤ n := hl; have a1 := cell_alloc (.cells #[.int .i64 (p : Nat)] 3) q1; have a4 := cell_alloc (.cells #[.int .i64 (p : Nat)] 3) q4; have at1 := cell_alloc (.cells #[.int .i64 (p : Nat)] 3) t1; have at2 := (hW1.alloc (.cells #[.int .i64 (p : Nat)] 3)).plc.free pl.length; have a5 := (hW1.alloc (.cells #[.int .i64 (p : Nat)] 3)).cells.2.2.2.2; have a6 := cell_off (.int .i64 (p : Nat)) a4 hne (o := pl.length))
  have hW2 := (hW1.alloc (.cells #[.int .i64 (p : Nat)] 3)).place hl p
  have hke : Kept ρ w w' := (Kept.only (fun b ⟨d, hd, e⟩ => by rw [e, h.rlb d hd]; omega) hon)
  have hk2 := ((hke.alloc hon.size (.cells #[.int .i64 (p : Nat)] 3)).setCell (p := ⟨g.pb, pl.length, none⟩) (by show ρ g.pb ≠ 0; rw [h.rpb]; omega) (.int .i64 (p : Nat))).setCell (p := ⟨g.wb, 4, none⟩) (by show ρ g.wb ≠ 0; rw [h.rwb]; omega) (.slice (some ⟨g.pb, 0, none⟩) (pl.length + 1) n)
  have hbe : Below base w w' := hon.below (fun b ⟨d, hd, e⟩ => by rw [e]; exact h.blb d hd)
  have hb2 := ((hbe.alloc (by have := hon.size; omega) (.cells #[.int .i64 (p : Nat)] 3)).setCell (p := ⟨g.pb, pl.length, none⟩) h.bpb (.int .i64 (p : Nat))).setCell (p := ⟨g.wb, 4, none⟩) h.bwb (.slice (some ⟨g.pb, 0, none⟩) (pl.length + 1) n)
  generalize (((w'.alloc (.cells #[.int .i64 (p : Nat)] 3)).setCell ⟨g.pb, pl.length, none⟩ (.int .i64 (p : Nat))).setCell ⟨g.wb, 4, none⟩ (.slice (some ⟨g.pb, 0, none⟩) (pl.length + 1) n)) = w2 at hW2 hb2 hk2 ⊢
  clear q1 q2 q3 q4 q5 t1 t2 a1 a4 at1 at2 a5 a6 p1 p2 p3 p4 p5 hW1 hbe hke hps hps' hon
  have hbit : ∀ q, bit (V1 0) q = R q := fun q => by rw [← HR.out, hV1, bit_rem0]
  clear hV1
  obtain ⟨p1, p2, p3, p4, p5⟩ := hW2.cells
  have s1 := hW2.succ.cell hp
  obtain ⟨ad, cap, hv, hform⟩ : ∃ ad cap, sv p = .slice ad (su p).length cap ∧ ∀ i, i < (su p).length → ∃ b, ad = some ⟨b, 0, none⟩ := by
    rcases (hW2.srow p hp).2 with ⟨a, b⟩ | ⟨gg, cap, cur, q1, _⟩
    · exact ⟨none, 0, by rw [a, b], fun i hi => by omega⟩
    · exact ⟨_, cap, q1, fun i _ => ⟨gg, rfl⟩⟩
  rw [hv] at s1
  have HV : Hid (sv p = .slice ad (su p).length cap) := hv
  clear hv
  have l0 : (0 : Int) ≤ (p : Int) := by omega
  have l1 : (p : Int) < (n : Int) := by omega
  go_wp2
  clear l0 l1 s1 p1 p2 p3 p4 p5
  go_loopw [30] (fun s wr => ∃ (i : Nat) (V' : Nat → Nat → Nat), i ≤ (su p).length ∧ s = .int .i64 i ∧ Wk wr base n tx g V' sv su (((su p).take i).foldl stp (wf, R)).1 (pl ++ [p]) ρ ∧ (∀ q, bit (V' 0) q = (((su p).take i).foldl stp (wf, R)).2 q) ∧ Below base w wr ∧ Kept ρ w wr) (fun s _ => (su p).length - (intOf s).toNat)
  case atStart => exact ⟨0, V1, Nat.zero_le _, rfl, hW2, hbit, hb2, hk2⟩
  case round =>
    clear hW2 hb2 hk2 hbit h
    obtain ⟨i, V', hi, rfl, hW, hbit, hb, hk⟩ := hrel
    by_cases hlt : i < (su p).length
    · obtain ⟨bb, rfl⟩ := hform i hlt
      have hrow := hW.srow p hp
      rw [HV.out] at hrow
      have c0 : wr.cell? ⟨bb, i, none⟩ = some (.int .i64 ((su p)[i] : Nat)) := by
        rw [hrow.cellAt i (by simpa using hlt)]
        simp [encN, hlt]
      have HT : Hid (((su p).take (i + 1)).foldl stp (wf, R) = stp (((su p).take i).foldl stp (wf, R)) (su p)[i]) := take_succ_foldl (su p) i hlt (wf, R)
      have hval := foldl_stp_wait ((su p).take i) wf R (su p)[i]
      have hcl := count_take_le (su p) i (su p)[i]
      obtain ⟨hc1, hc2⟩ := hcnt (su p)[i]
      have htn := hsu (su p)[i] (List.getElem_mem hlt)
      generalize (su p)[i] = t at c0 HT hval hcl hc1 hc2 htn
      generalize ((su p).take i).foldl stp (wf, R) = st at hW hbit HT hval
      obtain ⟨p1, p2, p3, p4, p5⟩ := hW.cells
      have c1 := hW.wait.cell htn
      have c2 := hW.wait.free t
      generalize hx : st.1 t = x at c1 hval
      have hx1 : 0 ≤ x ∧ x ≤ 65536 := by omega
      clear hval hcl hc1 hc2 hrow
      have l0 : (0 : Int) ≤ (i : Int) := by omega
      have l1 : (i : Int) < ((su p).length : Int) := by omega
      have l2 : (0 : Int) ≤ (t : Int) := by omega
      have l3 : (t : Int) < (n : Int) := by omega
      have l4 : IntKind.i64.wrap (x - 1) = x - 1 := by rw [IntKind.wrap_i64]; omega
      have hW3 := hW.setWait htn (x - 1)
      have hb3 := hb.setCell (p := ⟨g.wt, t, none⟩) hW.bwt (.int .i64 (x - 1))
      have hk3 := hk.setCell (p := ⟨g.wt, t, none⟩) (by show ρ g.wt ≠ 0; rw [hW.rwt]; omega) (.int .i64 (x - 1))
      have HX : Hid (st.1 t = x) := hx
      clear hx
      go_upto_region 6 with fail
      generalize wr.setCell ⟨g.wt, t, none⟩ (.int .i64 (x - 1)) = w3 at hW3 hb3 hk3 ⊢
      clear p1 p2 p3 p4 p5 c0 c1 c2
      obtain ⟨p1, p2, p3, p4, p5⟩ := hW3.cells
      have c1 := hW3.wait.cell htn
      simp only [if_true] at c1
      have hps := hW3.set
      have hL := hps.pos
      have hst1 : (stp st t).1 = fun i => if i = t then x - 1 else st.1 i := by
        unfold stp updI; rw [HX.out]
      by_cases hz : x - 1 = 0
      · rw [hz] at c1
        have HZ : Hid (x - 1 = 0) := hz
        clear hz
        go_wp2_with (go_at_call 37; refine (add37 n g.ps g.lv g.L g.cap t g.lb V' _ hps htn hn).mono ?_; rintro e w' ⟨rfl, hps', hon⟩)
        go_roundw
        case rel =>
          refine ⟨i + 1, addV V' t g.L, by omega, by go_num, ?_, fun q => ?_, hb3.trans (hon.below (fun b ⟨d, hd, e⟩ => by rw [e]; exact hW3.blb d hd)), hk3.then (Kept.only (fun b ⟨d, hd, e⟩ => by rw [e, hW3.rlb d hd]; omega) hon) hb3.size⟩
          · rw [HT.out, hst1]
            exact hW3.turned hps' hon
          · rw [HT.out, addV_zero _ _ _ hL, bit_add0, hbit]
            show _ = (if st.1 t - 1 = 0 then updB st.2 t else st.2) q
            rw [HX.out, if_pos HZ.out]
            rfl
        case measure => simp [intOf]; omega
      · have hz' : (x - 1 == 0) = false := by simp; omega
        have HZ : Hid (¬ x - 1 = 0) := hz
        clear hz
        go_wp2
        go_roundw
        case rel =>
          refine ⟨i + 1, V', by omega, by go_num, ?_, fun q => ?_, hb3, hk3⟩
          · rw [HT.out, hst1]
            exact hW3
          · rw [HT.out, hbit]
            show _ = (if st.1 t - 1 = 0 then updB st.2 t else st.2) q
            rw [HX.out, if_neg HZ.out]
        case measure => simp [intOf]; omega
    · have e : i = (su p).length := by omega
      subst e
      rw [List.take_length] at hW hbit
      go_wp2
      go_end0
      exact ⟨rfl, hb, hk, V', hW, hbit⟩
end Go.Proofs.Qxb6000427a
