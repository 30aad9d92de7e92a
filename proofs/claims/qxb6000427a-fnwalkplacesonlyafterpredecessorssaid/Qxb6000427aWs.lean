/-
  Own work: the walk's functions as the laws call them.
-/
import Derived.Test.Qxb6000427aNw
import Derived.Test.Qxb6000427aPw
import Derived.Test.Qxb6000427aPc
namespace Go.Proofs.Qxb6000427a
open Go.RowKit

theorem ownsRow_lower {w : World} {base base' : Nat} {e : TypeId} {size k : Nat} {v : Value} {xs : List Value} (h : w.ownsRow base e size v k xs) (hb : base' ≤ base) : w.ownsRow base' e size v k xs := by
  refine ⟨h.1, ?_⟩
  rcases h.2 with q | ⟨b, cap, cur, q1, q2, q3⟩
  · exact .inl q
  · exact .inr ⟨b, cap, cur, q1, by omega, q3⟩
theorem Wk.lower {w : World} {base base' n : Nat} {tx : Value} {g : Geo} {V : Nat → Nat → Nat} {sv : Nat → Value} {su : Nat → List Nat} {wf : Nat → Int} {pl : List Nat} {ρ : Nat → Nat} (h : Wk w base n tx g V sv su wf pl ρ) (hb : base' ≤ base) : Wk w base' n tx g V sv su wf pl ρ :=
  ⟨h.head, h.succ, fun j hj => ownsRow_lower (h.srow j hj) hb, h.wait, h.plc, h.set, h.rwb, h.rsb, h.rwt, h.rpb, h.rps, h.rlv, h.rlb, h.rsu, Nat.le_trans hb h.bwb, Nat.le_trans hb h.bsb, Nat.le_trans hb h.bwt, Nat.le_trans hb h.bpb, fun d hd => Nat.le_trans hb (h.blb d hd)⟩

/-- the walk in memory behind the placing of S -/
def St (w : World) (base n m : Nat) (F T : Nat → Nat) (g : Geo) (S : List Nat) : Prop :=
  ∃ tx V sv wf ρ, Wk w base n tx g V sv (sucOf F T m) wf S ρ ∧ Plc n m F T S wf (fun q => bit (V 0) q)

theorem St.below {w w' : World} {base n m : Nat} {F T : Nat → Nat} {g : Geo} {S : List Nat} (h : St w base n m F T g S) (hg : w.grownBy w' none) : St w' base n m F T g S := by
  obtain ⟨tx, V, sv, wf, ρ, h1, h2⟩ := h
  exact ⟨tx, V, sv, wf, ρ, h1.grown hg, h2⟩
theorem St.alloc {w : World} {base n m : Nat} {F T : Nat → Nat} {g : Geo} {S : List Nat} (h : St w base n m F T g S) (o : Obj) : St (w.alloc o) base n m F T g S := h.below (World.grownBy_alloc w o none)
theorem St.placed {w : World} {base n m : Nat} {F T : Nat → Nat} {g : Geo} {S : List Nat} (h : St w base n m F T g S) : w.cell? ⟨g.wb, 4, none⟩ = some (.slice (some ⟨g.pb, 0, none⟩) S.length n) ∧ ∀ j, j < n → w.cell? ⟨g.pb, j, none⟩ = some (.int .i64 (S.getD j 0 : Nat)) := by
  obtain ⟨tx, V, sv, wf, ρ, h1, h2⟩ := h
  exact ⟨h1.cells.2.2.2.1, fun j hj => h1.plc.cell hj⟩

theorem least26' (w : World) (base n m : Nat) (F T : Nat → Nat) (g : Geo) (S : List Nat) (h : St w base n m F T g S) (hn : n ≤ 65536) :
    Calls Try.prog 26 #[.pointer (some ⟨g.wb, 0, none⟩)] w fun e w' => ∃ r : Int, e = .returned (.int .i64 r) ∧ w = w' ∧
      ((∃ p : Nat, r = (p : Int) ∧ Rdy n m F T S p ∧ ∀ q, q < p → ¬ Rdy n m F T S q) ∨ (r = -1 ∧ ∀ q, ¬ Rdy n m F T S q)) := by
  obtain ⟨tx, V, sv, wf, ρ, h1, h2⟩ := h
  refine (least26 n g.wb g.ps g.lv g.L g.cap g.lb V w h1.set h1.cells.2.2.1 hn).mono ?_
  rintro e w' ⟨⟨r, rfl, hr⟩, rfl⟩
  refine ⟨r, rfl, rfl, ?_⟩
  have hrd := rdy_iff h2
  rcases hr with ⟨p, rfl, _, h3, h4⟩ | ⟨rfl, h3⟩
  · exact .inl ⟨p, rfl, (hrd p).1 h3, fun q hq hR => by have := (hrd q).2 hR; rw [h4 q hq] at this; cases this⟩
  · refine .inr ⟨rfl, fun q hR => ?_⟩
    have hq : q < 64 * sz n 0 := by
      have := hR.1
      show q < 64 * max 1 ((n + 63) / 64)
      omega
    have := (hrd q).2 hR
    rw [h3 q hq] at this
    cases this

theorem place27 (w : World) (base n m : Nat) (F T : Nat → Nat) (g : Geo) (S : List Nat) (p : Nat) (h : St w base n m F T g S) (hbw : base ≤ w.heap.size) (hn : n ≤ 65536) (hm : m ≤ 65536) (hl : S.length < n) (hT : ∀ k, k < m → T k < n) (hp : Rdy n m F T S p) :
    Calls Try.prog 27 #[.pointer (some ⟨g.wb, 0, none⟩), .int .i64 p] w fun e w' => e = .returned (.tuple #[]) ∧ Below base w w' ∧ St w' base n m F T g (S ++ [p]) := by
  obtain ⟨tx, V, sv, wf, ρ, h1, h2⟩ := h
  have hc := place35 w p h1 hbw hp.1 hn hl (fun t ht => by obtain ⟨j, j1, j2, j3⟩ := mem_sucOf ht; exact j3 ▸ hT j j1) (by have := sucOf_len F T p m; omega) (fun t => by have := h2.count_le hp.2.1 t; omega)
  have hpl := h2.place hT hp
  go_enter Try.func27, Try.ntmps27
  go_wp2_with (go_at_call 35; refine hc.mono ?_; rintro e w' ⟨rfl, hb, V', hW, hbit⟩)
  go_end0
  refine ⟨rfl, hb, tx, V', sv, _, ρ, hW, ?_⟩
  have : (fun q => bit (V' 0) q) = ((sucOf F T m p).foldl stp (wf, fun q => bit (V 0) q && !decide (q = p))).2 := funext hbit
  rw [this]
  exact hpl

theorem placed28 (w : World) (base n m : Nat) (F T : Nat → Nat) (g : Geo) (S : List Nat) (h : St w base n m F T g S) :
    Calls Try.prog 28 #[.pointer (some ⟨g.wb, 0, none⟩)] w fun e w' => e = .returned (.slice (some ⟨g.pb, 0, none⟩) S.length n) ∧ w = w' := by
  have hc := h.placed.1
  go_enter Try.func28, Try.ntmps28
  go_wp2
  go_ret
  exact ⟨rfl, rfl⟩

theorem new24 (n m tb eb : Nat) (F T : Nat → Nat) (w : World) (hn : n ≤ 65536) (hm : m ≤ 65536) (hF : ∀ i, i < m → F i < n ∧ T i < n)
    (ht : IntRow w tb n (fun i => 3 * i - 5)) (he : PairRow w eb m m (fun i => 3 * F i - 5) (fun i => 3 * T i - 5)) :
    Calls Try.prog 24 #[.agg #[.slice (some ⟨tb, 0, none⟩) n n, .slice (some ⟨eb, 0, none⟩) m m]] w fun e w' => ∃ g : Geo, e = .returned (.pointer (some ⟨g.wb, 0, none⟩)) ∧ Below w.heap.size w w' ∧ St w' w.heap.size n m F T g [] := by
  have ht' := ht.of_block (heap_alloc_old w (.cells #[.slice (some ⟨tb, 0, none⟩) n n, .slice (some ⟨eb, 0, none⟩) m m] 39) ht.lt)
  have he' := he.of_block (heap_alloc_old w (.cells #[.slice (some ⟨tb, 0, none⟩) n n, .slice (some ⟨eb, 0, none⟩) m m] 39) he.lt)
  have hc := new33 n m tb eb F T _ hn hm hF ht' he'
  have hb0 : Below w.heap.size w (w.alloc (.cells #[.slice (some ⟨tb, 0, none⟩) n n, .slice (some ⟨eb, 0, none⟩) m m] 39)) := (Below.refl _ _).alloc (Nat.le_refl _) _
  rw [sz_alloc] at hc
  go_enter Try.func24, Try.ntmps24
  go_wp2_with (go_at_call 33; refine hc.mono ?_; rintro e w' ⟨g, V, sv, ρ, rfl, hb, hW, hbit⟩)
  go_ret
  exact ⟨g, rfl, hb0.trans (hb.mono (by omega)), _, V, sv, _, ρ, hW.lower (by omega), Plc.start hbit⟩

/-- a slice of numbers that was handed in -/
def ArgI (w : World) (ad : Option Addr) (m : Nat) (z : Nat → Int) : Prop :=
  ∀ i, i < m → ∃ b o, ad = some ⟨b, o, none⟩ ∧ w.cell? ⟨b, o + i, none⟩ = some (.int .i64 (z i)) ∧ b < w.heap.size

def inRange (n m : Nat) (z1 z2 : Nat → Int) : Prop := ∀ i, i < m → (0 ≤ z1 i ∧ z1 i < n) ∧ 0 ≤ z2 i ∧ z2 i < n

set_option maxHeartbeats 4000000 in
theorem edges23 (n m c1 c2 : Nat) (a1 a2 : Option Addr) (z1 z2 : Nat → Int) (w : World) (hm : m ≤ 65536) (h1 : ArgI w a1 m z1) (h2 : ArgI w a2 m z2) :
    Calls Try.prog 23 #[.int .i64 n, .slice a1 m c1, .slice a2 m c2] w fun e w' => w = w' ∧ (e = .returned (.bool false) ∨ (e = .returned (.bool true) ∧ inRange n m z1 z2)) := by
  go_enter Try.func23, Try.ntmps23
  go_wp2
  go_loop [7] (fun s => ∃ i : Nat, i ≤ m ∧ s = .int .i64 i ∧ ∀ j, j < i → (0 ≤ z1 j ∧ z1 j < n) ∧ 0 ≤ z2 j ∧ z2 j < n) (fun s => m - (intOf s).toNat)
  case atStart => exact ⟨0, Nat.zero_le _, rfl, fun j hj => by omega⟩
  case round =>
    obtain ⟨i, hi, rfl, hz⟩ := hrel
    by_cases hlt : i < m
    · obtain ⟨b1, o1, rfl, x1, y1⟩ := h1 i hlt
      obtain ⟨b2, o2, rfl, x2, y2⟩ := h2 i hlt
      have l0 : (0 : Int) ≤ (i : Int) := by omega
      have l1 : (i : Int) < (m : Int) := by omega
      have hnext : ((0 ≤ z1 i ∧ z1 i < n) ∧ 0 ≤ z2 i ∧ z2 i < n) → ∀ j, j < i + 1 → (0 ≤ z1 j ∧ z1 j < n) ∧ 0 ≤ z2 j ∧ z2 j < n := fun h j hj => by
        by_cases e : j = i
        · subst e; exact h
        · exact hz j (by omega)
      clear hz h1 h2 y1 y2
      generalize z1 i = u at x1 hnext
      generalize z2 i = v at x2 hnext
      by_cases g1 : u < 0
      · go_wp2
        go_ret
        first | exact ⟨rfl, .inl rfl⟩ | exact .inl rfl
      · by_cases g2 : (n : Int) ≤ u
        · go_wp2
          go_ret
          first | exact ⟨rfl, .inl rfl⟩ | exact .inl rfl
        · by_cases g3 : v < 0
          · go_wp2
            go_ret
            first | exact ⟨rfl, .inl rfl⟩ | exact .inl rfl
          · by_cases g4 : (n : Int) ≤ v
            · go_wp2
              go_ret
              first | exact ⟨rfl, .inl rfl⟩ | exact .inl rfl
            · have hnx := hnext (by omega)
              clear hnext
              go_wp2
              go_round
              case rel => exact ⟨i + 1, by omega, by go_num, hnx⟩
              case measure => simp [intOf]; omega
    · have e : i = m := by omega
      subst e
      go_wp2
      go_ret
      first | exact ⟨rfl, .inr ⟨rfl, hz⟩⟩ | exact .inr ⟨rfl, hz⟩
end Go.Proofs.Qxb6000427a
