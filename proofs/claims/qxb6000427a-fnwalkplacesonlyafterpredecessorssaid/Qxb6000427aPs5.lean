/-
  Own work: newPlaceSet lays an empty set: the walk.
-/
import Derived.Test.Qxb6000427aPs4
import Derived.Deep.RegionLaw
namespace Go.Proofs.Qxb6000427a
open Go.RowKit

/-- what stands in 'size' as the level d is laid -/
def szIn (n : Nat) : Nat → Nat
  | 0 => n
  | d + 1 => sz n d
theorem sz_in (n d : Nat) : sz n d = max 1 ((szIn n d + 63) / 64) := by cases d <;> rfl

theorem Mk.drew {w0 w : World} {n B d : Nat} {v : Value} {lb : Nat → Nat} (h : Mk w0 w n B d v lb) : Mk w0 w.drew n B d v lb := ⟨h.head, h.own, h.row, h.gt, h.inj, h.off, ⟨h.below.os, h.below.tape, h.below.output, h.below.size, h.below.block⟩⟩

theorem cell_alloc {w : World} {p : Addr} {v : Value} (o : Obj) (h : w.cell? p = some v) : (w.alloc o).cell? p = some v := (World.grownBy_alloc w o none).cell h (by simp)

theorem ownsRow_drew {w : World} {base : Nat} {e : TypeId} {size : Nat} {v : Value} {n : Nat} {xs : List Value} (h : w.ownsRow base e size v n xs) : w.drew.ownsRow base e size v n xs := h

theorem alloc2_new (w : World) (o o' : Obj) : ((w.alloc o).alloc o').heap[w.heap.size + 1]? = some o' := by
  have := heap_alloc_new (w.alloc o) o'
  simpa using this
theorem heap_up {w : World} {b : Nat} {x : Obj} (o : Obj) (h : w.heap[b]? = some x) : (w.alloc o).heap[b]? = some x := by
  rw [(World.grownBy_alloc w o none).block b (Array.getElem?_eq_some_iff.1 h).choose (by simp)]; exact h
theorem one_of {w : World} {b : Nat} {v : Value} {t : TypeId} (h : w.heap[b]? = some (.cells #[v] t (0, 0))) : w.cell? ⟨b, 0, none⟩ = some v ∧ w.frozen? ⟨b, 0, none⟩ = false :=
  ⟨by rw [cell_of_row w b 0 #[v] t (0, 0) h]; rfl, frozen_of_row w b 0 #[v] t h⟩
theorem heap_gr {w w' : World} {row : Option Nat} {b : Nat} {x : Obj} (hg : w.grownBy w' row) (h : w.heap[b]? = some x) (hne : some b ≠ row) : w'.heap[b]? = some x := by
  rw [hg.block b (Array.getElem?_eq_some_iff.1 h).1 hne]; exact h

theorem grown_drew {w w' : World} {row : Option Nat} (h : w.grownBy w' row) : w.grownBy w'.drew row := ⟨h.os, h.tape, h.output, h.size, h.block⟩
theorem heap_drew {w : World} {b : Nat} {x : Option Obj} (h : w.heap[b]? = x) : w.drew.heap[b]? = x := h

theorem Mk.vB {w0 w : World} {n B d : Nat} {v : Value} {lb : Nat → Nat} (h : Mk w0 w n B d v lb) : some B ≠ v.ownBlock := by
  intro e
  rcases h.own.2 with ⟨q, _⟩ | ⟨g', cap', cur', q, hb, _⟩
  · rw [q] at e; simp [Value.ownBlock] at e
  · rw [q] at e; simp [Value.ownBlock] at e; omega

set_option maxRecDepth 100000 in
set_option maxHeartbeats 4000000 in
theorem new36 (n : Nat) (hn : n ≤ 65536) (w : World) :
    Calls Try.prog 36 #[.int .i64 n] w fun e w' => e = .returned (.pointer (some ⟨w.heap.size, 0, none⟩)) ∧ ∃ L v lb, Mk w w' n w.heap.size (L + 1) v lb ∧ L ≤ 2 := by
  obtain ⟨i50, hi50, hz50, hz51, hz52⟩ := info_parts Try.info50
  go_enter Try.func36, Try.ntmps36
  go_wp2
  have hM : Mk w (w.alloc (.cells #[.slice none 0 0] 72)) n w.heap.size 0 (.slice none 0 0) (fun _ => 0) := by
    refine ⟨(MapKept.heap_alloc w _).1, World.ownsRow_nil _ _ _ _, ?_, ?_, ?_, ?_, (Below.refl _ _).alloc (Nat.le_refl _) _⟩ <;> intros <;> omega
  generalize w.alloc (.cells #[.slice none 0 0] 72) = w1 at hM ⊢
  go_loopw [4] (fun s4 wr => ∃ d v lb, d ≤ 2 ∧ s4 = .int .i64 (szIn n d) ∧ Mk w wr n w.heap.size d v lb ∧ ∀ k, k < d → sz n k ≠ 1) (fun s4 _ => (intOf s4).toNat)
  case atStart => exact ⟨0, _, _, by omega, rfl, hM, fun k hk => by omega⟩
  case round =>
    clear hM
    obtain ⟨d, v, lb, hd, rfl, hM, hne⟩ := hrel
    have z0 : sz n 0 ≤ 1024 := by show max 1 ((n + 63) / 64) ≤ 1024; omega
    have z1 : sz n 1 ≤ 16 := by show max 1 ((sz n 0 + 63) / 64) ≤ 16; omega
    have z2 : sz n 2 = 1 := by show max 1 ((sz n 1 + 63) / 64) = 1; omega
    have hle : szIn n d ≤ 65536 ∧ sz n d ≤ 1024 ∧ (d = 2 → sz n d = 1) ∧ (sz n d = 1 ∨ sz n d < szIn n d) := by
      rcases d with _ | _ | _ | d
      · exact ⟨hn, z0, by omega, by show max 1 ((n + 63) / 64) = 1 ∨ max 1 ((n + 63) / 64) < n; omega⟩
      · exact ⟨by show sz n 0 ≤ _; omega, by show sz n 1 ≤ _; omega, by omega, by show max 1 ((sz n 0 + 63) / 64) = 1 ∨ max 1 ((sz n 0 + 63) / 64) < sz n 0; omega⟩
      · exact ⟨by show sz n 1 ≤ _; omega, by show sz n 2 ≤ _; omega, fun _ => z2, .inl z2⟩
      · omega
    clear z0 z1 z2
    have hs := sz_in n d
    have hnx : szIn n (d + 1) = sz n d := rfl
    have hst := fun w2 w4 => @Mk.step w wr w2 w4 n w.heap.size d v lb hM
    have hB := hM.lt
    have hc : wr.cell? ⟨w.heap.size, 0, none⟩ = some v := by rw [cell_of_row wr w.heap.size 0 #[v] 72 (0, 0) hM.head]; rfl
    generalize hk : sz n d = k at hs hle hnx hst
    generalize szIn n d = s at hs hle ⊢
    obtain ⟨hs1, hk1, hlast, hdown⟩ := hle
    have hmk := make52 k (by omega)
    obtain ⟨t, e2, ht⟩ : ∃ t : Nat, ((s : Int) + 63) / 64 = (t : Int) ∧ k = max 1 t := ⟨(s + 63) / 64, by omega, hs⟩
    have HK : Hid (k = max 1 t) := ht
    clear hs ht
    have hsz := hM.lt
    have hown := hM.own
    go_wp2
    · have e : t = k := by have := HK.out; omega
      subst e
      have HK2 : Hid (sz n d = t) := hk
      have HN2 : Hid (szIn n (d + 1) = t) := hnx
      clear e2 HK hk hnx
      have hh := hM.head
      have c1 := fun o => (one_of (heap_up o hh)).1
      have c2 := fun o o' => (one_of (heap_up o' (heap_up o hh))).1
      go_region_law
        ((refine step_append_lies _ (by rfl) _ _ 70 (by rfl) (w.heap.size + 1) 50 i50 _ 1 24 Try.underlying70 hi50 hz50 hz51 hz52 rfl (by omega) v d _ (by rfl) (ownsRow_drew ((hown.alloc _).alloc _)) ⟨wr.heap.size + 1, 0, none⟩ 1 1 [.slice (some ⟨wr.heap.size, 0, none⟩) t t] (by rfl) (by rfl) (World.news_of_block (cs := #[.slice (some ⟨wr.heap.size, 0, none⟩) t t]) (t := 50) (fr := (0, 0)) (alloc2_new _ _ _)) (by simp [Value.oneCell']) (by omega) (by unfold maxLen; omega) (by omega) (by simp; omega) _ rfl ?_; intro gg cp w4 hown4 hg4 hat4 hlt4; have hh4 := one_of (heap_gr hg4 (heap_up _ (heap_up _ hh)) hM.vB); obtain ⟨k1, k2⟩ := hh4))
      all_goals
        go_wp2
        have hM2 := hst _ w4 (grown_drew ((World.grownBy_alloc wr _ none).trans (World.grownBy_alloc _ _ none))) (heap_drew (heap_up _ (heap_alloc_new _ _))) hg4 gg cp hown4 hat4
        refine ⟨⟨d + 1, _, _, by omega, by rw [HN2.out], hM2, fun q hq => ?_⟩, by simp [intOf]; omega⟩
        rcases Nat.lt_or_ge q d with h | h
        · exact hne q h
        · have : q = d := by omega
          subst this
          rw [HK2.out]; omega
    · have e : k = 1 := by have := HK.out; omega
      subst e
      have hmk1 : ∀ w : World, (Instr.makeSlice 50 (.int .i64 1) (.int .i64 1)).run Try.prog w = .ok (.slice (some ⟨w.heap.size, 0, none⟩) 1 1) (w.alloc (.cells (madeCells #[.int .u64 0] 1) 52)) := fun w => hmk w
      clear e2 HK hk hnx
      have hh := hM.head
      have c1 := fun o => (one_of (heap_up o hh)).1
      have c2 := fun o o' => (one_of (heap_up o' (heap_up o hh))).1
      go_region_law
        ((refine step_append_lies _ (by rfl) _ _ 70 (by rfl) (w.heap.size + 1) 50 i50 _ 1 24 Try.underlying70 hi50 hz50 hz51 hz52 rfl (by omega) v d _ (by rfl) (ownsRow_drew ((hown.alloc _).alloc _)) ⟨wr.heap.size + 1, 0, none⟩ 1 1 [.slice (some ⟨wr.heap.size, 0, none⟩) 1 1] (by rfl) (by rfl) (World.news_of_block (cs := #[.slice (some ⟨wr.heap.size, 0, none⟩) 1 1]) (t := 50) (fr := (0, 0)) (alloc2_new _ _ _)) (by simp [Value.oneCell']) (by omega) (by unfold maxLen; omega) (by omega) (by simp; omega) _ rfl ?_; intro gg cp w4 hown4 hg4 hat4 hlt4; have hh4 := one_of (heap_gr hg4 (heap_up _ (heap_up _ hh)) hM.vB); obtain ⟨k1, k2⟩ := hh4))
      all_goals
        go_wp2
        have hM2 := hst _ w4 (grown_drew ((World.grownBy_alloc wr _ none).trans (World.grownBy_alloc _ _ none))) (heap_drew (heap_up _ (heap_alloc_new _ _))) hg4 gg cp hown4 hat4
        go_ret
        exact ⟨rfl, d, ⟨_, _, hM2⟩, hd⟩

/-- the set that newPlaceSet has laid -/
theorem Mk.ps {w0 w : World} {n B L : Nat} {v : Value} {lb : Nat → Nat} (h : Mk w0 w n B (L + 1) v lb) (hL : L ≤ 2) :
    ∃ lv cap, Ps w n B lv (L + 1) cap lb (fun _ _ => 0) ∧ B < lv ∧ lv < w.heap.size ∧ ∀ d, d < L + 1 → B < lb d ∧ lb d < w.heap.size := by
  obtain ⟨g, cap, hv, hb, hlt⟩ := h.own.form (by omega)
  have hrow := h.own
  rw [hv] at hrow
  refine ⟨g, cap, ⟨?_, fun d hd => ?_, fun d hd => ?_, fun _ _ => by simp, h.inj, fun d hd => by have := h.gt d hd; omega, fun d hd e => ?_, by omega, by omega⟩, by omega, hlt, fun d hd => ⟨h.gt d hd, h.rlt hd⟩⟩
  · rw [← hv]; exact (one_of h.head).1
  · rw [hrow.cellAt d (by omega)]
    simp [hd]
  · refine ⟨_, h.row d hd, by simp [madeCells], fun j hj => ?_⟩
    simp [madeCells, hj, Nat.mod_one]
  · exact h.off d hd (by rw [hv, e]; rfl)

theorem new36' (n : Nat) (hn : n ≤ 65536) (w : World) :
    Calls Try.prog 36 #[.int .i64 n] w fun e w' => e = .returned (.pointer (some ⟨w.heap.size, 0, none⟩)) ∧ Below w.heap.size w w' ∧
      ∃ lv L cap lb, Ps w' n w.heap.size lv L cap lb (fun _ _ => 0) ∧ w.heap.size < lv ∧ lv < w'.heap.size ∧ ∀ d, d < L → w.heap.size < lb d ∧ lb d < w'.heap.size := by
  refine (new36 n hn w).mono ?_
  rintro e w' ⟨rfl, L, v, lb, hM, hL⟩
  obtain ⟨lv, cap, h1, h2, h3, h4⟩ := hM.ps hL
  exact ⟨rfl, hM.below, lv, L + 1, cap, lb, h1, h2, h3, h4⟩
end Go.Proofs.Qxb6000427a
