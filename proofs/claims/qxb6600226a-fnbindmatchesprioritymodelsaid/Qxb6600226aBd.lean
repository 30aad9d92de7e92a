/-
  Own work: bind.
-/
import Derived.Test.Qxb6600226aCo
import Derived.Test.Qxb6600226aPn
import Derived.Laws.StructEq
namespace Go.Proofs.Qxb6600226a
open Go.RowKit

theorem ne_bytes {a b : ByteArray} (h : ¬ a = b) : (a.toList == b.toList) = false := by
  rw [ByteArray.toList_eq, ByteArray.toList_eq]
  have : ¬ a.data.toList = b.data.toList := fun e => h (WideShapes.bytes_inj e)
  simpa using this

def flat (l : List (ByteArray × ByteArray)) : List Value := l.flatMap fun p => [.string p.1, .string p.2]
theorem flat_snoc (l : List (ByteArray × ByteArray)) (p : ByteArray × ByteArray) : flat (l ++ [p]) = flat l ++ [.string p.1, .string p.2] := by simp [flat]
def strs (l : List ByteArray) : List Value := l.map .string
theorem strs_snoc (l : List ByteArray) (s : ByteArray) : strs (l ++ [s]) = strs l ++ [.string s] := by simp [strs]

theorem ownsRow_over {w w' : World} {base : Nat} {e : TypeId} {size k : Nat} {v : Value} {xs : List Value} (hr : w.ownsRow base e size v k xs) (hk : ∀ b, v.ownBlock = some b → w'.heap[b]? = w.heap[b]?) : w'.ownsRow base e size v k xs := by
  refine ⟨hr.1, ?_⟩
  rcases hr.2 with q | ⟨b, cap, cur, q1, q2, q3, q4⟩
  · exact .inl q
  · exact .inr ⟨b, cap, cur, q1, q2, by rw [hk b (by rw [q1]; rfl)]; exact q3, q4⟩
theorem ownsRow_later {w w' : World} {base : Nat} {e : TypeId} {size k : Nat} {v : Value} {xs : List Value} (hr : w.ownsRow base e size v k xs) (hb : Below w.heap.size w w') : w'.ownsRow base e size v k xs :=
  ownsRow_over hr (fun b h => hb.block b (hr.lt b h).2)

/-- two slices that the call has built -/
structure Two (w wr : World) (v6 v7 : Value) (l : List (ByteArray × ByteArray)) (m : List ByteArray) : Prop where
  own6 : wr.ownsRow w.heap.size 42 2 v6 l.length (flat l)
  own7 : wr.ownsRow w.heap.size 9 1 v7 m.length (strs m)
  ne : ∀ b, v6.ownBlock = some b → v7.ownBlock ≠ some b
  below : Below w.heap.size w wr

theorem Two.later {w wr wx : World} {v6 v7 : Value} {l : List (ByteArray × ByteArray)} {m : List ByteArray} (h : Two w wr v6 v7 l m) (hb : Below wr.heap.size wr wx) : Two w wx v6 v7 l m :=
  ⟨ownsRow_later h.own6 hb, ownsRow_later h.own7 hb, h.ne, h.below.trans (hb.mono h.below.size)⟩
theorem Two.app6 {w wr w4 : World} {v6 v7 : Value} {l : List (ByteArray × ByteArray)} {m : List ByteArray} (h : Two w wr v6 v7 l m) {gg cp : Nat} {p : ByteArray × ByteArray} (hg : wr.grownBy w4 v6.ownBlock) (hat : v6.ownBlock = some gg ∨ gg = wr.heap.size)
    (hown : w4.ownsRow w.heap.size 42 2 (.slice (some ⟨gg, 0, none⟩) (l.length + 1) cp) (l.length + 1) (flat l ++ [.string p.1, .string p.2])) : Two w w4 (.slice (some ⟨gg, 0, none⟩) (l.length + 1) cp) v7 (l ++ [p]) m := by
  refine ⟨by rw [flat_snoc]; simpa using hown, ownsRow_over h.own7 (fun b hb => hg.block b (h.own7.lt b hb).2 (fun e => h.ne b e.symm hb)), fun b hb hc => ?_, h.below.grown hg h.below.size (fun k hk => (h.own6.lt k hk).1)⟩
  have : gg = b := by simpa [Value.ownBlock] using hb
  subst this
  rcases hat with q | q
  · exact h.ne gg q hc
  · have := (h.own7.lt gg hc).2
    omega
theorem Two.app7 {w wr w4 : World} {v6 v7 : Value} {l : List (ByteArray × ByteArray)} {m : List ByteArray} (h : Two w wr v6 v7 l m) {gg cp : Nat} {s : ByteArray} (hg : wr.grownBy w4 v7.ownBlock) (hat : v7.ownBlock = some gg ∨ gg = wr.heap.size)
    (hown : w4.ownsRow w.heap.size 9 1 (.slice (some ⟨gg, 0, none⟩) (m.length + 1) cp) (m.length + 1) (strs m ++ [.string s])) : Two w w4 v6 (.slice (some ⟨gg, 0, none⟩) (m.length + 1) cp) l (m ++ [s]) := by
  refine ⟨ownsRow_over h.own6 (fun b hb => hg.block b (h.own6.lt b hb).2 (fun e => h.ne b hb e.symm)), by rw [strs_snoc]; simpa using hown, fun b hb hc => ?_, h.below.grown hg h.below.size (fun k hk => (h.own7.lt k hk).1)⟩
  have : gg = b := by simpa [Value.ownBlock] using hc
  subst this
  rcases hat with q | q
  · exact h.ne gg hb q
  · have := (h.own6.lt gg hb).2
    omega

set_option maxRecDepth 100000 in
set_option maxHeartbeats 8000000 in
theorem bind35 (x : In) (C AB OB wc : Nat) (wa : Option Addr) (w : World) (hn : x.n ≤ 4096) (hN : x.N ≤ 65536)
    (hC : w.cell? ⟨C, 4, none⟩ = some (.slice (some ⟨AB, 0, none⟩) x.n x.n)) (hA : ArgRow w AB x.n x.nm x.df x.hd) (hO : VarRow w OB x.N x.on x.ov) (hS : ArgS w wa x.W x.wd) :
    Calls Try.prog 35 #[.pointer (some ⟨C, 0, none⟩), .slice wa x.W wc, .slice (some ⟨OB, 0, none⟩) x.N x.N] w fun e w' => ∃ v6 v7, e = .returned (.tuple #[v6, v7]) ∧ Two w w' v6 v7 (x.vals x.n) (x.miss x.n) := by
  obtain ⟨i42, hi42, h420, h421, h422⟩ := info_parts Try.inf42
  obtain ⟨i9, hi9, h90, h91, h92⟩ := info_parts Try.inf9
  have hT0 : Two w w (.slice none 0 0) (.slice none 0 0) (x.vals 0) (x.miss 0) := ⟨World.ownsRow_nil _ _ _ _, World.ownsRow_nil _ _ _ _, fun b hb => by simp [Value.ownBlock] at hb, Below.refl _ _⟩
  go_enter Try.func35, Try.ntmps35
  go_wp2
  clear hC
  go_loopw [6, 7, 19] (fun s6 s7 s wr => ∃ i : Nat, i ≤ x.n ∧ s = .int .i64 i ∧ Two w wr s6 s7 (x.vals i) (x.miss i)) (fun _ _ s _ => x.n - (intOf s).toNat)
  case atStart => exact ⟨0, Nat.zero_le _, rfl, hT0⟩
  case round =>
    clear hT0
    obtain ⟨i, hi, rfl, hT⟩ := hrel
    by_cases hlt : i < x.n
    · obtain ⟨x1, x2, x3⟩ := (hA.of_block (hT.below.block AB hA.lt)).cells hlt
      have l0 : (0 : Int) ≤ (i : Int) := by omega
      have l1 : (i : Int) < (x.n : Int) := by omega
      go_wp2
      go_quiet (fail)
      have hbw : Below wr.heap.size wr ((wr.alloc (.cells #[.string (x.nm i), .string (x.df i), .bool (x.hd i)] 53)).drewN nq) := below_drewN ((Below.refl _ _).alloc (Nat.le_refl _) _) nq
      have hnew : ((wr.alloc (.cells #[.string (x.nm i), .string (x.df i), .bool (x.hd i)] 53)).drewN nq).cell? ⟨wr.heap.size, 0, none⟩ = some (.string (x.nm i)) := by
        have := cell_of_row (wr.alloc (.cells #[.string (x.nm i), .string (x.df i), .bool (x.hd i)] 53)) wr.heap.size 0 _ 53 (0, 0) (heap_alloc_new _ _)
        exact this
      replace hT := hT.later hbw
      have hAl : wr.heap.size < ((wr.alloc (.cells #[.string (x.nm i), .string (x.df i), .bool (x.hd i)] 53)).drewN nq).heap.size := World.block_lt_of_cell? _ _ hnew
      clear hbw x1 x2 x3
      generalize (wr.alloc (.cells #[.string (x.nm i), .string (x.df i), .bool (x.hd i)] 53)).drewN nq = w2 at hT hnew hAl ⊢
      generalize wr.heap.size = A at hnew hAl ⊢
      go_wp2
      go_loopw [10, 11, 30] (fun s10 s11 s wx => ∃ j : Nat, j ≤ x.N ∧ s = .int .i64 j ∧ s10 = .string (pick x.on x.ov (x.nm i) (x.df i) (x.hd i) j).1 ∧ s11 = .bool (pick x.on x.ov (x.nm i) (x.df i) (x.hd i) j).2 ∧ Below w2.heap.size w2 wx) (fun _ _ s _ => x.N - (intOf s).toNat)
      case atStart => exact ⟨0, Nat.zero_le _, rfl, rfl, rfl, Below.refl _ _⟩
      case round =>
        obtain ⟨j, hj, rfl, rfl, rfl, hbx⟩ := hrel
        by_cases hjN : j < x.N
        · have hO2 : VarRow _ OB x.N x.on x.ov := hO.of_block ((hbx.block OB (Nat.lt_of_lt_of_le hO.lt hT.below.size)).trans (hT.below.block OB hO.lt))
          obtain ⟨y1, y2⟩ := hO2.cells hjN
          have y3 := (hbx.cell (p := ⟨A, 0, none⟩) hAl).trans hnew
          have m0 : (0 : Int) ≤ (j : Int) := by omega
          have m1 : (j : Int) < (x.N : Int) := by omega
          have y4 := cell_alloc (.cells #[.string (x.on j), .string (x.ov j)] 42) y3
          have hp1 := @pick_hit x.on x.ov (x.nm i) (x.df i) (x.hd i) j
          have hp0 := @pick_miss x.on x.ov (x.nm i) (x.df i) (x.hd i) j
          have HP1 : Hid (x.on j = x.nm i → pick x.on x.ov (x.nm i) (x.df i) (x.hd i) (j + 1) = (x.ov j, true)) := hp1
          have HP0 : Hid (¬ x.on j = x.nm i → pick x.on x.ov (x.nm i) (x.df i) (x.hd i) (j + 1) = pick x.on x.ov (x.nm i) (x.df i) (x.hd i) j) := hp0
          clear hp1 hp0 hO2
          by_cases he : x.on j = x.nm i
          · rw [he] at y1 y4
            have HE : Hid (x.on j = x.nm i) := he
            have hsz := hbx.size
            clear he
            go_wp2
            go_roundw
            case rel =>
              exact ⟨j + 1, by omega, by go_num, by rw [HP1.out HE.out], by rw [HP1.out HE.out], hbx.alloc hsz _⟩
            case measure => simp [intOf]; omega
          · have hsz := hbx.size
            have hq := ne_bytes he
            go_wp2
            go_roundw
            case rel => exact ⟨j + 1, by omega, by go_num, by rw [HP0.out he], by rw [HP0.out he], hbx.alloc hsz _⟩
            case measure => simp [intOf]; omega
        · have e : j = x.N := by omega
          have HPN : Hid (pick x.on x.ov (x.nm i) (x.df i) (x.hd i) j = pick x.on x.ov (x.nm i) (x.df i) (x.hd i) x.N) := by rw [e]; rfl
          replace hT := hT.later hbx
          have y3 := (hbx.cell (p := ⟨A, 0, none⟩) hAl).trans hnew
          have hlen := x.len i
          clear hnew hAl hbx hO hA
          have hnN : ¬ j < x.N := hjN
          clear e
          by_cases hiW : i < x.W
          · have HR : Hid (x.res i = some (x.wd i)) := In.res_word hiW
            obtain ⟨b1, o1, rfl, s1, s2, s3⟩ := hS i hiW
            replace s1 := (hT.below.cell (p := ⟨b1, o1 + i, none⟩) s2).trans s1
            have m1 : (i : Int) < (x.W : Int) := by omega
            go_wp2_with (first
              | (at_builtin; refine wpList_append_lies _ rfl _ _ 33 rfl w.heap.size 42 i42 _ 2 32 Try.underlying33 hi42 h420 h421 h422 rfl (by omega) u6 (x.vals i).length (flat (x.vals i)) rfl (hT.own6.alloc _) ⟨wr.heap.size, 0, none⟩ 1 1 [.string (x.nm i), .string (x.wd i)] rfl rfl (World.news_of_block (cs := #[.string (x.nm i), .string (x.wd i)]) (t := 42) (fr := (0, 0)) (heap_alloc_new _ _)) (by simp [Value.oneCell']) (by omega) (by unfold maxLen; omega) (by omega) (by have := hT.below.size; rw [sz_alloc]; omega) _ rfl ?_; intro gg cp w4 hown4 hg4 hat4 hlt4))
            go_roundw
            case rel =>
              have hT2 := (hT.later ((Below.refl _ _).alloc (Nat.le_refl _) (.cells #[.string (x.nm i), .string (x.wd i)] 42))).app6 (p := (x.nm i, x.wd i)) hg4 hat4 hown4
              exact ⟨i + 1, by omega, by go_num, by rw [(In.vals_some HR.out).1, (In.vals_some HR.out).2]; exact hT2⟩
            case measure => simp [intOf]; omega
          · obtain ⟨pv, pb, hpk⟩ : ∃ v b, pick x.on x.ov (x.nm i) (x.df i) (x.hd i) j = (v, b) := ⟨_, _, rfl⟩
            have HR : Hid (x.res i = if pb = true then some pv else none) := In.res_pick hiW (HPN.out ▸ hpk)
            rw [hpk]
            dsimp only
            have m1 : ¬ (i : Int) < (x.W : Int) := by omega
            clear hpk HPN
            cases pb with
            | true =>
              go_wp2_with (first
                | (at_builtin; refine wpList_append_lies _ rfl _ _ 33 rfl w.heap.size 42 i42 _ 2 32 Try.underlying33 hi42 h420 h421 h422 rfl (by omega) u6 (x.vals i).length (flat (x.vals i)) rfl (hT.own6.alloc _) ⟨wr.heap.size, 0, none⟩ 1 1 [.string (x.nm i), .string pv] rfl rfl (World.news_of_block (cs := #[.string (x.nm i), .string pv]) (t := 42) (fr := (0, 0)) (heap_alloc_new _ _)) (by simp [Value.oneCell']) (by omega) (by unfold maxLen; omega) (by omega) (by have := hT.below.size; rw [sz_alloc]; omega) _ rfl ?_; intro gg cp w4 hown4 hg4 hat4 hlt4))
              go_roundw
              case rel =>
                have hT2 := (hT.later ((Below.refl _ _).alloc (Nat.le_refl _) (.cells #[.string (x.nm i), .string pv] 42))).app6 (p := (x.nm i, pv)) hg4 hat4 hown4
                have hr : x.res i = some pv := HR.out
                exact ⟨i + 1, by omega, by go_num, by rw [(In.vals_some hr).1, (In.vals_some hr).2]; exact hT2⟩
              case measure => simp [intOf]; omega
            | false =>
              go_wp2_with (first
                | (at_builtin; refine wpList_append_lies _ rfl _ _ 25 rfl w.heap.size 9 i9 _ 1 16 Try.underlying25 hi9 h90 h91 h92 rfl (by omega) u7 (x.miss i).length (strs (x.miss i)) rfl (hT.own7.alloc _) ⟨wr.heap.size, 0, none⟩ 1 1 [.string (x.nm i)] rfl rfl (World.news_of_block (cs := #[.string (x.nm i)]) (t := 9) (fr := (0, 0)) (heap_alloc_new _ _)) (by simp [Value.oneCell']) (by omega) (by unfold maxLen; omega) (by omega) (by have := hT.below.size; rw [sz_alloc]; omega) _ rfl ?_; intro gg cp w4 hown4 hg4 hat4 hlt4))
              go_roundw
              case rel =>
                have hT2 := (hT.later ((Below.refl _ _).alloc (Nat.le_refl _) (.cells #[.string (x.nm i)] 9))).app7 (s := x.nm i) hg4 hat4 hown4
                have hr : x.res i = none := HR.out
                exact ⟨i + 1, by omega, by go_num, by rw [(In.vals_none hr).1, (In.vals_none hr).2]; exact hT2⟩
              case measure => simp [intOf]; omega
    · have e : i = x.n := by omega
      subst e
      go_wp2
      go_ret2
      exact ⟨_, _, rfl, hT⟩
end Go.Proofs.Qxb6600226a
