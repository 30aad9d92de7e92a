/-
  Own work: the walk of FnWalkPlacesOnlyAfterPredecessors.
-/
import Derived.Test.Qxb6000427aWs2
import Derived.Test.Qxb6000427aLaw4
import Derived.Deep.CutBlock
import Derived.Deep.CutRange
namespace Go.Proofs.Qxb6000427a
open Go.RowKit

set_option maxHeartbeats 400000 in
theorem bytes29 (a0 : Int) (a1 a2 : Option Addr) (l1 c1 l2 c2 : Nat) (w : World) (h1 : l1 ≤ maxLen) (h2 : l2 ≤ maxLen) :
    Calls Try.prog 29 #[.int .i64 a0, .slice a1 l1 c1, .slice a2 l2 c2] w fun e w' => w = w' ∧ ∃ b, e = .returned (.bool b) := by
  unfold maxLen at h1 h2
  go_enter Try.func29, Try.ntmps29
  go_wp2
  all_goals
    go_ret
    exact ⟨rfl, _, rfl⟩

set_option maxRecDepth 100000 in
theorem law10_off (a0 : Int) (a1 a2 : Option Addr) (l1 l2 c1 c2 : Nat) (w : World) (h1 : l1 ≤ maxLen) (h2 : l2 ≤ maxLen) (hoff : ¬ (0 ≤ a0 ∧ a0 ≤ 65536 ∧ l1 ≤ 65536 ∧ l2 = l1)) :
    Calls Try.prog 10 #[.int .i64 a0, .slice a1 l1 c1, .slice a2 l2 c2] w fun e w' => e = .returned (.bool true) ∧ Below w.heap.size w w' := by
  have m1 := h1
  have m2 := h2
  unfold maxLen at h1 h2
  go_enter Try.func10, Try.ntmps10
  go_wp2_with (first
    | (go_at_call 29; refine (bytes29 _ _ _ _ _ _ _ _ m1 m2).mono ?_; rintro e w' ⟨rfl, b, rfl⟩))
  all_goals
    go_ret
    exact ⟨rfl, Below.refl _ _⟩

theorem StX.ltS {w : World} {base n m : Nat} {F T : Nat → Nat} {g : Geo} {S : List Nat} {x : Nat} (h : StX w base n m F T g S x) : ∀ t, t ∈ S → t < n := by
  obtain ⟨tx, V, sv, wf, ρ, h1, h2, h3⟩ := h
  exact h2.lt

/-- the law's state behind the placing of S -/
structure At (w wx : World) (base n m : Nat) (F T : Nat → Nat) (g : Geo) (S : List Nat) (po : Nat) : Prop where
  st : StX wx base n m F T g S po
  pos : IntRow wx po n (posOf S)
  below : Below w.heap.size w wx
  size : base ≤ wx.heap.size
  nodup : S.Nodup
  ord : Ord m F T S
  len : S.length ≤ n

theorem At.next {w wx w' : World} {base n m : Nat} {F T : Nat → Nat} {g : Geo} {S : List Nat} {po p : Nat} (h : At w wx base n m F T g S po) (hp : Rdy n m F T S p) (hl : S.length < n) (hwb : w.heap.size ≤ base) (hb : Below base (wx.setCell ⟨po, p, none⟩ (.int .i64 (S.length : Nat))) w') (hpo : w.heap.size ≤ po)
    (hk : w'.heap[po]? = (wx.setCell ⟨po, p, none⟩ (.int .i64 (S.length : Nat))).heap[po]?) (hS : StX w' base n m F T g (S ++ [p]) po) : At w w' base n m F T g (S ++ [p]) po := by
  refine ⟨hS, ?_, (h.below.setCell hpo _).trans (hb.mono hwb), ?_, ?_, h.ord.place hp, by simp; omega⟩
  · refine ((h.pos.set hp.1 _).of_block hk).congr (fun j _ => ?_)
    exact posOf_place hp.2.1 j
  · have h1 := hb.size
    have h2 := h.size
    simp [World.setCell] at h1
    omega
  · rw [List.nodup_append]
    refine ⟨h.nodup, by simp, fun a ha b hb e => ?_⟩
    have : b = p := by simpa using hb
    exact hp.2.1 (this ▸ e ▸ ha)

set_option maxRecDepth 100000 in
set_option maxHeartbeats 4000000 in
theorem law10_in (n m c1 c2 : Nat) (a1 a2 : Option Addr) (z1 z2 : Nat → Int) (w : World) (hn : n ≤ 65536) (hm : m ≤ 65536) (h1 : ArgI w a1 m z1) (h2 : ArgI w a2 m z2) :
    Calls Try.prog 10 #[.int .i64 n, .slice a1 m c1, .slice a2 m c2] w fun e w' => e = .returned (.bool true) ∧ Below w.heap.size w w' := by
  go_enter Try.func10, Try.ntmps10
  go_upto_region 13 with (first
    | (go_at_call 29; refine (bytes29 _ _ _ _ _ _ _ _ (by unfold maxLen; omega) (by unfold maxLen; omega)).mono ?_; rintro e w' ⟨rfl, b, rfl⟩))
  · go_ret
    exact ⟨rfl, Below.refl _ _⟩
  have he := edges23 n m c1 c2 a1 a2 z1 z2 w hm h1 h2
  go_upto_region 15 with (first
    | (go_at_call 23; refine he.mono ?_; rintro e w' ⟨rfl, rfl | ⟨rfl, hin⟩⟩))
  · go_ret
    exact ⟨rfl, Below.refl _ _⟩
  clear he
  have hF : ∀ j, j < m → (fun j => (z1 j).toNat) j < n ∧ (fun j => (z2 j).toNat) j < n := fun j hj => by have := hin j hj; dsimp only; omega
  have A1 := h1.nat (fun j hj => by have := hin j hj; omega)
  have A2 := h2.nat (fun j hj => by have := hin j hj; omega)
  clear h1 h2 hin
  generalize (fun j => (z1 j).toNat) = F at hF A1
  generalize (fun j => (z2 j).toNat) = T at hF A2
  have hT : ∀ k, k < m → T k < n := fun k hk => (hF k hk).2
  have hc25 := build25 n m c1 c2 a1 a2 F T w hn hm A1 A2 hF
  go_upto_region 16 with (first
    | (go_at_call 25; refine hc25.mono ?_; rintro e w2 ⟨rfl, hr2, hp2, hb2⟩)
    | (go_at_call 24; refine (new24 n m _ _ F T _ hn hm hF hr2 hp2).mono ?_; rintro e w3 ⟨g, rfl, hb3, hS⟩))
  have hb4 : Below w.heap.size w w3 := hb2.trans (hb3.mono hb2.size)
  have hsz : w2.heap.size ≤ w3.heap.size := hb3.size
  have hwb : w.heap.size ≤ w2.heap.size := hb2.size
  generalize w2.heap.size = base at hS hsz hwb
  clear hc25 hr2 hp2 hb2 hb3
  have hmk := make22 n n (Nat.le_refl _) hn w3
  have hX := hS.fresh (.cells (madeCells #[.int .i64 0] n) 3)
  have hI := IntRow.made w3 n
  have hb5 := hb4.alloc (by omega) (.cells (madeCells #[.int .i64 0] n) 3)
  have hsz5 : base ≤ (w3.alloc (.cells (madeCells #[.int .i64 0] n) 3)).heap.size := by rw [sz_alloc]; omega
  have hpo : w.heap.size ≤ w3.heap.size := by omega
  go_wp2
  generalize w3.alloc (.cells (madeCells #[.int .i64 0] n) 3) = w5 at hX hI hb5 hsz5 ⊢
  generalize w3.heap.size = po at hX hI hpo ⊢
  clear hmk hS hb4 hsz
  go_loopw [9] (fun s wx => ∃ (i : Nat) (f : Nat → Int), i ≤ n ∧ s = .int .i64 i ∧ StX wx base n m F T g [] po ∧ IntRow wx po n f ∧ (∀ j, j < i → f j = -1) ∧ Below w.heap.size w wx ∧ base ≤ wx.heap.size) (fun s _ => n - (intOf s).toNat)
  case atStart => exact ⟨0, _, Nat.zero_le _, rfl, hX, hI, fun j hj => by omega, hb5, hsz5⟩
  case round =>
    clear hX hI hb5 hsz5
    obtain ⟨i, f, hi, rfl, hX, hI, hf, hb5, hsz5⟩ := hrel
    by_cases hlt : i < n
    · have x1 := hI.cell hlt
      have x2 := hI.free i
      have l0 : (0 : Int) ≤ (i : Int) := by omega
      have l1 : (i : Int) < (n : Int) := by omega
      go_wp2
      go_roundw
      case rel =>
        refine ⟨i + 1, _, by omega, by go_num, hX.set i _, hI.set hlt _, fun j hj => ?_, hb5.setCell hpo _, by simp [World.setCell]; omega⟩
        by_cases e : j = i
        · simp [e]
        · simp only [if_neg e]; exact hf j (by omega)
      case measure => simp [intOf]; omega
    · have e : i = n := by omega
      subst e
      have hA : At w wr base i m F T g [] po := ⟨hX, hI.congr (fun j hj => by rw [hf j hj, posOf_nil]), hb5, hsz5, by simp, Ord.nil _ _ _, by simp⟩
      clear hX hI hf hb5 hsz5
      go_upto_block 2 with fail
      go_cut [10, 11, 12] from 70 to 97 (fun s10 s11 s12 wx => ∃ S : List Nat, s10 = .int .i64 (S.length : Nat) ∧ At w wx base i m F T g S po ∧ ∀ q, ¬ Rdy i m F T S q)
      case first =>
        go_wp2_with fail
        go_loopw [10, 11] (fun s10 s11 wx => ∃ S : List Nat, s10 = .int .i64 (S.length : Nat) ∧ s11 = .int .i64 (S.length : Nat) ∧ At w wx base i m F T g S po) (fun _ s11 _ => i - (intOf s11).toNat)
        case atStart => exact ⟨[], rfl, rfl, hA⟩
        case round =>
          clear hA
          obtain ⟨S, rfl, rfl, hA⟩ := hrel
          have hSl := hA.len
          by_cases hlt : S.length < i
          · have hl26 := least26' _ base i m F T g _ hA.st.st hn
            go_upto_region 26 with (first
              | (go_at_call 26; refine hl26.mono ?_; rintro e w6 ⟨r, rfl, rfl, ⟨p, rfl, hp, _⟩ | ⟨rfl, hno⟩⟩))
            · clear hl26
              have x1 := hA.pos.cell hp.1
              rw [posOf_out hp.2.1] at x1
              have x2 := hA.pos.free p
              have hX7 := hA.st.set p (.int .i64 (S.length : Nat))
              have hs7 : po < (wr.setCell ⟨po, p, none⟩ (.int .i64 (S.length : Nat))).heap.size := by simp [World.setCell]; exact hA.pos.lt
              have hz7 : base ≤ (wr.setCell ⟨po, p, none⟩ (.int .i64 (S.length : Nat))).heap.size := by simp [World.setCell]; exact hA.size
              have hpn := hp.1
              have l0 : (0 : Int) ≤ (p : Int) := by omega
              have l1 : (p : Int) < (i : Int) := by omega
              have hc27 := place27x _ base i m F T g S p po hX7 hs7 hz7 hn hm hlt hT hp
              go_wp2_with (first
                | (go_at_call 27; refine hc27.mono ?_; rintro e w8 ⟨rfl, hb8, hk8, hS8⟩))
              go_roundw
              case rel => exact ⟨S ++ [p], by simp, by simp, hA.next hp hlt hwb hb8 hpo hk8 hS8⟩
              case measure => simp [intOf]; omega
            · go_wp2
              go_meet
              exact ⟨S, rfl, hA, hno⟩
          · have e : S.length = i := by omega
            have hno : ∀ q, ¬ Rdy i m F T S q := fun q hq => hq.2.1 (mem_full hA.nodup hA.st.ltS e hq.1)
            go_wp2
            go_meet
            exact ⟨S, rfl, hA, hno⟩
      case rest =>
        clear hA
        obtain ⟨S, rfl, hA, hno⟩ := hcut
        have hl26 := least26' _ base i m F T g _ hA.st.st hn
        have hl28 := placed28 _ base i m F T g _ hA.st.st
        have hpl := hA.st.st.placed.2
        have hlen := hA.len
        go_wp2_with (first
          | (go_at_call 26; refine hl26.mono ?_; rintro e w6 ⟨r, rfl, rfl, hr⟩; obtain rfl : r = -1 := (by rcases hr with ⟨p, rfl, hp, _⟩ | ⟨h, _⟩; exact absurd hp (hno p); exact h); clear hr hl26)
          | (go_at_call 28; refine hl28.mono ?_; rintro e w7 ⟨rfl, rfl⟩; clear hl28))
        go_loop [14] (fun s => ∃ q : Nat, q ≤ i ∧ s = .int .i64 q) (fun s => i - (intOf s).toNat)
        case atStart => exact ⟨0, Nat.zero_le _, rfl⟩
        case round =>
          obtain ⟨q, hq, rfl⟩ := hrel
          by_cases hqi : q < i
          · have x1 := hA.pos.cell hqi
            have l0 : (0 : Int) ≤ (q : Int) := by omega
            have l1 : (q : Int) < (i : Int) := by omega
            by_cases hqS : q ∈ S
            · have hix := List.idxOf_lt_length_iff.2 hqS
              have x2 := hpl (S.idxOf q) (by omega)
              rw [getD_idx hqS] at x2
              rw [posOf_in hqS] at x1
              generalize S.idxOf q = j at hix x1 x2
              have l2 : (0 : Int) ≤ (j : Int) := by omega
              have l3 : (j : Int) < (S.length : Int) := by omega
              go_wp2
              go_round
              case rel => exact ⟨q + 1, by omega, by go_num⟩
              case measure => simp [intOf]; omega
            · rw [posOf_out hqS] at x1
              go_wp2
              go_round
              case rel => exact ⟨q + 1, by omega, by go_num⟩
              case measure => simp [intOf]; omega
          · have hmk := make44 i hn wc
            have hR := BoolRow.made wc i
            have hI := hA.pos.of_block (heap_alloc_old wc (.cells (madeCells #[.bool false] i) 4) hA.pos.lt)
            have hb9 := hA.below.alloc (by have := hA.below.size; omega) (.cells (madeCells #[.bool false] i) 4)
            have hpw := hA.pos.lt
            have hord := hA.ord
            have hwc := hA.below.size
            clear hpl hlen hA
            have e : q = i := by omega
            subst e
            go_wp2
            generalize wc.alloc (.cells (madeCells #[.bool false] q) 4) = w9 at hR hI hb9 ⊢
            generalize wc.heap.size = hbk at hR hpw hwc ⊢
            clear hmk
            go_loopw [16] (fun s wx => ∃ k : Nat, k ≤ m ∧ s = .int .i64 k ∧ BoolRow wx hbk q (hasB F T S k) ∧ IntRow wx po q (posOf S) ∧ Below w.heap.size w wx) (fun s _ => m - (intOf s).toNat)
            case atStart => exact ⟨0, Nat.zero_le _, rfl, hR, hI, hb9⟩
            case round =>
              clear hR hI hb9
              obtain ⟨k, hk, rfl, hR, hI, hb9⟩ := hrel
              by_cases hkm : k < m
              · obtain ⟨b1, o1, rfl, x1, y1⟩ := A1 k hkm
                obtain ⟨b2, o2, rfl, x2, y2⟩ := A2 k hkm
                replace x1 := (hb9.cell (p := ⟨b1, o1 + k, none⟩) y1).trans x1
                replace x2 := (hb9.cell (p := ⟨b2, o2 + k, none⟩) y2).trans x2
                obtain ⟨f0, f1⟩ := hF k hkm
                have x3 := hI.cell f0
                have x4 := hI.cell f1
                have l0 : (0 : Int) ≤ (k : Int) := by omega
                have l1 : (k : Int) < (m : Int) := by omega
                have l2 : (0 : Int) ≤ (F k : Int) := by omega
                have l3 : (F k : Int) < (q : Int) := by omega
                have l4 : (0 : Int) ≤ (T k : Int) := by omega
                have l5 : (T k : Int) < (q : Int) := by omega
                have hset := hasB_set F T S k
                have hsame := hasB_same F T S k
                have hordk := hord k hkm
                clear hord A1 A2 hF hT hno
                by_cases hTS : T k ∈ S
                · obtain ⟨hFS, hlt⟩ := hordk hTS
                  have hs := hsame (fun q => q.1 hTS)
                  rw [posOf_in hFS] at x3
                  rw [posOf_in hTS] at x4
                  rw [hs] at hR
                  clear hset hsame hordk hs
                  generalize S.idxOf (F k) = u at x3 hlt
                  generalize S.idxOf (T k) = v at x4 hlt
                  have d1 : decide ((0 : Int) ≤ (v : Int)) = true := by simp
                  have d2 : decide ((0 : Int) ≤ (u : Int)) = true := by simp
                  have d3 : decide ((u : Int) < (v : Int)) = true := by simp; omega
                  have d4 : decide ((v : Int) < 0) = false := by simp
                  go_wp2
                  go_quiet (fail)
                  go_wp2
                  go_roundw
                  case rel => exact ⟨k + 1, by omega, by go_num, hR.of_block rfl, hI.of_block rfl, below_drewN hb9 nq⟩
                  case measure => simp [intOf]; omega
                · rw [posOf_out hTS] at x4
                  by_cases hFS : F k ∈ S
                  · have hs := hsame (fun q => q.2 hFS)
                    rw [posOf_in hFS] at x3
                    rw [hs] at hR
                    clear hset hsame hordk hs
                    generalize S.idxOf (F k) = u at x3
                    have d2 : decide ((u : Int) < 0) = false := by simp
                    go_wp2
                    go_quiet (fail)
                    go_wp2
                    go_roundw
                    case rel => exact ⟨k + 1, by omega, by go_num, hR.of_block rfl, hI.of_block rfl, below_drewN hb9 nq⟩
                    case measure => simp [intOf]; omega
                  · rw [posOf_out hFS] at x3
                    have hs := hset hTS hFS
                    have x5 := hR.cell f1
                    have x6 := hR.free (T k)
                    have HS : Hid ((fun i => if i = T k then true else hasB F T S k i) = hasB F T S (k + 1)) := hs
                    clear hset hsame hordk hs
                    go_wp2
                    go_quiet (fail)
                    have hR3 := (hR.of_block (w' := wr.drewN nq) rfl).set f1 true
                    rw [HS.out] at hR3
                    go_wp2
                    go_roundw
                    case rel => exact ⟨k + 1, by omega, by go_num, hR3, hI.of_block (Below.heap_setCell _ _ _ _ (show po ≠ hbk by omega)), (below_drewN hb9 nq).setCell (show w.heap.size ≤ hbk by omega) _⟩
                    case measure => simp [intOf]; omega
              · have e : k = m := by omega
                subst e
                clear A1 A2 hF hT hord
                have hlast : ∀ t, t < q → t ∉ S → hasB F T S k t = true := fun t ht hS => hasB_end hno ht hS
                clear hno
                go_wp2
                go_loop [19] (fun s => ∃ j : Nat, j ≤ q ∧ s = .int .i64 j) (fun s => q - (intOf s).toNat)
                case atStart => exact ⟨0, Nat.zero_le _, rfl⟩
                case round =>
                  obtain ⟨j, hj, rfl⟩ := hrel
                  by_cases hjq : j < q
                  · have x1 := hI.cell hjq
                    have x2 := hR.cell hjq
                    have hl := hlast j hjq
                    clear hlast
                    have l0 : (0 : Int) ≤ (j : Int) := by omega
                    have l1 : (j : Int) < (q : Int) := by omega
                    by_cases hjS : j ∈ S
                    · rw [posOf_in hjS] at x1
                      clear hl x2
                      go_wp2
                      go_round
                      case rel => exact ⟨j + 1, by omega, by go_num⟩
                      case measure => simp [intOf]; omega
                    · rw [posOf_out hjS] at x1
                      rw [hl hjS] at x2
                      clear hl
                      go_wp2
                      go_round
                      case rel => exact ⟨j + 1, by omega, by go_num⟩
                      case measure => simp [intOf]; omega
                  · have e : j = q := by omega
                    subst e
                    clear hlast
                    go_wp2
                    go_ret
                    exact ⟨rfl, hb9⟩
end Go.Proofs.Qxb6000427a
