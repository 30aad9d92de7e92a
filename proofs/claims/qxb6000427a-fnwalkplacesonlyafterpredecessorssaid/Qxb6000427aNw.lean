/-
  Own work: newWalk.
-/
import Derived.Test.Qxb6000427aNp
import Derived.Deep.CutRange
import Derived.Deep.RegionLaw
namespace Go.Proofs.Qxb6000427a
open Go.RowKit

theorem cell_below {B : Nat} {w w' : World} {p : Addr} {v : Value} (h : Below B w w') (hp : p.block < B) (hc : w.cell? p = some v) : w'.cell? p = some v := (h.cell hp).trans hc
theorem heap_below {B b : Nat} {w w' : World} {o : Obj} (h : Below B w w') (hp : b < B) (hc : w.heap[b]? = some o) : w'.heap[b]? = some o := (h.block b hp).trans hc

theorem heap_new' {w : World} {b : Nat} (o : Obj) (h : w.heap.size = b) : (w.alloc o).heap[b]? = some o := by subst h; exact heap_alloc_new w o
theorem Ps.alloc {w : World} {n ps lv L cap : Nat} {lb : Nat → Nat} {V : Nat → Nat → Nat} (h : Ps w n ps lv L cap lb V) (o : Obj) : Ps (w.alloc o) n ps lv L cap lb V :=
  h.of_blocks (heap_alloc_old w o h.ltp) (heap_alloc_old w o h.ltv) (fun _ hd => heap_alloc_old w o (h.ltl hd))
theorem Below.down {B C : Nat} {a w w' : World} (h : Below C w w') (hB : B ≤ C) (k : Below B a w) : Below B a w' := k.trans (h.mono hB)

theorem sz_alloc (w : World) (o : Obj) : (w.alloc o).heap.size = w.heap.size + 1 := by simp
theorem sz_drew (w : World) : w.drew.heap.size = w.heap.size := rfl

theorem Wk.start1 {w : World} {base n : Nat} {tx : Value} {wb sb wt pb ps lv L cap e : Nat} {lb : Nat → Nat} (hwb : w.heap[wb]? = some (.cells #[tx, .slice (some ⟨sb, 0, none⟩) n n, .slice (some ⟨wt, 0, none⟩) n n, .pointer (some ⟨ps, 0, none⟩), .slice (some ⟨pb, 0, none⟩) 0 n] 58 (0, 0)))
    (hsb : w.heap[sb]? = some (.cells (madeCells #[.slice none 0 0] n) 22 (0, 0))) (hwt : w.heap[wt]? = some (.cells (madeCells #[.int .i64 0] n) 3 (0, 0))) (hpb : w.heap[pb]? = some (.cells (madeCells #[.int .i64 0] n) 3 (0, 0)))
    (hps : Ps w n ps lv L cap lb (fun _ _ => 0)) (h1 : ps < lv) (h2 : lv < e) (h3 : ∀ d, d < L → ps < lb d ∧ lb d < e)
    (ha : (base ≤ ps ∧ base ≤ sb ∧ base ≤ wt ∧ base ≤ pb ∧ base ≤ wb) ∧ (sb < ps ∨ e ≤ sb) ∧ (wt < ps ∨ e ≤ wt) ∧ (pb < ps ∨ e ≤ pb) ∧ (wb < ps ∨ e ≤ wb) ∧ sb ≠ wt ∧ sb ≠ pb ∧ wt ≠ pb ∧ wb ≠ sb ∧ wb ≠ wt ∧ wb ≠ pb) :
    ∃ ρ, Wk w base n tx ⟨wb, sb, wt, pb, ps, lv, L, cap, lb⟩ (fun _ _ => 0) (fun _ => .slice none 0 0) (fun _ => []) (fun _ => 0) [] ρ ∧ ∀ b, w.heap.size ≤ b → ρ b = 0 :=
  Wk.start hwb hsb hwt hpb hps ⟨Nat.le_refl _, Nat.le_of_lt h1, by omega, h2, by omega, fun d hd => ⟨Nat.le_of_lt (h3 d hd).1, (h3 d hd).2⟩⟩ ha.1 ha.2.1 ha.2.2.1 ha.2.2.2.1 ha.2.2.2.2.1 ha.2.2.2.2.2

theorem zero3 (w : World) : (zeroValue 3).run Try.prog w = .ok (.int .i64 0) w := by kernel_rfl
theorem look69 {w : World} {mb : Nat} {n : Nat} (h : ∃ c, MapIs w mb encI (mapOf n) c) {i : Nat} (hi : i < n) : (Instr.lookup 69 (.map (some mb)) (.int .i64 (3 * (i : Int) - 5)) false).run Try.prog w = .ok (.int .i64 i) w := by
  obtain ⟨c, h⟩ := h
  have := h.lookup (keyI Try.underlying3) Try.underlying69 (zero3 w) (3 * (i : Int) - 5) false
  rw [mapOf_at hi] at this
  exact this

set_option linter.unusedSimpArgs false in
set_option maxRecDepth 100000 in
set_option maxHeartbeats 40000000 in
theorem new33 (n m tb eb : Nat) (F T : Nat → Nat) (w : World) (hn : n ≤ 65536) (hm : m ≤ 65536) (hF : ∀ i, i < m → F i < n ∧ T i < n)
    (ht : IntRow w tb n (fun i => 3 * i - 5)) (he : PairRow w eb m m (fun i => 3 * F i - 5) (fun i => 3 * T i - 5)) :
    Calls Try.prog 33 #[.agg #[.slice (some ⟨tb, 0, none⟩) n n, .slice (some ⟨eb, 0, none⟩) m m]] w fun e w' => ∃ (g : Geo) (V : Nat → Nat → Nat) (sv : Nat → Value) (ρ : Nat → Nat), e = .returned (.pointer (some ⟨g.wb, 0, none⟩)) ∧ Below w.heap.size w w' ∧ Wk w' (w.heap.size + 1) n (.slice (some ⟨tb, 0, none⟩) n n) g V sv (sucOf F T m) (fun t => ((waitOf T m t : Nat) : Int)) [] ρ ∧
      ∀ p, bit (V 0) p = (decide (p < n) && decide (waitOf T m p = 0)) := by
  have hmk1 := make22 n n (Nat.le_refl _) hn
  have hmk2 := make55 n hn
  have hmk3 : ∀ w : World, (Instr.makeSlice 22 (.int .i64 0) (.int .i64 n)).run Try.prog w = .ok (.slice (some ⟨w.heap.size, 0, none⟩) 0 n) (w.alloc (.cells (madeCells #[.int .i64 0] n) 3)) := fun w => make22 0 n (Nat.zero_le _) hn w
  have hg := heap_alloc_new w (.cells #[.slice (some ⟨tb, 0, none⟩) n n, .slice (some ⟨eb, 0, none⟩) m m] 39)
  have hs1 : (w.alloc (.cells #[.slice (some ⟨tb, 0, none⟩) n n, .slice (some ⟨eb, 0, none⟩) m m] 39)).heap.size = w.heap.size + 1 := by simp
  have hb1 : Below w.heap.size w (w.alloc (.cells #[.slice (some ⟨tb, 0, none⟩) n n, .slice (some ⟨eb, 0, none⟩) m m] 39)) := (Below.refl _ _).alloc (Nat.le_refl _) _
  obtain ⟨H, hH⟩ : ∃ H, w.heap.size = H := ⟨_, rfl⟩
  rw [hH] at hg hs1 hb1 ⊢
  have HH : Hid (w.heap.size = H) := hH
  obtain ⟨i3, hi3, hz30, hz31, hz32⟩ := info_parts Try.inf3
  go_enter Try.func33, Try.ntmps33
  go_upto_region 1 with fail
  generalize w.alloc (.cells #[.slice (some ⟨tb, 0, none⟩) n n, .slice (some ⟨eb, 0, none⟩) m m] 39) = w1 at hg hs1 hb1 ⊢
  clear hH
  have hc : w1.cell? ⟨H, 0, none⟩ = some (.slice (some ⟨tb, 0, none⟩) n n) := by rw [cell_of_row w1 H 0 _ 39 (0, 0) hg]; rfl
  go_cut [3] from 13 to 32 (fun s3 wx => ∃ g : Geo, s3 = .pointer (some ⟨g.wb, 0, none⟩) ∧ Below (H + 1) w1 wx ∧ ∃ ρ, Wk wx (H + 1) n (.slice (some ⟨tb, 0, none⟩) n n) g (fun _ _ => 0) (fun _ => .slice none 0 0) (fun _ => []) (fun _ => 0) [] ρ ∧ ∀ b, wx.heap.size ≤ b → ρ b = 0)
  case first =>
    go_region_held3 (fun w' => w'.cell? ⟨H, 0, none⟩ = some (.slice (some ⟨tb, 0, none⟩) n n))
      (repeat (first | exact hc | refine cell_alloc _ ?_ | refine cell_below hbel (by simp; omega) ?_))
      (first | (go_at_call 36; refine (new36' n hn _).mono ?_; rintro e w' ⟨rfl, hbel, lv, L, cap, lb, hps, h1, h2, h3⟩))
    all_goals (go_wp2_with fail; go_meet)
    all_goals
      have hsz := hbel.size
      simp only [sz_drew, sz_alloc, hs1] at h1 h3 hps hsz
      refine ⟨⟨_, _, _, _, _, lv, L, cap, lb⟩, rfl, ?_, Wk.start1 (heap_new' _ (by ((try simp only [sz_alloc, sz_drew, hs1, Array.length_toList]) <;> omega))) ?_ ?_ ?_ ?_ h1 h2 h3 (by (try simp only [Array.length_toList]) <;> omega)⟩
      · repeat (first | (with_reducible exact Below.refl _ _) | (with_reducible refine Below.alloc ?_ (by ((try simp only [sz_alloc, sz_drew, hs1, Array.length_toList]) <;> omega)) _) | (with_reducible refine Below.drew ?_) | (with_reducible refine Below.down hbel (by ((try simp only [sz_alloc, sz_drew, hs1, Array.length_toList]) <;> omega)) ?_))
      · repeat (first | ((with_reducible refine heap_new' _ ?_); ((try simp only [sz_alloc, sz_drew, hs1, Array.length_toList]) <;> omega)) | (with_reducible refine heap_up _ ?_) | (with_reducible refine heap_drew ?_) | (with_reducible refine heap_below hbel (by ((try simp only [sz_alloc, sz_drew, hs1, Array.length_toList]) <;> omega)) ?_))
      · repeat (first | ((with_reducible refine heap_new' _ ?_); ((try simp only [sz_alloc, sz_drew, hs1, Array.length_toList]) <;> omega)) | (with_reducible refine heap_up _ ?_) | (with_reducible refine heap_drew ?_) | (with_reducible refine heap_below hbel (by ((try simp only [sz_alloc, sz_drew, hs1, Array.length_toList]) <;> omega)) ?_))
      · repeat (first | ((with_reducible refine heap_new' _ ?_); ((try simp only [sz_alloc, sz_drew, hs1, Array.length_toList]) <;> omega)) | (with_reducible refine heap_up _ ?_) | (with_reducible refine heap_drew ?_) | (with_reducible refine heap_below hbel (by ((try simp only [sz_alloc, sz_drew, hs1, Array.length_toList]) <;> omega)) ?_))
      · repeat (first | exact hps | refine Ps.alloc ?_ _)
  case rest =>
    obtain ⟨g, rfl, hb2, ρ, hW, hρ⟩ := hcut
    clear hmk1 hmk2 hmk3 hc
    have hgc := heap_below hb2 (by omega) hg
    have k0 : wc.cell? ⟨H, 0, none⟩ = some (.slice (some ⟨tb, 0, none⟩) n n) := by rw [cell_of_row wc H 0 _ 39 (0, 0) hgc]; rfl
    have k1 : wc.cell? ⟨H, 1, none⟩ = some (.slice (some ⟨eb, 0, none⟩) m m) := by rw [cell_of_row wc H 1 _ 39 (0, 0) hgc]; rfl
    have hmm := makeMap69 n wc
    have k0' := cell_alloc (.map #[] 0) k0
    have htl := ht.lt
    have hel := he.lt
    rw [HH.out] at htl hel
    have htc : IntRow wc tb n (fun i => 3 * i - 5) := ht.of_block ((hb2.block tb (by omega)).trans (hb1.block tb htl))
    have hec : PairRow wc eb m m (fun i => 3 * F i - 5) (fun i => 3 * T i - 5) := he.of_block ((hb2.block eb (by omega)).trans (hb1.block eb hel))
    have hbc : Below H w wc := hb1.trans (hb2.mono (by omega))

    go_wp2
    have hW2 := hW.alloc (.map #[] 0)
    have hm2 : ∃ c, MapIs (wc.alloc (.map #[] 0)) wc.heap.size encI (mapOf 0) c := ⟨0, (mapIs_made wc encI).congr (fun t => (mapOf_zero t).symm)⟩
    have hb3 : Below wc.heap.size wc (wc.alloc (.map #[] 0)) := (Below.refl _ _).alloc (Nat.le_refl _) _
    have hr0 := hρ wc.heap.size (Nat.le_refl _)
    have hHm : H + 1 ≤ wc.heap.size := by have := hb2.size; omega
    obtain ⟨mb, hmb⟩ : ∃ mb, wc.heap.size = mb := ⟨_, rfl⟩
    rw [hmb] at hm2 hb3 hr0 hHm
    rw [hmb]
    generalize wc.alloc (.map #[] 0) = wd at hW2 hm2 hb3 ⊢
    clear hmm k0' hρ hg hb1 hb2 hs1 ht he hgc
    have HM : Hid (wc.heap.size = mb) := hmb
    clear hmb
    go_loopw [40] (fun s wr => ∃ k : Nat, k ≤ n ∧ s = .int .i64 k ∧ Wk wr (H + 1) n (.slice (some ⟨tb, 0, none⟩) n n) g (fun _ _ => 0) (fun _ => .slice none 0 0) (fun _ => []) (fun _ => 0) [] ρ ∧ (∃ c, MapIs wr mb encI (mapOf k) c) ∧ Below mb wc wr) (fun s _ => n - (intOf s).toNat)
    case atStart => exact ⟨0, Nat.zero_le _, rfl, hW2, hm2, hb3⟩
    case round =>
      clear hW2 hm2 hb3
      obtain ⟨k, hk, rfl, hW2, hm2, hb3⟩ := hrel
      by_cases hlt : k < n
      · have c0 : wr.cell? ⟨tb, k, none⟩ = some (.int .i64 (3 * (k : Int) - 5)) := cell_below hb3 (by simp; omega) (htc.cell hlt)
        have l0 : (0 : Int) ≤ (k : Int) := by omega
        have l1 : (k : Int) < (n : Int) := by omega
        go_wp2_with (first
          | (at_mapUpdate; refine wpList_update_ex _ rfl _ _ _ 69 rfl (keyI Try.underlying3) Try.underlying69 rfl hm2 (3 * (k : Int) - 5) rfl _ rfl ?_; intro w2 hm4 hg4 hs4; clear hs4))
        go_roundw
        case rel => 
          refine ⟨k + 1, by omega, by go_num, hW2.over (fun b hb hne => hg4.block b hb (fun e => by cases e; exact hne hr0)), ?_, hb3.grown hg4 ?_ (fun q hq => by cases hq; exact Nat.le_refl _)⟩
          · obtain ⟨c, hm4⟩ := hm4
            exact ⟨c, hm4.congr (fun t => mapOf_step k t)⟩
          · obtain ⟨c, hm2⟩ := hm2
            have := hm2.lt
            omega
        case measure => simp [intOf]; omega
      · have e : k = n := by omega
        subst e
        have k3 : wr.cell? ⟨H, 1, none⟩ = some (.slice (some ⟨eb, 0, none⟩) m m) := cell_below hb3 (by simp; omega) k1
        have hmlt : mb < wr.heap.size := by obtain ⟨c, hm2⟩ := hm2; exact hm2.lt
        go_wp2
        go_loopw [52] (fun s wr => ∃ (q : Nat) (sv : Nat → Value) (ρ' : Nat → Nat), q ≤ m ∧ s = .int .i64 q ∧ Wk wr (H + 1) k (.slice (some ⟨tb, 0, none⟩) k k) g (fun _ _ => 0) sv (sucOf F T q) (fun t => ((waitOf T q t : Nat) : Int)) [] ρ' ∧ (∃ c, MapIs wr mb encI (mapOf k) c) ∧ Below H w wr ∧ wr.heap[eb]? = wc.heap[eb]? ∧ ρ' mb = 0) (fun s _ => m - (intOf s).toNat)
        case atStart => exact ⟨0, _, ρ, Nat.zero_le _, rfl, hW2, hm2, hbc.trans (hb3.mono (by omega)), hb3.block eb (by omega), hr0⟩
        case round =>
          clear hW2 hm2
          obtain ⟨q, sv, ρ', hq, rfl, hW5, hm5, hb5, heb5, hr5⟩ := hrel
          by_cases hqm : q < m
          · obtain ⟨e0, e1⟩ := (hec.of_block heb5).cells hqm
            obtain ⟨f0, f1⟩ := hF q hqm
            have l0 : (0 : Int) ≤ (q : Int) := by omega
            have l1 : (q : Int) < (m : Int) := by omega
            go_upto_region 11 with fail
            have hW6 := (hW5.alloc (.cells #[.int .i64 (3 * (F q : Nat) - 5), .int .i64 (3 * (T q : Nat) - 5)] 49)).drew
            have hm6 : ∃ c, MapIs (wr.alloc (.cells #[.int .i64 (3 * (F q : Nat) - 5), .int .i64 (3 * (T q : Nat) - 5)] 49)).drew mb encI (mapOf k) c := by obtain ⟨c, h⟩ := hm5; exact ⟨c, (h.alloc _).of_block rfl⟩
            have a1 := look69 hm6 f0
            have a2 := look69 hm6 f1
            have hHr : H ≤ wr.heap.size := by have := hb5.size; have := HH.out; omega
            have helr : eb < wr.heap.size := (hec.of_block heb5).lt
            have hmr : mb < wr.heap.size := by obtain ⟨c, h⟩ := hm5; exact h.lt
            have hb6 : Below H w (wr.alloc (.cells #[.int .i64 (3 * (F q : Nat) - 5), .int .i64 (3 * (T q : Nat) - 5)] 49)).drew := (hb5.alloc hHr _).drew
            have heb6 : (wr.alloc (.cells #[.int .i64 (3 * (F q : Nat) - 5), .int .i64 (3 * (T q : Nat) - 5)] 49)).drew.heap[eb]? = wc.heap[eb]? := (heap_alloc_old _ _ helr).trans heb5
            have hsz6 : wr.heap.size < (wr.alloc (.cells #[.int .i64 (3 * (F q : Nat) - 5), .int .i64 (3 * (T q : Nat) - 5)] 49)).drew.heap.size := by rw [sz_drew, sz_alloc]; omega
            go_cut [9, 10] from 56 to 63 (fun s9 s10 wx => s9 = .int .i64 (F q : Nat) ∧ s10 = .int .i64 (T q : Nat) ∧ wx = (wr.alloc (.cells #[.int .i64 (3 * (F q : Nat) - 5), .int .i64 (3 * (T q : Nat) - 5)] 49)).drew)
            case first =>
              go_region_held3 (fun w' => w' = (wr.alloc (.cells #[.int .i64 (3 * (F q : Nat) - 5), .int .i64 (3 * (T q : Nat) - 5)] 49)).drew) (rfl) (fail)
              all_goals (go_wp2_with fail; go_meet; exact ⟨rfl, rfl, rfl⟩)
            case rest =>
              obtain ⟨rfl, rfl, rfl⟩ := hcut
              clear a1 a2
              generalize (wr.alloc (.cells #[.int .i64 (3 * (F q : Nat) - 5), .int .i64 (3 * (T q : Nat) - 5)] 49)).drew = w6 at hW6 hm6 hb6 heb6 hsz6 ⊢
              have hcs := hW6.cells
              obtain ⟨p1, p2, p3, p4, p5⟩ := hcs
              have s1 := hW6.succ.cell f0
              have s2 := hW6.succ.free (F q)
              have hown := hW6.srow (F q) f0
              have hlen := sucOf_len F T (F q) q
              have hsu : (sv (F q)).ownBlock ≠ some g.sb := fun e => by have := hW6.rsu _ f0 _ e; rw [hW6.rsb] at this; omega
              have hsw : (sv (F q)).ownBlock ≠ some g.wb := fun e => by have := hW6.rsu _ f0 _ e; rw [hW6.rwb] at this; omega
              generalize hv : sv (F q) = v at s1 hown hsu hsw
              generalize hsl : sucOf F T q (F q) = sl at hown hlen
              have q1 := cell_alloc (.cells #[.int .i64 (T q : Nat)] 3) p1
              have q2 := cell_alloc (.cells #[.int .i64 (T q : Nat)] 3) s1
              have l2 : (0 : Int) ≤ (F q : Int) := by omega
              have l3 : (F q : Int) < (k : Int) := by omega
              go_upto_region 12 with fail
              go_cut [9] from 64 to 79 (fun s9 wx => s9 = .int .i64 (F q : Nat) ∧ ∃ sv7 ρ7, Wk wx (H + 1) k (.slice (some ⟨tb, 0, none⟩) k k) g (fun _ _ => 0) sv7 (sucOf F T (q + 1)) (fun t => ((waitOf T q t : Nat) : Int)) [] ρ7 ∧ (∃ c, MapIs wx mb encI (mapOf k) c) ∧ Below H w wx ∧ wx.heap[eb]? = wc.heap[eb]? ∧ ρ7 mb = 0)
              case first =>
                go_region_law
                  ((refine step_append_lies _ (by rfl) _ _ 22 (by rfl) (H + 1) 3 i3 _ 1 8 Try.underlying22 hi3 hz30 hz31 hz32 rfl (by omega) v sl.length (sl.map encN) (by rfl) (ownsRow_drew (hown.alloc _)) ⟨w6.heap.size, 0, none⟩ 1 1 [encN (T q)] (by rfl) (by rfl) (World.news_of_block (cs := #[.int .i64 (T q : Nat)]) (t := 3) (fr := (0, 0)) (heap_alloc_new _ _)) (by simp [encN, Value.oneCell']) (by omega) (by unfold maxLen; omega) (by omega) (by simp; omega) _ rfl ?_; intro gg cp w4 hown4 hg4 hat4 hlt4; have r1 := hg4.cell (cell_alloc (.cells #[.int .i64 (T q : Nat)] 3) p1) (fun e => hsw e.symm); have r2 := hg4.cell (cell_alloc (.cells #[.int .i64 (T q : Nat)] 3) s1) (fun e => hsu e.symm); have r3 := (hg4.frozen_far ⟨g.sb, F q, none⟩ (World.block_lt_of_cell? _ _ (cell_alloc (.cells #[.int .i64 (T q : Nat)] 3) s1)) (fun e => hsu e.symm)).trans ((hW6.alloc (.cells #[.int .i64 (T q : Nat)] 3)).succ.free (F q))))
                all_goals
                  go_wp2_with fail
                  go_meet
                  have hat5 : (sv (F q)).ownBlock = some gg ∨ gg = (w6.alloc (.cells #[.int .i64 (T q : Nat)] 3)).drew.heap.size := by rw [hv]; exact hat4
                  obtain ⟨sv7, ρ7, hW7, hρ7⟩ := (hW6.alloc (.cells #[.int .i64 (T q : Nat)] 3)).drew.succ1 (x := T q) f0 (by rw [hv]; exact hg4) hat5 (by rw [hsl]; exact hown4)
                  rw [sucOf_step, hsl] at hW7
                  have hk : ∀ b, b < w6.heap.size → b ≠ g.sb → v.ownBlock ≠ some b → (w4.setCell ⟨g.sb, F q, none⟩ (.slice (some ⟨gg, 0, none⟩) (sl.length + 1) cp)).heap[b]? = w6.heap[b]? := fun b hb h1 h2 => (Below.heap_setCell _ _ _ _ h1).trans ((hg4.block b (by rw [sz_drew, sz_alloc]; omega) (fun e => h2 e.symm)).trans (heap_alloc_old w6 _ hb))
                  have hmb6 : mb ≠ g.sb ∧ v.ownBlock ≠ some mb := ⟨fun e => by have := hW6.rsb; rw [← e, hr5] at this; omega, fun e => by have := hW6.rsu _ f0 mb (by rw [hv]; exact e); rw [hr5] at this; omega⟩
                  have heb7 : eb ≠ g.sb ∧ v.ownBlock ≠ some eb := ⟨fun e => by have := hW6.bsb; omega, fun e => by have := (hown.lt eb e).1; omega⟩
                  refine ⟨rfl, sv7, ρ7, hW7, ?_, ?_, (hk eb (by omega) heb7.1 heb7.2).trans heb6, (hρ7 mb (by rw [sz_drew, sz_alloc]; omega)).trans hr5⟩
                  · obtain ⟨c, h⟩ := hm6
                    exact ⟨c, h.of_block (hk mb h.lt hmb6.1 hmb6.2)⟩
                  · exact (((hb6.alloc (by omega) _).drew.grown hg4 (by rw [sz_drew, sz_alloc]; omega) (fun b hb => by have := (hown.lt b hb).1; omega)).setCell (by have := hW6.bsb; show H ≤ g.sb; omega) _)
              case rest =>
                obtain ⟨rfl, sv7, ρ7, hW7, hm7, hb7, heb7, hr7⟩ := hcut
                obtain ⟨p1, p2, p3, p4, p5⟩ := hW7.cells
                have s1 := hW7.wait.cell f1
                have s2 := hW7.wait.free (T q)
                have hwl := waitOf_le T (T q) q
                have l4 : (0 : Int) ≤ (T q : Int) := by omega
                have l5 : (T q : Int) < (k : Int) := by omega
                have l6 : IntKind.i64.wrap ((waitOf T q (T q) : Int) + 1) = (waitOf T q (T q) : Int) + 1 := by rw [IntKind.wrap_i64]; omega
                have hW8 := hW7.setWait f1 ((waitOf T q (T q) : Int) + 1)
                rw [waitOf_step] at hW8
                go_wp2
                go_roundw
                case rel =>
                  refine ⟨q + 1, sv7, ρ7, by omega, by go_num, hW8, ?_, hb7.setCell (by have := hW7.bwt; show H ≤ g.wt; omega) _, ?_, hr7⟩
                  · obtain ⟨c, h⟩ := hm7
                    exact ⟨c, h.of_block (Below.heap_setCell _ _ _ _ (fun e => by have := hW7.rwt; simp at e; rw [← e, hr7] at this; omega))⟩
                  · exact (Below.heap_setCell _ _ _ _ (by have := hW7.bwt; show eb ≠ g.wt; omega)).trans heb7
                case measure => simp [intOf]; omega
          · have e : q = m := by omega
            subst e
            obtain ⟨p1, p2, p3, p4, p5⟩ := hW5.cells
            clear hec htc hm5
            go_wp2
            go_loopw [95] (fun s wx => ∃ (i : Nat) (V : Nat → Nat → Nat), i ≤ k ∧ s = .int .i64 i ∧ Wk wx (H + 1) k (.slice (some ⟨tb, 0, none⟩) k k) g V sv (sucOf F T q) (fun t => ((waitOf T q t : Nat) : Int)) [] ρ' ∧ (∀ p, bit (V 0) p = (decide (p < i) && decide (waitOf T q p = 0))) ∧ Below H w wx) (fun s _ => k - (intOf s).toNat)
            case atStart => exact ⟨0, _, Nat.zero_le _, rfl, hW5, fun p => by rw [bit_zero]; simp, hb5⟩
            case round =>
              clear hW5 p1 p2 p3 p4 p5
              obtain ⟨i, V, hi, rfl, hW9, hbit, hb9⟩ := hrel
              obtain ⟨p1, p2, p3, p4, p5⟩ := hW9.cells
              by_cases hik : i < k
              · have s1 := hW9.wait.cell hik
                have hps := hW9.set
                have hL := hps.pos
                have l0 : (0 : Int) ≤ (i : Int) := by omega
                have l1 : (i : Int) < (k : Int) := by omega
                by_cases hz : waitOf T q i = 0
                · have hz' : ((waitOf T q i : Nat) : Int) = 0 := by omega
                  rw [hz'] at s1
                  have HZ : Hid (waitOf T q i = 0) := hz
                  clear hz hz'
                  go_wp2_with (go_at_call 37; refine (add37 k g.ps g.lv g.L g.cap i g.lb V _ hps hik hn).mono ?_; rintro e w' ⟨rfl, hps', hon⟩)
                  go_roundw
                  case rel =>
                    refine ⟨i + 1, _, by omega, by go_num, hW9.turned hps' hon, fun p => ?_, ?_⟩
                    · rw [addV_zero _ _ _ hL, bit_add0, hbit]
                      by_cases e : p = i
                      · subst e
                        simp [HZ.out]
                      · have : (p < i + 1) = (p < i) := by apply propext; omega
                        simp [e, this]
                    · exact hb9.trans ⟨hon.os, hon.tape, hon.output, by rw [hon.size]; exact Nat.le_refl _, fun b hb => hon.block b (fun ⟨d, hd, e⟩ => by have := hW9.blb d hd; omega)⟩
                  case measure => simp [intOf]; omega
                · have hz' : (((waitOf T q i : Nat) : Int) == 0) = false := by simp; omega
                  go_wp2
                  go_roundw
                  case rel =>
                    refine ⟨i + 1, V, by omega, by go_num, hW9, fun p => ?_, hb9⟩
                    rw [hbit]
                    by_cases e : p = i
                    · subst e
                      simp [hz]
                    · have : (p < i + 1) = (p < i) := by apply propext; omega
                      simp [this]
                  case measure => simp [intOf]; omega
              · have e : i = k := by omega
                subst e
                go_wp2
                go_ret
                exact ⟨g, V, sv, ρ', rfl, hb9, hW9, hbit⟩
end Go.Proofs.Qxb6000427a
