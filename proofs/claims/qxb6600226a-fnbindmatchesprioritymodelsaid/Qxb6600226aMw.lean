/-
  Own work: the walk of zzModelBind.
-/
import Derived.Test.Qxb6600226aMo
namespace Go.Proofs.Qxb6600226a
open Go.RowKit

/-- the state of the model behind the first i arguments -/
def MRel (w wr : World) (x : In) (i : Nat) (s1 s2 s3 : Value) : Prop := Three w wr s1 s2 s3 ((x.vals i).map Prod.fst) ((x.vals i).map Prod.snd) (x.miss i)

theorem MRel.some {w wr : World} {x : In} {i : Nat} {s1 s2 s3 : Value} {v : ByteArray} (h : Three w wr s1 s2 s3 ((x.vals i).map Prod.fst ++ [x.nm i]) ((x.vals i).map Prod.snd ++ [v]) (x.miss i)) (hr : x.res i = some v) : MRel w wr x (i + 1) s1 s2 s3 := by
  unfold MRel
  rw [(In.vals_some hr).1, (In.vals_some hr).2]
  simpa using h
theorem MRel.none {w wr : World} {x : In} {i : Nat} {s1 s2 s3 : Value} (h : Three w wr s1 s2 s3 ((x.vals i).map Prod.fst) ((x.vals i).map Prod.snd) (x.miss i ++ [x.nm i])) (hr : x.res i = none) : MRel w wr x (i + 1) s1 s2 s3 := by
  unfold MRel
  rw [(In.vals_none hr).1, (In.vals_none hr).2]
  exact h

set_option maxRecDepth 100000 in
set_option maxHeartbeats 8000000 in
theorem model20 (a0 a1 a2 a3 a4 a5 : Option Addr) (n D E W M4 M5 c0 c1 c2 c3 c4 c5 : Nat) (nm df wd on ov : Nat → ByteArray) (hd : Nat → Bool) (w : World) (hn : n ≤ 4096)
    (g0 : ArgS w a0 n nm) (g1 : ArgS w a1 D df) (g2 : ArgB w a2 E hd) (g3 : ArgS w a3 W wd) (g4 : ArgS w a4 M4 on) (g5 : ArgS w a5 M5 ov) (x : In) (hx : x = ⟨n, nm, dfOf D df, hdOf E hd, W, wd, min M4 M5, on, ov⟩) (hM : M4 ≤ 65536) :
    Calls Try.prog 20 #[.slice a0 n c0, .slice a1 D c1, .slice a2 E c2, .slice a3 W c3, .slice a4 M4 c4, .slice a5 M5 c5] w fun e w' => ∃ v1 v2 v3, e = .returned (.tuple #[v1, v2, v3]) ∧ MRel w w' x n v1 v2 v3 := by
  obtain ⟨i9, hi9, h90, h91, h92⟩ := info_parts Try.inf9
  have hT0 : MRel w w x 0 (.slice none 0 0) (.slice none 0 0) (.slice none 0 0) := ⟨World.ownsRow_nil _ _ _ _, World.ownsRow_nil _ _ _ _, World.ownsRow_nil _ _ _ _, fun b hb => by simp [Value.ownBlock] at hb, fun b hb => by simp [Value.ownBlock] at hb, fun b hb => by simp [Value.ownBlock] at hb, Below.refl _ _⟩
  have hc := count34 a4 a5 M4 M5 c4 c5 w
  have hN4 : min M4 M5 ≤ M4 := Nat.min_le_left _ _
  have hN5 : min M4 M5 ≤ M5 := Nat.min_le_right _ _
  generalize min M4 M5 = N at hc hN4 hN5 hx
  have q1 : x.nm = nm := by rw [hx]
  have q2 : x.df = dfOf D df := by rw [hx]
  have q3 : x.hd = hdOf E hd := by rw [hx]
  have q4 : x.W = W := by rw [hx]
  have q5 : x.wd = wd := by rw [hx]
  have q6 : x.N = N := by rw [hx]
  have q7 : x.on = on := by rw [hx]
  have q8 : x.ov = ov := by rw [hx]
  clear hx
  subst q1 q4 q5 q6 q7 q8
  have HD : Hid (x.df = dfOf D df) := q2
  have HE : Hid (x.hd = hdOf E hd) := q3
  clear q2 q3
  go_enter Try.func20, Try.ntmps20
  go_wp2_with (go_at_call 34; refine hc.mono ?_; rintro e w' ⟨rfl, rfl⟩)
  clear hc
  go_loopw [12, 13, 14, 16] (fun s1 s2 s3 s wr => ∃ i : Nat, i ≤ n ∧ s = .int .i64 i ∧ MRel w wr x i s1 s2 s3) (fun _ _ _ s _ => n - (intOf s).toNat)
  case atStart => exact ⟨0, Nat.zero_le _, rfl, hT0⟩
  case round =>
    clear hT0
    obtain ⟨i, hi, rfl, hT⟩ := hrel
    by_cases hlt : i < n
    · have hlen := x.len i
      have HS : Hid (∀ wr s1 s2 s3 v, Three w wr s1 s2 s3 ((x.vals i).map Prod.fst ++ [x.nm i]) ((x.vals i).map Prod.snd ++ [v]) (x.miss i) → x.res i = some v → MRel w wr x (i + 1) s1 s2 s3) := fun _ _ _ _ _ h hr => MRel.some h hr
      have HNn : Hid (∀ wr s1 s2 s3, Three w wr s1 s2 s3 ((x.vals i).map Prod.fst) ((x.vals i).map Prod.snd) (x.miss i ++ [x.nm i]) → x.res i = none → MRel w wr x (i + 1) s1 s2 s3) := fun _ _ _ _ h hr => MRel.none h hr
      have hlA : ((x.vals i).map Prod.fst).length ≤ 4096 := by simp; omega
      have hlB : ((x.vals i).map Prod.snd).length ≤ 4096 := by simp; omega
      have hlC : (x.miss i).length ≤ 4096 := by omega
      unfold MRel at hT
      generalize (x.vals i).map Prod.fst = A at hT HS HNn hlA
      generalize (x.vals i).map Prod.snd = B at hT HS HNn hlB
      generalize x.miss i = M at hT HS HNn hlC
      clear hlen
      obtain ⟨b0, o0, rfl, s0, t0, _⟩ := g0 i hlt
      replace s0 := (hT.below.cell (p := ⟨b0, o0 + i, none⟩) t0).trans s0
      have l0 : (0 : Int) ≤ (i : Int) := by omega
      have l1 : (i : Int) < (n : Int) := by omega
      by_cases hiW : i < x.W
      · have HR : Hid (x.res i = some (x.wd i)) := In.res_word hiW
        obtain ⟨b1, o1, rfl, s1, t1, _⟩ := g3 i hiW
        have m1 : (i : Int) < (x.W : Int) := by omega
        have Hs1 : Hid (∀ wx, Below w.heap.size w wx → wx.cell? ⟨b1, o1 + i, none⟩ = some (.string (x.wd i))) := fun wx hb => (hb.cell (p := ⟨b1, o1 + i, none⟩) t1).trans s1
        clear s1
        go_upto_region 8 with (first
                | (at_builtin; refine wpList_append_lies _ rfl _ _ 25 rfl w.heap.size 9 i9 _ 1 16 Try.underlying25 hi9 h90 h91 h92 rfl (by omega) u12 A.length (strs A) rfl (hT.own1.alloc _) ⟨_, 0, none⟩ 1 1 [.string (x.nm i)] rfl rfl (World.news_of_block (cs := #[.string (x.nm i)]) (t := 9) (fr := (0, 0)) (heap_alloc_new _ _)) (by simp [Value.oneCell']) (by omega) (by unfold maxLen; omega) (by omega) (by have := hT.below.size; rw [sz_alloc]; omega) _ rfl ?_; intro gg1 cp1 w1 hown4 hg4 hat4 hlt4; replace hT := (hT.alloc _).app1 hg4 hat4 hown4; clear hown4 hg4 hat4 hlt4))
        have s1 := Hs1.out _ hT.below
        go_wp2_with (first
                | (at_builtin; refine wpList_append_lies _ rfl _ _ 25 rfl w.heap.size 9 i9 _ 1 16 Try.underlying25 hi9 h90 h91 h92 rfl (by omega) u13 B.length (strs B) rfl (hT.own2.alloc _) ⟨_, 0, none⟩ 1 1 [.string (x.wd i)] rfl rfl (World.news_of_block (cs := #[.string (x.wd i)]) (t := 9) (fr := (0, 0)) (heap_alloc_new _ _)) (by simp [Value.oneCell']) (by omega) (by unfold maxLen; omega) (by omega) (by have := hT.below.size; rw [sz_alloc]; omega) _ rfl ?_; intro gg2 cp2 w2 hown4 hg4 hat4 hlt4; replace hT := (hT.alloc _).app2 hg4 hat4 hown4; clear hown4 hg4 hat4 hlt4))
        go_roundw
        case rel => exact ⟨i + 1, by omega, by go_num, HS.out _ _ _ _ _ hT HR.out⟩
        case measure => simp [intOf]; omega
      · have m1 : ¬ (i : Int) < (x.W : Int) := by omega
        go_upto_block 2 with fail
        go_cut [12, 13, 18, 19] from 51 to 71 (fun s12 s13 s18 s19 wx => (s18 = .bool false ∧ Three w wx s12 s13 u14 A B M ∧ Hid (lastOv x.on x.ov (x.nm i) x.N = none)) ∨ (s18 = .bool true ∧ ∃ v, Three w wx s12 s13 u14 (A ++ [x.nm i]) (B ++ [v]) M ∧ Hid (lastOv x.on x.ov (x.nm i) x.N = some v)))
        case first =>
          go_wp2_with fail
          go_loop [12, 13, 18, 19] (fun s12 s13 s18 s19 => Three w wr s12 s13 u14 A B M ∧ s18 = .bool false ∧ ∃ (k : Nat) (j : Int), k ≤ x.N ∧ s19 = .int .i64 j ∧ j = (k : Int) - 1 ∧ Hid (lastOv x.on x.ov (x.nm i) x.N = lastOv x.on x.ov (x.nm i) k)) (fun _ _ _ s19 => (intOf s19 + 1).toNat)
          case atStart => exact ⟨hT, rfl, x.N, _, Nat.le_refl _, rfl, rfl, rfl⟩
          case round =>
            clear hT
            obtain ⟨hT, rfl, k, j, hk, rfl, hj, HL⟩ := hrel
            rcases k with _ | k
            · obtain rfl : j = -1 := by omega
              clear hj
              go_wp2
              go_meet
              exact .inl ⟨rfl, hT, HL⟩
            · obtain rfl : j = (k : Int) := by omega
              clear hj
              obtain ⟨b4, o4, rfl, s4, t4, _⟩ := g4 k (by omega)
              replace s4 := (hT.below.cell (p := ⟨b4, o4 + k, none⟩) t4).trans s4
              have k0 : (0 : Int) ≤ (k : Int) := by omega
              have k1 : (k : Int) < (M4 : Int) := by omega
              by_cases he : x.on k = x.nm i
              · rw [he] at s4
                have HV : Hid (lastOv x.on x.ov (x.nm i) x.N = some (x.ov k)) := HL.out.trans (lastOv_hit he)
                clear he HL
                obtain ⟨b5, o5, rfl, s5, t5, _⟩ := g5 k (by omega)
                have k2 : (k : Int) < (M5 : Int) := by omega
                have Hs5 : Hid (∀ wx, Below w.heap.size w wx → wx.cell? ⟨b5, o5 + k, none⟩ = some (.string (x.ov k))) := fun wx hb => (hb.cell (p := ⟨b5, o5 + k, none⟩) t5).trans s5
                clear s5
                go_upto_region 15 with (first
                | (at_builtin; refine wpList_append_lies _ rfl _ _ 25 rfl w.heap.size 9 i9 _ 1 16 Try.underlying25 hi9 h90 h91 h92 rfl (by omega) _ A.length (strs A) rfl (hT.own1.alloc _) ⟨_, 0, none⟩ 1 1 [.string (x.nm i)] rfl rfl (World.news_of_block (cs := #[.string (x.nm i)]) (t := 9) (fr := (0, 0)) (heap_alloc_new _ _)) (by simp [Value.oneCell']) (by omega) (by unfold maxLen; omega) (by omega) (by have := hT.below.size; rw [sz_alloc]; omega) _ rfl ?_; intro gg1 cp1 w1 hown4 hg4 hat4 hlt4; replace hT := (hT.alloc _).app1 hg4 hat4 hown4; clear hown4 hg4 hat4 hlt4))
                have s5 := Hs5.out _ hT.below
                go_wp2_with (first
                | (at_builtin; refine wpList_append_lies _ rfl _ _ 25 rfl w.heap.size 9 i9 _ 1 16 Try.underlying25 hi9 h90 h91 h92 rfl (by omega) _ B.length (strs B) rfl (hT.own2.alloc _) ⟨_, 0, none⟩ 1 1 [.string (x.ov k)] rfl rfl (World.news_of_block (cs := #[.string (x.ov k)]) (t := 9) (fr := (0, 0)) (heap_alloc_new _ _)) (by simp [Value.oneCell']) (by omega) (by unfold maxLen; omega) (by omega) (by have := hT.below.size; rw [sz_alloc]; omega) _ rfl ?_; intro gg2 cp2 w2 hown4 hg4 hat4 hlt4; replace hT := (hT.alloc _).app2 hg4 hat4 hown4; clear hown4 hg4 hat4 hlt4))
                go_meet
                exact .inr ⟨rfl, _, hT, HV⟩
              · have HV : Hid (lastOv x.on x.ov (x.nm i) x.N = lastOv x.on x.ov (x.nm i) k) := HL.out.trans (lastOv_skip he)
                have hq := ne_bytes he
                clear HL
                go_wp2
                go_round
                case rel => exact ⟨hT, rfl, k, _, by omega, rfl, rfl, HV⟩
                case measure => simp [intOf]
        case rest =>
          clear hT
          rcases hcut with ⟨rfl, hT, HV⟩ | ⟨rfl, v, hT, HV⟩
          · have HRD := In.res_default hiW HV.out
            rw [HD.out, HE.out] at HRD
            by_cases hE : i < E
            · obtain ⟨b2, o2, rfl, s2, t2⟩ := g2 i hE
              replace s2 := (hT.below.cell (p := ⟨b2, o2 + i, none⟩) t2).trans s2
              have m2 : (i : Int) < (E : Int) := by omega
              have e2 : hdOf E hd i = hd i := if_pos hE
              rw [e2] at HRD
              clear e2 HV
              cases hb : hd i with
              | true =>
                rw [hb] at s2 HRD
                clear hb
                by_cases hD : i < D
                · obtain ⟨b3, o3, rfl, s3, t3, _⟩ := g1 i hD
                  replace s3 := (hT.below.cell (p := ⟨b3, o3 + i, none⟩) t3).trans s3
                  have m3 : (i : Int) < (D : Int) := by omega
                  have e3 : dfOf D df i = df i := if_pos hD
                  rw [e3] at HRD
                  have HR : Hid (x.res i = some (df i)) := HRD
                  clear e3 HRD
                  go_wp2_with (first
                | (at_builtin; refine wpList_append_lies _ rfl _ _ 25 rfl w.heap.size 9 i9 _ 1 16 Try.underlying25 hi9 h90 h91 h92 rfl (by omega) _ A.length (strs A) rfl (hT.own1.alloc _) ⟨_, 0, none⟩ 1 1 [.string (x.nm i)] rfl rfl (World.news_of_block (cs := #[.string (x.nm i)]) (t := 9) (fr := (0, 0)) (heap_alloc_new _ _)) (by simp [Value.oneCell']) (by omega) (by unfold maxLen; omega) (by omega) (by have := hT.below.size; rw [sz_alloc]; omega) _ rfl ?_; intro gg1 cp1 w1 hown4 hg4 hat4 hlt4; replace hT := (hT.alloc _).app1 hg4 hat4 hown4; clear hown4 hg4 hat4 hlt4)
                | (at_builtin; refine wpList_append_lies _ rfl _ _ 25 rfl w.heap.size 9 i9 _ 1 16 Try.underlying25 hi9 h90 h91 h92 rfl (by omega) _ B.length (strs B) rfl (hT.own2.alloc _) ⟨_, 0, none⟩ 1 1 [.string (df i)] rfl rfl (World.news_of_block (cs := #[.string (df i)]) (t := 9) (fr := (0, 0)) (heap_alloc_new _ _)) (by simp [Value.oneCell']) (by omega) (by unfold maxLen; omega) (by omega) (by have := hT.below.size; rw [sz_alloc]; omega) _ rfl ?_; intro gg2 cp2 w2 hown4 hg4 hat4 hlt4; replace hT := (hT.alloc _).app2 hg4 hat4 hown4; clear hown4 hg4 hat4 hlt4))
                  go_roundw
                  case rel => exact ⟨i + 1, by omega, by go_num, HS.out _ _ _ _ _ hT HR.out⟩
                  case measure => simp [intOf]; omega
                · have m3 : ¬ (i : Int) < (D : Int) := by omega
                  have e3 : dfOf D df i = ⟨#[]⟩ := if_neg hD
                  rw [e3] at HRD
                  have HR : Hid (x.res i = some ⟨#[]⟩) := HRD
                  clear e3 HRD
                  go_wp2_with (first
                | (at_builtin; refine wpList_append_lies _ rfl _ _ 25 rfl w.heap.size 9 i9 _ 1 16 Try.underlying25 hi9 h90 h91 h92 rfl (by omega) _ A.length (strs A) rfl (hT.own1.alloc _) ⟨_, 0, none⟩ 1 1 [.string (x.nm i)] rfl rfl (World.news_of_block (cs := #[.string (x.nm i)]) (t := 9) (fr := (0, 0)) (heap_alloc_new _ _)) (by simp [Value.oneCell']) (by omega) (by unfold maxLen; omega) (by omega) (by have := hT.below.size; rw [sz_alloc]; omega) _ rfl ?_; intro gg1 cp1 w1 hown4 hg4 hat4 hlt4; replace hT := (hT.alloc _).app1 hg4 hat4 hown4; clear hown4 hg4 hat4 hlt4)
                | (at_builtin; refine wpList_append_lies _ rfl _ _ 25 rfl w.heap.size 9 i9 _ 1 16 Try.underlying25 hi9 h90 h91 h92 rfl (by omega) _ B.length (strs B) rfl (hT.own2.alloc _) ⟨_, 0, none⟩ 1 1 [.string ⟨#[]⟩] rfl rfl (World.news_of_block (cs := #[.string ⟨#[]⟩]) (t := 9) (fr := (0, 0)) (heap_alloc_new _ _)) (by simp [Value.oneCell']) (by omega) (by unfold maxLen; omega) (by omega) (by have := hT.below.size; rw [sz_alloc]; omega) _ rfl ?_; intro gg2 cp2 w2 hown4 hg4 hat4 hlt4; replace hT := (hT.alloc _).app2 hg4 hat4 hown4; clear hown4 hg4 hat4 hlt4))
                  go_roundw
                  case rel => exact ⟨i + 1, by omega, by go_num, HS.out _ _ _ _ _ hT HR.out⟩
                  case measure => simp [intOf]; omega
              | false =>
                rw [hb] at s2 HRD
                have HR : Hid (x.res i = none) := HRD
                clear hb HRD
                go_wp2_with (first
                | (at_builtin; refine wpList_append_lies _ rfl _ _ 25 rfl w.heap.size 9 i9 _ 1 16 Try.underlying25 hi9 h90 h91 h92 rfl (by omega) _ M.length (strs M) rfl (hT.own3.alloc _) ⟨_, 0, none⟩ 1 1 [.string (x.nm i)] rfl rfl (World.news_of_block (cs := #[.string (x.nm i)]) (t := 9) (fr := (0, 0)) (heap_alloc_new _ _)) (by simp [Value.oneCell']) (by omega) (by unfold maxLen; omega) (by omega) (by have := hT.below.size; rw [sz_alloc]; omega) _ rfl ?_; intro gg3 cp3 w3 hown4 hg4 hat4 hlt4; replace hT := (hT.alloc _).app3 hg4 hat4 hown4; clear hown4 hg4 hat4 hlt4))
                go_roundw
                case rel => exact ⟨i + 1, by omega, by go_num, HNn.out _ _ _ _ hT HR.out⟩
                case measure => simp [intOf]; omega
            · have m2 : ¬ (i : Int) < (E : Int) := by omega
              have e2 : hdOf E hd i = false := if_neg hE
              rw [e2] at HRD
              have HR : Hid (x.res i = none) := HRD
              clear e2 HRD HV
              go_wp2_with (first
                | (at_builtin; refine wpList_append_lies _ rfl _ _ 25 rfl w.heap.size 9 i9 _ 1 16 Try.underlying25 hi9 h90 h91 h92 rfl (by omega) _ M.length (strs M) rfl (hT.own3.alloc _) ⟨_, 0, none⟩ 1 1 [.string (x.nm i)] rfl rfl (World.news_of_block (cs := #[.string (x.nm i)]) (t := 9) (fr := (0, 0)) (heap_alloc_new _ _)) (by simp [Value.oneCell']) (by omega) (by unfold maxLen; omega) (by omega) (by have := hT.below.size; rw [sz_alloc]; omega) _ rfl ?_; intro gg3 cp3 w3 hown4 hg4 hat4 hlt4; replace hT := (hT.alloc _).app3 hg4 hat4 hown4; clear hown4 hg4 hat4 hlt4))
              go_roundw
              case rel => exact ⟨i + 1, by omega, by go_num, HNn.out _ _ _ _ hT HR.out⟩
              case measure => simp [intOf]; omega
          · have HR : Hid (x.res i = some v) := In.res_found hiW HV.out
            go_wp2
            go_roundw
            case rel => exact ⟨i + 1, by omega, by go_num, HS.out _ _ _ _ _ hT HR.out⟩
            case measure => simp [intOf]; omega
    · have e : i = n := by omega
      subst e
      go_wp2
      go_ret3
      exact ⟨_, _, _, rfl, hT⟩
end Go.Proofs.Qxb6600226a
