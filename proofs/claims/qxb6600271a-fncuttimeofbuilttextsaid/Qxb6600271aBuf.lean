import Derived.Test.Qxb6600271aCut
import Derived.Lib.JoinLaws
import Derived.Deep.MidRow
import Derived.Laws.IdiomStrings
namespace Go.Proofs.Qxb6600271a
open Go.RowKit

theorem Try.info5 : (Try.prog.info? 5).map (fun i => (i.zero, i.size, i.bytes)) = some (some (.int .u8 0), 1, 1) := by kernel_rfl

def bytesV (l : List UInt8) : List Value := l.map fun c => Value.int .u8 (c.toNat : Int)

/-- A BUFFER of the call's own, at block b with room for c bytes; it holds l; what was there in W is as it was. -/
structure Buf (W w : World) (b c : Nat) (l : List UInt8) : Prop where
  grown : Grown W w
  new : W.heap.size ≤ b
  lt : b < w.heap.size
  cells : ∀ j (hj : j < l.length), w.cell? ⟨b, j, none⟩ = some (.int .u8 (l[j].toNat : Int))
  room : ∀ j, j < c → (w.cell? ⟨b, j, none⟩).isSome = true
  free : ∀ j, w.frozen? ⟨b, j, none⟩ = false

theorem Buf.drewN {W w : World} {b c : Nat} {l : List UInt8} (h : Buf W w b c l) (q : Nat) : Buf W (w.drewN q) b c l :=
  ⟨h.grown, h.new, h.lt, h.cells, h.room, h.free⟩

theorem Buf.drawn {W w w' : World} {b c : Nat} {l : List UInt8} (h : Buf W w b c l) (k : Drawn w w') : Buf W w' b c l := by
  obtain ⟨q, rfl⟩ := k
  exact h.drewN q

theorem Buf.alloc {W w : World} {b c : Nat} {l : List UInt8} (h : Buf W w b c l) (cs : Array Value) (t : TypeId) : Buf W (w.alloc (.cells cs t)) b c l := by
  have hne : ∀ j, (⟨b, j, none⟩ : Addr).block ≠ w.heap.size := fun j => Nat.ne_of_lt h.lt
  refine ⟨h.grown.alloc cs t, h.new, ?_, fun j hj => ?_, fun j hj => ?_, fun j => ?_⟩
  · have := h.lt
    show b < (w.heap.push _).size
    simp; omega
  · rw [World.cell?_of_block (w := w) (Below.heap_alloc _ _ _ h.lt)]
    exact h.cells j hj
  · rw [World.cell?_of_block (w := w) (Below.heap_alloc _ _ _ h.lt)]
    exact h.room j hj
  · rw [frozen?_alloc_cells]
    exact h.free j

theorem Grown.setCells {W : World} {b : Nat} (hb : W.heap.size ≤ b) : ∀ (vs : List Value) (o : Nat) (w : World), Grown W w → Grown W (w.setCells b o vs)
  | [], _, _, h => h
  | v :: vs, o, _, h => Grown.setCells hb vs (o + 1) _ (h.setCell hb v)

theorem Buf.push {W w : World} {b c : Nat} {l : List UInt8} (h : Buf W w b c l) (n : List UInt8) (hc : l.length + n.length ≤ c) : Buf W (w.setCells b l.length (bytesV n)) b c (l ++ n) := by
  have hl : (bytesV n).length = n.length := by simp [bytesV]
  refine ⟨Grown.setCells h.new _ _ _ h.grown, h.new, ?_, fun j hj => ?_, fun j hj => ?_, fun j => ?_⟩
  · have := h.lt
    have e : ∀ (vs : List Value) (o : Nat) (w : World), (w.setCells b o vs).heap.size = w.heap.size := by
      intro vs
      induction vs with
      | nil => intro o w; rfl
      | cons v vs ih => intro o w; show ((w.setCell _ v).setCells b (o + 1) vs).heap.size = _; rw [ih]; simp [World.setCell]
    rw [e]
    exact this
  · by_cases hlt : j < l.length
    · rw [World.cell?_setCells_out b (bytesV n) l.length w ⟨b, j, none⟩ (fun _ _ => .inl hlt), List.getElem_append_left hlt]
      exact h.cells j hlt
    · have hj' : j - l.length < (bytesV n).length := by rw [hl]; simp at hj; omega
      have := World.cell?_setCells_in b (bytesV n) l.length w (fun i hi => h.room _ (by omega)) (j - l.length) hj'
      rw [show l.length + (j - l.length) = j by omega] at this
      rw [this, List.getElem_append_right (by omega)]
      simp [bytesV]
  · exact World.isSome_setCells b _ _ w _ (h.room j hj)
  · rw [World.frozen?_setCells]
    exact h.free j

section
variable {ops : Array Oper} {rest : List Oper} {o : Oper} {a : Act} {Q : Exit → Act → World → Prop}

/-- 'b = append(b, x, y ..)': the new bytes lie in the block that the statement has just laid. -/
theorem wpList_buf_bytes (hg : o.guard = none) (s x : Operand) (hop : o.op = Op.call { callee := Callee.builtin Builtin.append, args := #[s, x], argTypes := #[24, 24] })
    (W w : World) (b c : Nat) (l n : List UInt8) (cs : Array Value) (hcs : cs = (bytesV n).toArray) (hb : Buf W w b c l) (q m : Nat) (hs : a.eval s = .slice (some ⟨b, 0, none⟩) q c) (hq : l.length = q) (hm : n.length = m) (k : Nat) (hx : a.eval x = .slice (some ⟨w.heap.size, 0, none⟩) m k)
    (hc : q + m ≤ c)
    (hK : ∀ w', Buf W w' b c (l ++ n) → wpList Try.prog ops Q rest (a.put o.dst (.slice (some ⟨b, 0, none⟩) (q + m) c)) w') :
    wpList Try.prog ops Q (o :: rest) a (w.alloc (.cells cs 5)) := by
  subst hcs
  subst hq
  subst hm
  have hb' := hb.alloc (bytesV n).toArray 5
  have hl : (bytesV n).length = n.length := by simp [bytesV]
  refine wpList_append_room1 _ hg s x 24 24 hop 5 (.int .u8 0) 1 Try.underlying24 Try.info5 b 0 l.length c hs _ hx n.length (bytesV n) ?_ hc ?_ ?_ ?_
  · refine Src.ofSlice _ Try.underlying24 ⟨w.heap.size, 0, none⟩ n.length k (bytesV n) (by rw [hl, Nat.mul_one]) ?_ ?_
    · intro j u hj
      have := cell_of_row (w.alloc (.cells (bytesV n).toArray 5)) w.heap.size j (bytesV n).toArray 5 (0, 0) (MapKept.heap_alloc w _).1
      rw [Addr.add_lit, Nat.zero_add, this]
      simpa using hj
    · intro u hu
      simp only [bytesV, List.mem_map] at hu
      obtain ⟨_, _, rfl⟩ := hu
      rfl
  · intro j hj
    rw [Nat.zero_add]
    exact hb'.room _ (by omega)
  · intro j _
    exact hb'.free _
  · rw [Nat.zero_add]
    exact hK _ (hb'.push n hc)

/-- 'b = append(b, s...)' -/
theorem wpList_buf_text {w : World} (hg : o.guard = none) (s x : Operand) (hop : o.op = Op.call { callee := Callee.builtin Builtin.append, args := #[s, x], argTypes := #[24, 9] })
    (W : World) (b c : Nat) (l : List UInt8) (t : ByteArray) (hb : Buf W w b c l) (q : Nat) (hs : a.eval s = .slice (some ⟨b, 0, none⟩) q c) (hq : l.length = q) (hx : a.eval x = .string t)
    (hc : q + t.size ≤ c)
    (hK : ∀ w', Buf W w' b c (l ++ t.data.toList) → wpList Try.prog ops Q rest (a.put o.dst (.slice (some ⟨b, 0, none⟩) (q + t.size) c)) w') :
    wpList Try.prog ops Q (o :: rest) a w := by
  subst hq
  have hsz : t.data.toList.length = t.size := (Lib.size_eq t).symm
  have hl : (bytesV t.data.toList).length = t.size := by simp only [bytesV, List.length_map]; exact hsz
  refine wpList_append_room1 _ hg s x 24 9 hop 5 (.int .u8 0) 1 Try.underlying24 Try.info5 b 0 l.length c hs _ hx t.size (bytesV t.data.toList) (Src.ofString _ Try.underlying9 t) hc ?_ ?_ ?_
  · intro j hj
    rw [Nat.zero_add]
    exact hb.room _ (by omega)
  · intro j _
    exact hb.free _
  · rw [Nat.zero_add]
    exact hK _ (hb.push _ (by rw [hsz]; exact hc))
end

/-- a text, from its bytes -/
def txt (l : List UInt8) : ByteArray := ⟨l.toArray⟩

/-- string(b) -/
theorem Buf.text {W w : World} {b c : Nat} {l : List UInt8} (h : Buf W w b c l) (q : Nat) (hq : l.length = q) : Sem.run Try.prog (convert 24 9 (.slice (some ⟨b, 0, none⟩) q c)) w = .ok (.string (txt l)) w := by
  subst hq
  exact run_convert_bytes_back (P := Try.prog) w 24 9 5 ⟨b, 0, none⟩ c l Try.underlying24 Try.underlying5 Try.underlying9 (fun j hj => by rw [Addr.add_lit, Nat.zero_add]; exact h.cells j hj)

/-- the two digits of v -/
def tw (v : Int) : List UInt8 := [UInt8.ofNat (48 + v / 10).toNat, UInt8.ofNat (48 + v % 10).toNat]

theorem two10 (W w : World) (b c : Nat) (l : List UInt8) (v : Int) (q : Nat) (h : Buf W w b c l) (hq : l.length = q) (hc : q + 2 ≤ c) (h0 : 0 ≤ v) (h9 : v ≤ 99) :
    Calls Try.prog 10 #[.slice (some ⟨b, 0, none⟩) q c, .int .i64 v] w fun e w' => e = .returned (.slice (some ⟨b, 0, none⟩) (q + 2) c) ∧ Buf W w' b c (l ++ tw v) := by
  have hcs : #[Value.int .u8 (48 + v / 10), Value.int .u8 (48 + v % 10)] = (bytesV (tw v)).toArray := by
    have e1 : ((UInt8.ofNat (48 + v / 10).toNat).toNat : Int) = 48 + v / 10 := by simp; omega
    have e2 : ((UInt8.ofNat (48 + v % 10).toNat).toNat : Int) = 48 + v % 10 := by simp; omega
    simp only [bytesV, tw, List.map_cons, List.map_nil, e1, e2]
  go_enter Try.func10, Try.ntmps10
  go_wp2_with (at_builtin; refine wpList_buf_bytes rfl (.tmp 5) (.tmp 14) rfl W w b c l (tw v) _ rfl h q 2 rfl hq rfl 2 rfl hc ?_; intro w1 hb1)
  go_ret
  exact ⟨rfl, by assumption⟩

/-- 'make([]byte, 0, c)' -/
theorem wpList_buf_make {w : World} {ops : Array Oper} {rest : List Oper} {o : Oper} {a : Act} {Q : Exit → Act → World → Prop} (hg : o.guard = none) (s x : Operand) (hop : o.op = Op.makeSlice 24 s x)
    (c : Nat) (C : Int) (hs : a.eval s = .int .i64 0) (hx : a.eval x = .int .i64 C) (hC : C = (c : Int)) (hc : c ≤ 1000000)
    (hK : ∀ w', Buf w w' w.heap.size c [] → wpList Try.prog ops Q rest (a.put o.dst (.slice (some ⟨w.heap.size, 0, none⟩) 0 c)) w') :
    wpList Try.prog ops Q (o :: rest) a w := by
  refine wpList_plain hg fun K hK' => ?_
  subst hC
  have hrun := run_make_room (P := Try.prog) 24 5 (.int .u8 0) 1 Try.underlying24 Try.info5 rfl .i64 .i64 c (by omega) (by omega) w
  unfold Oper.wp
  simp [execOp, hop, hs, hx, hrun, Result.andThen]
  refine hK' _ _ (hK _ ⟨(Grown.refl w).alloc _ _, Nat.le_refl _, ?_, fun j hj => by simp at hj, fun j hj => ?_, fun j => ?_⟩)
  · show w.heap.size < (w.heap.push _).size
    simp
  · have := cell_of_row (w.alloc (.cells (madeCells #[.int .u8 0] c) 5)) w.heap.size j (madeCells #[.int .u8 0] c) 5 (0, 0) (MapKept.heap_alloc w _).1
    rw [this]
    simp [size_madeCells, hj]
  · exact frozen_of_row _ _ _ _ _ (MapKept.heap_alloc w _).1

/-- every byte a digit -/
theorem all8 (s : ByteArray) (r : Bool) (w : World) (hr : r = true ↔ ∀ i, i < s.size → dig (gb s i) = true) (hmax : s.size ≤ 1000000000) :
    Calls Try.prog 8 #[.string s] w fun e w' => e = .returned (.bool r) ∧ Drawn w w' := by
  have hg := gb_of s
  go_enter Try.func8, Try.ntmps8
  go_wp2
  go_loopw [3] (fun i wr => ∃ n : Nat, n ≤ s.size ∧ i = .int .i64 n ∧ (∀ j, j < n → dig (gb s j) = true) ∧ Drawn w wr) (fun i _ => s.size - (intOf i).toNat)
  case atStart => exact ⟨0, Nat.zero_le _, rfl, fun j hj => by omega, Drawn.refl _⟩
  case round =>
    obtain ⟨n, h1, rfl, h3, hrd⟩ := hrel
    by_cases hlt : n < s.size
    · have hn0 : (0 : Int) ≤ (n : Int) := by omega
      have hn' : (n : Int) < (s.size : Int) := by omega
      by_cases hdg : dig (gb s n) = true
      · have h3' : ∀ j, j < n + 1 → dig (gb s j) = true := fun j hj => by
          by_cases e : j = n
          · subst e; exact hdg
          · exact h3 j (by omega)
        clear h3 hr
        go_wp2_with (go_at_call 16; refine (dig16 _ _).mono ?_; rintro e w' ⟨rfl, rfl⟩)
        go_roundw
        case rel => exact ⟨n + 1, by omega, by go_num, h3', hrd⟩
        case measure => simp [intOf]; omega
      · have hdf : dig (gb s n) = false := by simpa using hdg
        have hrf : r = false := by
          rw [← Bool.not_eq_true, hr]
          exact fun h => hdg (h n hlt)
        clear h3 hr hdg
        go_wp2_with (go_at_call 16; refine (dig16 _ _).mono ?_; rintro e w' ⟨rfl, rfl⟩)
        go_ret
        exact ⟨by first | rfl | (rw [hrf]; rfl), hrd⟩
    · have e : n = s.size := by omega
      have hrt : r = true := hr.2 fun i hi => h3 i (by omega)
      have hn' : ¬ (n : Int) < (s.size : Int) := by omega
      clear h3 hr
      go_wp2
      go_ret
      exact ⟨rfl, hrd⟩

/-- the bound on total length -/
theorem bytes15 (a0 a1 a2 : Int) (a3 : Bool) (fr su : ByteArray) (r : Bool) (hr : r = decide (fr.size + su.size ≤ 1048576)) (w : World) :
    Calls Try.prog 15 #[.int .i64 a0, .int .i64 a1, .int .i64 a2, .bool a3, .string fr, .string su] w fun e w' => e = .returned (.bool r) ∧ w' = w := by
  by_cases h1 : 1048576 < fr.size
  · have h1' : (1048576 : Int) < fr.size := by omega
    obtain rfl : r = false := by rw [hr]; exact decide_eq_false (by omega)
    clear hr
    go_enter Try.func15, Try.ntmps15
    go_wp2
    go_ret
    exact ⟨rfl, rfl⟩
  · have h1' : ¬ (1048576 : Int) < fr.size := by omega
    by_cases h2 : 1048576 < su.size
    · have h2' : (1048576 : Int) < su.size := by omega
      obtain rfl : r = false := by rw [hr]; exact decide_eq_false (by omega)
      clear hr
      go_enter Try.func15, Try.ntmps15
      go_wp2
      go_ret
      exact ⟨rfl, rfl⟩
    · have h2' : ¬ (1048576 : Int) < su.size := by omega
      by_cases h3 : 1048576 < fr.size + su.size
      · have h3' : (1048576 : Int) < (fr.size : Int) + su.size := by omega
        obtain rfl : r = false := by rw [hr]; exact decide_eq_false (by omega)
        clear hr
        go_enter Try.func15, Try.ntmps15
        go_wp2
        go_ret
        exact ⟨rfl, rfl⟩
      · have h3' : ¬ (1048576 : Int) < (fr.size : Int) + su.size := by omega
        obtain rfl : r = true := by rw [hr]; exact decide_eq_true (by omega)
        clear hr
        go_enter Try.func15, Try.ntmps15
        go_wp2
        go_ret
        exact ⟨rfl, rfl⟩
end Go.Proofs.Qxb6600271a
