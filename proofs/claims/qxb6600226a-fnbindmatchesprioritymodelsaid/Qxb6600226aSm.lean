/-
  Own work: zzSameVars, zzSameStrings, ZZbind.
-/
import Derived.Test.Qxb6600226aMo
namespace Go.Proofs.Qxb6600226a
open Go.RowKit

/-- a slice of strings that lies at the head of a block -/
def Sl (w : World) (ad : Option Addr) (m : Nat) (p : Nat → ByteArray) : Prop := ∀ i, i < m → ∃ g, ad = some ⟨g, 0, none⟩ ∧ w.cell? ⟨g, i, none⟩ = some (.string (p i)) ∧ g < w.heap.size
/-- a slice of pairs of strings that lies at the head of a block -/
def Sl2 (w : World) (ad : Option Addr) (m : Nat) (p q : Nat → ByteArray) : Prop := ∀ i, i < m → ∃ g, ad = some ⟨g, 0, none⟩ ∧ w.cell? ⟨g, i * 2, none⟩ = some (.string (p i)) ∧ w.cell? ⟨g, i * 2 + 1, none⟩ = some (.string (q i)) ∧ g < w.heap.size

def nth (l : List ByteArray) (i : Nat) : ByteArray := l.getD i ⟨#[]⟩

theorem own_sl {w : World} {base : Nat} {v : Value} {l : List ByteArray} (h : w.ownsRow base 9 1 v l.length (strs l)) : ∃ ad cap, v = .slice ad l.length cap ∧ Sl w ad l.length (nth l) := by
  rcases h.2 with ⟨h1, h2⟩ | ⟨g, cap, cur, h1, h2, h3, h4⟩
  · exact ⟨none, 0, by rw [h1, h2], fun i hi => by omega⟩
  · refine ⟨_, cap, h1, fun i hi => ⟨g, rfl, ?_, (Array.getElem?_eq_some_iff.1 h3).1⟩⟩
    have h' := h
    rw [h1] at h'
    rw [h'.cellAt i (by simpa using hi)]
    simp [strs, nth, hi]

theorem flat_get : ∀ (l : List (ByteArray × ByteArray)) (i : Nat) (hi : i < l.length), (flat l)[i * 2]? = some (.string l[i].1) ∧ (flat l)[i * 2 + 1]? = some (.string l[i].2)
  | [], i, hi => by simp at hi
  | p :: l, 0, _ => by simp [flat]
  | p :: l, i + 1, hi => by
    have ih := flat_get l i (by simpa using hi)
    have e : flat (p :: l) = .string p.1 :: .string p.2 :: flat l := by simp [flat]
    rw [e]
    have e1 : (i + 1) * 2 = i * 2 + 1 + 1 := by omega
    rw [e1]
    simpa using ih
theorem flat_len (l : List (ByteArray × ByteArray)) : (flat l).length = l.length * 2 := by
  induction l with
  | nil => rfl
  | cons p l ih =>
    have e : flat (p :: l) = .string p.1 :: .string p.2 :: flat l := by simp [flat]
    rw [e]
    simp [ih]
    omega

theorem own_sl2 {w : World} {base : Nat} {v : Value} {l : List (ByteArray × ByteArray)} (h : w.ownsRow base 42 2 v l.length (flat l)) : ∃ ad cap, v = .slice ad l.length cap ∧ Sl2 w ad l.length (nth (l.map Prod.fst)) (nth (l.map Prod.snd)) := by
  rcases h.2 with ⟨h1, h2⟩ | ⟨g, cap, cur, h1, h2, h3, h4⟩
  · exact ⟨none, 0, by rw [h1, h2], fun i hi => by omega⟩
  · obtain ⟨_, _, h7, h8⟩ := h4
    refine ⟨_, cap, h1, fun i hi => ⟨g, rfl, ?_, ?_, (Array.getElem?_eq_some_iff.1 h3).1⟩⟩
    · rw [cell_of_row w g _ cur 42 (0, 0) h3]
      have := (flat_get l i hi).1
      rw [← h8, List.getElem?_take, if_pos (by omega)] at this
      rw [← Array.getElem?_toList, this]
      simp [nth, hi]
    · rw [cell_of_row w g _ cur 42 (0, 0) h3]
      have := (flat_get l i hi).2
      rw [← h8, List.getElem?_take, if_pos (by omega)] at this
      rw [← Array.getElem?_toList, this]
      simp [nth, hi]

theorem Sl.later {w w' : World} {ad : Option Addr} {m : Nat} {p : Nat → ByteArray} (h : Sl w ad m p) (hb : Below w.heap.size w w') : Sl w' ad m p := fun i hi => by
  obtain ⟨g, h1, h2, h3⟩ := h i hi
  exact ⟨g, h1, (hb.cell h3).trans h2, Nat.lt_of_lt_of_le h3 hb.size⟩
theorem Sl2.later {w w' : World} {ad : Option Addr} {m : Nat} {p q : Nat → ByteArray} (h : Sl2 w ad m p q) (hb : Below w.heap.size w w') : Sl2 w' ad m p q := fun i hi => by
  obtain ⟨g, h1, h2, h3, h4⟩ := h i hi
  exact ⟨g, h1, (hb.cell h4).trans h2, (hb.cell h4).trans h3, Nat.lt_of_lt_of_le h4 hb.size⟩

set_option maxHeartbeats 4000000 in
theorem same22 (a b : Option Addr) (m c d : Nat) (p : Nat → ByteArray) (w : World) (hm : m ≤ 65536) (h1 : Sl w a m p) (h2 : Sl w b m p) :
    Calls Try.prog 22 #[.slice a m c, .slice b m d] w fun e w' => e = .returned (.bool true) ∧ Below w.heap.size w w' := by
  go_enter Try.func22, Try.ntmps22
  go_wp2
  go_loopw [5] (fun s wr => ∃ i : Nat, i ≤ m ∧ s = .int .i64 i ∧ Below w.heap.size w wr) (fun s _ => m - (intOf s).toNat)
  case atStart => exact ⟨0, Nat.zero_le _, rfl, Below.refl _ _⟩
  case round =>
    obtain ⟨i, hi, rfl, hb⟩ := hrel
    by_cases hlt : i < m
    · obtain ⟨g1, rfl, x1, y1⟩ := (h1.later hb) i hlt
      obtain ⟨g2, rfl, x2, y2⟩ := (h2.later hb) i hlt
      have l0 : (0 : Int) ≤ (i : Int) := by omega
      have l1 : (i : Int) < (m : Int) := by omega
      clear h1 h2
      go_wp2
      go_quiet (fail)
      go_wp2
      go_roundw
      case rel => exact ⟨i + 1, by omega, by go_num, below_drewN hb nq⟩
      case measure => simp [intOf]; omega
    · have e : i = m := by omega
      subst e
      go_wp2
      go_ret
      exact ⟨rfl, hb⟩

set_option maxHeartbeats 4000000 in
theorem same21 (a b c : Option Addr) (m d1 d2 d3 : Nat) (p q : Nat → ByteArray) (w : World) (hm : m ≤ 65536) (h1 : Sl2 w a m p q) (h2 : Sl w b m p) (h3 : Sl w c m q) :
    Calls Try.prog 21 #[.slice a m d1, .slice b m d2, .slice c m d3] w fun e w' => e = .returned (.bool true) ∧ Below w.heap.size w w' := by
  go_enter Try.func21, Try.ntmps21
  go_wp2
  go_loopw [7] (fun s wr => ∃ i : Nat, i ≤ m ∧ s = .int .i64 i ∧ Below w.heap.size w wr) (fun s _ => m - (intOf s).toNat)
  case atStart => exact ⟨0, Nat.zero_le _, rfl, Below.refl _ _⟩
  case round =>
    obtain ⟨i, hi, rfl, hb⟩ := hrel
    by_cases hlt : i < m
    · obtain ⟨g1, rfl, x1, z1, y1⟩ := (h1.later hb) i hlt
      obtain ⟨g2, rfl, x2, y2⟩ := (h2.later hb) i hlt
      obtain ⟨g3, rfl, x3, y3⟩ := (h3.later hb) i hlt
      have l0 : (0 : Int) ≤ (i : Int) := by omega
      have l1 : (i : Int) < (m : Int) := by omega
      clear h1 h2 h3
      go_wp2
      go_quiet (fail)
      go_wp2
      go_roundw
      case rel => exact ⟨i + 1, by omega, by go_num, below_drewN hb nq⟩
      case measure => simp [intOf]; omega
    · have e : i = m := by omega
      subst e
      go_wp2
      go_ret
      exact ⟨rfl, hb⟩

theorem bind19 (x : In) (C AB OB wc : Nat) (wa : Option Addr) (w : World) (hn : x.n ≤ 4096) (hN : x.N ≤ 65536)
    (hC : w.cell? ⟨C, 4, none⟩ = some (.slice (some ⟨AB, 0, none⟩) x.n x.n)) (hA : ArgRow w AB x.n x.nm x.df x.hd) (hO : VarRow w OB x.N x.on x.ov) (hS : ArgS w wa x.W x.wd) :
    Calls Try.prog 19 #[.pointer (some ⟨C, 0, none⟩), .slice wa x.W wc, .slice (some ⟨OB, 0, none⟩) x.N x.N] w fun e w' => ∃ v6 v7, e = .returned (.tuple #[v6, v7]) ∧ Two w w' v6 v7 (x.vals x.n) (x.miss x.n) := by
  have hc := bind35 x C AB OB wc wa w hn hN hC hA hO hS
  go_enter Try.func19, Try.ntmps19
  go_wp2_with (go_at_call 35; refine hc.mono ?_; rintro e w' ⟨v6, v7, rfl, hT⟩)
  go_ret2
  exact ⟨_, _, rfl, hT⟩
end Go.Proofs.Qxb6600226a
