import Derived.Test.Qxb6600271aLaw
set_option linter.unusedVariables false
namespace Go.Proofs.Qxb6600271a
open Go.RowKit

theorem gb_txt (l : List UInt8) (i : Nat) : gb (txt l) i = (l.getD i 0).toNat := rfl
theorem size_txt (l : List UInt8) : (txt l).size = l.length := by
  rw [Lib.size_eq]; rfl
theorem txt_data (s : ByteArray) : txt s.data.toList = s := Lib.mk_data s
theorem drop_txt (l : List UInt8) (a : Nat) : (txt l).extract a (txt l).size = txt (l.drop a) := by
  rw [Lib.extract_eq, size_txt]
  show (⟨((l.drop a).take (l.length - a)).toArray⟩ : ByteArray) = txt (l.drop a)
  rw [List.take_of_length_le (by simp)]
  rfl

theorem dig_hi (v : Int) (h0 : 0 ≤ v) (h9 : v ≤ 99) : ((UInt8.ofNat (48 + v / 10).toNat).toNat : Int) = 48 + v / 10 := by simp; omega
theorem dig_lo (v : Int) (h0 : 0 ≤ v) (h9 : v ≤ 99) : ((UInt8.ofNat (48 + v % 10).toNat).toNat : Int) = 48 + v % 10 := by simp; omega

theorem two_of (s : ByteArray) (i : Nat) (v : Int) (h0 : 0 ≤ v) (h9 : v ≤ 99) (e0 : gb s i = (UInt8.ofNat (48 + v / 10).toNat).toNat) (e1 : gb s (i + 1) = (UInt8.ofNat (48 + v % 10).toNat).toNat) :
    Two s i ∧ v2 s i = v := by
  have q0 := dig_hi v h0 h9
  have q1 := dig_lo v h0 h9
  refine ⟨⟨?_, ?_⟩, ?_⟩
  · rw [dig_iff, e0, q0]; omega
  · rw [dig_iff, e1, q1]; omega
  · unfold v2
    rw [e0, e1, q0, q1]
    omega

theorem clock_txt (h m : Int) (t : List UInt8) (h0 : 0 ≤ h) (h9 : h ≤ 99) (m0 : 0 ≤ m) (m9 : m ≤ 99) (l : List UInt8) (e : l = tw h ++ [58] ++ tw m ++ t) :
    Clock (txt l) ∧ v2 (txt l) 0 = h ∧ v2 (txt l) 3 = m ∧ (txt l).extract 5 (txt l).size = txt t := by
  subst e
  obtain ⟨t0, e0⟩ := two_of (txt (tw h ++ [58] ++ tw m ++ t)) 0 h h0 h9 rfl rfl
  obtain ⟨t3, e3⟩ := two_of (txt (tw h ++ [58] ++ tw m ++ t)) 3 m m0 m9 rfl rfl
  refine ⟨⟨?_, t0, t3, rfl⟩, e0, e3, ?_⟩
  · rw [size_txt]; simp [tw]
  · rw [drop_txt]; rfl

theorem secs_txt (v : Int) (t : List UInt8) (h0 : 0 ≤ v) (h9 : v ≤ 99) :
    Secs (txt ([58] ++ tw v ++ t)) ∧ v2 (txt ([58] ++ tw v ++ t)) 1 = v ∧ (txt ([58] ++ tw v ++ t)).extract 3 (txt ([58] ++ tw v ++ t)).size = txt t := by
  obtain ⟨t0, e0⟩ := two_of (txt ([58] ++ tw v ++ t)) 1 v h0 h9 rfl rfl
  refine ⟨⟨?_, rfl, t0⟩, e0, ?_⟩
  · rw [size_txt]; simp [tw]
  · rw [drop_txt]; rfl

theorem cuts_bad (h m : Int) (t l : List UInt8) (h0 : 0 ≤ h) (h9 : h ≤ 99) (m0 : 0 ≤ m) (m9 : m ≤ 99) (e : l = tw h ++ [58] ++ tw m ++ t) (hb : ¬ (h ≤ 23 ∧ m ≤ 59)) : Cuts l ⟨#[]⟩ false := fun w => by
  obtain ⟨c, v0, v3, _⟩ := clock_txt h m t h0 h9 m0 m9 l e
  refine zz14 _ _ _ w (cut_bad _ w c ?_)
  rw [v0, v3]
  simp only [← Bool.decide_and]
  exact decide_eq_false hb

theorem cuts_short (h m : Int) (su : ByteArray) (l : List UInt8) (h0 : 0 ≤ h) (h9 : h ≤ 23) (m0 : 0 ≤ m) (m9 : m ≤ 59) (e : l = tw h ++ [58] ++ tw m ++ su.data.toList) (hs : su.size < 3 ∨ gb su 0 ≠ 58) : Cuts l su true := fun w => by
  obtain ⟨c, v0, v3, hx⟩ := clock_txt h m su.data.toList h0 (by omega) m0 (by omega) l e
  rw [txt_data] at hx
  refine zz14 _ _ _ w (cut_short _ su w c ?_ hx hs)
  rw [v0, v3, decide_eq_true h9, decide_eq_true m9]
  rfl

theorem cuts_late (h m v : Int) (t l : List UInt8) (h0 : 0 ≤ h) (h9 : h ≤ 23) (m0 : 0 ≤ m) (m9 : m ≤ 59) (w0 : 60 < v) (w9 : v ≤ 99) (e : l = tw h ++ [58] ++ tw m ++ ([58] ++ tw v ++ t)) : Cuts l ⟨#[]⟩ false := fun w => by
  obtain ⟨c, v0, v3, hx⟩ := clock_txt h m _ h0 (by omega) m0 (by omega) l e
  obtain ⟨s, vs, _⟩ := secs_txt v t (by omega) w9
  refine zz14 _ _ _ w (cut_late _ _ w c ?_ hx s (by rw [vs]; exact w0))
  rw [v0, v3, decide_eq_true h9, decide_eq_true m9]
  rfl

theorem cuts_nodot (h m v : Int) (su : ByteArray) (l : List UInt8) (h0 : 0 ≤ h) (h9 : h ≤ 23) (m0 : 0 ≤ m) (m9 : m ≤ 59) (w0 : 0 ≤ v) (w9 : v ≤ 60) (e : l = tw h ++ [58] ++ tw m ++ ([58] ++ tw v ++ su.data.toList))
    (hs : ¬ (0 < su.size ∧ gb su 0 = 46)) : Cuts l su true := fun w => by
  obtain ⟨c, v0, v3, hx⟩ := clock_txt h m _ h0 (by omega) m0 (by omega) l e
  obtain ⟨s, vs, hu⟩ := secs_txt v su.data.toList w0 (by omega)
  rw [txt_data] at hu
  refine zz14 _ _ _ w (cut_nodot _ _ su w c ?_ hx s (by rw [vs]; exact w9) hu ?_)
  · rw [v0, v3, decide_eq_true h9, decide_eq_true m9]
    rfl
  · simp only [← Bool.decide_and]
    exact decide_eq_false hs

theorem cuts_dot (h m v : Int) (fr su : ByteArray) (l : List UInt8) (h0 : 0 ≤ h) (h9 : h ≤ 23) (m0 : 0 ≤ m) (m9 : m ≤ 59) (w0 : 0 ≤ v) (w9 : v ≤ 60) (e : l = tw h ++ [58] ++ tw m ++ ([58] ++ tw v ++ (46 :: (fr.data.toList ++ su.data.toList))))
    (hD : ∀ i, i < fr.size → dig (gb fr i) = true) (hs : 0 < su.size → dig (gb su 0) = false) (hf : fr.size ≤ 65536) (hz : su.size ≤ 65536) :
    Cuts l (if fr.size = 0 then ⟨#[]⟩ else su) (decide (¬ fr.size = 0)) := fun w => by
  obtain ⟨c, v0, v3, hx⟩ := clock_txt h m _ h0 (by omega) m0 (by omega) l e
  obtain ⟨s, vs, hu⟩ := secs_txt v (46 :: (fr.data.toList ++ su.data.toList)) w0 (by omega)
  have hlf := len_data fr
  have hls := len_data su
  have hsz : (txt (46 :: (fr.data.toList ++ su.data.toList))).size = 1 + fr.size + su.size := by
    rw [size_txt, List.length_cons, List.length_append]; omega
  have hg1 : ∀ i, i < fr.size → gb (txt (46 :: (fr.data.toList ++ su.data.toList))) (i + 1) = gb fr i := fun i hi => by
    rw [gb_txt]
    unfold gb
    rw [List.getD_cons_succ, List.getD_eq_getElem?_getD, List.getElem?_append_left (by omega), ← List.getD_eq_getElem?_getD]
  have hg2 : gb (txt (46 :: (fr.data.toList ++ su.data.toList))) (1 + fr.size) = gb su 0 := by
    rw [gb_txt]
    unfold gb
    rw [Nat.add_comm, List.getD_cons_succ, List.getD_eq_getElem?_getD, List.getElem?_append_right (by omega), ← List.getD_eq_getElem?_getD, hlf, Nat.sub_self]
  have hv : (txt (46 :: (fr.data.toList ++ su.data.toList))).extract (1 + fr.size) (txt (46 :: (fr.data.toList ++ su.data.toList))).size = su := by
    rw [drop_txt, Nat.add_comm, List.drop_succ_cons, List.drop_append_of_le_length (by omega), List.drop_eq_nil_of_le (by omega), List.nil_append, txt_data]
  refine zz14 _ _ _ w ((cut_dot _ _ _ su (1 + fr.size) w c ?_ hx s (by rw [vs]; exact w9) hu ?_ (by omega) (by omega) ?_ ?_ hv (by omega)).mono ?_)
  · rw [v0, v3, decide_eq_true h9, decide_eq_true m9]
    rfl
  · rw [hsz, decide_eq_true (by omega)]
    rfl
  · intro i h1 hi
    obtain ⟨j, rfl⟩ : ∃ j, i = j + 1 := ⟨i - 1, by omega⟩
    rw [hg1 j (by omega)]
    exact hD j (by omega)
  · intro hi
    rw [hg2]
    exact hs (by omega)
  · rintro e w' ⟨rfl, hd⟩
    refine ⟨?_, hd⟩
    by_cases h0 : fr.size = 0
    · rw [if_pos (by omega), if_pos h0, decide_eq_false (by simpa using h0)]
    · rw [if_neg (by omega), if_neg h0, decide_eq_true h0]
end Go.Proofs.Qxb6600271a
