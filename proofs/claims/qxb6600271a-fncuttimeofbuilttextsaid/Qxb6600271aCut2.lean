import Derived.Test.Qxb6600271aCut
namespace Go.Proofs.Qxb6600271a
open Go.RowKit

/-- the text begins with HH:MM -/
structure Clock (s : ByteArray) : Prop where
  len : 5 ≤ s.size
  t0 : Two s 0
  t3 : Two s 3
  colon : gb s 2 = 58

theorem Clock.call {s : ByteArray} (h : Clock s) (w : World) :
    Calls Try.prog 23 #[.string (s.extract 0 5), .int .i64 23] w fun e w' => e = .returned (.bool (decide (v2 s 0 ≤ 23) && decide (v2 s 3 ≤ 59))) ∧ Drawn w w' := by
  have hl := h.len
  have e0 : v2 (s.extract 0 5) 0 = v2 s 0 := v2_ext s 0 5 hl 0 (by omega)
  have e3 : v2 (s.extract 0 5) 3 = v2 s 3 := v2_ext s 0 5 hl 3 (by omega)
  rw [← e0, ← e3]
  exact clock23 (s.extract 0 5) w (by rw [ByteArray.size_extract]; omega) (by rw [gb_ext s 0 5 2 hl (by omega)]; exact h.colon)
    (Two.ext (a := 0) (i := 0) 5 h.t0 hl (by omega)) (Two.ext (a := 0) (i := 3) 5 h.t3 hl (by omega))

theorem cut_bad (s : ByteArray) (w : World) (h : Clock s) (hb : (decide (v2 s 0 ≤ 23) && decide (v2 s 3 ≤ 59)) = false) :
    Calls Try.prog 20 #[.string s] w fun e w' => e = .returned (.tuple #[.string ⟨#[]⟩, .bool false]) ∧ Drawn w w' := by
  have hl : (5 : Int) ≤ s.size := by have := h.len; omega
  have hl' : 5 ≤ s.size := h.len
  have hc := fun w => h.call w
  rw [hb] at hc
  go_enter Try.func20, Try.ntmps20
  go_wp2_with (go_at_call 23; refine (hc _).mono ?_; rintro e w' ⟨rfl, hd0⟩)
  go_ret2
  exact ⟨rfl, by assumption⟩

theorem cut_short (s t : ByteArray) (w : World) (h : Clock s) (hb : (decide (v2 s 0 ≤ 23) && decide (v2 s 3 ≤ 59)) = true) (ht : s.extract 5 s.size = t) (hs : t.size < 3 ∨ gb t 0 ≠ 58) :
    Calls Try.prog 20 #[.string s] w fun e w' => e = .returned (.tuple #[.string t, .bool true]) ∧ Drawn w w' := by
  have hl : (5 : Int) ≤ s.size := by have := h.len; omega
  have hl' : 5 ≤ s.size := h.len
  have hg := gb_of t
  have hc := fun w => h.call w
  rw [hb] at hc
  by_cases h3 : t.size < 3
  · have h3' : (t.size : Int) < 3 := by omega
    go_enter Try.func20, Try.ntmps20
    go_wp2_with (go_at_call 23; refine (hc _).mono ?_; rintro e w' ⟨rfl, hd0⟩)
    go_ret2
    exact ⟨rfl, by assumption⟩
  · have h58 : ((gb t 0 : Int) != 58) = true := by
      have : gb t 0 ≠ 58 := by omega
      simp; omega
    have h3' : (3 : Int) ≤ t.size := by omega
    have h0 : 0 < t.size := by omega
    go_enter Try.func20, Try.ntmps20
    go_wp2_with (go_at_call 23; refine (hc _).mono ?_; rintro e w' ⟨rfl, hd0⟩)
    go_ret2
    exact ⟨rfl, by assumption⟩

/-- the tail begins with :SS -/
structure Secs (t : ByteArray) : Prop where
  len : 3 ≤ t.size
  colon : gb t 0 = 58
  two : Two t 1

theorem Secs.call {t : ByteArray} (h : Secs t) (w : World) :
    Calls Try.prog 24 #[.string (t.extract 1 3)] w fun e w' => e = .returned (.tuple #[.int .i64 (v2 t 1), .bool true]) ∧ Drawn w w' := by
  have hl := h.len
  rw [← v2_ext t 1 3 hl 0 (by omega)]
  exact two24 (t.extract 1 3) w (by rw [ByteArray.size_extract]; omega) (Two.ext (a := 1) (i := 0) 3 h.two hl (by omega))

theorem cut_late (s t : ByteArray) (w : World) (h : Clock s) (hb : (decide (v2 s 0 ≤ 23) && decide (v2 s 3 ≤ 59)) = true) (ht : s.extract 5 s.size = t) (hs : Secs t) (h60 : 60 < v2 t 1) :
    Calls Try.prog 20 #[.string s] w fun e w' => e = .returned (.tuple #[.string ⟨#[]⟩, .bool false]) ∧ Drawn w w' := by
  have hl : (5 : Int) ≤ s.size := by have := h.len; omega
  have hl' : 5 ≤ s.size := h.len
  have hg := gb_of t
  have hc := fun w => h.call w
  rw [hb] at hc
  have hk := fun w => hs.call w
  have h3' : (3 : Int) ≤ t.size := by have := hs.len; omega
  have h3 : 3 ≤ t.size := hs.len
  have h0 : 0 < t.size := by omega
  have h58 : ((gb t 0 : Int) != 58) = false := by rw [hs.colon]; rfl
  go_enter Try.func20, Try.ntmps20
  go_wp2_with (first | (go_at_call 23; refine (hc _).mono ?_; rintro e w' ⟨rfl, hd0⟩) | (go_at_call 24; refine (hk _).mono ?_; rintro e w' ⟨rfl, hd'⟩))
  go_ret2
  exact ⟨rfl, Drawn.trans (by assumption) (by assumption)⟩

theorem cut_nodot (s t u : ByteArray) (w : World) (h : Clock s) (hb : (decide (v2 s 0 ≤ 23) && decide (v2 s 3 ≤ 59)) = true) (ht : s.extract 5 s.size = t) (hs : Secs t) (h60 : v2 t 1 ≤ 60)
    (hu : t.extract 3 t.size = u) (hdot : (decide (0 < u.size) && decide (gb u 0 = 46)) = false) :
    Calls Try.prog 20 #[.string s] w fun e w' => e = .returned (.tuple #[.string u, .bool true]) ∧ Drawn w w' := by
  have hl : (5 : Int) ≤ s.size := by have := h.len; omega
  have hl' : 5 ≤ s.size := h.len
  have hg := gb_of t
  have hc := fun w => h.call w
  rw [hb] at hc
  have hk := fun w => hs.call w
  have hq := fun w => dot25 u w
  rw [hdot] at hq
  have h3' : (3 : Int) ≤ t.size := by have := hs.len; omega
  have h3 : 3 ≤ t.size := hs.len
  have h0 : 0 < t.size := by omega
  have h58 : ((gb t 0 : Int) != 58) = false := by rw [hs.colon]; rfl
  go_enter Try.func20, Try.ntmps20
  go_wp2_with (first | (go_at_call 23; refine (hc _).mono ?_; rintro e w' ⟨rfl, hd0⟩) | (go_at_call 24; refine (hk _).mono ?_; rintro e w' ⟨rfl, hd'⟩) | (go_at_call 25; refine (hq _).mono ?_; rintro e w' ⟨rfl, rfl⟩))
  go_ret2
  exact ⟨rfl, Drawn.trans (by assumption) (by assumption)⟩

theorem cut_dot (s t u v : ByteArray) (k : Nat) (w : World) (h : Clock s) (hb : (decide (v2 s 0 ≤ 23) && decide (v2 s 3 ≤ 59)) = true) (ht : s.extract 5 s.size = t) (hs : Secs t) (h60 : v2 t 1 ≤ 60)
    (hu : t.extract 3 t.size = u) (hdot : (decide (0 < u.size) && decide (gb u 0 = 46)) = true) (hk1 : 1 ≤ k) (hkl : k ≤ u.size) (hd : ∀ i, 1 ≤ i → i < k → dig (gb u i) = true) (he : k < u.size → dig (gb u k) = false)
    (hv : u.extract k u.size = v) (hmax : u.size ≤ 1000000000) :
    Calls Try.prog 20 #[.string s] w fun e w' => e = .returned (if k = 1 then (.tuple #[.string ⟨#[]⟩, .bool false]) else (.tuple #[.string v, .bool true])) ∧ Drawn w w' := by
  have hl : (5 : Int) ≤ s.size := by have := h.len; omega
  have hl' : 5 ≤ s.size := h.len
  have hg := gb_of t
  have hgu := gb_of u
  have hc := fun w => h.call w
  rw [hb] at hc
  have hk := fun w => hs.call w
  have hq := fun w => dot25 u w
  rw [hdot] at hq
  have h3' : (3 : Int) ≤ t.size := by have := hs.len; omega
  have h3 : 3 ≤ t.size := hs.len
  have h0 : 0 < t.size := by omega
  have h58 : ((gb t 0 : Int) != 58) = false := by rw [hs.colon]; rfl
  go_enter Try.func20, Try.ntmps20
  go_wp2_with (first | (go_at_call 23; refine (hc _).mono ?_; rintro e w' ⟨rfl, hd0⟩) | (go_at_call 24; refine (hk _).mono ?_; rintro e w' ⟨rfl, hd'⟩) | (go_at_call 25; refine (hq _).mono ?_; rintro e w' ⟨rfl, rfl⟩))
  have hdr : Drawn w w' := Drawn.trans (by assumption) (by assumption)
  go_loopw [6] (fun i wr => ∃ n : Nat, 1 ≤ n ∧ n ≤ k ∧ i = .int .i64 n ∧ Drawn w wr) (fun i _ => u.size - (intOf i).toNat)
  case atStart => exact ⟨1, Nat.le_refl _, hk1, rfl, hdr⟩
  case round =>
    obtain ⟨n, h1, h2, rfl, hrd⟩ := hrel
    by_cases hlt : n < k
    · have hn : n < u.size := by omega
      have hn0 : (0 : Int) ≤ (n : Int) := by omega
      have hn' : (n : Int) < (u.size : Int) := by omega
      have hdg := hd n h1 hlt
      clear hd he
      go_wp2_with (go_at_call 26; refine (dig26 _ _).mono ?_; rintro e w' ⟨rfl, rfl⟩)
      go_roundw
      case rel => exact ⟨n + 1, by omega, by omega, by go_num, hrd⟩
      case measure => simp [intOf]; omega
    · have e : n = k := by omega
      subst e
      by_cases hlu : n < u.size
      · have hn0 : (0 : Int) ≤ (n : Int) := by omega
        have hn' : (n : Int) < (u.size : Int) := by omega
        have hdg := he hlu
        clear hd he
        by_cases h1n : n = 1
        · subst h1n
          go_wp2_with (go_at_call 26; refine (dig26 _ _).mono ?_; rintro e w' ⟨rfl, rfl⟩)
          go_ret2
          exact ⟨rfl, hrd⟩
        · have h1n' : ((n : Int) == 1) = false := by simp; omega
          have hle : (n : Int) ≤ (u.size : Int) := by omega
          go_wp2_with (go_at_call 26; refine (dig26 _ _).mono ?_; rintro e w' ⟨rfl, rfl⟩)
          go_ret2
          exact ⟨rfl, hrd⟩
      · have hn' : ¬ (n : Int) < (u.size : Int) := by omega
        clear hd he
        by_cases h1n : n = 1
        · subst h1n
          go_wp2_with (go_at_call 26; refine (dig26 _ _).mono ?_; rintro e w' ⟨rfl, rfl⟩)
          go_ret2
          exact ⟨rfl, hrd⟩
        · have h1n' : ((n : Int) == 1) = false := by simp; omega
          have hle : (n : Int) ≤ (u.size : Int) := by omega
          have hn0 : (0 : Int) ≤ (n : Int) := by omega
          go_wp2_with (go_at_call 26; refine (dig26 _ _).mono ?_; rintro e w' ⟨rfl, rfl⟩)
          go_ret2
          exact ⟨rfl, hrd⟩

theorem zz14 (s r : ByteArray) (o : Bool) (w : World) (h : Calls Try.prog 20 #[.string s] w fun e w' => e = .returned (.tuple #[.string r, .bool o]) ∧ Drawn w w') :
    Calls Try.prog 14 #[.string s] w fun e w' => e = .returned (.tuple #[.string r, .bool o]) ∧ Drawn w w' := by
  go_enter Try.func14, Try.ntmps14
  go_wp2_with (go_at_call 20; refine h.mono ?_; rintro e w' ⟨rfl, hd0⟩)
  go_ret2
  exact ⟨rfl, by assumption⟩
end Go.Proofs.Qxb6600271a
