import Derived.Test.Qxb6600271aCut2
import Derived.Test.Qxb6600271aBuf
namespace Go.Proofs.Qxb6600271a
open Go.RowKit

/-- ZZcutTime at a text cuts off r, or refuses -/
def Cuts (l : List UInt8) (r : ByteArray) (o : Bool) : Prop :=
  ∀ w, Calls Try.prog 14 #[.string (txt l)] w fun e w' => e = .returned (.tuple #[.string r, .bool o]) ∧ Drawn w w'

theorem Cuts.at {l l' : List UInt8} {r : ByteArray} {o : Bool} (h : Cuts l r o) (w : World) (e : l' = l) : Calls Try.prog 14 #[.string (txt l')] w fun e w' => e = .returned (.tuple #[.string r, .bool o]) ∧ Drawn w w' := by
  subst e
  exact h w

theorem Grown.of_drawn {a b c : World} (h : Drawn a b) (k : Grown b c) : Grown a c := by
  obtain ⟨q, rfl⟩ := h
  exact ⟨k.1, k.2.1, k.2.2⟩

theorem len_data (s : ByteArray) : s.data.toList.length = s.size := (Lib.size_eq s).symm

theorem bytes15' (a0 a1 a2 : Int) (a3 : Bool) (fr su : ByteArray) (h : fr.size + su.size ≤ 1048576) (w : World) :
    Calls Try.prog 15 #[.int .i64 a0, .int .i64 a1, .int .i64 a2, .bool a3, .string fr, .string su] w fun e w' => e = .returned (.bool true) ∧ Drawn w w' :=
  (bytes15 a0 a1 a2 a3 fr su true (by rw [decide_eq_true h]) w).mono fun _ _ ⟨h1, h2⟩ => ⟨h1, by rw [h2]; exact Drawn.refl _⟩

theorem dig16' (c : Int) (w : World) : Calls Try.prog 16 #[.int .u8 c] w fun e w' => e = .returned (.bool (dig c)) ∧ Drawn w w' :=
  (dig16 c w).mono fun _ _ ⟨h1, h2⟩ => ⟨h1, by rw [h2]; exact Drawn.refl _⟩
end Go.Proofs.Qxb6600271a
