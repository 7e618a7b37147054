import Derived.Test.Qxb6601125aBlocks
namespace Go.Proofs.Qxb6601125a
open Go.RowKit

/-- A block of frames within the bounds. -/
def Good (l : List Dt) : Prop := l.length ≤ 1048576 ∧ ∀ j, j < l.length → ((l.getD j dz).2.getD []).length ≤ 1048576
def Small (D : List (List Dt)) (L : List Dt) : Prop := (∀ i, i < D.length → Good (D.getD i [])) ∧ Good L
def GoodTo (D : List (List Dt)) (k : Nat) : Prop := ∀ i, i < k → Good (D.getD i [])
def LowTo (l : List Dt) (k : Nat) : Prop := ∀ j, j < k → ((l.getD j dz).2.getD []).length ≤ 1048576

def SizeOut (D : List (List Dt)) (L : List Dt) (w : World) (e : Ending) (w' : World) : Prop := ∃ b, e = .returned (.bool b) ∧ (b = true → Small D L) ∧ w' = w

theorem GoodTo.succ {D : List (List Dt)} {k : Nat} (h : GoodTo D k) (g : Good (D.getD k [])) : GoodTo D (k + 1) := fun i hi => by
  rcases Nat.lt_succ_iff_lt_or_eq.1 hi with h' | rfl
  · exact h i h'
  · exact g
theorem LowTo.succ {l : List Dt} {k n : Nat} (h : LowTo l k) (e : n = ((l.getD k dz).2.getD []).length) (g : n ≤ 1048576) : LowTo l (k + 1) := fun i hi => by
  rcases Nat.lt_succ_iff_lt_or_eq.1 hi with h' | rfl
  · exact h i h'
  · rw [← e]; exact g

end Go.Proofs.Qxb6601125a
