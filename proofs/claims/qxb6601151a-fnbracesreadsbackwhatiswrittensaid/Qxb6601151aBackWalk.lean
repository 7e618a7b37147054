import Derived.Test.Qxb6601151aApp
import Derived.Test.Qxb6601151aBack
import Derived.Test.Qxb6601151aZZ
namespace Go.Proofs.Qxb6601151a.back
open Go.RowKit Go.Proofs.Qxb6601151a

/-- A slice of runes that came in: nil, or its cells lie below B. -/
def RT (B : Nat) (w : World) (so : Option Addr) (n : Nat) (zs : List Int) : Prop :=
  n = zs.length ∧ (0 < n → ∃ b o, so = some ⟨b, o, none⟩ ∧ b < B ∧ ∀ i, i < n → w.cell? ⟨b, o + i, none⟩ = some (.int .i32 (zs.getD i 0)))

theorem RT.nilLen {B : Nat} {w : World} {so : Option Addr} {n : Nat} {zs : List Int} (h : RT B w so n zs) : so = none → n = 0 := by
  intro e
  rcases Nat.eq_zero_or_pos n with h0 | h0
  · exact h0
  · obtain ⟨b, o, e', _⟩ := h.2 h0
    rw [e] at e'
    cases e'

theorem RT.news {B : Nat} {w w' : World} {so : Option Addr} {n : Nat} {zs : List Int} (h : RT B w so n zs) (hb : Below B w w') :
    ∀ ad, so = some ad → ∀ j u, (zs.map (Value.int .i32))[j]? = some u → w'.cell? (ad.add j) = some u := by
  intro ad had j u hu
  have hj : j < zs.length := by simpa using (List.getElem?_eq_some_iff.1 hu).1
  obtain ⟨b, o, e, hbB, hc⟩ := h.2 (by rw [h.1]; omega)
  rw [had] at e
  obtain rfl := Option.some.inj e
  rw [Addr.add_lit, hb.cell (p := ⟨b, o + j, none⟩) hbB, hc j (by rw [h.1]; exact hj), ← hu]
  simp [hj]

theorem RBo.carry {B : Nat} {w w' : World} {bo : Option Addr} {tb : List Bool} (h : RBo B w bo tb) (hb : Below B w w') : RBo B w' bo tb := by
  intro hn
  obtain ⟨b, o, e, hbB, hc⟩ := h hn
  exact ⟨b, o, e, hbB, fun i hi => (hb.cell (p := ⟨b, o + i, none⟩) hbB).trans (hc i hi)⟩

/-- The owned slice reads. -/
theorem OR.ri {B : Nat} {w : World} {g cap : Nat} {xs : List Int} (h : OR B w (.slice (some ⟨g, 0, none⟩) xs.length cap) xs) : RI w (some ⟨g, 0, none⟩) xs := by
  intro hn
  refine ⟨g, 0, rfl, fun i hi => ?_⟩
  rw [Nat.zero_add, h.1.cellAt i (by omega)]
  simp [hi]

def SizeOut (w : World) (e : Ending) (w' : World) : Prop := ∃ b, e = .returned (.bool b) ∧ w' = w

set_option maxHeartbeats 1000000 in
theorem size_any (po : Option Addr) (np pc : Nat) (lo hi : Int) (sg no : Bool) (o1 : Option Addr) (n1 c1 : Nat) (o2 : Option Addr) (n2 c2 : Nat) (o3 : Option Addr) (n3 c3 : Nat) (o4 : Option Addr) (n4 c4 : Nat) (to : Option Addr) (nt tc : Nat) (w : World) :
    Calls Try.prog 12 #[.slice po np pc, .int .i64 lo, .int .i64 hi, .bool sg, .bool no, .slice o1 n1 c1, .slice o2 n2 c2, .slice o3 n3 c3, .slice o4 n4 c4, .slice to nt tc] w (SizeOut w) := by
  go_enter Try.func12, Try.ntmps12
  go_wp2
  all_goals
    go_ret
    exact ⟨_, rfl, rfl⟩


theorem hide1 {p : Prop} (h : p) : Hid p := h

def LawOut (w : World) (e : Ending) (w' : World) : Prop := e = .returned (.bool true) ∧ Below w.heap.size w w'

end Go.Proofs.Qxb6601151a.back
