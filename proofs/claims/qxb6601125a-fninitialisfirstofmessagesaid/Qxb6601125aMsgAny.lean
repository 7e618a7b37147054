import Derived.Test.Qxb6601125aMsg
import Derived.Test.Qxb6601125aLt
namespace Go.Proofs.Qxb6601125a
open Go.RowKit

/-- What ZZMessage leaves, whatever the blocks: a slice that reads as all frames in order; nil just where there is no full block and the last is nil. -/
def MsgAny (w : World) (nf : Nat) (lo : Option Addr) (F : List Dt) (e : Ending) (w' : World) : Prop :=
  ∃ mo mc, e = .returned (.slice mo F.length mc) ∧ RF (fun k => k < w'.heap.size) w' mo F.length F ∧ mo.isNone = (decide (nf = 0) && lo.isNone) ∧ Below w.heap.size w w'

theorem MsgOut.any {ok : Nat → Prop} {w : World} {nf : Nat} {lo : Option Addr} {F : List Dt} {e : Ending} {w' : World} (h : MsgOut ok w F e w') (hpos : 0 < nf) : MsgAny w nf lo F e w' := by
  obtain ⟨g, cap, hs, h1, h2, h3, h4⟩ := h
  refine ⟨some ⟨g, 0, none⟩, cap, h1, ?_, ?_, h4⟩
  · refine ⟨rfl, fun hn => ?_⟩
    have hl := h3.length
    have hc : ∀ j u, (fcells hs)[j]? = some u → w'.cell? ⟨g, 0 + j, none⟩ = some u := fun j u hu => by
      have hj := (List.getElem?_eq_some_iff.1 hu).1
      rw [Nat.zero_add, h2.cellAt j (by rw [← h2.1]; exact hj)]
      exact hu
    exact ⟨g, 0, hs, rfl, (h2.lt g rfl).2, h3.lt, hc⟩
  · have : decide (nf = 0) = false := by simp; omega
    simp [this]

theorem zzmessage_any (fo : Option Addr) (nf fc : Nat) (lo : Option Addr) (nl lc : Nat) (D : List (List Dt)) (L : List Dt) (w : World)
    (b0 : nf ≤ 16) (b1 : nl ≤ 1048576) (hr : RR (fun k => k < w.heap.size) w fo nf D) (hl : RF (fun k => k < w.heap.size) w lo nl L) (hm : ∀ i, i < D.length → (D.getD i []).length ≤ 1048576) :
    Calls Try.prog 12 #[.slice fo nf fc, .slice lo nl lc] w (MsgAny w nf lo (D.flatten ++ L)) := by
  rcases Nat.eq_zero_or_pos nf with h0 | h0
  · subst h0
    obtain rfl : D = [] := List.eq_nil_of_length_eq_zero hr.1.symm
    refine (zzmessage_none fo fc lo nl lc w).mono fun e w' ⟨he, hb⟩ => ?_
    have hn := hl.1
    refine ⟨lo, lc, by rw [he, hn]; rfl, ?_, by simp, hb⟩
    rw [hn] at hl
    exact hl.later hb
  · exact (zzmessage_some fo nf fc lo nl lc D L _ w b0 b1 h0 (fun _ h => h) hr hl hm).mono fun e w' h => h.any h0

theorem getD_append_left' (a b : List Dt) (i : Nat) (h : i < a.length) : (a ++ b).getD i dz = a.getD i dz := by
  rw [List.getD_eq_getElem?_getD, List.getD_eq_getElem?_getD, List.getElem?_append_left h]
theorem getD_append_right' (a b : List Dt) (i : Nat) : (a ++ b).getD (a.length + i) dz = b.getD i dz := by
  rw [List.getD_eq_getElem?_getD, List.getD_eq_getElem?_getD, List.getElem?_append_right (by omega)]
  congr 2
  omega

theorem flatten_split (D : List (List Dt)) (i : Nat) (hi : i < D.length) : D.flatten = (D.take i).flatten ++ (D.getD i [] ++ (D.drop (i + 1)).flatten) := by
  have e : D.getD i [] = D[i] := by simp [hi]
  conv => lhs; rw [← List.take_append_drop i D, List.drop_eq_getElem_cons hi]
  rw [e, List.flatten_append, List.flatten_cons]

/-- Frame j of block i is frame (sum of the earlier blocks' lengths + j) of all. -/
theorem flatten_at (D : List (List Dt)) (L : List Dt) (i j : Nat) (hi : i < D.length) (hj : j < (D.getD i []).length) :
    (D.flatten ++ L).getD ((D.take i).flatten.length + j) dz = (D.getD i []).getD j dz ∧ (D.take i).flatten.length + j < (D.flatten ++ L).length := by
  rw [flatten_split D i hi, List.append_assoc]
  refine ⟨?_, by simp only [List.length_append]; omega⟩
  rw [getD_append_right', List.append_assoc, getD_append_left' _ _ _ hj]

theorem flatten_last (D : List (List Dt)) (L : List Dt) (j : Nat) (hj : j < L.length) :
    (D.flatten ++ L).getD (D.flatten.length + j) dz = L.getD j dz ∧ D.flatten.length + j < (D.flatten ++ L).length := by
  rw [getD_append_right']
  exact ⟨rfl, by simp only [List.length_append]; omega⟩

end Go.Proofs.Qxb6601125a
