import Derived.Test.Qxb6601125aRows
import Derived.Test.Qxb6601125aPlain
namespace Go.Proofs.Qxb6601125a
open Go.RowKit

theorem Try.info5 : (Try.prog.info? 5).map (fun i => (i.zero, i.size, i.bytes)) = some (some (.int .u8 0), 1, 1) := by kernel_rfl

/-- What a row holds behind k rounds of filling. -/
def filled {α : Type} (l : List α) (f : α → Value) (z : Value) (k : Nat) : List Value := (l.take k).map f ++ List.replicate (l.length - k) z

theorem filled_zero {α : Type} (l : List α) (f : α → Value) (z : Value) : filled l f z 0 = List.replicate l.length z := by simp [filled]
theorem filled_all {α : Type} (l : List α) (f : α → Value) (z : Value) : filled l f z l.length = l.map f := by simp [filled]
theorem filled_set {α : Type} (l : List α) (f : α → Value) (z : Value) (k : Nat) (x : α) (hx : l[k]? = some x) : (filled l f z k).set k (f x) = filled l f z (k + 1) := by
  have hk := (List.getElem?_eq_some_iff.1 hx).1
  unfold filled
  rw [List.set_append_right _ _ (by simp; omega)]
  have e1 : l.length - k = (l.length - (k + 1)) + 1 := by omega
  rw [e1, List.replicate_succ]
  have e2 : k - ((l.take k).map f).length = 0 := by simp; omega
  rw [e2, List.set_cons_zero, List.take_add_one, hx]
  simp

theorem clone_step {w wr : World} {l : List Int} {k : Nat} (hk : k < l.length) (hown : wr.ownsRow w.heap.size 5 1 (.slice (some ⟨w.heap.size, 0, none⟩) l.length l.length) l.length (filled l (.int .u8) (.int .u8 0) k)) (hb : Below w.heap.size w wr) :
    (wr.setCell ⟨w.heap.size, k, none⟩ (.int .u8 (l.getD k 0))).ownsRow w.heap.size 5 1 (.slice (some ⟨w.heap.size, 0, none⟩) l.length l.length) l.length (filled l (.int .u8) (.int .u8 0) (k + 1)) ∧
    Below w.heap.size w (wr.setCell ⟨w.heap.size, k, none⟩ (.int .u8 (l.getD k 0))) := by
  have h := hown.stored k (.int .u8 (l.getD k 0))
  rw [filled_set l (.int .u8) (.int .u8 0) k (l.getD k 0) (by simp [hk])] at h
  exact ⟨h.1, hb.setCell (Nat.le_refl _) _⟩

theorem clone_end {w wr : World} {l : List Int} (hown : wr.ownsRow w.heap.size 5 1 (.slice (some ⟨w.heap.size, 0, none⟩) l.length l.length) l.length (filled l (.int .u8) (.int .u8 0) l.length)) :
    RB (fun k => w.heap.size ≤ k) wr (some ⟨w.heap.size, 0, none⟩) l.length (some l) := by
  rw [filled_all] at hown
  refine ⟨by simp, by simp, fun hn => ⟨w.heap.size, 0, rfl, Nat.le_refl _, fun i hi => ?_⟩⟩
  rw [Nat.zero_add, hown.cellAt i (by omega)]
  simp [hi]

/-- What zzCloneBytes leaves: a slice in new memory that reads the same; nothing old has turned. -/
def CloneOut (w : World) (n : Nat) (c : Option (List Int)) (e : Ending) (w' : World) : Prop :=
  ∃ ao' cap', e = .returned (.slice ao' n cap') ∧ RB (fun k => w.heap.size ≤ k) w' ao' n c ∧ Below w.heap.size w w'

set_option maxHeartbeats 400000 in
theorem clone_any (ao : Option Addr) (n cap : Nat) (c : Option (List Int)) (ok : Nat → Prop) (w : World) (hok : ∀ k, ok k → k < w.heap.size) (hr : RB ok w ao n c) (hn : n ≤ 1048576) :
    Calls Try.prog 23 #[.slice ao n cap] w (CloneOut w n c) := by
  have hq : ∀ w', (binOp .eql 34 (.slice ao n cap) (.slice none 0 0)).run Try.prog w' = .ok (.bool ao.isNone) w' := fun w' => Lib.run_eql_slice_nil w' 34 5 ao n cap 0 0 Try.underlying34
  obtain ⟨i0, hi, hz0, hz1, hz2⟩ := info_parts Try.info5
  obtain ⟨r1, r2, r3⟩ := hr
  cases ao with
  | none =>
    obtain rfl := r1.1 rfl
    simp at r2
    subst r2
    go_enter Try.func23, Try.ntmps23
    go_wp2
    go_ret
    exact ⟨none, 0, rfl, ⟨by simp, by simp, fun h => by omega⟩, Below.refl _ _⟩
  | some a =>
    obtain ⟨l, rfl⟩ : ∃ l, c = some l := by
      cases c with
      | none => simp at r1
      | some l => exact ⟨l, rfl⟩
    simp only [Option.getD_some] at r2 r3
    subst r2
    clear r1
    go_enter Try.func23, Try.ntmps23
    go_wp2_with (at_make; refine wpList_make_full _ rfl _ _ 34 rfl w.heap.size 5 i0 (.int .u8 0) 1 Try.underlying34 hi hz0 hz1 _ _ _ _ l.length rfl rfl (by omega) (by omega) (by rw [hz2]; omega) (by unfold maxLen; omega) (Nat.le_refl _) ?_; intro w1 hown hgrow)
    have hown1 : w1.ownsRow w.heap.size 5 1 (.slice (some ⟨w.heap.size, 0, none⟩) l.length l.length) l.length (filled l (.int .u8) (.int .u8 0) 0) := by
      rw [filled_zero]
      simpa [toList_madeCells_one, Value.cells] using hown
    have hb1 : Below w.heap.size w w1 := (Below.refl _ _).grown hgrow (Nat.le_refl _) (fun k h => by cases h)
    clear hown hgrow hi hz0 hz1 hz2
    go_loopw [4] (fun i wr => ∃ k : Nat, k ≤ l.length ∧ i = .int .i64 k ∧ wr.ownsRow w.heap.size 5 1 (.slice (some ⟨w.heap.size, 0, none⟩) l.length l.length) l.length (filled l (.int .u8) (.int .u8 0) k) ∧ Below w.heap.size w wr) (fun i _ => l.length - (intOf i).toNat)
    case atStart => exact ⟨0, Nat.zero_le _, rfl, hown1, hb1⟩
    case round =>
      obtain ⟨k, hk, rfl, hown, hb⟩ := hrel
      by_cases hlt : k < l.length
      · obtain ⟨b, o, ha, hbk, hc⟩ := r3 (by omega)
        obtain rfl := Option.some.inj ha
        have hc1 : wr.cell? ⟨b, o + k, none⟩ = some (.int .u8 (l.getD k 0)) := (hb.cell (p := ⟨b, o + k, none⟩) (hok _ hbk)).trans (hc k hlt)
        have hg : ∃ v, wr.cell? ⟨w.heap.size, k, none⟩ = some v := ⟨_, (hown.cellAt k (by omega)).trans (List.getElem?_eq_getElem (by rw [hown.1]; omega))⟩
        obtain ⟨v, hg⟩ := hg
        have hf := hown.frozenAt k
        have R := clone_step hlt hown hb
        clear hown hb hc r3
        generalize l.getD k 0 = x at hc1 R
        go_wp2
        go_roundw
        case rel => exact ⟨k + 1, by omega, by go_num, R.1, R.2⟩
        case measure => simp [intOf]; omega
      · obtain rfl : k = l.length := by omega
        go_wp2
        go_ret
        exact ⟨_, _, rfl, clone_end hown, hb⟩
end Go.Proofs.Qxb6601125a
