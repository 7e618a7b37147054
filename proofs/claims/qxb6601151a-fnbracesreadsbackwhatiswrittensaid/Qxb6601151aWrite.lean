import Derived.Test.Qxb6601151aRows
import Derived.Test.Qxb6601151aPlain
import Derived.WalkKit
import Derived.WalkSpells
import Derived.WalkLawsBesides
namespace Go.Proofs.Qxb6601151a
open Go.RowKit

theorem Try.info21 : (Try.prog.info? 21).map (fun i => (i.zero, i.size, i.bytes)) = some (some (.int .i32 0), 1, 4) := by kernel_rfl

/-- The slice v of runes is the call's own (blocks from B on), not nil, and holds xs. -/
def OR (B : Nat) (w : World) (v : Value) (xs : List Int) : Prop := w.ownsRow B 21 1 v xs.length (xs.map (Value.int .i32)) ∧ v ≠ .slice none 0 0

theorem OR.form {B : Nat} {w : World} {v : Value} {xs : List Int} (h : OR B w v xs) : ∃ g cap, v = .slice (some ⟨g, 0, none⟩) xs.length cap ∧ B ≤ g := by
  rcases h.1.2 with ⟨h', _⟩ | ⟨g, cap, cur, h', hg, _⟩
  · exact absurd h' h.2
  · exact ⟨g, cap, h', hg⟩

theorem or_step {B : Nat} {w wr w1 : World} {v v' : Value} {xs ys : List Int} {o : Obj} {m : Nat} (h : OR B wr v xs) (hb : Below B w wr) (hB : B ≤ wr.heap.size) (hm : m = ys.length)
    (hown : w1.ownsRow B 21 1 v' (xs.length + m) (xs.map (Value.int .i32) ++ ys.map (Value.int .i32))) (hg : (wr.alloc o).grownBy w1 v.ownBlock) (hnil : v' = .slice none 0 0 ↔ v = .slice none 0 0 ∧ m = 0) :
    OR B w1 v' (xs ++ ys) ∧ Below B w w1 ∧ B ≤ w1.heap.size := by
  have hlt := h.1.lt
  have hsz : (wr.alloc o).heap.size = wr.heap.size + 1 := by simp
  have hgs := hg.size
  refine ⟨⟨by rw [List.length_append, List.map_append, ← hm]; exact hown, fun e => h.2 (hnil.1 e).1⟩, (hb.alloc hB o).grown hg (by omega) (fun k e => (hlt k e).1), by omega⟩

theorem or_step0 {B : Nat} {w wr w1 : World} {v v' : Value} {xs ys : List Int} {m : Nat} (h : OR B wr v xs) (hb : Below B w wr) (hB : B ≤ wr.heap.size) (hm : m = ys.length)
    (hown : w1.ownsRow B 21 1 v' (xs.length + m) (xs.map (Value.int .i32) ++ ys.map (Value.int .i32))) (hg : wr.grownBy w1 v.ownBlock) (hnil : v' = .slice none 0 0 ↔ v = .slice none 0 0 ∧ m = 0) :
    OR B w1 v' (xs ++ ys) ∧ Below B w w1 ∧ B ≤ w1.heap.size := by
  have hlt := h.1.lt
  have hgs := hg.size
  refine ⟨⟨by rw [List.length_append, List.map_append, ← hm]; exact hown, fun e => h.2 (hnil.1 e).1⟩, hb.grown hg (by omega) (fun k e => (hlt k e).1), by omega⟩

/-- The slice (bo, tb.length) of bools reads as tb; its cells lie below B. -/
def RBo (B : Nat) (w : World) (bo : Option Addr) (tb : List Bool) : Prop :=
  0 < tb.length → ∃ b o, bo = some ⟨b, o, none⟩ ∧ b < B ∧ ∀ i, i < tb.length → w.cell? ⟨b, o + i, none⟩ = some (.bool (tb.getD i false))

def blank (b : Bool) : Int := if b then 9 else 32

def AppOut (B : Nat) (w : World) (xs : List Int) (e : Ending) (w' : World) : Prop := ∃ v, e = .returned v ∧ OR B w' v xs ∧ Below B w w' ∧ B ≤ w'.heap.size

theorem take_snoc_blank (tb : List Bool) (k : Nat) (hk : k < tb.length) : (tb.take (k + 1)).map blank = (tb.take k).map blank ++ [blank (tb.getD k false)] := by
  rw [List.take_add_one, List.getElem?_eq_getElem hk, List.map_append]
  have e : tb.getD k false = tb[k] := by simp [hk]
  rw [e]
  rfl

set_option maxHeartbeats 400000 in
/-- zzAppendBlanks. -/
theorem appblanks_any (B : Nat) (v : Value) (xs : List Int) (bo : Option Addr) (bc : Nat) (tb : List Bool) (w : World) (h : OR B w v xs) (hB : B ≤ w.heap.size) (hr : RBo B w bo tb) (hx : xs.length ≤ 4194304) (hn : tb.length ≤ 65536) :
    Calls Try.prog 13 #[v, .slice bo tb.length bc] w (AppOut B w (xs ++ tb.map blank)) := by
  obtain ⟨i0, hi, hz0, hz1, hz2⟩ := info_parts Try.info21
  go_enter Try.func13, Try.ntmps13
  go_wp2_with fail
  go_loopw [0, 5] (fun v i wr => ∃ k : Nat, k ≤ tb.length ∧ i = .int .i64 k ∧ OR B wr v (xs ++ (tb.take k).map blank) ∧ Below B w wr ∧ B ≤ wr.heap.size) (fun _ i _ => tb.length - (intOf i).toNat)
  case atStart => exact ⟨0, Nat.zero_le _, rfl, by simpa using h, Below.refl _ _, hB⟩
  case round =>
    obtain ⟨k, hk, rfl, hor, hb, hB2⟩ := hrel
    by_cases hlt : k < tb.length
    · obtain ⟨b, o, rfl, hbB, hc⟩ := hr (by omega)
      have g0 := (hb.cell (p := ⟨b, o + k, none⟩) hbB).trans (hc k hlt)
      have HE : Hid (xs ++ (tb.take (k + 1)).map blank = (xs ++ (tb.take k).map blank) ++ [blank (tb.getD k false)]) := by show _ = _; rw [take_snoc_blank tb k hlt, List.append_assoc]
      have hlen : (xs ++ (tb.take k).map blank).length ≤ 4259840 := by rw [List.length_append, List.length_map, List.length_take]; omega
      clear hc
      generalize tb.getD k false = x at *
      generalize xs ++ (tb.take k).map blank = ys at *
      have HO : Hid (wr.ownsRow B 21 1 u0 ys.length (ys.map (Value.int .i32))) := hor.1
      have HR : Hid (OR B wr u0 ys) := hor
      clear hor
      cases x with
      | false =>
        go_wp2_with (at_builtin; refine wpList_append_own _ rfl _ _ 22 rfl B 21 i0 (.int .i32 0) 1 4 Try.underlying22 hi hz0 hz1 hz2 rfl (by decide) _ _ _ rfl (HO.out.alloc _) ⟨wr.heap.size, 0, none⟩ 1 1 [_] rfl rfl (cell_one_new _ _ _) (by intro u hu; simp at hu; subst hu; rfl) (by unfold maxLen; omega) (by omega) (by simp; omega) ?_; intro v' w1 hown hgrow hnil)
        have R := or_step (ys := [32]) HR.out hb hB2 rfl hown hgrow hnil
        go_roundw
        case rel => exact ⟨k + 1, by omega, by go_num, by rw [HE.out]; exact R.1, R.2⟩
        case measure => simp [intOf]; omega
      | true =>
        go_wp2_with (at_builtin; refine wpList_append_own _ rfl _ _ 22 rfl B 21 i0 (.int .i32 0) 1 4 Try.underlying22 hi hz0 hz1 hz2 rfl (by decide) _ _ _ rfl (HO.out.alloc _) ⟨wr.heap.size, 0, none⟩ 1 1 [_] rfl rfl (cell_one_new _ _ _) (by intro u hu; simp at hu; subst hu; rfl) (by unfold maxLen; omega) (by omega) (by simp; omega) ?_; intro v' w1 hown hgrow hnil)
        have R := or_step (ys := [9]) HR.out hb hB2 rfl hown hgrow hnil
        go_roundw
        case rel => exact ⟨k + 1, by omega, by go_num, by rw [HE.out]; exact R.1, R.2⟩
        case measure => simp [intOf]; omega
    · obtain rfl : k = tb.length := by omega
      go_wp2
      go_ret
      exact ⟨_, rfl, by rwa [List.take_length] at hor, hb, hB2⟩
end Go.Proofs.Qxb6601151a
