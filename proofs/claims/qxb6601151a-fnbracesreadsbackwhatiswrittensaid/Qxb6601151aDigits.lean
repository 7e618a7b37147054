import Derived.Test.Qxb6601151aWrite
import Derived.Deep.OwnRows
namespace Go.Proofs.Qxb6601151a
open Go.RowKit

/-- The decimal digits of v, the lowest first; at most f of them. -/
def rd : Nat → Nat → List Int
  | 0, _ => []
  | f + 1, v => if v = 0 then [] else (48 + (v : Int) % 10) :: rd f (v / 10)
def dec (v : Nat) : List Int := if v = 0 then [48] else (rd 8 v).reverse

def DInv (x k vk : Nat) (buf : Nat → Int) : Prop := (List.range k).map buf ++ rd (8 - k) vk = rd 8 x ∧ vk ≤ 65535 / 10 ^ k ∧ k ≤ 8

theorem dinv_small {k vk : Nat} (h : vk ≤ 65535 / 10 ^ k) (hv : 0 < vk) : k ≤ 4 := by
  rcases Nat.lt_or_ge 4 k with h4 | h4
  · have h5 : 10 ^ 5 ≤ 10 ^ k := Nat.pow_le_pow_right (by omega) h4
    have : 65535 / 10 ^ k = 0 := Nat.div_eq_of_lt (by omega)
    omega
  · exact h4

theorem DInv.step {x k vk : Nat} {buf : Nat → Int} (h : DInv x k vk buf) (hv : 0 < vk) : DInv x (k + 1) (vk / 10) (fun i => if i = k then 48 + (vk : Int) % 10 else buf i) := by
  obtain ⟨h1, h2, h3⟩ := h
  have hk := dinv_small h2 hv
  refine ⟨?_, ?_, by omega⟩
  · rw [← h1, List.range_succ, List.map_append, show 8 - k = (8 - (k + 1)) + 1 by omega]
    have e : (List.range k).map (fun i => if i = k then 48 + (vk : Int) % 10 else buf i) = (List.range k).map buf := by
      refine List.map_congr_left fun i hi => ?_
      have := List.mem_range.1 hi
      rw [if_neg (by omega)]
    rw [e]
    have e2 : rd (8 - (k + 1) + 1) vk = (48 + (vk : Int) % 10) :: rd (8 - (k + 1)) (vk / 10) := by
      show (if vk = 0 then [] else _) = _
      rw [if_neg (by omega)]
    rw [e2]
    simp
  · rw [Nat.pow_succ, ← Nat.div_div_eq_div_mul]
    exact Nat.div_le_div_right h2

theorem DInv.done {x k : Nat} {buf : Nat → Int} (h : DInv x k 0 buf) : (List.range k).map buf = rd 8 x := by
  have := h.1
  have e : rd (8 - k) 0 = [] := by
    cases 8 - k with
    | zero => rfl
    | succ n => show (if 0 = 0 then [] else _) = _; rw [if_pos rfl]
  rw [e, List.append_nil] at this
  exact this

theorem drop_pred (k m : Nat) (buf : Nat → Int) (hm : m < k) : (((List.range k).map buf).drop m).reverse = (((List.range k).map buf).drop (m + 1)).reverse ++ [buf m] := by
  rw [List.drop_eq_getElem_cons (by simpa using hm), List.reverse_cons]
  simp

theorem own_apart {B : Nat} {w : World} {v : Value} {ys : List Int} {g n : Nat} {f : Nat → Value} (h : OR B w v ys) (k : w.rowIs g 70 n f) : v.ownBlock ≠ some g := by
  intro e
  obtain ⟨c, hc, _⟩ := k
  rcases h.1.2 with ⟨h', _⟩ | ⟨g', cap, cur, h', _, hg, _⟩
  · exact h.2 h'
  · subst h'
    simp only [Value.ownBlock, Option.some.injEq] at e
    subst e
    rw [hg] at hc
    simp at hc

theorem or_alloc {B : Nat} {w : World} {v : Value} {ys : List Int} (h : OR B w v ys) (o : Obj) : OR B (w.alloc o) v ys := ⟨h.1.alloc o, h.2⟩
theorem or_other {B : Nat} {w : World} {v : Value} {ys : List Int} (h : OR B w v ys) {g : Nat} (hg : v.ownBlock ≠ some g) (o : Nat) (u : Value) : OR B (w.setCell ⟨g, o, none⟩ u) v ys := by
  refine ⟨h.1.kept (row := some g) ⟨rfl, rfl, rfl, by simp [World.setCell], fun k _ hk => Below.heap_setCell _ _ _ _ (fun e => hk (by rw [e]))⟩ (.inr hg), h.2⟩

theorem row_kept {w w1 : World} {g : Nat} {f : Nat → Value} {o : Obj} {r : Option Nat} (h : w.rowIs g 70 8 f) (hg : (w.alloc o).grownBy w1 r) (hr : r ≠ some g) : w1.rowIs g 70 8 f := by
  have h2 := h.alloc o
  exact h2.of_block (hg.block g h2.lt (fun e => hr e.symm))

set_option maxHeartbeats 400000 in
theorem appdigits_any (B : Nat) (v : Value) (xs : List Int) (x : Nat) (w : World) (h : OR B w v xs) (hB : B ≤ w.heap.size) (hx : xs.length ≤ 4194304) (hv : x ≤ 65535) :
    Calls Try.prog 14 #[v, .int .i64 x] w (AppOut B w (xs ++ dec x)) := by
  obtain ⟨i0, hi, hz0, hz1, hz2⟩ := info_parts Try.info21
  have HO : Hid (w.ownsRow B 21 1 v xs.length (xs.map (Value.int .i32))) := h.1
  by_cases hx0 : x = 0
  · subst hx0
    go_enter Try.func14, Try.ntmps14
    go_wp2_with (at_builtin; refine wpList_append_own _ rfl _ _ 22 rfl B 21 i0 (.int .i32 0) 1 4 Try.underlying22 hi hz0 hz1 hz2 rfl (by decide) _ _ _ rfl (HO.out.alloc _) ⟨w.heap.size, 0, none⟩ 1 1 [_] rfl rfl (cell_one_new _ _ _) (by intro u hu; simp at hu; subst hu; rfl) (by unfold maxLen; omega) (by omega) (by simp; omega) ?_; intro v' w1 hown hgrow hnil)
    have R := or_step (ys := [48]) h (Below.refl _ _) hB rfl hown hgrow hnil
    go_ret
    exact ⟨_, rfl, R.1, R.2.1, R.2.2⟩
  · have hne : ((x : Int) == 0) = false := by rw [beq_eq_false_iff_ne]; omega
    have hrow : (w.alloc (.cells #[.int .i32 0, .int .i32 0, .int .i32 0, .int .i32 0, .int .i32 0, .int .i32 0, .int .i32 0, .int .i32 0] 70)).rowIs w.heap.size 70 8 (fun i => .int .i32 ((fun _ => 0 : Nat → Int) i)) :=
      ⟨_, heap_alloc_new w _, rfl, fun i hi => by
        match i, hi with
        | 0, _ => rfl
        | 1, _ => rfl
        | 2, _ => rfl
        | 3, _ => rfl
        | 4, _ => rfl
        | 5, _ => rfl
        | 6, _ => rfl
        | 7, _ => rfl⟩
    have hor := or_alloc h (.cells #[.int .i32 0, .int .i32 0, .int .i32 0, .int .i32 0, .int .i32 0, .int .i32 0, .int .i32 0, .int .i32 0] 70)
    have hb0 : Below B w (w.alloc (.cells #[.int .i32 0, .int .i32 0, .int .i32 0, .int .i32 0, .int .i32 0, .int .i32 0, .int .i32 0, .int .i32 0] 70)) := (Below.refl _ _).alloc hB _
    have HST : Hid (OR B (w.alloc (.cells #[.int .i32 0, .int .i32 0, .int .i32 0, .int .i32 0, .int .i32 0, .int .i32 0, .int .i32 0, .int .i32 0] 70)) v xs ∧ Below B w (w.alloc (.cells #[.int .i32 0, .int .i32 0, .int .i32 0, .int .i32 0, .int .i32 0, .int .i32 0, .int .i32 0, .int .i32 0] 70)) ∧ (w.alloc (.cells #[.int .i32 0, .int .i32 0, .int .i32 0, .int .i32 0, .int .i32 0, .int .i32 0, .int .i32 0, .int .i32 0] 70)).rowIs w.heap.size 70 8 (fun i => .int .i32 ((fun _ => 0 : Nat → Int) i))) := ⟨hor, hb0, hrow⟩
    clear hrow hor hb0
    go_enter Try.func14, Try.ntmps14
    go_wp2_with fail
    go_loopw [1, 6] (fun a b wr => ∃ (k vk : Nat) (buf : Nat → Int), a = .int .i64 vk ∧ b = .int .i64 k ∧ DInv x k vk buf ∧ Hid (OR B wr v xs ∧ Below B w wr ∧ wr.rowIs w.heap.size 70 8 (fun i => .int .i32 (buf i)) ∧ B ≤ wr.heap.size)) (fun a _ _ => (intOf a).toNat)
    case atStart => exact ⟨0, x, _, rfl, rfl, ⟨rfl, by simpa using hv, by omega⟩, HST.out.1, HST.out.2.1, HST.out.2.2, by simp; omega⟩
    case round =>
      obtain ⟨k, vk, buf, rfl, rfl, hdi, HI⟩ := hrel
      clear HST
      by_cases hv0 : 0 < vk
      · have hk4 := dinv_small hdi.2.1 hv0
        have hvb : vk ≤ 65535 := Nat.le_trans hdi.2.1 (Nat.div_le_self _ _)
        have hds := hdi.step hv0
        obtain ⟨hor, hb, hrow, hB2⟩ := HI.out
        have q0 := hrow.cell (i := k) (by omega)
        have f0 := hrow.frozen k
        have hap := own_apart hor hrow
        have hrow2 := hrow.set k (.int .i32 (48 + (vk : Int) % 10))
        have HN : Hid (OR B (wr.setCell ⟨w.heap.size, k, none⟩ (.int .i32 (48 + (vk : Int) % 10))) v xs ∧ Below B w (wr.setCell ⟨w.heap.size, k, none⟩ (.int .i32 (48 + (vk : Int) % 10))) ∧ (wr.setCell ⟨w.heap.size, k, none⟩ (.int .i32 (48 + (vk : Int) % 10))).rowIs w.heap.size 70 8 (fun i => .int .i32 ((fun i => if i = k then 48 + (vk : Int) % 10 else buf i) i)) ∧ B ≤ (wr.setCell ⟨w.heap.size, k, none⟩ (.int .i32 (48 + (vk : Int) % 10))).heap.size) := by
          refine ⟨or_other hor hap _ _, hb.setCell (by exact hB) _, hrow2.congr fun i hi => ?_, by simpa [World.setCell] using hB2⟩
          by_cases hik : i = k
          · simp [hik]
          · simp [hik]
        have HDS : Hid (DInv x (k + 1) (vk / 10) (fun i => if i = k then 48 + (vk : Int) % 10 else buf i)) := hds
        clear hor hb hrow hrow2 HI hap hds hdi
        go_wp2
        go_roundw
        case rel => exact ⟨k + 1, vk / 10, _, by go_num, by go_num, HDS.out, HN⟩
        case measure => simp [intOf]; omega
      · obtain rfl : vk = 0 := by omega
        have hdone := hdi.done
        have hk8 := hdi.2.2
        obtain ⟨hor, hb, hrow, hB2⟩ := HI.out
        have HDN : Hid ((List.range k).map buf = rd 8 x) := hdone
        have HST2 : Hid (OR B wr v (xs ++ (((List.range k).map buf).drop k).reverse) ∧ Below B w wr ∧ wr.rowIs w.heap.size 70 8 (fun i => .int .i32 (buf i)) ∧ B ≤ wr.heap.size) := ⟨by rw [List.drop_eq_nil_of_le (by simp)]; simpa using hor, hb, hrow, hB2⟩
        clear hdone hdi HI hor hb hrow hB2
        go_wp2
        go_loopw [0, 6] (fun a b wr => ∃ (m : Nat), m ≤ k ∧ b = .int .i64 m ∧ Hid (OR B wr a (xs ++ (((List.range k).map buf).drop m).reverse) ∧ Below B w wr ∧ wr.rowIs w.heap.size 70 8 (fun i => .int .i32 (buf i)) ∧ B ≤ wr.heap.size)) (fun _ b _ => (intOf b).toNat)
        case atStart => exact ⟨k, Nat.le_refl _, rfl, HST2⟩
        case round =>
          clear HST2
          obtain ⟨m, hm, rfl, HI⟩ := hrel
          obtain ⟨hor, hb, hrow, hB2⟩ := HI.out
          by_cases hm0 : 0 < m
          · obtain ⟨m, rfl⟩ : ∃ m', m = m' + 1 := ⟨m - 1, by omega⟩
            have HE : Hid (xs ++ (((List.range k).map buf).drop m).reverse = xs ++ (((List.range k).map buf).drop (m + 1)).reverse ++ [buf m]) := by show _ = _; rw [drop_pred k m buf (by omega), List.append_assoc]
            have hlen : (xs ++ (((List.range k).map buf).drop (m + 1)).reverse).length ≤ 4194320 := by rw [List.length_append, List.length_reverse, List.length_drop, List.length_map, List.length_range]; omega
            have q0 := hrow.cell (i := m) (by omega)
            generalize xs ++ (((List.range k).map buf).drop (m + 1)).reverse = ys at *
            have HO2 : Hid (wr.ownsRow B 21 1 u0 ys.length (ys.map (Value.int .i32))) := hor.1
            have HA : Hid (OR B wr u0 ys ∧ Below B w wr ∧ wr.rowIs w.heap.size 70 8 (fun i => .int .i32 (buf i)) ∧ B ≤ wr.heap.size) := ⟨hor, hb, hrow, hB2⟩
            clear hor hb hrow HI
            go_wp2_with (at_builtin; refine wpList_append_own _ rfl _ _ 22 rfl B 21 i0 (.int .i32 0) 1 4 Try.underlying22 hi hz0 hz1 hz2 rfl (by decide) _ _ _ rfl (HO2.out.alloc _) ⟨wr.heap.size, 0, none⟩ 1 1 [_] rfl rfl (cell_one_new _ _ _) (by intro u hu; simp at hu; subst hu; rfl) (by unfold maxLen; omega) (by omega) (by simp; omega) ?_; intro v' w1 hown hgrow hnil)
            have R := or_step (ys := [buf m]) HA.out.1 HA.out.2.1 HA.out.2.2.2 rfl hown hgrow hnil
            have hrow2 := row_kept HA.out.2.2.1 hgrow (own_apart HA.out.1 HA.out.2.2.1)
            go_roundw
            case rel =>
              have HF : Hid (OR B w1 v' (xs ++ (((List.range k).map buf).drop m).reverse) ∧ Below B w w1 ∧ w1.rowIs w.heap.size 70 8 (fun i => .int .i32 (buf i)) ∧ B ≤ w1.heap.size) := ⟨by rw [HE.out]; exact R.1, R.2.1, hrow2, R.2.2⟩
              (repeat apply Exists.intro)
              refine ⟨?_, rfl⟩
              exact ⟨m, by omega, by go_num, HF⟩
            case measure => simp [intOf]
          · obtain rfl : m = 0 := by omega
            go_wp2
            go_ret
            refine ⟨_, rfl, ?_, hb, hB2⟩
            have e : dec x = (((List.range k).map buf).drop 0).reverse := by rw [HDN.out]; unfold dec; rw [if_neg hx0]; rfl
            rw [e]
            exact hor
end Go.Proofs.Qxb6601151a
