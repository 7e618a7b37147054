import Derived.Test.Qxb6601125aClone
import Derived.Deep.RegionHeld3
namespace Go.Proofs.Qxb6601125a
open Go.RowKit

theorem Try.info36 : (Try.prog.info? 36).map (fun i => (i.zero, i.size, i.bytes)) = some (some (.agg #[.int .u16 0, .slice none 0 0]), 2, 32) := by kernel_rfl
theorem Try.cells36 : Try.prog.cellsOf 36 = 2 := by kernel_rfl
theorem Try.cells37 : Try.prog.cellsOf 37 = 2 := by kernel_rfl

/-- What zzFrames leaves: nil for nil; else a row in new memory (block 'w.heap.size') whose frames read as l, their contents in blocks beyond it. -/
def FramesOut (w : World) (ao : Option Addr) (l : List Dt) (e : Ending) (w' : World) : Prop :=
  (ao = none ∧ e = .returned (.slice none 0 0) ∧ w' = w) ∨
  ∃ hs, e = .returned (.slice (some ⟨w.heap.size, 0, none⟩) l.length l.length) ∧ ao ≠ none ∧
    w'.ownsRow w.heap.size 36 2 (.slice (some ⟨w.heap.size, 0, none⟩) l.length l.length) l.length (fcells hs) ∧ Reads (fun k => w.heap.size < k) w' hs l ∧ Below w.heap.size w w'

theorem grown_of_below {w w' : World} (h : Below w.heap.size w w') : w.grownBy w' none := ⟨h.os, h.tape, h.output, h.size, fun k hk _ => h.block k hk⟩

theorem same_setCell {ok : Nat → Prop} (w : World) (a : Addr) (v : Value) (h : ∀ k, ok k → k ≠ a.block) : SameOn ok w (w.setCell a v) :=
  fun k hk _ => Below.heap_setCell w a v k (h k hk)

theorem SameOn.trans {ok : Nat → Prop} {a b c : World} (h : SameOn ok a b) (hs : a.heap.size ≤ b.heap.size) (k : SameOn ok b c) : SameOn ok a c :=
  fun i hi hl => (k i hi (by omega)).trans (h i hi hl)

theorem size_setCell (w : World) (a : Addr) (v : Value) : (w.setCell a v).heap.size = w.heap.size := by simp [World.setCell]

theorem frames_step {w wr w2 : World} {l : List Dt} {hs : List Hdr} {k : Nat} {ao' : Option Addr} {cn cap' : Nat} (hk : k < l.length) (hsl : hs.length = l.length)
    (hown : wr.ownsRow w.heap.size 36 2 (.slice (some ⟨w.heap.size, 0, none⟩) l.length l.length) l.length (fcells hs)) (hrd : Reads (fun k => w.heap.size < k) wr (hs.take k) (l.take k)) (hb : Below w.heap.size w wr)
    (hb3 : Below wr.heap.size wr w2) (hB : w.heap.size < wr.heap.size) (hrb : RB (fun k => wr.heap.size ≤ k) w2 ao' cn (l.getD k dz).2) :
    ∃ hs' : List Hdr, hs'.length = l.length ∧
      ((w2.setCell ⟨w.heap.size, k * 2, none⟩ (.int .u16 (l.getD k dz).1)).setCell ⟨w.heap.size, k * 2 + 1, none⟩ (.slice ao' cn cap')).ownsRow w.heap.size 36 2 (.slice (some ⟨w.heap.size, 0, none⟩) l.length l.length) l.length (fcells hs') ∧
      Reads (fun k => w.heap.size < k) ((w2.setCell ⟨w.heap.size, k * 2, none⟩ (.int .u16 (l.getD k dz).1)).setCell ⟨w.heap.size, k * 2 + 1, none⟩ (.slice ao' cn cap')) (hs'.take (k + 1)) (l.take (k + 1)) ∧
      Below w.heap.size w ((w2.setCell ⟨w.heap.size, k * 2, none⟩ (.int .u16 (l.getD k dz).1)).setCell ⟨w.heap.size, k * 2 + 1, none⟩ (.slice ao' cn cap')) := by
  have o2 := hown.kept (grown_of_below hb3) (.inr (by simp [Value.ownBlock]))
  have o3 := (o2.stored (k * 2) (.int .u16 (l.getD k dz).1)).1
  have o4 := (o3.stored (k * 2 + 1) (.slice ao' cn cap')).1
  rw [fcells_set hs k ((l.getD k dz).1, ao', cn, cap')] at o4
  have s2 : SameOn (fun k => w.heap.size < k) w2 ((w2.setCell ⟨w.heap.size, k * 2, none⟩ (.int .u16 (l.getD k dz).1)).setCell ⟨w.heap.size, k * 2 + 1, none⟩ (.slice ao' cn cap')) :=
    (same_setCell _ _ _ (fun i hi => by simp; omega)).trans (by rw [size_setCell]; omega) (same_setCell _ _ _ (fun i hi => by simp; omega))
  have s3 := (SameOn.all (ok := fun k => w.heap.size < k) hb3).trans hb3.size s2
  refine ⟨hs.set k ((l.getD k dz).1, ao', cn, cap'), by simpa using hsl, o4, ?_, ((hb.trans (hb3.mono (by omega))).setCell (Nat.le_refl _) _).setCell (Nat.le_refl _) _⟩
  have e1 : (hs.set k ((l.getD k dz).1, ao', cn, cap')).take (k + 1) = hs.take k ++ [((l.getD k dz).1, ao', cn, cap')] := by
    rw [List.take_add_one, List.take_set_of_le (by omega)]
    simp [hsl, hk]
  have e2 : l.take (k + 1) = l.take k ++ [l.getD k dz] := by
    rw [List.take_add_one]
    simp [hk]
  rw [e1, e2]
  exact (hrd.carry s3).append ⟨⟨rfl, (hrb.mono (fun i hi => by omega)).carry s2⟩, trivial⟩

set_option maxHeartbeats 400000 in
theorem frames_any (ao : Option Addr) (n cap : Nat) (l : List Dt) (ok : Nat → Prop) (w : World) (hok : ∀ k, ok k → k < w.heap.size) (hnil : ao = none → n = 0) (hr : RF ok w ao n l) (hn : n ≤ 1048576)
    (hc : ∀ i, i < n → ((l.getD i dz).2.getD []).length ≤ 1048576) :
    Calls Try.prog 11 #[.slice ao n cap] w (FramesOut w ao l) := by
  have hq : ∀ w', (binOp .eql 23 (.slice ao n cap) (.slice none 0 0)).run Try.prog w' = .ok (.bool ao.isNone) w' := fun w' => Lib.run_eql_slice_nil w' 23 37 ao n cap 0 0 Try.underlying23
  obtain ⟨i0, hi, hz0, hz1, hz2⟩ := info_parts Try.info36
  cases ao with
  | none =>
    obtain rfl := hnil rfl
    go_enter Try.func11, Try.ntmps11
    go_wp2
    go_ret
    exact .inl ⟨rfl, rfl, rfl⟩
  | some a =>
    have hnl := hr.1
    subst hnl
    go_enter Try.func11, Try.ntmps11
    go_wp2_with (at_make; refine wpList_make_full _ rfl _ _ 28 rfl w.heap.size 36 i0 (.agg #[.int .u16 0, .slice none 0 0]) 2 Try.underlying28 hi hz0 hz1 _ _ _ _ l.length rfl rfl (by omega) (by omega) (by rw [hz2]; omega) (by unfold maxLen; omega) (Nat.le_refl _) ?_; intro w1 hown hgrow)
    have hown1 : w1.ownsRow w.heap.size 36 2 (.slice (some ⟨w.heap.size, 0, none⟩) l.length l.length) l.length (fcells (List.replicate l.length hz)) := by
      rw [← made_frames]
      exact hown
    have hb1 : Below w.heap.size w w1 := (Below.refl _ _).grown hgrow (Nat.le_refl _) (fun k h => by cases h)
    clear hown hgrow hi hz0 hz1 hz2
    go_loopw [4] (fun i wr => ∃ (k : Nat) (hs : List Hdr), k ≤ l.length ∧ i = .int .i64 k ∧ hs.length = l.length ∧ wr.ownsRow w.heap.size 36 2 (.slice (some ⟨w.heap.size, 0, none⟩) l.length l.length) l.length (fcells hs) ∧
        Reads (fun k => w.heap.size < k) wr (hs.take k) (l.take k) ∧ Below w.heap.size w wr) (fun i _ => l.length - (intOf i).toNat)
    case atStart => exact ⟨0, _, Nat.zero_le _, rfl, by simp, hown1, trivial, hb1⟩
    case round =>
      obtain ⟨k, hs, hk, rfl, hsl, hown, hrd, hb⟩ := hrel
      by_cases hlt : k < l.length
      · obtain ⟨b, o, co, cn, cc, ha, hbk, hc0, hc1, hrb⟩ := hr.at hlt
        obtain rfl := Option.some.inj ha
        have g0 : wr.cell? ⟨b, o + k * 2, none⟩ = some (.int .u16 (l.getD k dz).1) := (hb.cell (p := ⟨b, o + k * 2, none⟩) (hok _ hbk)).trans hc0
        have g1 : wr.cell? ⟨b, o + k * 2 + 1, none⟩ = some (.slice co cn cc) := (hb.cell (p := ⟨b, o + k * 2 + 1, none⟩) (hok _ hbk)).trans hc1
        have hB : w.heap.size < wr.heap.size := by
          have := hown.lt w.heap.size rfl
          omega
        obtain ⟨v0, q0⟩ : ∃ v, wr.cell? ⟨w.heap.size, k * 2, none⟩ = some v := ⟨_, (hown.cellAt (k * 2) (by omega)).trans (List.getElem?_eq_getElem (by rw [hown.1]; omega))⟩
        obtain ⟨v1, q1⟩ : ∃ v, wr.cell? ⟨w.heap.size, k * 2 + 1, none⟩ = some v := ⟨_, (hown.cellAt (k * 2 + 1) (by omega)).trans (List.getElem?_eq_getElem (by rw [hown.1]; omega))⟩
        have f0 := hown.frozenAt (k * 2)
        have f1 := hown.frozenAt (k * 2 + 1)
        have hrbr : RB ok wr co cn (l.getD k dz).2 := hrb.carry ((SameOn.below hb).mono hok)
        have hcn : cn ≤ 1048576 := by have := hc k hlt; rw [← hrb.2.1] at this; exact this
        have hokr : ∀ k, ok k → k < wr.heap.size := fun k hk => by have := hok k hk; omega
        have hbB := hok b hbk
        have n1 : b ≠ w.heap.size := by omega
        have n2 : w.heap.size ≠ b := by omega
        have i1 : (0 : Int) ≤ (k : Int) := by omega
        have i2 : (k : Int) < (l.length : Int) := by omega
        have HH : Hid (RB ok wr co cn (l.getD k dz).2) := hrbr
        have HO : Hid (wr.ownsRow w.heap.size 36 2 (.slice (some ⟨w.heap.size, 0, none⟩) l.length l.length) l.length (fcells hs)) := hown
        have HR : Hid (Reads (fun k => w.heap.size < k) wr (hs.take k) (l.take k)) := hrd
        have HW : Hid (Below w.heap.size w wr) := hb
        clear hrbr hown hrd hb hc0 hc1 hrb hr hc hown1 hb1
        generalize hd : l.getD k dz = d at *
        have HD : Hid (d = l.getD k dz) := hd.symm
        clear hd
        go_wp2_with fail
        go_region_held3 (fun w' => w'.cell? ⟨b, o + k * 2, none⟩ = some (.int .u16 d.1) ∧ w'.cell? ⟨b, o + k * 2 + 1, none⟩ = some (.slice co cn cc))
          (go_keep)
          ((go_at_call 23; refine (clone_any _ _ _ d.2 ok _ (by exact hokr) (by exact HH.out) hcn).mono ?_; rintro e w2 ⟨ao', cap', rfl, hrb2, hb2⟩; have hb3 : Below wr.heap.size wr w2 := ⟨hb2.os, hb2.tape, hb2.output, hb2.size, hb2.block⟩; clear hb2; have e0 := (hb3.cell (p := ⟨b, o + k * 2, none⟩) (by exact Nat.lt_trans hbB hB)).trans g0; have e1 := (hb3.cell (p := ⟨b, o + k * 2 + 1, none⟩) (by exact Nat.lt_trans hbB hB)).trans g1; have e2 := (hb3.cell (p := ⟨w.heap.size, k * 2, none⟩) (by exact hB)).trans q0; have e3 := (hb3.cell (p := ⟨w.heap.size, k * 2 + 1, none⟩) (by exact hB)).trans q1; have e4 := (hb3.frozen (p := ⟨w.heap.size, k * 2, none⟩) (by exact hB)).trans f0; have e5 := (hb3.frozen (p := ⟨w.heap.size, k * 2 + 1, none⟩) (by exact hB)).trans f1; have HB3 : Hid (Below wr.heap.size wr w2 ∧ RB (fun k => wr.heap.size ≤ k) w2 ao' cn d.2) := ⟨hb3, hrb2⟩; clear hb3 hrb2))
        obtain ⟨hb3, hrb2⟩ := HB3.out
        obtain ⟨hs', R1, R2, R3, R4⟩ := frames_step (cap' := cap') hlt hsl HO.out HR.out HW.out hb3 hB (HD.out ▸ hrb2)
        rw [← HD.out] at R2 R3 R4
        clear hb3 hrb2 HB3 HH e0 e1 e2 e3 e4 e5 g0 g1 q0 q1 f0 f1 HO HR HW
        go_wp2
        go_roundw
        case rel => exact ⟨k + 1, hs', by omega, by go_num, R1, R2, R3, R4⟩
        case measure => simp [intOf]; omega
      · obtain rfl : k = l.length := by omega
        go_wp2
        go_ret
        exact .inr ⟨hs, rfl, by simp, hown, by have h := hrd; rw [List.take_of_length_le (by omega), List.take_length] at h; exact h, hb⟩
end Go.Proofs.Qxb6601125a
