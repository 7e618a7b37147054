import Derived.Test.Qxb6601125aFrames
namespace Go.Proofs.Qxb6601125a
open Go.RowKit

theorem RF.nil {ok : Nat → Prop} {w : World} {ao : Option Addr} {n : Nat} {l : List Dt} (h : RF ok w ao n l) : ao = none → n = 0 := by
  intro e
  rcases Nat.eq_zero_or_pos n with h0 | h0
  · exact h0
  · obtain ⟨b, o, hs, e', _⟩ := h.2 h0
    rw [e] at e'
    cases e'

theorem rf_of_row {base : Nat} {w : World} {g : Nat} {l : List Dt} {hs : List Hdr} {cap : Nat} (hg : base ≤ g) (hr : Reads (fun k => base ≤ k) w hs l)
    (hown : w.ownsRow base 36 2 (.slice (some ⟨g, 0, none⟩) l.length cap) l.length (fcells hs)) : RF (fun k => base ≤ k) w (some ⟨g, 0, none⟩) l.length l := by
  refine ⟨rfl, fun _ => ⟨g, 0, hs, rfl, hg, hr, fun j u hu => ?_⟩⟩
  have hj := (List.getElem?_eq_some_iff.1 hu).1
  rw [Nat.zero_add, hown.cellAt j (by rw [← hown.1]; exact hj)]
  exact hu

theorem FramesOut.rf {w : World} {ao : Option Addr} {l : List Dt} {e : Ending} {w' : World} (h : FramesOut w ao l e w') (hl : ao = none → l.length = 0) :
    ∃ ao' cap', e = .returned (.slice ao' l.length cap') ∧ RF (fun k => w.heap.size ≤ k) w' ao' l.length l ∧ Below w.heap.size w w' ∧ (ao' = none ↔ ao = none) := by
  rcases h with ⟨h1, rfl, rfl⟩ | ⟨hs, rfl, h1, h2, h3, h4⟩
  · have := hl h1
    exact ⟨none, 0, by rw [this], ⟨rfl, fun h => by omega⟩, Below.refl _ _, by simp [h1]⟩
  · exact ⟨_, _, rfl, rf_of_row (Nat.le_refl _) (h3.mono fun k hk => by omega) h2, h4, by simp [h1]⟩

theorem Try.info28 : (Try.prog.info? 28).map (fun i => (i.zero, i.size, i.bytes)) = some (some (.slice none 0 0), 1, 24) := by kernel_rfl

abbrev SH := Option Addr × Nat × Nat
def sz : SH := (none, 0, 0)
def sval (h : SH) : Value := .slice h.1 h.2.1 h.2.2

def BlocksOut (w : World) (n : Nat) (D : List (List Dt)) (e : Ending) (w' : World) : Prop :=
  ∃ ao' cap', e = .returned (.slice ao' n cap') ∧ RR (fun k => w.heap.size ≤ k) w' ao' n D ∧ Below w.heap.size w w'

/-- What holds of the row of blocks behind k rounds. -/
def BlkInv (w : World) (D : List (List Dt)) (k : Nat) (vs : List SH) (wr : World) : Prop :=
  vs.length = D.length ∧ wr.ownsRow w.heap.size 28 1 (.slice (some ⟨w.heap.size, 0, none⟩) D.length D.length) D.length (vs.map sval) ∧
  (∀ i, i < k → RF (fun k => w.heap.size < k) wr (vs.getD i sz).1 (vs.getD i sz).2.1 (D.getD i [])) ∧ Below w.heap.size w wr

theorem blocks_step {w wr w2 : World} {D : List (List Dt)} {vs : List SH} {k : Nat} {ao' : Option Addr} {rn cap' : Nat} (hk : k < D.length) (h : BlkInv w D k vs wr) (hB : w.heap.size < wr.heap.size)
    (hb3 : Below wr.heap.size wr w2) (hrf : RF (fun k => wr.heap.size ≤ k) w2 ao' rn (D.getD k [])) :
    BlkInv w D (k + 1) (vs.set k (ao', rn, cap')) (w2.setCell ⟨w.heap.size, k, none⟩ (.slice ao' rn cap')) := by
  obtain ⟨h1, hown, h2, hb⟩ := h
  have o2 := hown.kept (grown_of_below hb3) (.inr (by simp [Value.ownBlock]))
  have o3 := (o2.stored k (.slice ao' rn cap')).1
  have e : (vs.map sval).set k (.slice ao' rn cap') = (vs.set k (ao', rn, cap')).map sval := by rw [List.map_set]; rfl
  rw [e] at o3
  have s2 : SameOn (fun k => w.heap.size < k) w2 (w2.setCell ⟨w.heap.size, k, none⟩ (.slice ao' rn cap')) := same_setCell _ _ _ (fun i hi => by simp; omega)
  have s3 := (SameOn.all (ok := fun k => w.heap.size < k) hb3).trans hb3.size s2
  refine ⟨by simpa using h1, o3, fun i hi => ?_, (hb.trans (hb3.mono (by omega))).setCell (Nat.le_refl _) _⟩
  by_cases hik : i = k
  · subst hik
    have : (vs.set i (ao', rn, cap')).getD i sz = (ao', rn, cap') := by simp [h1, hk]
    rw [this]
    exact (hrf.mono (fun j hj => by omega)).carry s2
  · have : (vs.set k (ao', rn, cap')).getD i sz = vs.getD i sz := by
      rw [List.getD_eq_getElem?_getD, List.getD_eq_getElem?_getD, List.getElem?_set_ne (by omega)]
    rw [this]
    exact (h2 i (by omega)).carry s3

theorem blocks_end {w wr : World} {D : List (List Dt)} {vs : List SH} (h : BlkInv w D D.length vs wr) : RR (fun k => w.heap.size ≤ k) wr (some ⟨w.heap.size, 0, none⟩) D.length D := by
  obtain ⟨h1, hown, h2, hb⟩ := h
  refine ⟨rfl, fun _ => ⟨w.heap.size, 0, rfl, Nat.le_refl _, fun i hi => ⟨_, _, (vs.getD i sz).2.2, ?_, (h2 i hi).mono fun k hk => by omega⟩⟩⟩
  rw [Nat.zero_add, hown.cellAt i (by omega)]
  simp [h1, hi, sval]

set_option maxHeartbeats 400000 in
theorem blocks_any (ao : Option Addr) (n cap : Nat) (D : List (List Dt)) (ok : Nat → Prop) (w : World) (hok : ∀ k, ok k → k < w.heap.size) (hr : RR ok w ao n D) (hn : n ≤ 1048576)
    (hm : ∀ i, i < n → (D.getD i []).length ≤ 1048576) (hc : ∀ i, i < n → ∀ j, j < (D.getD i []).length → (((D.getD i []).getD j dz).2.getD []).length ≤ 1048576) :
    Calls Try.prog 10 #[.slice ao n cap] w (BlocksOut w n D) := by
  have hq : ∀ w', (binOp .eql 22 (.slice ao n cap) (.slice none 0 0)).run Try.prog w' = .ok (.bool ao.isNone) w' := fun w' => Lib.run_eql_slice_nil w' 22 23 ao n cap 0 0 Try.underlying22
  obtain ⟨i0, hi, hz0, hz1, hz2⟩ := info_parts Try.info28
  cases ao with
  | none =>
    have h0 : n = 0 := by
      rcases Nat.eq_zero_or_pos n with h0 | h0
      · exact h0
      · obtain ⟨b, o, e', _⟩ := hr.2 h0
        cases e'
    subst h0
    go_enter Try.func10, Try.ntmps10
    go_wp2
    go_ret
    exact ⟨none, 0, rfl, ⟨hr.1, fun h => by omega⟩, Below.refl _ _⟩
  | some a =>
    have hnl := hr.1
    subst hnl
    go_enter Try.func10, Try.ntmps10
    go_wp2_with (at_make; refine wpList_make_full _ rfl _ _ 26 rfl w.heap.size 28 i0 (.slice none 0 0) 1 Try.underlying26 hi hz0 hz1 _ _ _ _ D.length rfl rfl (by omega) (by omega) (by rw [hz2]; omega) (by unfold maxLen; omega) (Nat.le_refl _) ?_; intro w1 hown hgrow)
    have inv1 : BlkInv w D 0 (List.replicate D.length sz) w1 := by
      refine ⟨by simp, ?_, fun i hi => by omega, (Below.refl _ _).grown hgrow (Nat.le_refl _) (fun k h => by cases h)⟩
      simpa [toList_madeCells_one, Value.cells, sval, sz] using hown
    clear hown hgrow hi hz0 hz1 hz2
    go_loopw [4] (fun i wr => ∃ (k : Nat) (vs : List SH), k ≤ D.length ∧ i = .int .i64 k ∧ BlkInv w D k vs wr) (fun i _ => D.length - (intOf i).toNat)
    case atStart => exact ⟨0, _, Nat.zero_le _, rfl, inv1⟩
    case round =>
      obtain ⟨k, vs, hk, rfl, inv⟩ := hrel
      clear inv1
      by_cases hlt : k < D.length
      · obtain ⟨b, o, ro, rn, rc, ha, hbk, hc0, hrf⟩ := hr.at hlt
        obtain rfl := Option.some.inj ha
        have inv0 := inv
        obtain ⟨_, hown, _, hb⟩ := inv0
        have g0 : wr.cell? ⟨b, o + k, none⟩ = some (.slice ro rn rc) := (hb.cell (p := ⟨b, o + k, none⟩) (hok _ hbk)).trans hc0
        have hB : w.heap.size < wr.heap.size := by
          have := hown.lt w.heap.size rfl
          omega
        obtain ⟨v0, q0⟩ : ∃ v, wr.cell? ⟨w.heap.size, k, none⟩ = some v := ⟨_, (hown.cellAt k (by omega)).trans (List.getElem?_eq_getElem (by rw [hown.1]; omega))⟩
        have f0 := hown.frozenAt k
        have hrfr : RF ok wr ro rn (D.getD k []) := hrf.carry ((SameOn.below hb).mono hok)
        have hokr : ∀ k, ok k → k < wr.heap.size := fun k hk => by have := hok k hk; omega
        have hrl : rn = (D.getD k []).length := hrf.1
        have c1 := hm k hlt
        have c2 := hc k hlt
        have HI : Hid (BlkInv w D k vs wr) := inv
        have HN := hrfr.nil
        have hnn : rn ≤ 1048576 := by omega
        have c3 : ∀ i, i < rn → (((D.getD k []).getD i dz).2.getD []).length ≤ 1048576 := by rw [hrl]; exact c2
        have HX : Hid (RF ok wr ro rn (D.getD k []) ∧ (∀ i, i < rn → (((D.getD k []).getD i dz).2.getD []).length ≤ 1048576) ∧ rn = (D.getD k []).length) := ⟨hrfr, c3, hrl⟩
        clear inv hown hb hr hrf hrfr hc hm c1 c2 c3 hc0 hrl
        generalize hd : D.getD k [] = dk at *
        have HD : Hid (D.getD k [] = dk) := hd
        clear hd
        go_wp2_with (go_at_call 11; refine (frames_any ro rn _ dk ok _ hokr HN HX.out.1 hnn HX.out.2.1).mono ?_; rintro e w2 he; obtain ⟨ao', cap', rfl, hrf2, hb2, _⟩ := he.rf (by rw [← HX.out.2.2]; exact HN); have e2 := (hb2.cell (p := ⟨w.heap.size, k, none⟩) (by exact hB)).trans q0; have e4 := (hb2.frozen (p := ⟨w.heap.size, k, none⟩) (by exact hB)).trans f0; have HF2 : Hid (RF (fun k => wr.heap.size ≤ k) w2 ao' dk.length dk ∧ Below wr.heap.size wr w2) := ⟨hrf2, hb2⟩; clear hrf2 hb2)
        have R := blocks_step (cap' := cap') hlt HI.out hB HF2.out.2 (by rw [HD.out]; exact HF2.out.1)
        go_roundw
        case rel => exact ⟨k + 1, _, by omega, by go_num, R⟩
        case measure => simp [intOf]; omega
      · obtain rfl : k = D.length := by omega
        go_wp2
        go_ret
        exact ⟨_, _, rfl, blocks_end inv, inv.2.2.2⟩
end Go.Proofs.Qxb6601125a
