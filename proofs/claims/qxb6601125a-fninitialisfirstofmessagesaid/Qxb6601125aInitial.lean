import Derived.Test.Qxb6601125aInit
import Derived.Test.Qxb6601125aTotal
import Derived.Test.Qxb6601125aSize16
import Derived.Deep.RegionHeld3
namespace Go.Proofs.Qxb6601125a.fnInitial
open Go.RowKit Go.Proofs.Qxb6601125a

def LawOut (w : World) (e : Ending) (w' : World) : Prop := e = .returned (.bool true) ∧ Below w.heap.size w w'

theorem small_all (D : List (List Dt)) (L : List Dt) (h : Small D L) : ∀ i, i < (D.flatten ++ L).length → (((D.flatten ++ L).getD i dz).2.getD []).length ≤ 1048576 := by
  have key : ∀ d, d ∈ D.flatten ++ L → (d.2.getD []).length ≤ 1048576 := by
    intro d hd
    rcases List.mem_append.1 hd with h1 | h1
    · obtain ⟨l, hl, hdl⟩ := List.mem_flatten.1 h1
      obtain ⟨i, hi, rfl⟩ := List.mem_iff_getElem.1 hl
      obtain ⟨j, hj, rfl⟩ := List.mem_iff_getElem.1 hdl
      have := (h.1 i hi).2 j (by simpa [hi] using hj)
      simpa [hi, hj] using this
    · obtain ⟨j, hj, rfl⟩ := List.mem_iff_getElem.1 h1
      simpa [hj] using h.2.2 j hj
  intro i hi
  have e : (D.flatten ++ L).getD i dz = (D.flatten ++ L)[i] := by rw [List.getD_eq_getElem?_getD, List.getElem?_eq_getElem hi]; rfl
  rw [e]
  exact key _ (List.getElem_mem hi)

set_option maxHeartbeats 2000000 in
theorem walk (fo : Option Addr) (nf fc : Nat) (lo : Option Addr) (nl lc : Nat) (D : List (List Dt)) (L : List Dt) (w : World) (hr : RR (fun k => k < w.heap.size) w fo nf D) (hl : RF (fun k => k < w.heap.size) w lo nl L) :
    Calls Try.prog 5 #[.slice fo nf fc, .slice lo nl lc] w (LawOut w) := by
  have S := size16 fo nf fc lo nl lc D L _ w hr hl
  have HS : Hid (Calls Try.prog 16 #[.slice fo nf fc, .slice lo nl lc] w (SizeOut D L w)) := S
  clear S
  go_enter Try.func5, Try.ntmps5
  go_wp2_with fail
  refine HS.out.mono ?_
  rintro e w1 ⟨b, rfl, hb, rfl⟩
  clear HS
  cases b with
  | false =>
    go_wp2
    go_ret
    exact ⟨rfl, Below.refl _ _⟩
  | true =>
    have hsm := hb rfl
    clear hb
    by_cases c0 : nf ≤ 16
    · go_wp2_with fail
      refine (total_any fo nf fc lo nl lc D L _ w1 hr hl hsm c0).mono ?_
      rintro e w2 ⟨r, rfl, rfl⟩
      by_cases c1 : r ≤ 1048576
      · have d0 : decide (16 < (nf : Int)) = false := by simp; omega
        have d1 : decide (1048576 < r) = false := by simp; omega
        rcases Nat.eq_zero_or_pos nf with hz | hz
        · subst hz
          have hne : 0 < 0 → 0 < (D.getD 0 []).length := fun h => by omega
          have hok : ∀ k, k < w2.heap.size → k < w2.heap.size := fun _ h => h
          go_wp2_with fail
          refine (blocks_any fo 0 fc D _ w2 hok hr (by omega) (fun i hi => by omega) (fun i hi => by omega)).mono ?_
          rintro e w3 ⟨po, pc, rfl, hrr3, hb3⟩
          have hl3 := hl.later hb3
          have hL1 := hsm.2.1
          have hL2 := hsm.2.2
          have HNL : Hid (nl = L.length) := hl.1
          have hnl2 : nl ≤ 1048576 := by rw [HNL.out]; exact hL1
          go_wp2_with fail
          refine (frames_any lo nl lc L _ w3 (fun _ h => h) hl3.nil hl3 (by omega) (by rw [HNL.out]; exact hL2)).mono ?_
          intro e w4 hfo
          obtain ⟨qo, qc, rfl, hrf4, hb4, hnil4⟩ := hfo.rf (by rw [← HNL.out]; exact hl.nil)
          rw [← HNL.out] at hrf4
          rw [← HNL.out]
          have hrr4 := hrr3.later hb4
          have hrf4' := hrf4.lt
          go_wp2_with fail
          refine (zzinitial_any po 0 pc qo nl qc D L w4 hrr4 hrf4' hne).mono ?_
          intro e w5 hio
          have hb5 : Below w4.heap.size w4 w5 := by rcases hio with ⟨_, _, h⟩ | ⟨_, _, _, _, _, h⟩ <;> exact h
          have hrr5 := hrr4.later hb5
          have hrf5 := hrf4'.later hb5
          have hB5 : Below w2.heap.size w2 w5 := hb3.trans ((hb4.mono hb3.size).trans (hb5.mono (Nat.le_trans hb3.size hb4.size)))
          have hgood : ∀ i, i < (D.flatten ++ L).length → (((D.flatten ++ L).getD i dz).2.getD []).length ≤ 1048576 := small_all D L hsm
          have hmm := fun i hi => (hsm.1 i hi).1
          have HM := zzmessage_any po 0 pc qo nl qc D L w5 c0 hnl2 hrr5 hrf5 hmm
          have HMH : Hid (Calls Try.prog 12 #[.slice po 0 pc, .slice qo nl qc] w5 (MsgAny w5 0 qo (D.flatten ++ L))) := HM
          clear HM hb3 hl3 hrr3 hfo hrf4 hb4 hnil4 hrr4 hrf4' hr hl hok hb5 hrr5 hrf5 hmm hL2
          generalize D.flatten ++ L = F at *
          have HGd : Hid (∀ i, i < F.length → ((F.getD i dz).2.getD []).length ≤ 1048576) := hgood
          clear hgood
          rcases hio with ⟨rfl, rfl, _⟩ | ⟨hF, g, cap, rfl, hff, _⟩
          · go_wp2_with fail
            refine HMH.out.mono ?_
            rintro e w6 ⟨mo, mc, rfl, hmf, _, hb6⟩
            have hB6 : Below w2.heap.size w2 w6 := hB5.trans (hb6.mono hB5.size)
            have hq1 : ∀ w', (binOp .eql 30 (.slice none 0 0) (.slice none 0 0)).run Try.prog w' = .ok (.bool true) w' := fun w' => Lib.run_eql_slice_nil w' 30 36 none 0 0 0 0 Try.underlying30
            clear hmf hb6
            go_wp2
            go_ret
            exact ⟨rfl, hB6⟩
          · have hFl : 0 < F.length := List.length_pos_iff.2 hF
            go_wp2_with fail
            refine HMH.out.mono ?_
            rintro e w6 ⟨mo, mc, rfl, hmf, _, hb6⟩
            have hB6 : Below w2.heap.size w2 w6 := hB5.trans (hb6.mono hB5.size)
            have hff6 := hff.later hb6
            obtain ⟨b1, o1, co, cn, cc, ha, hbk', h1', h2', hrb⟩ := hff6.at (i := 0) (by omega)
            obtain ⟨rfl, rfl⟩ : g = b1 ∧ 0 = o1 := by simpa using ha
            obtain ⟨mb, mof, xo, xn, xc, hm, hmb, m1', m2', hmrb⟩ := hmf.at hFl
            subst hm
            have e1 : [F.getD 0 dz].getD 0 dz = F.getD 0 dz := rfl
            rw [e1] at h1' hrb
            have hcnl : cn ≤ 1048576 := by rw [hrb.2.1]; exact HGd.out 0 hFl
            obtain rfl : xn = cn := by rw [hrb.2.1, hmrb.2.1]
            simp only [Nat.zero_mul, Nat.add_zero, Nat.zero_add] at h1' h2' m1' m2'
            have i5 : (0 : Int) < (F.length : Int) := by omega
            have i6 : ((F.length : Int) == 0) = false := by rw [beq_eq_false_iff_ne]; omega
            generalize F.getD 0 dz = d at *
            have HR : Hid (RB (fun k => k < w6.heap.size) w6 co xn d.2 ∧ RB (fun k => k < w6.heap.size) w6 xo xn d.2) := ⟨hrb, hmrb⟩
            have HQ : Hid (g < w6.heap.size ∧ mb < w6.heap.size) := ⟨hbk', hmb⟩
            clear hrb hmrb hff hff6 hmf hb6 hF HGd
            go_wp2_with fail
            go_region_held3 (fun w' => w'.cell? ⟨g, 0, none⟩ = some (.int .u16 d.1) ∧ w'.cell? ⟨g, 1, none⟩ = some (.slice co xn cc) ∧ w'.cell? ⟨mb, mof, none⟩ = some (.int .u16 d.1) ∧ w'.cell? ⟨mb, mof + 1, none⟩ = some (.slice xo xn xc))
              (go_keep)
              ((go_at_call 18; refine (eqp_any d.1 co xn cc xo xc d.2 _ _ _ (by exact HR.out.1) (by exact HR.out.2) hcnl).mono ?_; rintro e w8 ⟨rfl, hb2⟩; have hb3 : Below w6.heap.size w6 w8 := ⟨hb2.os, hb2.tape, hb2.output, hb2.size, hb2.block⟩; clear hb2; have e1 := (hb3.cell (p := ⟨g, 0, none⟩) (by exact HQ.out.1)).trans h1'; have e2 := (hb3.cell (p := ⟨g, 1, none⟩) (by exact HQ.out.1)).trans h2'; have e3 := (hb3.cell (p := ⟨mb, mof, none⟩) (by exact HQ.out.2)).trans m1'; have e4 := (hb3.cell (p := ⟨mb, mof + 1, none⟩) (by exact HQ.out.2)).trans m2'; have HB8 : Hid (Below w2.heap.size w2 w8) := hB6.trans (hb3.mono hB6.size); clear hb3))
            go_wp2
            go_ret
            exact ⟨rfl, HB8⟩
        · have hnD := hr.1
          subst hnD
          obtain ⟨b, o, ro, rn, rc, ha, hbk, hc0, hrf⟩ := hr.at hz
          subst ha
          have i0 : (0 : Int) < (D.length : Int) := by omega
          rw [Nat.add_zero] at hc0
          by_cases hr0 : rn = 0
          · subst hr0
            clear hrf
            go_wp2
            go_ret
            exact ⟨rfl, Below.refl _ _⟩
          · have hne : 0 < D.length → 0 < (D.getD 0 []).length := fun h => by rw [← hrf.1]; omega
            have hrb0 : ((rn : Int) == 0) = false := by rw [beq_eq_false_iff_ne]; omega
            clear hrf hr0
            have hok : ∀ k, k < w2.heap.size → k < w2.heap.size := fun _ h => h
            go_wp2_with fail
            refine (blocks_any (some ⟨b, o, none⟩) D.length fc D _ w2 hok hr (by omega) (fun i hi => (hsm.1 i hi).1) (fun i hi => (hsm.1 i hi).2)).mono ?_
            rintro e w3 ⟨po, pc, rfl, hrr3, hb3⟩
            have hl3 := hl.later hb3
            have hL1 := hsm.2.1
            have hL2 := hsm.2.2
            have HNL : Hid (nl = L.length) := hl.1
            have hnl2 : nl ≤ 1048576 := by rw [HNL.out]; exact hL1
            go_wp2_with fail
            refine (frames_any lo nl lc L _ w3 (fun _ h => h) hl3.nil hl3 (by omega) (by rw [HNL.out]; exact hL2)).mono ?_
            intro e w4 hfo
            obtain ⟨qo, qc, rfl, hrf4, hb4, hnil4⟩ := hfo.rf (by rw [← HNL.out]; exact hl.nil)
            rw [← HNL.out] at hrf4
            rw [← HNL.out]
            have hrr4 := hrr3.later hb4
            have hrf4' := hrf4.lt
            go_wp2_with fail
            refine (zzinitial_any po D.length pc qo nl qc D L w4 hrr4 hrf4' hne).mono ?_
            intro e w5 hio
            have hb5 : Below w4.heap.size w4 w5 := by rcases hio with ⟨_, _, h⟩ | ⟨_, _, _, _, _, h⟩ <;> exact h
            have hrr5 := hrr4.later hb5
            have hrf5 := hrf4'.later hb5
            have hB5 : Below w2.heap.size w2 w5 := hb3.trans ((hb4.mono hb3.size).trans (hb5.mono (Nat.le_trans hb3.size hb4.size)))
            have hgood : ∀ i, i < (D.flatten ++ L).length → (((D.flatten ++ L).getD i dz).2.getD []).length ≤ 1048576 := small_all D L hsm
            have hmm := fun i hi => (hsm.1 i hi).1
            have HM := zzmessage_any po D.length pc qo nl qc D L w5 c0 hnl2 hrr5 hrf5 hmm
            have HMH : Hid (Calls Try.prog 12 #[.slice po D.length pc, .slice qo nl qc] w5 (MsgAny w5 D.length qo (D.flatten ++ L))) := HM
            clear HM hb3 hl3 hrr3 hfo hrf4 hb4 hnil4 hrr4 hrf4' hr hl hok hb5 hrr5 hrf5 hmm hL2
            generalize D.flatten ++ L = F at *
            have HGd : Hid (∀ i, i < F.length → ((F.getD i dz).2.getD []).length ≤ 1048576) := hgood
            clear hgood
            rcases hio with ⟨rfl, rfl, _⟩ | ⟨hF, g, cap, rfl, hff, _⟩
            · go_wp2_with fail
              refine HMH.out.mono ?_
              rintro e w6 ⟨mo, mc, rfl, hmf, _, hb6⟩
              have hB6 : Below w2.heap.size w2 w6 := hB5.trans (hb6.mono hB5.size)
              have hq1 : ∀ w', (binOp .eql 30 (.slice none 0 0) (.slice none 0 0)).run Try.prog w' = .ok (.bool true) w' := fun w' => Lib.run_eql_slice_nil w' 30 36 none 0 0 0 0 Try.underlying30
              clear hmf hb6
              go_wp2
              go_ret
              exact ⟨rfl, hB6⟩
            · have hFl : 0 < F.length := List.length_pos_iff.2 hF
              go_wp2_with fail
              refine HMH.out.mono ?_
              rintro e w6 ⟨mo, mc, rfl, hmf, _, hb6⟩
              have hB6 : Below w2.heap.size w2 w6 := hB5.trans (hb6.mono hB5.size)
              have hff6 := hff.later hb6
              obtain ⟨b1, o1, co, cn, cc, ha, hbk', h1', h2', hrb⟩ := hff6.at (i := 0) (by omega)
              obtain ⟨rfl, rfl⟩ : g = b1 ∧ 0 = o1 := by simpa using ha
              obtain ⟨mb, mof, xo, xn, xc, hm, hmb, m1', m2', hmrb⟩ := hmf.at hFl
              subst hm
              have e1 : [F.getD 0 dz].getD 0 dz = F.getD 0 dz := rfl
              rw [e1] at h1' hrb
              have hcnl : cn ≤ 1048576 := by rw [hrb.2.1]; exact HGd.out 0 hFl
              obtain rfl : xn = cn := by rw [hrb.2.1, hmrb.2.1]
              simp only [Nat.zero_mul, Nat.add_zero, Nat.zero_add] at h1' h2' m1' m2'
              have i5 : (0 : Int) < (F.length : Int) := by omega
              have i6 : ((F.length : Int) == 0) = false := by rw [beq_eq_false_iff_ne]; omega
              generalize F.getD 0 dz = d at *
              have HR : Hid (RB (fun k => k < w6.heap.size) w6 co xn d.2 ∧ RB (fun k => k < w6.heap.size) w6 xo xn d.2) := ⟨hrb, hmrb⟩
              have HQ : Hid (g < w6.heap.size ∧ mb < w6.heap.size) := ⟨hbk', hmb⟩
              clear hrb hmrb hff hff6 hmf hb6 hF HGd
              go_wp2_with fail
              go_region_held3 (fun w' => w'.cell? ⟨g, 0, none⟩ = some (.int .u16 d.1) ∧ w'.cell? ⟨g, 1, none⟩ = some (.slice co xn cc) ∧ w'.cell? ⟨mb, mof, none⟩ = some (.int .u16 d.1) ∧ w'.cell? ⟨mb, mof + 1, none⟩ = some (.slice xo xn xc))
                (go_keep)
                ((go_at_call 18; refine (eqp_any d.1 co xn cc xo xc d.2 _ _ _ (by exact HR.out.1) (by exact HR.out.2) hcnl).mono ?_; rintro e w8 ⟨rfl, hb2⟩; have hb3 : Below w6.heap.size w6 w8 := ⟨hb2.os, hb2.tape, hb2.output, hb2.size, hb2.block⟩; clear hb2; have e1 := (hb3.cell (p := ⟨g, 0, none⟩) (by exact HQ.out.1)).trans h1'; have e2 := (hb3.cell (p := ⟨g, 1, none⟩) (by exact HQ.out.1)).trans h2'; have e3 := (hb3.cell (p := ⟨mb, mof, none⟩) (by exact HQ.out.2)).trans m1'; have e4 := (hb3.cell (p := ⟨mb, mof + 1, none⟩) (by exact HQ.out.2)).trans m2'; have HB8 : Hid (Below w2.heap.size w2 w8) := hB6.trans (hb3.mono hB6.size); clear hb3))
              go_wp2
              go_ret
              exact ⟨rfl, HB8⟩
      · go_wp2
        go_ret
        exact ⟨rfl, Below.refl _ _⟩
    · go_wp2
      go_ret
      exact ⟨rfl, Below.refl _ _⟩
end Go.Proofs.Qxb6601125a.fnInitial
