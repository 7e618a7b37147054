import Derived.Test.Qxb6601125aMsgAny
import Derived.Test.Qxb6601125aEq
import Derived.Test.Qxb6601125aTotal
import Derived.Test.Qxb6601125aSize8
import Derived.Deep.RegionHeld3
namespace Go.Proofs.Qxb6601125a.fnConcat
open Go.RowKit Go.Proofs.Qxb6601125a

def LawOut (w : World) (e : Ending) (w' : World) : Prop := e = .returned (.bool true) ∧ Below w.heap.size w w'

set_option maxHeartbeats 2000000 in
theorem walk (fo : Option Addr) (nf fc : Nat) (lo : Option Addr) (nl lc : Nat) (D : List (List Dt)) (L : List Dt) (w : World) (hr : RR (fun k => k < w.heap.size) w fo nf D) (hl : RF (fun k => k < w.heap.size) w lo nl L) :
    Calls Try.prog 3 #[.slice fo nf fc, .slice lo nl lc] w (LawOut w) := by
  have S := size8 fo nf fc lo nl lc D L _ w hr hl
  have HS : Hid (Calls Try.prog 8 #[.slice fo nf fc, .slice lo nl lc] w (SizeOut D L w)) := S
  clear S
  go_enter Try.func3, Try.ntmps3
  go_wp2_with fail
  refine HS.out.mono ?_
  rintro e w1 ⟨b, rfl, hb, rfl⟩
  clear HS
  cases b with
  | false =>
    go_wp2
    go_ret
    exact ⟨rfl, Below.refl _ _⟩
  | true =>
    have hsm := hb rfl
    clear hb
    by_cases c0 : nf ≤ 16
    · go_wp2_with fail
      refine (total_any fo nf fc lo nl lc D L _ w1 hr hl hsm c0).mono ?_
      rintro e w2 ⟨r, rfl, rfl⟩
      by_cases c1 : r ≤ 1048576
      · have d0 : decide (16 < (nf : Int)) = false := by simp; omega
        have d1 : decide (1048576 < r) = false := by simp; omega
        have hnD := hr.1
        subst hnD
        have hok : ∀ k, k < w2.heap.size → k < w2.heap.size := fun _ h => h
        go_wp2_with fail
        refine (blocks_any fo D.length fc D _ w2 hok hr (by omega) (fun i hi => (hsm.1 i hi).1) (fun i hi => (hsm.1 i hi).2)).mono ?_
        rintro e w3 ⟨po, pc, rfl, hrr3, hb3⟩
        have hl3 := hl.later hb3
        have hL1 := hsm.2.1
        have hL2 := hsm.2.2
        have HNL : Hid (nl = L.length) := hl.1
        have hnl2 : nl ≤ 1048576 := by rw [HNL.out]; exact hL1
        go_wp2_with fail
        refine (frames_any lo nl lc L _ w3 (fun _ h => h) hl3.nil hl3 (by omega) (by rw [HNL.out]; exact hL2)).mono ?_
        intro e w4 hfo
        obtain ⟨qo, qc, rfl, hrf4, hb4, hnil4⟩ := hfo.rf (by rw [← HNL.out]; exact hl.nil)
        rw [← HNL.out] at hrf4
        rw [← HNL.out]
        have hrr4 := hrr3.later hb4
        have hrf4' := hrf4.lt
        go_wp2_with fail
        refine (zzmessage_any po D.length pc qo nl qc D L w4 c0 hnl2 hrr4 hrf4' (fun i hi => (hsm.1 i hi).1)).mono ?_
        rintro e w6 ⟨mo, mc, rfl, hmf, hmnil, hb6⟩
        have hB6 : Below w2.heap.size w2 w6 := hb3.trans ((hb4.mono hb3.size).trans (hb6.mono (Nat.le_trans hb3.size hb4.size)))
        have hr6 := hr.later hB6
        have hl6 := hl.later hB6
        have HM : Hid (mo.isNone = (decide (D.length = 0) && lo.isNone)) := by
          rw [hmnil]
          congr 1
          cases qo <;> cases lo <;> simp_all
        have HF : Hid ((D.flatten ++ L).length = D.flatten.length + nl) := by rw [HNL.out]; exact List.length_append
        clear hb3 hl3 hrr3 hfo hrf4 hb4 hnil4 hrr4 hrf4' hmnil hb6 hr hl hok
        have hFb : D.flatten.length ≤ 16777216 := by
          have := flatten_len D D.length 1048576 (Nat.le_refl _) (fun i hi => (hsm.1 i hi).1)
          rw [List.take_length] at this
          omega
        have hFb2 : (D.flatten ++ L).length ≤ 17825792 := by rw [HF.out]; omega
        generalize hFF : (D.flatten ++ L) = F at *
        have HFF : Hid (D.flatten ++ L = F) := hFF
        clear hFF
        go_wp2_with fail
        go_loop [8, 9] (fun t i => ∃ (k s : Nat), k ≤ D.length ∧ i = .int .i64 k ∧ t = .int .i64 s ∧ Hid (s = nl + (D.take k).flatten.length)) (fun _ i => D.length - (intOf i).toNat)
        case atStart => exact ⟨0, nl, Nat.zero_le _, rfl, rfl, by show nl = nl + 0; rfl⟩
        case round =>
          obtain ⟨k, s, hk, rfl, rfl, HSum⟩ := hrel
          have hsb : s ≤ 17825792 := by
            have := flatten_len D k 1048576 hk (fun i hi => (hsm.1 i hi).1)
            have := HSum.out
            omega
          by_cases hlt : k < D.length
          · obtain ⟨b, o, ro, rn, rc, ha, hbk, hc0, hrf⟩ := hr6.at hlt
            subst ha
            have HN : Hid (rn = (D.getD k []).length) := hrf.1
            have hrnb : rn ≤ 1048576 := by rw [HN.out]; exact (hsm.1 k hlt).1
            clear hrf
            go_wp2
            go_round
            case rel => exact ⟨k + 1, s + rn, by omega, by go_num, by go_num, by show s + rn = _; rw [flatten_take_succ D k hlt, List.length_append, ← HN.out, HSum.out]; omega⟩
            case measure => simp [intOf]; omega
          · obtain rfl : k = D.length := by omega
            have hs2 : s = F.length := by rw [HF.out, HSum.out, List.take_length]; omega
            subst hs2
            clear HSum hsb
            go_wp2
            go_loopw [10, 11] (fun t i wr => ∃ (k s : Nat), k ≤ D.length ∧ i = .int .i64 k ∧ t = .int .i64 s ∧ Hid (s = (D.take k).flatten.length) ∧ Hid (Below w6.heap.size w6 wr)) (fun _ i _ => D.length - (intOf i).toNat)
            case atStart => exact ⟨0, 0, Nat.zero_le _, rfl, rfl, rfl, Below.refl _ _⟩
            case round =>
              obtain ⟨k, s, hk, rfl, rfl, HSum, HB⟩ := hrel
              by_cases hlt : k < D.length
              · obtain ⟨b, o, ro, rn, rc, ha, hbk, hc0, hrf⟩ := hr6.at hlt
                subst ha
                have hrnb : rn ≤ 1048576 := by rw [hrf.1]; exact (hsm.1 k hlt).1
                have HN : Hid (rn = (D.getD k []).length) := hrf.1
                have g0 : wr.cell? ⟨b, o + k, none⟩ = some (.slice ro rn rc) := (HB.out.cell (p := ⟨b, o + k, none⟩) hbk).trans hc0
                go_wp2
                go_loopw [10, 12] (fun t i wi => ∃ (j s' : Nat), j ≤ rn ∧ i = .int .i64 j ∧ t = .int .i64 s' ∧ Hid (s' = (D.take k).flatten.length + j) ∧ Hid (Below w6.heap.size w6 wi)) (fun _ i _ => rn - (intOf i).toNat)
                case atStart => exact ⟨0, s, Nat.zero_le _, rfl, rfl, HSum, HB⟩
                case round =>
                  clear HB g0 HSum
                  obtain ⟨j, s', hj, rfl, rfl, HSum, HB⟩ := hrel
                  have g0 : wr.cell? ⟨b, o + k, none⟩ = some (.slice ro rn rc) := (HB.out.cell (p := ⟨b, o + k, none⟩) hbk).trans hc0
                  by_cases hjt : j < rn
                  · obtain ⟨b', o', co, cn, cc, ha, hbk', h1', h2', hrb⟩ := hrf.at hjt
                    subst ha
                    obtain ⟨hidx, hsl⟩ := flatten_at D L k j hlt (by rw [← HN.out]; exact hjt)
                    rw [HFF.out, ← HSum.out] at hidx hsl
                    obtain ⟨mb, mof, xo, xn, xc, hm, hmb, m1', m2', hmrb⟩ := hmf.at hsl
                    subst hm
                    rw [hidx] at m1' hmrb
                    have hcnl : cn ≤ 1048576 := by rw [hrb.2.1]; exact (hsm.1 k hlt).2 j (by rw [← HN.out]; exact hjt)
                    obtain rfl : xn = cn := by rw [hrb.2.1, hmrb.2.1]
                    generalize (D.getD k []).getD j dz = d at *
                    have g1 : wr.cell? ⟨b', o' + j * 2, none⟩ = some (.int .u16 d.1) := (HB.out.cell (p := ⟨b', o' + j * 2, none⟩) hbk').trans h1'
                    have g2 : wr.cell? ⟨b', o' + j * 2 + 1, none⟩ = some (.slice co xn cc) := (HB.out.cell (p := ⟨b', o' + j * 2 + 1, none⟩) hbk').trans h2'
                    have g3 : wr.cell? ⟨mb, mof + s' * 2, none⟩ = some (.int .u16 d.1) := (HB.out.cell (p := ⟨mb, mof + s' * 2, none⟩) hmb).trans m1'
                    have g4 : wr.cell? ⟨mb, mof + s' * 2 + 1, none⟩ = some (.slice xo xn xc) := (HB.out.cell (p := ⟨mb, mof + s' * 2 + 1, none⟩) hmb).trans m2'
                    have HR : Hid (RB (fun k => k < w6.heap.size) wr co xn d.2 ∧ RB (fun k => k < w6.heap.size) wr xo xn d.2) := ⟨hrb.carry (SameOn.below HB.out), hmrb.carry (SameOn.below HB.out)⟩
                    have HQ : Hid (b' < w6.heap.size ∧ mb < w6.heap.size ∧ b < w6.heap.size ∧ w6.heap.size ≤ wr.heap.size) := ⟨hbk', hmb, hbk, HB.out.size⟩
                    have i1 : (0 : Int) ≤ (k : Int) := by omega
                    have i2 : (k : Int) < (D.length : Int) := by omega
                    have i3 : (0 : Int) ≤ (j : Int) := by omega
                    have i4 : (j : Int) < (rn : Int) := by omega
                    have i5 : (0 : Int) ≤ (s' : Int) := by omega
                    have i6 : (s' : Int) < (F.length : Int) := by omega
                    clear h1' h2' hrb m1' m2' hmrb hidx hsl
                    go_wp2_with fail
                    go_region_held3 (fun w' => w'.cell? ⟨b', o' + j * 2, none⟩ = some (.int .u16 d.1) ∧ w'.cell? ⟨b', o' + j * 2 + 1, none⟩ = some (.slice co xn cc) ∧ w'.cell? ⟨mb, mof + s' * 2, none⟩ = some (.int .u16 d.1) ∧ w'.cell? ⟨mb, mof + s' * 2 + 1, none⟩ = some (.slice xo xn xc) ∧ w'.cell? ⟨b, o + k, none⟩ = some (.slice (some ⟨b', o', none⟩) rn rc))
                      (go_keep)
                      ((go_at_call 13; refine (eq_any d.1 xo xn xc co cc d.2 _ _ _ (by exact HR.out.2) (by exact HR.out.1) hcnl).mono ?_; rintro e w7 ⟨rfl, hb2⟩; have hb3 : Below wr.heap.size wr w7 := ⟨hb2.os, hb2.tape, hb2.output, hb2.size, hb2.block⟩; clear hb2; have e0 := (hb3.cell (p := ⟨b, o + k, none⟩) (by exact Nat.lt_of_lt_of_le HQ.out.2.2.1 HQ.out.2.2.2)).trans g0; have e1 := (hb3.cell (p := ⟨b', o' + j * 2, none⟩) (by exact Nat.lt_of_lt_of_le HQ.out.1 HQ.out.2.2.2)).trans g1; have e2 := (hb3.cell (p := ⟨b', o' + j * 2 + 1, none⟩) (by exact Nat.lt_of_lt_of_le HQ.out.1 HQ.out.2.2.2)).trans g2; have e3 := (hb3.cell (p := ⟨mb, mof + s' * 2, none⟩) (by exact Nat.lt_of_lt_of_le HQ.out.2.1 HQ.out.2.2.2)).trans g3; have e4 := (hb3.cell (p := ⟨mb, mof + s' * 2 + 1, none⟩) (by exact Nat.lt_of_lt_of_le HQ.out.2.1 HQ.out.2.2.2)).trans g4; have HB7 : Hid (Below w6.heap.size w6 w7) := HB.out.trans (hb3.mono HB.out.size); clear hb3))
                    clear e0 e1 e2 e3 e4 g0 g1 g2 g3 g4 HR
                    go_wp2
                    go_roundw
                    case rel => exact ⟨j + 1, s' + 1, by omega, by go_num, by go_num, by show s' + 1 = _; rw [HSum.out]; omega, HB7⟩
                    case measure => simp [intOf]; omega
                  · obtain rfl : j = rn := by omega
                    go_wp2
                    go_roundw
                    case rel => exact ⟨k + 1, s', by omega, by go_num, rfl, by show s' = _; rw [flatten_take_succ D k hlt, List.length_append, ← HN.out]; exact HSum.out, HB⟩
                    case measure => simp [intOf]; omega
              · obtain rfl : k = D.length := by omega
                rw [List.take_length] at HSum
                go_wp2
                go_loopw [10, 13] (fun t i wi => ∃ (j s' : Nat), j ≤ nl ∧ i = .int .i64 j ∧ t = .int .i64 s' ∧ Hid (s' = D.flatten.length + j) ∧ Hid (Below w6.heap.size w6 wi)) (fun _ i _ => nl - (intOf i).toNat)
                case atStart => exact ⟨0, s, Nat.zero_le _, rfl, rfl, HSum, HB⟩
                case round =>
                  clear HB HSum
                  obtain ⟨j, s', hj, rfl, rfl, HSum, HB⟩ := hrel
                  by_cases hjt : j < nl
                  · obtain ⟨b', o', co, cn, cc, ha, hbk', h1', h2', hrb⟩ := hl6.at hjt
                    subst ha
                    obtain ⟨hidx, hsl⟩ := flatten_last D L j (by rw [← HNL.out]; exact hjt)
                    rw [HFF.out, ← HSum.out] at hidx hsl
                    obtain ⟨mb, mof, xo, xn, xc, hm, hmb, m1', m2', hmrb⟩ := hmf.at hsl
                    subst hm
                    rw [hidx] at m1' hmrb
                    have hcnl : cn ≤ 1048576 := by rw [hrb.2.1]; exact hsm.2.2 j (by rw [← HNL.out]; exact hjt)
                    obtain rfl : xn = cn := by rw [hrb.2.1, hmrb.2.1]
                    generalize L.getD j dz = d at *
                    have g1 : wr.cell? ⟨b', o' + j * 2, none⟩ = some (.int .u16 d.1) := (HB.out.cell (p := ⟨b', o' + j * 2, none⟩) hbk').trans h1'
                    have g2 : wr.cell? ⟨b', o' + j * 2 + 1, none⟩ = some (.slice co xn cc) := (HB.out.cell (p := ⟨b', o' + j * 2 + 1, none⟩) hbk').trans h2'
                    have g3 : wr.cell? ⟨mb, mof + s' * 2, none⟩ = some (.int .u16 d.1) := (HB.out.cell (p := ⟨mb, mof + s' * 2, none⟩) hmb).trans m1'
                    have g4 : wr.cell? ⟨mb, mof + s' * 2 + 1, none⟩ = some (.slice xo xn xc) := (HB.out.cell (p := ⟨mb, mof + s' * 2 + 1, none⟩) hmb).trans m2'
                    have HR : Hid (RB (fun k => k < w6.heap.size) wr co xn d.2 ∧ RB (fun k => k < w6.heap.size) wr xo xn d.2) := ⟨hrb.carry (SameOn.below HB.out), hmrb.carry (SameOn.below HB.out)⟩
                    have HQ : Hid (b' < w6.heap.size ∧ mb < w6.heap.size ∧ w6.heap.size ≤ wr.heap.size) := ⟨hbk', hmb, HB.out.size⟩
                    have i3 : (0 : Int) ≤ (j : Int) := by omega
                    have i4 : (j : Int) < (nl : Int) := by omega
                    have i5 : (0 : Int) ≤ (s' : Int) := by omega
                    have i6 : (s' : Int) < (F.length : Int) := by omega
                    clear h1' h2' hrb m1' m2' hmrb hidx hsl
                    go_wp2_with fail
                    go_region_held3 (fun w' => w'.cell? ⟨b', o' + j * 2, none⟩ = some (.int .u16 d.1) ∧ w'.cell? ⟨b', o' + j * 2 + 1, none⟩ = some (.slice co xn cc) ∧ w'.cell? ⟨mb, mof + s' * 2, none⟩ = some (.int .u16 d.1) ∧ w'.cell? ⟨mb, mof + s' * 2 + 1, none⟩ = some (.slice xo xn xc))
                      (go_keep)
                      ((go_at_call 13; refine (eq_any d.1 xo xn xc co cc d.2 _ _ _ (by exact HR.out.2) (by exact HR.out.1) hcnl).mono ?_; rintro e w7 ⟨rfl, hb2⟩; have hb3 : Below wr.heap.size wr w7 := ⟨hb2.os, hb2.tape, hb2.output, hb2.size, hb2.block⟩; clear hb2; have e1 := (hb3.cell (p := ⟨b', o' + j * 2, none⟩) (by exact Nat.lt_of_lt_of_le HQ.out.1 HQ.out.2.2)).trans g1; have e2 := (hb3.cell (p := ⟨b', o' + j * 2 + 1, none⟩) (by exact Nat.lt_of_lt_of_le HQ.out.1 HQ.out.2.2)).trans g2; have e3 := (hb3.cell (p := ⟨mb, mof + s' * 2, none⟩) (by exact Nat.lt_of_lt_of_le HQ.out.2.1 HQ.out.2.2)).trans g3; have e4 := (hb3.cell (p := ⟨mb, mof + s' * 2 + 1, none⟩) (by exact Nat.lt_of_lt_of_le HQ.out.2.1 HQ.out.2.2)).trans g4; have HB7 : Hid (Below w6.heap.size w6 w7) := HB.out.trans (hb3.mono HB.out.size); clear hb3))
                    clear e1 e2 e3 e4 g1 g2 g3 g4 HR
                    go_wp2
                    go_roundw
                    case rel => exact ⟨j + 1, s' + 1, by omega, by go_num, by go_num, by show s' + 1 = _; rw [HSum.out]; omega, HB7⟩
                    case measure => simp [intOf]; omega
                  · have hq1 : ∀ w', (binOp .eql 30 (.slice mo F.length mc) (.slice none 0 0)).run Try.prog w' = .ok (.bool mo.isNone) w' := fun w' => Lib.run_eql_slice_nil w' 30 36 mo F.length mc 0 0 Try.underlying30
                    have hq2 : ∀ w', (binOp .eql 23 (.slice lo nl lc) (.slice none 0 0)).run Try.prog w' = .ok (.bool lo.isNone) w' := fun w' => Lib.run_eql_slice_nil w' 23 37 lo nl lc 0 0 Try.underlying23
                    have hBB : Hid (Below w2.heap.size w2 wr) := hB6.trans (HB.out.mono hB6.size)
                    by_cases hz : D.length = 0
                    · have hzb : ((D.length : Int) == 0) = true := by rw [beq_iff_eq]; omega
                      have HM2 : mo.isNone = lo.isNone := by rw [HM.out]; simp [hz]
                      clear hz
                      go_wp2
                      go_ret
                      exact ⟨rfl, hBB⟩
                    · have hzb : ((D.length : Int) == 0) = false := by rw [beq_eq_false_iff_ne]; omega
                      have HM2 : mo.isNone = false := by rw [HM.out]; simp [hz]
                      clear hz
                      go_wp2
                      go_ret
                      exact ⟨rfl, hBB⟩
      · go_wp2
        go_ret
        exact ⟨rfl, Below.refl _ _⟩
    · go_wp2
      go_ret
      exact ⟨rfl, Below.refl _ _⟩
end Go.Proofs.Qxb6601125a.fnConcat
