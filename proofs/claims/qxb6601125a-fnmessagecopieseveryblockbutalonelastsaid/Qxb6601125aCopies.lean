import Derived.Test.Qxb6601125aFlip
import Derived.Test.Qxb6601125aEq
import Derived.Test.Qxb6601125aTotal
import Derived.Test.Qxb6601125aSize14
import Derived.Deep.RegionHeld3
namespace Go.Proofs.Qxb6601125a.fnCopies
open Go.RowKit Go.Proofs.Qxb6601125a

def LawOut (w : World) (e : Ending) (w' : World) : Prop := e = .returned (.bool true) ∧ Below w.heap.size w w'

theorem pick_at (L : List Dt) (c : Prop) [Decidable c] (j : Nat) (hj : j < L.length) : (if c then L.map flipD else L).getD j dz = if c then flipD (L.getD j dz) else L.getD j dz := by
  split
  · simp [hj]
  · rfl

set_option maxHeartbeats 2000000 in
theorem walk (fo : Option Addr) (nf fc : Nat) (lo : Option Addr) (nl lc : Nat) (D : List (List Dt)) (L : List Dt) (w : World) (hr : RR (fun k => k < w.heap.size) w fo nf D) (hl : RF (fun k => k < w.heap.size) w lo nl L) :
    Calls Try.prog 4 #[.slice fo nf fc, .slice lo nl lc] w (LawOut w) := by
  have S := size14 fo nf fc lo nl lc D L _ w hr hl
  have HS : Hid (Calls Try.prog 14 #[.slice fo nf fc, .slice lo nl lc] w (SizeOut D L w)) := S
  clear S
  go_enter Try.func4, Try.ntmps4
  go_wp2_with fail
  refine HS.out.mono ?_
  rintro e w1 ⟨b, rfl, hb, rfl⟩
  clear HS
  cases b with
  | false =>
    go_wp2
    go_ret
    exact ⟨rfl, Below.refl _ _⟩
  | true =>
    have hsm := hb rfl
    clear hb
    by_cases c0 : nf ≤ 16
    · go_wp2_with fail
      refine (total_any fo nf fc lo nl lc D L _ w1 hr hl hsm c0).mono ?_
      rintro e w2 ⟨r, rfl, rfl⟩
      by_cases c1 : r ≤ 1048576
      · have d0 : decide (16 < (nf : Int)) = false := by simp; omega
        have d1 : decide (1048576 < r) = false := by simp; omega
        have hnD := hr.1
        subst hnD
        have hok : ∀ k, k < w2.heap.size → k < w2.heap.size := fun _ h => h
        go_wp2_with fail
        refine (blocks_any fo D.length fc D _ w2 hok hr (by omega) (fun i hi => (hsm.1 i hi).1) (fun i hi => (hsm.1 i hi).2)).mono ?_
        rintro e w3 ⟨po, pc, rfl, hrr3, hb3⟩
        have hl3 := hl.later hb3
        have hL1 := hsm.2.1
        have hL2 := hsm.2.2
        have HNL : Hid (nl = L.length) := hl.1
        have hnl2 : nl ≤ 1048576 := by rw [HNL.out]; exact hL1
        go_wp2_with fail
        refine (frames_any lo nl lc L _ w3 (fun _ h => h) hl3.nil hl3 (by omega) (by rw [HNL.out]; exact hL2)).mono ?_
        intro e w4 hfo
        have hfo2 := hfo
        obtain ⟨qo, qc, rfl, hrf4, hb4, hnil4⟩ := hfo.rf (by rw [← HNL.out]; exact hl.nil)
        rw [← HNL.out] at hfo2
        rw [← HNL.out] at hrf4
        rw [← HNL.out]
        have hrr4 := hrr3.later hb4
        have hrf4' := hrf4.lt
        go_wp2_with fail
        refine (zzmessage_row lo po D.length pc qo nl qc D L w2 w3 w4 hb3 hfo2 hrr4 hrf4' c0 hnl2 (fun i hi => (hsm.1 i hi).1)).mono ?_
        rintro e w6 ⟨mo, N, mc, g, hs, rfl, hN, hfl⟩
        have hB6 := hfl.2.2.2.2
        have HFL : Hid (Flippable w2 D.length po D qo nl L mo N mc g hs w6) := hfl
        clear hb3 hl3 hrr3 hfo hrf4 hb4 hnil4 hrr4 hrf4' hfo2 hok
        have fi0 : FI w2 N mc g hs w6 0 w6 := ⟨fun hn => by rw [flipTo_zero]; exact (hfl.1 hn).2.2.1, SameBut.refl _ _, fun _ => rfl⟩
        clear hfl
        go_wp2_with fail
        go_loopw [8] (fun i wr => ∃ k : Nat, k ≤ N ∧ i = .int .i64 k ∧ FI w2 N mc g hs w6 k wr) (fun i _ => N - (intOf i).toNat)
        case atStart => exact ⟨0, Nat.zero_le _, rfl, fi0⟩
        case round =>
          obtain ⟨k, hk, rfl, fi⟩ := hrel
          clear fi0
          by_cases hlt : k < N
          · obtain ⟨_, hmo, _, hlen, _⟩ := HFL.out.1 (by omega)
            have cf := fi.cell hlt hlen
            have R := fi.step hlt hlen
            obtain ⟨q0, f0⟩ := cf
            clear fi hlen
            subst hmo
            generalize hs.getD k hz = h at q0 R
            go_wp2
            go_roundw
            case rel => exact ⟨k + 1, by omega, by go_num, R⟩
            case measure => simp [intOf]; omega
          · obtain rfl : k = N := by omega
            obtain ⟨hB7, hp7, hq7⟩ := fi.done HFL.out
            clear fi HFL hB6
            have hr7 := hr.later hB7
            have hl7 := hl.later hB7
            clear hr hl
            obtain ⟨w7, hw7⟩ : ∃ w7, w7 = wr := ⟨_, rfl⟩
            subst hw7
            go_wp2
            go_loopw [9] (fun i wr => ∃ (k : Nat), k ≤ D.length ∧ i = .int .i64 k ∧ Hid (Below w7.heap.size w7 wr)) (fun i _ => D.length - (intOf i).toNat)
            case atStart => exact ⟨0, Nat.zero_le _, rfl, Below.refl _ _⟩
            case round =>
              obtain ⟨k, hk, rfl, HB⟩ := hrel
              by_cases hlt : k < D.length
              · obtain ⟨b, o, ro, rn, rc, ha, hbk, hc0, hrf⟩ := hr7.at hlt
                subst ha
                have hrnb : rn ≤ 1048576 := by rw [hrf.1]; exact (hsm.1 k hlt).1
                have HN : Hid (rn = (D.getD k []).length) := hrf.1
                have g0 : wr.cell? ⟨b, o + k, none⟩ = some (.slice ro rn rc) := (HB.out.cell (p := ⟨b, o + k, none⟩) hbk).trans hc0
                obtain ⟨pb, pof, sro, srn, src, hpa, hpbk, hpc0, hprf⟩ := hp7.at hlt
                subst hpa
                obtain rfl : srn = rn := by rw [hprf.1, hrf.1]
                go_wp2
                go_loopw [10] (fun i wi => ∃ (j : Nat), j ≤ srn ∧ i = .int .i64 j ∧ Hid (Below w7.heap.size w7 wi)) (fun i _ => srn - (intOf i).toNat)
                case atStart => exact ⟨0, Nat.zero_le _, rfl, HB⟩
                case round =>
                  clear HB g0
                  obtain ⟨j, hj, rfl, HB⟩ := hrel
                  have g0 : wr.cell? ⟨b, o + k, none⟩ = some (.slice ro srn rc) := (HB.out.cell (p := ⟨b, o + k, none⟩) hbk).trans hc0
                  by_cases hjt : j < srn
                  · obtain ⟨b', o', co, cn, cc, ha, hbk', h1', h2', hrb⟩ := hrf.at hjt
                    subst ha
                    obtain ⟨mb, mof, xo, xn, xc, hm, hmb, m1', m2', hmrb⟩ := hprf.at hjt
                    subst hm
                    have g5 : wr.cell? ⟨pb, pof + k, none⟩ = some (.slice (some ⟨mb, mof, none⟩) srn src) := (HB.out.cell (p := ⟨pb, pof + k, none⟩) hpbk).trans hpc0
                    have hcnl : cn ≤ 1048576 := by rw [hrb.2.1]; exact (hsm.1 k hlt).2 j (by rw [← HN.out]; exact hjt)
                    obtain rfl : xn = cn := by rw [hrb.2.1, hmrb.2.1]
                    generalize (D.getD k []).getD j dz = d at *
                    have g1 : wr.cell? ⟨b', o' + j * 2, none⟩ = some (.int .u16 d.1) := (HB.out.cell (p := ⟨b', o' + j * 2, none⟩) hbk').trans h1'
                    have g2 : wr.cell? ⟨b', o' + j * 2 + 1, none⟩ = some (.slice co xn cc) := (HB.out.cell (p := ⟨b', o' + j * 2 + 1, none⟩) hbk').trans h2'
                    have g3 : wr.cell? ⟨mb, mof + j * 2, none⟩ = some (.int .u16 d.1) := (HB.out.cell (p := ⟨mb, mof + j * 2, none⟩) hmb).trans m1'
                    have g4 : wr.cell? ⟨mb, mof + j * 2 + 1, none⟩ = some (.slice xo xn xc) := (HB.out.cell (p := ⟨mb, mof + j * 2 + 1, none⟩) hmb).trans m2'
                    have HR : Hid (RB (fun k => k < w7.heap.size) wr co xn d.2 ∧ RB (fun k => k < w7.heap.size) wr xo xn d.2) := ⟨hrb.carry (SameOn.below HB.out), hmrb.carry (SameOn.below HB.out)⟩
                    have HQ : Hid (b' < w7.heap.size ∧ mb < w7.heap.size ∧ b < w7.heap.size ∧ pb < w7.heap.size ∧ w7.heap.size ≤ wr.heap.size) := ⟨hbk', hmb, hbk, hpbk, HB.out.size⟩
                    have i1 : (0 : Int) ≤ (k : Int) := by omega
                    have i2 : (k : Int) < (D.length : Int) := by omega
                    have i3 : (0 : Int) ≤ (j : Int) := by omega
                    have i4 : (j : Int) < (srn : Int) := by omega
                    clear h1' h2' hrb m1' m2' hmrb
                    go_wp2_with fail
                    go_region_held3 (fun w' => w'.cell? ⟨b', o' + j * 2, none⟩ = some (.int .u16 d.1) ∧ w'.cell? ⟨b', o' + j * 2 + 1, none⟩ = some (.slice co xn cc) ∧ w'.cell? ⟨mb, mof + j * 2, none⟩ = some (.int .u16 d.1) ∧ w'.cell? ⟨mb, mof + j * 2 + 1, none⟩ = some (.slice xo xn xc) ∧ w'.cell? ⟨b, o + k, none⟩ = some (.slice (some ⟨b', o', none⟩) srn rc) ∧ w'.cell? ⟨pb, pof + k, none⟩ = some (.slice (some ⟨mb, mof, none⟩) srn src))
                      (go_keep)
                      ((go_at_call 13; refine (eq_any d.1 xo xn xc co cc d.2 _ _ _ (by exact HR.out.2) (by exact HR.out.1) hcnl).mono ?_; rintro e w8 ⟨rfl, hb2⟩; have hb3 : Below wr.heap.size wr w8 := ⟨hb2.os, hb2.tape, hb2.output, hb2.size, hb2.block⟩; clear hb2; have e0 := (hb3.cell (p := ⟨b, o + k, none⟩) (by exact Nat.lt_of_lt_of_le HQ.out.2.2.1 HQ.out.2.2.2.2)).trans g0; have e1 := (hb3.cell (p := ⟨b', o' + j * 2, none⟩) (by exact Nat.lt_of_lt_of_le HQ.out.1 HQ.out.2.2.2.2)).trans g1; have e2 := (hb3.cell (p := ⟨b', o' + j * 2 + 1, none⟩) (by exact Nat.lt_of_lt_of_le HQ.out.1 HQ.out.2.2.2.2)).trans g2; have e3 := (hb3.cell (p := ⟨mb, mof + j * 2, none⟩) (by exact Nat.lt_of_lt_of_le HQ.out.2.1 HQ.out.2.2.2.2)).trans g3; have e4 := (hb3.cell (p := ⟨mb, mof + j * 2 + 1, none⟩) (by exact Nat.lt_of_lt_of_le HQ.out.2.1 HQ.out.2.2.2.2)).trans g4; have e5 := (hb3.cell (p := ⟨pb, pof + k, none⟩) (by exact Nat.lt_of_lt_of_le HQ.out.2.2.2.1 HQ.out.2.2.2.2)).trans g5; have HB8 : Hid (Below w7.heap.size w7 w8) := HB.out.trans (hb3.mono HB.out.size); clear hb3))
                    clear e0 e1 e2 e3 e4 e5 g0 g1 g2 g3 g4 g5 HR
                    go_wp2
                    go_roundw
                    case rel => exact ⟨j + 1, by omega, by go_num, HB8⟩
                    case measure => simp [intOf]; omega
                  · obtain rfl : j = srn := by omega
                    go_wp2
                    go_roundw
                    case rel => exact ⟨k + 1, by omega, by go_num, HB⟩
                    case measure => simp [intOf]; omega
              · obtain rfl : k = D.length := by omega
                go_wp2
                go_loopw [11] (fun i wi => ∃ (j : Nat), j ≤ nl ∧ i = .int .i64 j ∧ Hid (Below w7.heap.size w7 wi)) (fun i _ => nl - (intOf i).toNat)
                case atStart => exact ⟨0, Nat.zero_le _, rfl, HB⟩
                case round =>
                  clear HB
                  obtain ⟨j, hj, rfl, HB⟩ := hrel
                  by_cases hjt : j < nl
                  · obtain ⟨b', o', co, cn, cc, ha, hbk', h1', h2', hrb⟩ := hl7.at hjt
                    subst ha
                    obtain ⟨mb, mof, xo, xn, xc, hm, hmb, m1', m2', hmrb⟩ := hq7.at hjt
                    subst hm
                    have hL2 := hsm.2.2 j (by rw [← HNL.out]; exact hjt)
                    have hcnl : cn ≤ 1048576 := by rw [hrb.2.1]; exact hL2
                    rw [pick_at L _ j (by rw [← HNL.out]; exact hjt)] at m1' hmrb
                    by_cases hz : D.length = 0
                    · have hzb : ((D.length : Int) == 0) = true := by rw [beq_iff_eq]; omega
                      have hsg : IntKind.u16.signed = false := rfl
                      have hmx : IntKind.u16.max = 65535 := rfl
                      rw [if_pos hz] at m1' hmrb
                      obtain rfl : xn = cn := by rw [hrb.2.1, hmrb.2.1]; rfl
                      generalize L.getD j dz = d at *
                      have g1 : wr.cell? ⟨b', o' + j * 2, none⟩ = some (.int .u16 d.1) := (HB.out.cell (p := ⟨b', o' + j * 2, none⟩) hbk').trans h1'
                      have g2 : wr.cell? ⟨b', o' + j * 2 + 1, none⟩ = some (.slice co xn cc) := (HB.out.cell (p := ⟨b', o' + j * 2 + 1, none⟩) hbk').trans h2'
                      have g3 : wr.cell? ⟨mb, mof + j * 2, none⟩ = some (.int .u16 (flg d.1)) := (HB.out.cell (p := ⟨mb, mof + j * 2, none⟩) hmb).trans m1'
                      have g4 : wr.cell? ⟨mb, mof + j * 2 + 1, none⟩ = some (.slice xo xn xc) := (HB.out.cell (p := ⟨mb, mof + j * 2 + 1, none⟩) hmb).trans m2'
                      have HR : Hid (RB (fun k => k < w7.heap.size) wr co xn d.2 ∧ RB (fun k => k < w7.heap.size) wr xo xn d.2) := ⟨hrb.carry (SameOn.below HB.out), hmrb.carry (SameOn.below HB.out)⟩
                      have i3 : (0 : Int) ≤ (j : Int) := by omega
                      have i4 : (j : Int) < (nl : Int) := by omega
                      clear h1' h2' hrb m1' m2' hmrb hz
                      go_wp2_with fail
                      go_region_held3 (fun w' => w'.cell? ⟨b', o' + j * 2 + 1, none⟩ = some (.slice co xn cc) ∧ w'.cell? ⟨mb, mof + j * 2 + 1, none⟩ = some (.slice xo xn xc))
                        (go_keep)
                        ((go_at_call 15; refine (same_any xo xn xc co cc d.2 _ _ _ (by exact HR.out.2) (by exact HR.out.1) hcnl).mono ?_; rintro e w8 ⟨rfl, q, rfl⟩))
                      clear g1 g2 g3 g4 HR
                      go_wp2
                      go_roundw
                      case rel => exact ⟨j + 1, by omega, by go_num, below_dN HB.out _⟩
                      case measure => simp [intOf]; omega
                    · have hzb : ((D.length : Int) == 0) = false := by rw [beq_eq_false_iff_ne]; omega
                      rw [if_neg hz] at m1' hmrb
                      obtain rfl : xn = cn := by rw [hrb.2.1, hmrb.2.1]
                      generalize L.getD j dz = d at *
                      have g1 : wr.cell? ⟨b', o' + j * 2, none⟩ = some (.int .u16 d.1) := (HB.out.cell (p := ⟨b', o' + j * 2, none⟩) hbk').trans h1'
                      have g2 : wr.cell? ⟨b', o' + j * 2 + 1, none⟩ = some (.slice co xn cc) := (HB.out.cell (p := ⟨b', o' + j * 2 + 1, none⟩) hbk').trans h2'
                      have g3 : wr.cell? ⟨mb, mof + j * 2, none⟩ = some (.int .u16 d.1) := (HB.out.cell (p := ⟨mb, mof + j * 2, none⟩) hmb).trans m1'
                      have g4 : wr.cell? ⟨mb, mof + j * 2 + 1, none⟩ = some (.slice xo xn xc) := (HB.out.cell (p := ⟨mb, mof + j * 2 + 1, none⟩) hmb).trans m2'
                      have HR : Hid (RB (fun k => k < w7.heap.size) wr co xn d.2 ∧ RB (fun k => k < w7.heap.size) wr xo xn d.2) := ⟨hrb.carry (SameOn.below HB.out), hmrb.carry (SameOn.below HB.out)⟩
                      have i3 : (0 : Int) ≤ (j : Int) := by omega
                      have i4 : (j : Int) < (nl : Int) := by omega
                      clear h1' h2' hrb m1' m2' hmrb hz
                      go_wp2_with fail
                      go_region_held3 (fun w' => w'.cell? ⟨b', o' + j * 2 + 1, none⟩ = some (.slice co xn cc) ∧ w'.cell? ⟨mb, mof + j * 2 + 1, none⟩ = some (.slice xo xn xc))
                        (go_keep)
                        ((go_at_call 15; refine (same_any xo xn xc co cc d.2 _ _ _ (by exact HR.out.2) (by exact HR.out.1) hcnl).mono ?_; rintro e w8 ⟨rfl, q, rfl⟩))
                      clear g1 g2 g3 g4 HR
                      go_wp2
                      go_roundw
                      case rel => exact ⟨j + 1, by omega, by go_num, below_dN HB.out _⟩
                      case measure => simp [intOf]; omega
                  · go_wp2
                    go_ret
                    exact ⟨rfl, hB7.trans (HB.out.mono hB7.size)⟩
      · go_wp2
        go_ret
        exact ⟨rfl, Below.refl _ _⟩
    · go_wp2
      go_ret
      exact ⟨rfl, Below.refl _ _⟩
end Go.Proofs.Qxb6601125a.fnCopies
