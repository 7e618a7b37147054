import Derived.Test.Qxb6601125aOpen
import Derived.Test.Qxb6601125aLt
import Derived.Test.Qxb6601125aMsg
import Derived.Test.Qxb6601125aTotal
import Derived.Test.Qxb6601125aSize21
import Derived.ShutString
import Derived.ChangeOld
namespace Go.Proofs.Qxb6601125a.fnLenCounts
open Go.ChangeShapes Go.WideShapes Go.ChangeAt Go.RowKit Go.Proofs.Qxb6601125a

theorem own : ownKnob Try.prog.godebug = none := by kernel_rfl
theorem laidOut : laidOutB Try.prog = true := by kernel_rfl

def LawOut (w : World) (e : Ending) (w' : World) : Prop := e = .returned (.bool true) ∧ Below w.heap.size w w'

theorem flatten_same (D : List (List Dt)) (h : ∀ i, i < D.length → (D.getD i []).length = 4096) (k : Nat) (hk : k ≤ D.length) : (D.take k).flatten.length = k * 4096 := by
  induction k with
  | zero => simp
  | succ k ih =>
    rw [flatten_take_succ D k (by omega), List.length_append, ih (by omega), h k (by omega)]
    omega

set_option maxHeartbeats 1000000 in
theorem walk (fo : Option Addr) (nf fc : Nat) (lo : Option Addr) (nl lc : Nat) (D : List (List Dt)) (L : List Dt) (w : World) (hr : RR (fun k => k < w.heap.size) w fo nf D) (hl : RF (fun k => k < w.heap.size) w lo nl L) :
    Calls Try.prog 7 #[.slice fo nf fc, .slice lo nl lc] w (LawOut w) := by
  have S := size21 fo nf fc lo nl lc D L _ w hr hl
  have HS : Hid (Calls Try.prog 21 #[.slice fo nf fc, .slice lo nl lc] w (SizeOut D L w)) := S
  clear S
  go_enter Try.func7, Try.ntmps7
  go_wp2_with fail
  refine HS.out.mono ?_
  rintro e w1 ⟨b, rfl, hb, rfl⟩
  clear HS
  cases b with
  | false =>
    go_wp2
    go_ret
    exact ⟨rfl, Below.refl _ _⟩
  | true =>
    have hsm := hb rfl
    clear hb
    by_cases c0 : nf ≤ 16
    · go_wp2_with fail
      refine (total_any fo nf fc lo nl lc D L _ w1 hr hl hsm c0).mono ?_
      rintro e w2 ⟨r, rfl, rfl⟩
      by_cases c1 : r ≤ 1048576
      · have d0 : decide (16 < (nf : Int)) = false := by simp; omega
        have d1 : decide (1048576 < r) = false := by simp; omega
        have hnD := hr.1
        subst hnD
        go_wp2_with fail
        go_loop [5] (fun i => ∃ k : Nat, k ≤ D.length ∧ i = .int .i64 k ∧ ∀ i, i < k → (D.getD i []).length = 4096) (fun i => D.length - (intOf i).toNat)
        case atStart => exact ⟨0, Nat.zero_le _, rfl, fun i hi => by omega⟩
        case round =>
          obtain ⟨k, hk, rfl, h4⟩ := hrel
          by_cases hlt : k < D.length
          · obtain ⟨b, o, ro, rn, rc, ha, hbk, hc0, hrf⟩ := hr.at hlt
            subst ha
            have HN : Hid (rn = (D.getD k []).length) := hrf.1
            have H4 : Hid (∀ i, i < k → (D.getD i []).length = 4096) := h4
            clear h4
            by_cases c2 : rn = 4096
            · have hne : ((rn : Int) != 4096) = false := by simp; omega
              go_wp2
              go_round
              case rel =>
                refine ⟨k + 1, by omega, by go_num, fun i hi => ?_⟩
                rcases Nat.lt_succ_iff_lt_or_eq.1 hi with h' | rfl
                · exact H4.out i h'
                · rw [← HN.out]; exact c2
              case measure => simp [intOf]; omega
            · have hne : ((rn : Int) != 4096) = true := by rw [bne_iff_ne]; omega
              go_wp2
              go_ret
              exact ⟨rfl, Below.refl _ _⟩
          · obtain rfl : k = D.length := by omega
            have hfl : D.flatten.length = D.length * 4096 := by have := flatten_same D h4 D.length (Nat.le_refl _); rwa [List.take_length] at this
            have HFL : Hid (D.flatten.length = D.length * 4096) := hfl
            clear hfl h4
            have hok : ∀ k, k < w2.heap.size → k < w2.heap.size := fun _ h => h
            go_wp2_with fail
            refine (blocks_any fo D.length fc D _ w2 hok hr (by omega) (fun i hi => (hsm.1 i hi).1) (fun i hi => (hsm.1 i hi).2)).mono ?_
            rintro e w3 ⟨po, pc, rfl, hrr3, hb3⟩
            have hl3 := hl.later hb3
            have hnl := hl.1
            have hL1 := hsm.2.1
            have hL2 := hsm.2.2
            have HNL : Hid (nl = L.length) := hnl
            have hnl2 : nl ≤ 1048576 := by omega
            clear hnl
            go_wp2_with fail
            refine (frames_any lo nl lc L _ w3 (fun _ h => h) hl3.nil hl3 (by omega) (by rw [HNL.out]; exact hL2)).mono ?_
            intro e w4 hfo
            obtain ⟨qo, qc, rfl, hrf4, hb4, _⟩ := hfo.rf (by rw [← HNL.out]; exact hl.nil)
            rw [← HNL.out] at hrf4
            rw [← HNL.out]
            have hrr4 := hrr3.later hb4
            go_wp2_with fail
            refine (zzlen_any po D.length pc qo nl qc w4 c0 hnl2).mono ?_
            rintro e w5 ⟨rfl, hb5⟩
            have hrr5 := hrr4.later hb5
            have hrf5 := hrf4.later hb5
            have hB5 : Below w2.heap.size w2 w5 := hb3.trans ((hb4.mono hb3.size).trans (hb5.mono (Nat.le_trans hb3.size hb4.size)))
            by_cases hz : D.length = 0
            · obtain rfl : D = [] := List.eq_nil_of_length_eq_zero hz
              clear hz
              go_wp2_with fail
              refine (zzmessage_none po pc qo nl qc w5).mono ?_
              rintro e w6 ⟨rfl, hb6⟩
              have hB6 : Below w2.heap.size w2 w6 := hB5.trans (hb6.mono (by have := hB5.size; omega))
              go_wp2
              go_ret
              exact ⟨rfl, hB6⟩
            · go_wp2_with fail
              refine (zzmessage_some po D.length pc qo nl qc D L _ w5 c0 hnl2 (by omega) (fun _ h => h) hrr5 hrf5 (fun i hi => (hsm.1 i hi).1)).mono ?_
              rintro e w6 ⟨g, cap, hs, rfl, _, _, hb6⟩
              rw [List.length_append, HFL.out, ← HNL.out]
              have hB6 : Below w2.heap.size w2 w6 := hB5.trans (hb6.mono (by have := hB5.size; omega))
              go_wp2
              go_ret
              exact ⟨rfl, hB6⟩
      · go_wp2
        go_ret
        exact ⟨rfl, Below.refl _ _⟩
    · go_wp2
      go_ret
      exact ⟨rfl, Below.refl _ _⟩

set_option maxRecDepth 100000 in
theorem lifted (os : Os) (started : os.Started) (H : Type) (enc : TypeId × Value → H) :
    ReturnsInHanded {} Try.checked os 7 .any (Rows.fnLenCountsMessageFramesSpec.pre6 enc Try.prog Try.f7 Rows.fnLenCountsMessageFramesRow.domain false) (Rows.fnLenCountsMessageFramesSpec.post enc Try.prog Try.f7 false true false false) := by
  refine returnsInHanded_of_change (C := Try.checked) own started (by kernel_rfl) Try.func7
    (ChangeSpec.witness6 (enc := enc) (C := Try.checked) false ⟨#[], #[.slice none 0 0, .slice none 0 0], []⟩ 8 (by kernel_rfl) (by kernel_rfl) (by kernel_rfl) (by kernel_rfl)) ?_
  intro W base args ds gs before hval0 hW hcnd _
  have hval : ∀ (j : Nat) t v, Try.f7.params[j]? = some t → args[j]? = some v → Value.okWide Try.prog W .any base t v := hval0
  have hW' := hW
  obtain ⟨p, q, hA0, hV, rfl, hfz, hnd⟩ := hW
  have hA : DataW.TrodAll enc Try.prog W 0 (fun _ => true) true Try.f7.params.toList args.toList ds p := hA0
  rw [Try.params7] at hA hval
  obtain ⟨v0, vs0, d0, ds0, p0, q0, hargs, rfl, rfl, h0, r0⟩ := trodAll_cons hA
  obtain ⟨v1, vs1, d1, ds1, p1, q1, rfl, rfl, rfl, h1, r1⟩ := trodAll_cons r0
  obtain ⟨rfl, rfl, rfl⟩ := trodAll_nil r1
  obtain rfl : args = #[v0, v1] := by cases args; simp_all
  obtain ⟨rfl, rfl⟩ := trodVars_none hV
  have k0 := h0
  have k1 := h1
  have lt0 : ∀ x ∈ p0, x.block < W.heap.size := by obtain ⟨m, hm⟩ := k0; exact DataW.trod_lt m _ _ _ hm
  have lt1 : ∀ x ∈ p1, x.block < W.heap.size := by obtain ⟨m, hm⟩ := k1; exact DataW.trod_lt m _ _ _ hm
  obtain ⟨a0, n0, c0, rfl⟩ := okWide_slice Try.underlying22 (hval 0 22 v0 rfl rfl)
  obtain ⟨a1, n1, c1, rfl⟩ := okWide_slice Try.underlying23 (hval 1 23 v1 rfl rfl)
  obtain ⟨D, hr⟩ : ∃ D, RR (fun k => k < W.heap.size) W a0 n0 D := by
    obtain ⟨fuel, hf⟩ := h0
    obtain ⟨ao, n, cap, D, e, hr⟩ := blocks_in (v := .slice a0 n0 c0) (by simpa [Value.cells] using hf)
    simp only [Value.slice.injEq] at e
    obtain ⟨rfl, rfl, rfl⟩ := e
    exact ⟨D, hr⟩
  obtain ⟨L, hl⟩ : ∃ L, RF (fun k => k < W.heap.size) W a1 n1 L := by
    obtain ⟨fuel, hf⟩ := h1
    obtain ⟨ao, n, cap, L, e, hl⟩ := frames_in (v := .slice a1 n1 c1) (by simpa [Value.cells] using hf)
    simp only [Value.slice.injEq] at e
    obtain ⟨rfl, rfl, rfl⟩ := e
    exact ⟨L, hl⟩
  clear hA0 hval0
  refine (walk a0 n0 c0 a1 n1 c1 D L W hr hl).mono fun e W' ⟨he, bel⟩ => ?_
  subst he
  exact ⟨_, rfl, _, _, _, [], _, [], hW', trodAll_mk1 (shut_bool Try.underlying4 _), (trodAll_cons_mk (Below.trod laidOut (by kernel_rfl) (of_decide_eq_true (by kernel_rfl)) k0 bel lt0) (trodAll_cons_mk (Below.trod laidOut (by kernel_rfl) (of_decide_eq_true (by kernel_rfl)) k1 bel lt1) trodAll_mk0)), rfl, bel.frame _, fun h => by cases h⟩

theorem over : Rows.fnLenCountsMessageFramesRow.holds Try.pinned (OpenSpec.ofChange Rows.fnLenCountsMessageFramesSpec) :=
  OpenClaim.holds_of_wide 7 Try.f7 rfl rfl rfl rfl rfl rfl rfl ⟨rfl, rfl, rfl, rfl, rfl⟩ rfl rfl rfl rfl rfl (by kernel_rfl) Try.func7 (by kernel_rfl)
    (of_decide_eq_true (by kernel_rfl)) (by unfold Func.isWrapper; first | (rw [if_pos (by decide +kernel)]; kernel_rfl) | (rw [if_neg (by decide +kernel)]; exact ⟨rfl, rfl⟩))
    (fun os started H enc _ => lifted os started H enc)

/-- THE STATEMENT -/
theorem proved : Rows.FnLenCountsMessageFramesSaid := over
#print axioms proved
end Go.Proofs.Qxb6601125a.fnLenCounts
