import Derived.Test.Qxb6601151aHead
namespace Go.Proofs.Qxb6601151a
open Go.RowKit

theorem RS.cut {w : World} {b o n cap : Nat} {zs : List Int} (h : RS w (some ⟨b, o, none⟩) n cap zs) (k : Nat) (hk : k ≤ n) : RS w (some ⟨b, o, none⟩) k cap (zs.take k) := by
  obtain ⟨h1, h2, h3⟩ := h
  refine ⟨by rw [List.length_take]; omega, by omega, fun hk0 => ?_⟩
  obtain ⟨b', o', e, hc⟩ := h3 (by omega)
  simp only [Option.some.injEq, Addr.mk.injEq, and_true] at e
  obtain ⟨rfl, rfl⟩ := e
  refine ⟨_, _, rfl, fun i hi => ?_⟩
  rw [hc i (by omega)]
  congr 2
  rw [List.getD_eq_getElem?_getD, List.getD_eq_getElem?_getD, List.getElem?_take, if_pos hi]

theorem RS.from {w : World} {b o n cap : Nat} {zs : List Int} (h : RS w (some ⟨b, o, none⟩) n cap zs) (k : Nat) (hk : k ≤ n) {ao : Option Addr} (hao : ¬ cap = k → ao = some ⟨b, o + k, none⟩) : RS w ao (n - k) (cap - k) (zs.drop k) := by
  obtain ⟨h1, h2, h3⟩ := h
  refine ⟨by rw [List.length_drop]; omega, by omega, fun hk0 => ?_⟩
  obtain ⟨b', o', e, hc⟩ := h3 (by omega)
  simp only [Option.some.injEq, Addr.mk.injEq, and_true] at e
  obtain ⟨rfl, rfl⟩ := e
  refine ⟨_, _, hao (by omega), fun i hi => ?_⟩
  rw [Nat.add_assoc, hc (k + i) (by omega), getD_drop]

set_option maxHeartbeats 1000000 in
theorem headok_any (so : Option Addr) (n cap : Nat) (zs : List Int) (w : World) (h : RS w so n cap zs) (hn : n ≤ 1048576) (hcm : cap ≤ 9223372036854775807) :
    Calls Try.prog 34 #[.slice so n cap] w (BoolOut (hok zs) w) := by
  have hz := h.1
  subst hz
  have hcap := h.2.1
  have hr := h.2.2
  go_enter Try.func34, Try.ntmps34
  go_wp2_with fail
  go_loop [3, 4] (fun c i => ∃ (k : Nat) (cm : Int), k ≤ zs.length ∧ c = .int .i64 cm ∧ i = .int .i64 k ∧ CM zs k cm) (fun _ i => zs.length - (intOf i).toNat)
  case atStart => exact ⟨0, -1, Nat.zero_le _, rfl, rfl, .inl ⟨rfl, fun i hi => by omega⟩⟩
  case round =>
    obtain ⟨k, cm, hk, rfl, rfl, hc⟩ := hrel
    have hbd := hc.bd
    by_cases hlt : k < zs.length
    · obtain ⟨bb, o, rfl, hcell⟩ := hr (by omega)
      have g := hcell k hlt
      have HC : Hid (CM zs k cm) := hc
      clear hcell hc hr h
      by_cases h44 : zs.getD k 0 = 44
      · rw [h44] at g
        by_cases h0 : cm < 0
        · have R := HC.out.comma h0 h44
          clear HC h44
          go_wp2
          go_round
          case rel => exact ⟨k + 1, k, by omega, rfl, by go_num, R⟩
          case measure => simp [intOf]; omega
        · have HT : Hid (hok zs = false) := HC.out.two (by omega) hlt h44
          clear HC h44
          go_wp2
          go_ret
          exact ⟨by rw [HT.out]; rfl, rfl⟩
      · have e44 : (zs.getD k 0 == 44) = false := by rw [beq_eq_false_iff_ne]; exact h44
        cases hb : bl (zs.getD k 0) with
        | true =>
          have R := HC.out.char h44 (by unfold vld; rw [hb]; rfl)
          have HB : Hid (bl (zs.getD k 0) = true) := hb
          clear HC h44 hb
          generalize zs.getD k 0 = c at *
          go_wp2_with fail
          refine (blank_any c w).mono ?_
          rintro e w' ⟨rfl, rfl⟩
          rw [HB.out]
          go_wp2
          go_round
          case rel => exact ⟨k + 1, cm, by omega, rfl, by go_num, R⟩
          case measure => simp [intOf]; omega
        | false =>
          have HB : Hid (bl (zs.getD k 0) = false) := hb
          cases hd : dg (zs.getD k 0) with
          | true =>
            have R := HC.out.char h44 (by unfold vld; rw [hd, hb]; rfl)
            have HD : Hid (dg (zs.getD k 0) = true) := hd
            clear HC h44 hb hd
            generalize zs.getD k 0 = c at *
            go_wp2_with fail
            refine (blank_any c w).mono ?_
            rintro e w' ⟨rfl, rfl⟩
            rw [HB.out]
            go_wp2_with fail
            refine (digit_any c w').mono ?_
            rintro e w'' ⟨rfl, rfl⟩
            rw [HD.out]
            go_wp2
            go_round
            case rel => exact ⟨k + 1, cm, by omega, rfl, by go_num, R⟩
            case measure => simp [intOf]; omega
          | false =>
            have HT : Hid (hok zs = false) := CM.bad hlt h44 (by unfold vld; rw [hd, hb]; rfl)
            have HD : Hid (dg (zs.getD k 0) = false) := hd
            clear HC h44 hb hd
            generalize zs.getD k 0 = c at *
            go_wp2_with fail
            refine (blank_any c w).mono ?_
            rintro e w' ⟨rfl, rfl⟩
            rw [HB.out]
            go_wp2_with fail
            refine (digit_any c w').mono ?_
            rintro e w'' ⟨rfl, rfl⟩
            rw [HD.out]
            go_wp2
            go_ret
            exact ⟨by rw [HT.out]; rfl, rfl⟩
    · obtain rfl : k = zs.length := by omega
      by_cases h0 : cm < 0
      · have HT : Hid (hok zs = dt zs) := hc.none h0
        clear hc
        go_wp2_with fail
        refine (together_any so zs.length cap zs w h hn).mono ?_
        rintro e w' ⟨rfl, rfl⟩
        go_wp2
        go_ret
        exact ⟨by rw [HT.out]; rfl, rfl⟩
      · obtain ⟨a, rfl⟩ := Int.eq_ofNat_of_zero_le (show 0 ≤ cm by omega)
        have HT : Hid (hok zs = (dt (zs.take a) && dt (zs.drop (a + 1)))) := hc.one
        obtain ⟨bb, o, rfl, hcell⟩ := hr (by omega)
        have hal : a < zs.length := by omega
        have HRS : Hid (RS w (some ⟨bb, o, none⟩) zs.length cap zs) := h
        clear hc hcell hr h
        have i1 : (0 : Int) ≤ (a : Int) := by omega
        have i2 : (a : Int) ≤ (cap : Int) := by omega
        have i3 : (a : Int) + 1 ≤ (zs.length : Int) := by omega
        have i4 : (zs.length : Int) ≤ (cap : Int) := by omega
        go_wp2_with fail
        refine (together_any _ a cap (zs.take a) w (HRS.out.cut a (by omega)) (by omega)).mono ?_
        rintro e w' ⟨rfl, rfl⟩
        cases hd1 : dt (zs.take a) with
        | false =>
          have HT2 : Hid (hok zs = false) := by show hok zs = false; rw [HT.out, hd1]; rfl
          clear hd1
          go_wp2
          go_ret
          exact ⟨by rw [HT2.out]; rfl, rfl⟩
        | true =>
          have HT2 : Hid (hok zs = dt (zs.drop (a + 1))) := by show hok zs = _; rw [HT.out, hd1]; rfl
          clear hd1 HT
          by_cases hca : cap = a + 1
          · subst hca
            have HR2 := HRS.out.from (a + 1) (by omega) (ao := some ⟨bb, o, none⟩) (fun h => absurd rfl h)
            rw [Nat.sub_self, show zs.length - (a + 1) = 0 by omega] at HR2
            have HR2H : Hid (RS w' (some ⟨bb, o, none⟩) 0 0 (zs.drop (a + 1))) := HR2
            clear HR2
            go_wp2_with fail
            refine (together_any _ 0 0 (zs.drop (a + 1)) w' HR2H.out (by omega)).mono ?_
            rintro e w'' ⟨rfl, rfl⟩
            go_wp2
            go_ret
            exact ⟨by rw [HT2.out]; rfl, rfl⟩
          · have HR2H : Hid (RS w' (some ⟨bb, o + (a + 1), none⟩) (zs.length - (a + 1)) (cap - (a + 1)) (zs.drop (a + 1))) := HRS.out.from (a + 1) (by omega) (fun _ => rfl)
            go_wp2_with fail
            refine (together_any _ _ _ (zs.drop (a + 1)) w' HR2H.out (by omega)).mono ?_
            rintro e w'' ⟨rfl, rfl⟩
            go_wp2
            go_ret
            exact ⟨by rw [HT2.out]; rfl, rfl⟩
end Go.Proofs.Qxb6601151a
