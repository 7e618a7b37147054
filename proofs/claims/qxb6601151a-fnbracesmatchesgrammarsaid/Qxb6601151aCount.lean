import Derived.Test.Qxb6601151aHead
namespace Go.Proofs.Qxb6601151a
open Go.RowKit

def CvOut (D : List Int) (w : World) (e : Ending) (w' : World) : Prop := e = .returned (.tuple #[.int .i64 (capped D), .bool (decide (0 < D.length))]) ∧ w' = w

theorem getD_mid (A D C : List Int) (i : Nat) (hi : i < D.length) : (A ++ (D ++ C)).getD (A.length + i) 0 = D.getD i 0 := by
  rw [List.getD_eq_getElem?_getD, List.getD_eq_getElem?_getD, List.getElem?_append_right (by omega), Nat.add_sub_cancel_left, List.getElem?_append_left hi]

theorem val_take (D : List Int) (z j : Nat) (h : z + j < D.length) : val ((D.drop z).take (j + 1)) = val ((D.drop z).take j) * 10 + (D.getD (z + j) 0 - 48) := by
  have hj : j < (D.drop z).length := by rw [List.length_drop]; omega
  rw [List.take_add_one, List.getElem?_eq_getElem hj]
  have e : D.getD (z + j) 0 = (D.drop z)[j] := by rw [← getD_drop]; simp [show z + j < D.length by omega]
  rw [e]
  exact val_snoc _ _

set_option maxHeartbeats 1000000 in
theorem countvalue_any (so : Option Addr) (n cap : Nat) (zs A D C : List Int) (w : World) (h : RS w so n cap zs) (hn : n ≤ 1048576) (hzs : zs = A ++ (D ++ C)) (hp : Pc A D C) :
    Calls Try.prog 28 #[.slice so n cap] w (CvOut D w) := by
  obtain ⟨hz, hcap, hr⟩ := h
  subst hz
  go_enter Try.func28, Try.ntmps28
  have HZ : Hid (zs = A ++ (D ++ C)) := hzs
  clear hzs
  go_wp2_with fail
  go_loop [4, 5, 6] (fun f l i => ∃ (k : Nat) (a b : Int), k ≤ zs.length ∧ f = .int .i64 a ∧ l = .int .i64 b ∧ i = .int .i64 k ∧ FL zs k a b) (fun _ _ i => zs.length - (intOf i).toNat)
  case atStart => exact ⟨0, -1, -1, Nat.zero_le _, rfl, rfl, rfl, FL.zero zs⟩
  case round =>
    obtain ⟨k, a, b, hk, rfl, rfl, rfl, hfl⟩ := hrel
    have hbd := hfl.bd
    by_cases hlt : k < zs.length
    · obtain ⟨bb, o, rfl, hc⟩ := hr (by omega)
      have g := hc k hlt
      have HC : Hid (∀ i, i < zs.length → w.cell? ⟨bb, o + i, none⟩ = some (.int .i32 (zs.getD i 0))) := hc
      have HF : Hid (FL zs k a b) := hfl
      clear hc hr hfl
      cases hd : dg (zs.getD k 0) with
      | false =>
        have R := HF.out.no hd
        have HD : Hid (dg (zs.getD k 0) = false) := hd
        clear hd HF
        generalize zs.getD k 0 = c at *
        go_wp2_with fail
        refine (digit_any c w).mono ?_
        rintro e w' ⟨rfl, rfl⟩
        rw [HD.out]
        go_wp2
        go_round
        case rel => exact ⟨k + 1, a, b, by omega, rfl, rfl, by go_num, R⟩
        case measure => simp [intOf]; omega
      | true =>
        have HD : Hid (dg (zs.getD k 0) = true) := hd
        by_cases ha : a < 0
        · have R := HF.out.first ha hd
          clear hd HF
          generalize zs.getD k 0 = c at *
          go_wp2_with fail
          refine (digit_any c w).mono ?_
          rintro e w' ⟨rfl, rfl⟩
          rw [HD.out]
          go_wp2
          go_round
          case rel => exact ⟨k + 1, k, k, by omega, rfl, rfl, by go_num, R⟩
          case measure => simp [intOf]; omega
        · have R := HF.out.next (by omega) hd
          clear hd HF
          generalize zs.getD k 0 = c at *
          go_wp2_with fail
          refine (digit_any c w).mono ?_
          rintro e w' ⟨rfl, rfl⟩
          rw [HD.out]
          go_wp2
          go_round
          case rel => exact ⟨k + 1, a, k, by omega, rfl, rfl, by go_num, R⟩
          case measure => simp [intOf]; omega
    · obtain rfl : k = zs.length := by omega
      have hfp : (D = [] ∧ a = -1) ∨ (D ≠ [] ∧ a = A.length ∧ b = (A.length : Int) + D.length - 1) := by
        have h := hfl
        rw [HZ.out] at h
        exact h.piece (fun c hc => dg_of_bl c (hp.1 c hc)) hp.2.1 (fun c hc => dg_of_bl c (hp.2.2 c hc))
      clear hfl
      rcases hfp with ⟨rfl, rfl⟩ | ⟨hne, rfl, rfl⟩
      · go_wp2
        go_ret2
        exact ⟨rfl, rfl⟩
      · have hDl : 0 < D.length := List.length_pos_iff.2 hne
        have hlen : A.length + D.length ≤ zs.length := by rw [HZ.out]; simp only [List.length_append]; omega
        obtain ⟨bb, o, rfl, hc⟩ := hr (by omega)
        have HC : Hid (∀ i, i < D.length → w.cell? ⟨bb, o + (A.length + i), none⟩ = some (.int .i32 (D.getD i 0))) := fun i hi => by
          rw [hc (A.length + i) (by omega), HZ.out, getD_mid A D C i hi]
        have HD : Hid (decide (0 < D.length) = true) := decide_eq_true hDl
        have HP : Hid (Pc A D C) := hp
        clear hc hr hne hp hbd
        have hlast : (A.length : Int) + D.length - 1 = ((A.length + D.length - 1 : Nat) : Int) := by omega
        go_wp2
        go_loop [7] (fun i => ∃ (z : Nat), z + 1 ≤ D.length ∧ i = .int .i64 ((A.length + z : Nat) : Int) ∧ Hid (∀ j, j < z → D.getD j 0 = 48)) (fun i => A.length + D.length - (intOf i).toNat)
        case atStart => exact ⟨0, by omega, rfl, fun j hj => by omega⟩
        case round =>
          obtain ⟨z, hz1, rfl, HZ0⟩ := hrel
          have g := HC.out z (by omega)
          by_cases hlt2 : z + 1 < D.length
          · by_cases h48 : D.getD z 0 = 48
            · rw [h48] at g
              have R : Hid (∀ j, j < z + 1 → D.getD j 0 = 48) := fun j hj => by
                rcases Nat.lt_succ_iff_lt_or_eq.1 hj with h' | rfl
                · exact HZ0.out j h'
                · exact h48
              clear h48
              go_wp2
              go_round
              case rel => exact ⟨z + 1, by omega, by go_num, R⟩
              case measure => simp [intOf]; omega
            · have e48 : (D.getD z 0 == 48) = false := by rw [beq_eq_false_iff_ne]; exact h48
              have H48 : Hid (D.getD z 0 ≠ 48) := h48
              clear h48
              by_cases hbig : 5 < D.length - z
              · have HK : Hid (capped D = 65536) := capped_big D HP.out.2.1 z HZ0.out (by omega) H48.out
                generalize D.getD z 0 = c0 at *
                go_wp2
                go_ret2
                exact ⟨by rw [HK.out, HD.out]; rfl, rfl⟩
              · generalize D.getD z 0 = c0 at g e48
                have hsm : D.length - z ≤ 5 := by omega
                have HV : Hid (∀ j, j ≤ D.length - z → 0 ≤ val ((D.drop z).take j) ∧ val ((D.drop z).take j) ≤ 99999) := fun j _ => val_bd _ (fun c hc => HP.out.2.1 c (List.mem_of_mem_drop (List.mem_of_mem_take hc))) (by rw [List.length_take, List.length_drop]; omega)
                have HCap : Hid (capped D = min (val (D.drop z)) 65536) := capped_small D HP.out.2.1 z HZ0.out (by omega)
                have HG : Hid (∀ i, i < D.length → 48 ≤ D.getD i 0 ∧ D.getD i 0 ≤ 57) := fun i hi => by
                  have e : D.getD i 0 = D[i] := by simp [hi]
                  rw [e]
                  exact (dg_iff _).1 (HP.out.2.1 _ (List.getElem_mem _))
                go_wp2
                go_loop [7, 8] (fun i v => ∃ (j : Nat) (x : Int), j ≤ D.length - z ∧ i = .int .i64 ((A.length + (z + j) : Nat) : Int) ∧ v = .int .i64 x ∧ Hid (x = val ((D.drop z).take j))) (fun i _ => A.length + D.length - (intOf i).toNat)
                case atStart => exact ⟨0, 0, by omega, rfl, rfl, rfl⟩
                case round =>
                  obtain ⟨j, x, hj, rfl, rfl, HX⟩ := hrel
                  have hxb := HV.out j hj
                  rw [← HX.out] at hxb
                  obtain ⟨x0, x1⟩ := hxb
                  by_cases hjl : j < D.length - z
                  · have g2 := HC.out (z + j) (by omega)
                    obtain ⟨c0, c1⟩ := HG.out (z + j) (by omega)
                    have HX2 : Hid (x * 10 + (D.getD (z + j) 0 - 48) = val ((D.drop z).take (j + 1))) := by show _ = _; rw [val_take D z j (by omega), ← HX.out]
                    generalize D.getD (z + j) 0 = c at *
                    go_wp2
                    go_round
                    case rel => exact ⟨j + 1, x * 10 + (c - 48), by omega, by go_num, rfl, HX2⟩
                    case measure => simp [intOf]; omega
                  · have HX3 : Hid (capped D = min x 65536) := by
                      show capped D = _
                      rw [HCap.out, HX.out, List.take_of_length_le (by rw [List.length_drop]; omega)]
                    by_cases hxm : x ≤ 65536
                    · have HX4 : Hid (capped D = x) := by show capped D = _; rw [HX3.out, Int.min_eq_left hxm]
                      go_wp2
                      go_ret2
                      exact ⟨by rw [HX4.out, HD.out]; rfl, rfl⟩
                    · have HX4 : Hid (capped D = 65536) := by show capped D = _; rw [HX3.out, Int.min_eq_right (by omega)]
                      go_wp2
                      go_ret2
                      exact ⟨by rw [HX4.out, HD.out]; rfl, rfl⟩
          · have hz2 : z + 1 = D.length := by omega
            have hd2 : decide ((A.length : Int) + z < (A.length : Int) + D.length - 1) = false := decide_eq_false (by omega)
            clear hz2
            generalize D.getD z 0 = c0 at g
            have hsm : D.length - z ≤ 5 := by omega
            have HV : Hid (∀ j, j ≤ D.length - z → 0 ≤ val ((D.drop z).take j) ∧ val ((D.drop z).take j) ≤ 99999) := fun j _ => val_bd _ (fun c hc => HP.out.2.1 c (List.mem_of_mem_drop (List.mem_of_mem_take hc))) (by rw [List.length_take, List.length_drop]; omega)
            have HCap : Hid (capped D = min (val (D.drop z)) 65536) := capped_small D HP.out.2.1 z HZ0.out (by omega)
            have HG : Hid (∀ i, i < D.length → 48 ≤ D.getD i 0 ∧ D.getD i 0 ≤ 57) := fun i hi => by
              have e : D.getD i 0 = D[i] := by simp [hi]
              rw [e]
              exact (dg_iff _).1 (HP.out.2.1 _ (List.getElem_mem _))
            go_wp2
            go_loop [7, 8] (fun i v => ∃ (j : Nat) (x : Int), j ≤ D.length - z ∧ i = .int .i64 ((A.length + (z + j) : Nat) : Int) ∧ v = .int .i64 x ∧ Hid (x = val ((D.drop z).take j))) (fun i _ => A.length + D.length - (intOf i).toNat)
            case atStart => exact ⟨0, 0, by omega, rfl, rfl, rfl⟩
            case round =>
              obtain ⟨j, x, hj, rfl, rfl, HX⟩ := hrel
              have hxb := HV.out j hj
              rw [← HX.out] at hxb
              obtain ⟨x0, x1⟩ := hxb
              by_cases hjl : j < D.length - z
              · have g2 := HC.out (z + j) (by omega)
                obtain ⟨c0, c1⟩ := HG.out (z + j) (by omega)
                have HX2 : Hid (x * 10 + (D.getD (z + j) 0 - 48) = val ((D.drop z).take (j + 1))) := by show _ = _; rw [val_take D z j (by omega), ← HX.out]
                generalize D.getD (z + j) 0 = c at *
                go_wp2
                go_round
                case rel => exact ⟨j + 1, x * 10 + (c - 48), by omega, by go_num, rfl, HX2⟩
                case measure => simp [intOf]; omega
              · have HX3 : Hid (capped D = min x 65536) := by
                  show capped D = _
                  rw [HCap.out, HX.out, List.take_of_length_le (by rw [List.length_drop]; omega)]
                by_cases hxm : x ≤ 65536
                · have HX4 : Hid (capped D = x) := by show capped D = _; rw [HX3.out, Int.min_eq_left hxm]
                  go_wp2
                  go_ret2
                  exact ⟨by rw [HX4.out, HD.out]; rfl, rfl⟩
                · have HX4 : Hid (capped D = 65536) := by show capped D = _; rw [HX3.out, Int.min_eq_right (by omega)]
                  go_wp2
                  go_ret2
                  exact ⟨by rw [HX4.out, HD.out]; rfl, rfl⟩
end Go.Proofs.Qxb6601151a
