import Derived.Test.Qxb6601125aSizeDefs
namespace Go.Proofs.Qxb6601125a
open Go.RowKit

set_option maxHeartbeats 1000000 in
theorem size16 (fo : Option Addr) (nf fc : Nat) (lo : Option Addr) (nl lc : Nat) (D : List (List Dt)) (L : List Dt) (ok : Nat → Prop) (w : World) (hr : RR ok w fo nf D) (hl : RF ok w lo nl L) :
    Calls Try.prog 16 #[.slice fo nf fc, .slice lo nl lc] w (SizeOut D L w) := by
  have hn := hr.1
  subst hn
  have hln := hl.1
  subst hln
  by_cases c0 : D.length ≤ 1048576
  · go_enter Try.func16, Try.ntmps16
    go_wp2
    go_loop [5, 6] (fun t i => ∃ (k : Nat) (s : Int), k ≤ D.length ∧ i = .int .i64 k ∧ t = .int .i64 s ∧ 0 ≤ s ∧ s ≤ 1048576 ∧ GoodTo D k) (fun _ i => D.length - (intOf i).toNat)
    case atStart => exact ⟨0, _, Nat.zero_le _, rfl, rfl, by omega, by omega, fun i hi => by omega⟩
    case round =>
      obtain ⟨k, s, hk, rfl, rfl, hs0, hs1, hgood⟩ := hrel
      by_cases hlt : k < D.length
      · obtain ⟨b, o, ro, rn, rc, ha, hbk, hc0, hrf⟩ := hr.at hlt
        subst ha
        by_cases c1 : rn ≤ 1048576
        · by_cases c2 : s + (rn : Int) ≤ 1048576
          · have hrn := hrf.1
            have HD : Hid (rn = (D.getD k []).length) := hrn
            clear hrn
            have HG : Hid (GoodTo D k) := hgood
            clear hgood
            generalize hdk : D.getD k [] = dk at *
            have HK : Hid (D.getD k [] = dk) := hdk
            clear hdk
            go_wp2
            go_loop [5, 7] (fun t i => ∃ (j : Nat) (s : Int), j ≤ rn ∧ i = .int .i64 j ∧ t = .int .i64 s ∧ 0 ≤ s ∧ s ≤ 1048576 ∧ LowTo dk j) (fun _ i => rn - (intOf i).toNat)
            case atStart => exact ⟨0, _, Nat.zero_le _, rfl, rfl, by omega, by omega, fun i hi => by omega⟩
            case round =>
              obtain ⟨j, s, hj, rfl, rfl, hs0, hs1, hlow⟩ := hrel
              by_cases hjt : j < rn
              · obtain ⟨b', o', co, cn, cc, ha, hbk', hc0', hc1', hrb⟩ := hrf.at hjt
                subst ha
                by_cases c3 : cn ≤ 1048576
                · by_cases c4 : s + (cn : Int) ≤ 1048576
                  · have R := hlow.succ hrb.2.1 c3
                    clear hrb hlow hc0'
                    go_wp2
                    go_round
                    case rel => exact ⟨j + 1, s + cn, by omega, by go_num, by go_num, by omega, by omega, R⟩
                    case measure => simp [intOf]; omega
                  · go_wp2
                    go_ret
                    exact ⟨false, rfl, by simp, rfl⟩
                · go_wp2
                  go_ret
                  exact ⟨false, rfl, by simp, rfl⟩
              · obtain rfl : j = rn := by omega
                have R := HG.out.succ (by rw [HK.out]; exact ⟨by rw [← HD.out]; exact c1, by rw [← HD.out]; exact hlow⟩)
                go_wp2
                go_round
                case rel => exact ⟨k + 1, s, by omega, by go_num, rfl, by omega, by omega, R⟩
                case measure => simp [intOf]; omega
          · go_wp2
            go_ret
            exact ⟨false, rfl, by simp, rfl⟩
        · go_wp2
          go_ret
          exact ⟨false, rfl, by simp, rfl⟩
      · obtain rfl : k = D.length := by omega
        by_cases c1 : L.length ≤ 1048576
        · by_cases c2 : s + (L.length : Int) ≤ 1048576
          · have HG : Hid (GoodTo D D.length) := hgood
            clear hgood
            go_wp2
            go_loop [5, 8] (fun t i => ∃ (j : Nat) (s : Int), j ≤ L.length ∧ i = .int .i64 j ∧ t = .int .i64 s ∧ 0 ≤ s ∧ s ≤ 1048576 ∧ LowTo L j) (fun _ i => L.length - (intOf i).toNat)
            case atStart => exact ⟨0, _, Nat.zero_le _, rfl, rfl, by omega, by omega, fun i hi => by omega⟩
            case round =>
              obtain ⟨j, s, hj, rfl, rfl, hs0, hs1, hlow⟩ := hrel
              by_cases hjt : j < L.length
              · obtain ⟨b', o', co, cn, cc, ha, hbk', hc0', hc1', hrb⟩ := hl.at hjt
                subst ha
                by_cases c3 : cn ≤ 1048576
                · by_cases c4 : s + (cn : Int) ≤ 1048576
                  · have R := hlow.succ hrb.2.1 c3
                    clear hrb hlow hc0'
                    go_wp2
                    go_round
                    case rel => exact ⟨j + 1, s + cn, by omega, by go_num, by go_num, by omega, by omega, R⟩
                    case measure => simp [intOf]; omega
                  · go_wp2
                    go_ret
                    exact ⟨false, rfl, by simp, rfl⟩
                · go_wp2
                  go_ret
                  exact ⟨false, rfl, by simp, rfl⟩
              · obtain rfl : j = L.length := by omega
                go_wp2
                go_ret
                exact ⟨true, rfl, fun _ => ⟨HG.out, c1, hlow⟩, rfl⟩
          · go_wp2
            go_ret
            exact ⟨false, rfl, by simp, rfl⟩
        · go_wp2
          go_ret
          exact ⟨false, rfl, by simp, rfl⟩
  · go_enter Try.func16, Try.ntmps16
    go_wp2
    go_ret
    exact ⟨false, rfl, by simp, rfl⟩
end Go.Proofs.Qxb6601125a
