import Derived.Test.Qxb6601125aSizeDefs
namespace Go.Proofs.Qxb6601125a
open Go.RowKit

def TotalOut (w : World) (e : Ending) (w' : World) : Prop := ∃ r : Int, e = .returned (.int .i64 r) ∧ w' = w

set_option maxHeartbeats 1000000 in
/-- zzBytes: some number. -/
theorem total_any (fo : Option Addr) (nf fc : Nat) (lo : Option Addr) (nl lc : Nat) (D : List (List Dt)) (L : List Dt) (ok : Nat → Prop) (w : World) (hr : RR ok w fo nf D) (hl : RF ok w lo nl L) (hsm : Small D L) (b0 : nf ≤ 16) :
    Calls Try.prog 9 #[.slice fo nf fc, .slice lo nl lc] w (TotalOut w) := by
  have hn := hr.1
  subst hn
  have hln := hl.1
  subst hln
  have hL := hsm.2.1
  go_enter Try.func9, Try.ntmps9
  go_wp2
  go_loop [5, 6] (fun t i => ∃ (k : Nat) (s : Int), k ≤ D.length ∧ i = .int .i64 k ∧ t = .int .i64 s ∧ 0 ≤ s ∧ s ≤ 1048576) (fun _ i => D.length - (intOf i).toNat)
  case atStart => exact ⟨0, _, Nat.zero_le _, rfl, rfl, by omega, by omega⟩
  case round =>
    obtain ⟨k, s, hk, rfl, rfl, hs0, hs1⟩ := hrel
    by_cases hlt : k < D.length
    · obtain ⟨b, o, ro, rn, rc, ha, hbk, hc0, hrf⟩ := hr.at hlt
      subst ha
      by_cases c1 : s + 24 ≤ 1048576
      · have hrn := hrf.1
        have hg := hsm.1 k hlt
        have hrb1 : rn ≤ 1048576 := by rw [hrn]; exact hg.1
        have HG : Hid (∀ j, j < rn → (((D.getD k []).getD j dz).2.getD []).length ≤ 1048576) := by rw [hrn]; exact hg.2
        clear hrn hg
        generalize D.getD k [] = dk at *
        go_wp2
        go_loop [5, 8] (fun t i => ∃ (j : Nat) (s : Int), j ≤ rn ∧ i = .int .i64 j ∧ t = .int .i64 s ∧ 0 ≤ s ∧ s ≤ 1048576) (fun _ i => rn - (intOf i).toNat)
        case atStart => exact ⟨0, _, Nat.zero_le _, rfl, rfl, by omega, by omega⟩
        case round =>
          obtain ⟨j, s, hj, rfl, rfl, hs0, hs1⟩ := hrel
          by_cases hjt : j < rn
          · obtain ⟨b', o', co, cn, cc, ha, hbk', hc0', hc1', hrb⟩ := hrf.at hjt
            subst ha
            have hcn : cn ≤ 1048576 := by have := HG.out j hjt; rw [← hrb.2.1] at this; exact this
            clear hrb hc0'
            by_cases c4 : s + (32 + (cn : Int)) ≤ 1048576
            · go_wp2
              go_round
              case rel => exact ⟨j + 1, s + (32 + cn), by omega, by go_num, by go_num, by omega, by omega⟩
              case measure => simp [intOf]; omega
            · go_wp2
              go_ret
              exact ⟨_, rfl, rfl⟩
          · obtain rfl : j = rn := by omega
            go_wp2
            go_round
            case rel => exact ⟨k + 1, s, by omega, by go_num, rfl, by omega, by omega⟩
            case measure => simp [intOf]; omega
      · go_wp2
        go_ret
        exact ⟨_, rfl, rfl⟩
    · obtain rfl : k = D.length := by omega
      go_wp2
      go_loop [5, 9] (fun t i => ∃ (j : Nat) (s : Int), j ≤ L.length ∧ i = .int .i64 j ∧ t = .int .i64 s ∧ 0 ≤ s ∧ s ≤ 1048576) (fun _ i => L.length - (intOf i).toNat)
      case atStart => exact ⟨0, _, Nat.zero_le _, rfl, rfl, by omega, by omega⟩
      case round =>
        obtain ⟨j, s, hj, rfl, rfl, hs0, hs1⟩ := hrel
        by_cases hjt : j < L.length
        · obtain ⟨b', o', co, cn, cc, ha, hbk', hc0', hc1', hrb⟩ := hl.at hjt
          subst ha
          have hcn : cn ≤ 1048576 := by have := hsm.2.2 j hjt; rw [← hrb.2.1] at this; exact this
          clear hrb hc0'
          by_cases c4 : s + (32 + (cn : Int)) ≤ 1048576
          · go_wp2
            go_round
            case rel => exact ⟨j + 1, s + (32 + cn), by omega, by go_num, by go_num, by omega, by omega⟩
            case measure => simp [intOf]; omega
          · go_wp2
            go_ret
            exact ⟨_, rfl, rfl⟩
        · obtain rfl : j = L.length := by omega
          go_wp2
          go_ret
          exact ⟨_, rfl, rfl⟩
end Go.Proofs.Qxb6601125a
