import Derived.Test.Qxb6601151aHeadOK
namespace Go.Proofs.Qxb6601151a
open Go.RowKit

def IntOut (k : Nat) (w : World) (e : Ending) (w' : World) : Prop := e = .returned (.int .i64 k) ∧ w' = w

set_option maxHeartbeats 1000000 in
theorem longest_any (so : Option Addr) (n cap : Nat) (zs : List Int) (w : World) (h : RS w so n cap zs) (hn : n ≤ 1048576) (hcm : cap ≤ 9223372036854775807) :
    Calls Try.prog 27 #[.slice so n cap] w (IntOut (kst zs) w) := by
  have hz := h.1
  subst hz
  have hcap := h.2.1
  have hr := h.2.2
  go_enter Try.func27, Try.ntmps27
  go_wp2_with fail
  go_loop [3, 4] (fun a b => ∃ (lo hi : Nat), a = .int .i64 lo ∧ b = .int .i64 hi ∧ lo < hi ∧ hi ≤ zs.length + 1 ∧ hok (zs.take lo) = true ∧ (hi = zs.length + 1 ∨ hok (zs.take hi) = false)) (fun a b => (intOf b).toNat - (intOf a).toNat)
  case atStart => exact ⟨0, zs.length + 1, rfl, by go_num, by omega, by omega, rfl, .inl rfl⟩
  case round =>
    obtain ⟨lo, hi, rfl, rfl, h1, h2, h3, h4⟩ := hrel
    have H3 : Hid (hok (zs.take lo) = true ∧ (hi = zs.length + 1 ∨ hok (zs.take hi) = false)) := ⟨h3, h4⟩
    clear h3 h4
    by_cases hlt : lo + 1 < hi
    · obtain ⟨m, hm⟩ : ∃ m : Nat, (lo : Int) + ((hi : Int) - lo) / 2 = (m : Int) := ⟨lo + (hi - lo) / 2, by omega⟩
      have hm1 : lo < m := by omega
      have hm2 : m < hi := by omega
      have hm3 : m ≤ zs.length := by omega
      obtain ⟨b, o, rfl, hcell⟩ := hr (by omega)
      have HRS : Hid (RS w (some ⟨b, o, none⟩) m cap (zs.take m)) := h.cut m hm3
      clear hcell hr h
      have i1 : (0 : Int) ≤ (m : Int) := by omega
      have i2 : (m : Int) ≤ (cap : Int) := by omega
      go_wp2_with fail
      refine (headok_any _ m cap (zs.take m) w HRS.out (by omega) hcm).mono ?_
      rintro e w' ⟨rfl, rfl⟩
      cases hk : hok (zs.take m) with
      | true =>
        have HK : Hid (hok (zs.take m) = true) := hk
        clear hk HRS
        go_wp2
        go_round
        case rel => exact ⟨m, hi, rfl, rfl, hm2, h2, HK.out, H3.out.2⟩
        case measure => simp [intOf]; omega
      | false =>
        have HK : Hid (hok (zs.take m) = false) := hk
        clear hk HRS
        go_wp2
        go_round
        case rel => exact ⟨lo, m, rfl, rfl, hm1, by omega, H3.out.1, .inr HK.out⟩
        case measure => simp [intOf]; omega
    · have hh : hi = lo + 1 := by omega
      have HK : Hid (kst zs = lo) := by
        refine (kst_long zs).unique ⟨by omega, H3.out.1, ?_⟩
        rcases H3.out.2 with e | e
        · exact .inl (by omega)
        · rw [hh] at e; exact .inr e
      clear hh
      go_wp2
      go_ret
      exact ⟨by rw [HK.out]; rfl, rfl⟩
end Go.Proofs.Qxb6601151a
