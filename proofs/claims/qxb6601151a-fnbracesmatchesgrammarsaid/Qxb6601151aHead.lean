import Derived.Test.Qxb6601151aGram4
namespace Go.Proofs.Qxb6601151a
open Go.RowKit

/-- The slice (so, n, cap) of runes reads as zs. -/
def RS (w : World) (so : Option Addr) (n cap : Nat) (zs : List Int) : Prop :=
  n = zs.length ∧ n ≤ cap ∧ (0 < n → ∃ b o, so = some ⟨b, o, none⟩ ∧ ∀ i, i < n → w.cell? ⟨b, o + i, none⟩ = some (.int .i32 (zs.getD i 0)))

theorem digit_any (c : Int) (w : World) : Calls Try.prog 35 #[.int .i32 c] w fun e w' => e = .returned (.bool (dg c)) ∧ w' = w := by
  have HD : Hid (dg c = (decide (48 ≤ c) && decide (c ≤ 57))) := rfl
  by_cases h1 : 48 ≤ c
  · by_cases h2 : c ≤ 57
    · have e : dg c = true := (dg_iff c).2 ⟨h1, h2⟩
      rw [e]
      clear e
      go_enter Try.func35, Try.ntmps35
      go_wp2
      go_ret
      exact ⟨rfl, rfl⟩
    · have e : dg c = false := by rw [HD.out]; simp [h2]
      rw [e]
      clear e
      go_enter Try.func35, Try.ntmps35
      go_wp2
      go_ret
      exact ⟨rfl, rfl⟩
  · have e : dg c = false := by rw [HD.out]; simp [h1]
    rw [e]
    clear e
    have hd : decide (48 ≤ c) = false := decide_eq_false h1
    go_enter Try.func35, Try.ntmps35
    go_wp2
    go_ret
    exact ⟨rfl, rfl⟩

theorem blank_any (c : Int) (w : World) : Calls Try.prog 39 #[.int .i32 c] w fun e w' => e = .returned (.bool (bl c)) ∧ w' = w := by
  have HD : Hid (bl c = (c == 32 || c == 9)) := rfl
  by_cases h1 : c = 32
  · subst h1
    have e : bl 32 = true := rfl
    rw [e]
    go_enter Try.func39, Try.ntmps39
    go_wp2
    go_ret
    exact ⟨rfl, rfl⟩
  · have e1 : (c == 32) = false := by rw [beq_eq_false_iff_ne]; exact h1
    have e : bl c = (c == 9) := by rw [HD.out, e1, Bool.false_or]
    rw [e]
    clear e h1
    go_enter Try.func39, Try.ntmps39
    go_wp2
    go_ret
    exact ⟨rfl, rfl⟩

def BoolOut (b : Bool) (w : World) (e : Ending) (w' : World) : Prop := e = .returned (.bool b) ∧ w' = w

set_option maxHeartbeats 400000 in
theorem together_any (so : Option Addr) (n cap : Nat) (zs : List Int) (w : World) (h : RS w so n cap zs) (hn : n ≤ 1048576) :
    Calls Try.prog 40 #[.slice so n cap] w (BoolOut (dt zs) w) := by
  obtain ⟨hz, hcap, hr⟩ := h
  subst hz
  go_enter Try.func40, Try.ntmps40
  go_wp2_with fail
  go_loop [3, 4, 5] (fun f l i => ∃ (k : Nat) (a b : Int), k ≤ zs.length ∧ f = .int .i64 a ∧ l = .int .i64 b ∧ i = .int .i64 k ∧ FL zs k a b) (fun _ _ i => zs.length - (intOf i).toNat)
  case atStart => exact ⟨0, -1, -1, Nat.zero_le _, rfl, rfl, rfl, FL.zero zs⟩
  case round =>
    obtain ⟨k, a, b, hk, rfl, rfl, rfl, hfl⟩ := hrel
    have hbd := hfl.bd
    by_cases hlt : k < zs.length
    · obtain ⟨bb, o, rfl, hc⟩ := hr (by omega)
      have g := hc k hlt
      have HC : Hid (∀ i, i < zs.length → w.cell? ⟨bb, o + i, none⟩ = some (.int .i32 (zs.getD i 0))) := hc
      have HF : Hid (FL zs k a b) := hfl
      clear hc hr hfl
      cases hd : dg (zs.getD k 0) with
      | false =>
        have R := HF.out.no hd
        have HD : Hid (dg (zs.getD k 0) = false) := hd
        clear hd HF
        generalize zs.getD k 0 = c at *
        go_wp2_with fail
        refine (digit_any c w).mono ?_
        rintro e w' ⟨rfl, rfl⟩
        rw [HD.out]
        go_wp2
        go_round
        case rel => exact ⟨k + 1, a, b, by omega, rfl, rfl, by go_num, R⟩
        case measure => simp [intOf]; omega
      | true =>
        have HD : Hid (dg (zs.getD k 0) = true) := hd
        by_cases ha : a < 0
        · have R := HF.out.first ha hd
          clear hd HF
          generalize zs.getD k 0 = c at *
          go_wp2_with fail
          refine (digit_any c w).mono ?_
          rintro e w' ⟨rfl, rfl⟩
          rw [HD.out]
          go_wp2
          go_round
          case rel => exact ⟨k + 1, k, k, by omega, rfl, rfl, by go_num, R⟩
          case measure => simp [intOf]; omega
        · have R := HF.out.next (by omega) hd
          clear hd HF
          generalize zs.getD k 0 = c at *
          go_wp2_with fail
          refine (digit_any c w).mono ?_
          rintro e w' ⟨rfl, rfl⟩
          rw [HD.out]
          go_wp2
          go_round
          case rel => exact ⟨k + 1, a, k, by omega, rfl, rfl, by go_num, R⟩
          case measure => simp [intOf]; omega
    · obtain rfl : k = zs.length := by omega
      rcases hfl with ⟨rfl, rfl, hno⟩ | ⟨x, y, rfl, rfl, hxy, hy, hx1, hy1, hx0, hy0⟩
      · have HT : Hid (dt zs = true) := dt_none zs hno
        clear hno
        go_wp2
        go_ret
        exact ⟨by rw [HT.out]; rfl, rfl⟩
      · obtain ⟨bb, o, rfl, hc⟩ := hr (by omega)
        have HX : Hid (dg (zs.getD x 0) = true ∧ dg (zs.getD y 0) = true ∧ (∀ i, i < x → dg (zs.getD i 0) = false) ∧ ∀ i, y < i → i < zs.length → dg (zs.getD i 0) = false) := ⟨hx1, hy1, hx0, hy0⟩
        have HC : Hid (∀ i, i < zs.length → w.cell? ⟨bb, o + i, none⟩ = some (.int .i32 (zs.getD i 0))) := hc
        clear hx1 hy1 hx0 hy0 hc hr
        go_wp2
        go_loop [6] (fun i => ∃ (m : Nat), x ≤ m ∧ m ≤ y + 1 ∧ i = .int .i64 m ∧ Hid (∀ j, x ≤ j → j < m → dg (zs.getD j 0) = true)) (fun i => y + 1 - (intOf i).toNat)
        case atStart => exact ⟨x, Nat.le_refl _, by omega, rfl, fun j h1 h2 => by omega⟩
        case round =>
          obtain ⟨m, hm1, hm2, rfl, HJ⟩ := hrel
          by_cases hmy : m ≤ y
          · have g := HC.out m (by omega)
            cases hd : dg (zs.getD m 0) with
            | false =>
              have HT : Hid (dt zs = false) := by
                have hxm : x ≠ m := fun e => by rw [← e, HX.out.1] at hd; cases hd
                have hym : y ≠ m := fun e => by rw [← e, HX.out.2.1] at hd; cases hd
                exact dt_gap zs x m y (by omega) (by omega) hy HX.out.1 hd HX.out.2.1
              have HD : Hid (dg (zs.getD m 0) = false) := hd
              clear hd
              generalize zs.getD m 0 = c at *
              go_wp2_with fail
              refine (digit_any c w).mono ?_
              rintro e w' ⟨rfl, rfl⟩
              rw [HD.out]
              go_wp2
              go_ret
              exact ⟨by rw [HT.out]; rfl, rfl⟩
            | true =>
              have R : Hid (∀ j, x ≤ j → j < m + 1 → dg (zs.getD j 0) = true) := fun j h1 h2 => by
                rcases Nat.lt_succ_iff_lt_or_eq.1 h2 with h' | rfl
                · exact HJ.out j h1 h'
                · exact hd
              have HD : Hid (dg (zs.getD m 0) = true) := hd
              clear hd
              generalize zs.getD m 0 = c at *
              go_wp2_with fail
              refine (digit_any c w).mono ?_
              rintro e w' ⟨rfl, rfl⟩
              rw [HD.out]
              go_wp2
              go_round
              case rel => exact ⟨m + 1, by omega, by omega, by go_num, R⟩
              case measure => simp [intOf]; omega
          · have HT : Hid (dt zs = true) := dt_all zs x y hxy HX.out.2.2.1 (fun i h1 h2 => HJ.out i h1 (by omega)) HX.out.2.2.2
            go_wp2
            go_ret
            exact ⟨by rw [HT.out]; rfl, rfl⟩
end Go.Proofs.Qxb6601151a
