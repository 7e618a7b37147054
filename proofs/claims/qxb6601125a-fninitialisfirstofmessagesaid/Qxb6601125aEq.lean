import Derived.Test.Qxb6601125aBlocks
import Derived.Deep.QuietTactic
import Derived.BigQuiet
namespace Go.Proofs.Qxb6601125a
open Go.RowKit

theorem below_dN {B : Nat} {a w : World} (h : Below B a w) (n : Nat) : Below B a (w.drewN n) := by
  induction n with
  | zero => exact h
  | succ n ih => exact ih.drew

def SameOut (w : World) (e : Ending) (w' : World) : Prop := e = .returned (.bool true) ∧ ∃ n, w' = w.drewN n

theorem RB.some {ok : Nat → Prop} {w : World} {ao : Option Addr} {n : Nat} {l : List Int} (h : RB ok w ao n (some l)) : ∃ a, ao = some a ∧ n = l.length ∧ (0 < n → ∃ b o, a = ⟨b, o, none⟩ ∧ ok b ∧ ∀ i, i < n → w.cell? ⟨b, o + i, none⟩ = some (.int .u8 (l.getD i 0))) := by
  obtain ⟨h1, h2, h3⟩ := h
  cases ao with
  | none => simp at h1
  | some a =>
    refine ⟨a, rfl, h2, fun hn => ?_⟩
    obtain ⟨b, o, e, hb, hc⟩ := h3 hn
    exact ⟨b, o, Option.some.inj e, hb, hc⟩

set_option maxHeartbeats 400000 in
/-- zzSameBytes of two slices that read alike: true. -/
theorem same_any (ao : Option Addr) (n c1 : Nat) (bo : Option Addr) (c2 : Nat) (c : Option (List Int)) (ok ok' : Nat → Prop) (w : World) (ha : RB ok w ao n c) (hb : RB ok' w bo n c) (hn : n ≤ 1048576) :
    Calls Try.prog 15 #[.slice ao n c1, .slice bo n c2] w (SameOut w) := by
  have hq : ∀ w' a k, (binOp .eql 34 (.slice a n k) (.slice none 0 0)).run Try.prog w' = .ok (.bool a.isNone) w' := fun w' a k => Lib.run_eql_slice_nil w' 34 5 a n k 0 0 Try.underlying34
  cases c with
  | none =>
    obtain rfl := ha.1.2 rfl
    obtain rfl := hb.1.2 rfl
    have h0 : n = 0 := by simpa using ha.2.1
    subst h0
    clear ha hb
    go_enter Try.func15, Try.ntmps15
    go_wp2
    refine wp_loop_rounds 1 ?_
    rw [rounds_succ]
    go_wp2
    go_ret
    exact ⟨rfl, 0, rfl⟩
  | some l =>
    obtain ⟨a, rfl, hl, ha⟩ := ha.some
    obtain ⟨b, rfl, _, hb⟩ := hb.some
    subst hl
    go_enter Try.func15, Try.ntmps15
    go_wp2
    go_loopw [5] (fun i wr => ∃ (k : Nat) (q : Nat), k ≤ l.length ∧ i = .int .i64 k ∧ wr = w.drewN q) (fun i _ => l.length - (intOf i).toNat)
    case atStart => exact ⟨0, 0, Nat.zero_le _, rfl, rfl⟩
    case round =>
      obtain ⟨k, q, hk, rfl, rfl⟩ := hrel
      by_cases hlt : k < l.length
      · obtain ⟨b1, o1, rfl, _, hc1⟩ := ha (by omega)
        obtain ⟨b2, o2, rfl, _, hc2⟩ := hb (by omega)
        have g1 := hc1 k hlt
        have g2 := hc2 k hlt
        have i1 : (0 : Int) ≤ (k : Int) := by omega
        have i2 : (k : Int) < (l.length : Int) := by omega
        clear ha hb hc1 hc2
        generalize l.getD k 0 = x at g1 g2
        go_wp2
        go_quiet (fail)
        go_wp2
        go_roundw
        case rel => exact ⟨k + 1, q + nq, by omega, by go_num, by simp⟩
        case measure => simp [intOf]; omega
      · go_wp2
        go_ret
        exact ⟨rfl, q, rfl⟩

set_option maxHeartbeats 400000 in
/-- zzEq of a frame and a frame that read alike: true. -/
theorem eq_any (f : Int) (ao : Option Addr) (n c1 : Nat) (bo : Option Addr) (c2 : Nat) (c : Option (List Int)) (ok ok' : Nat → Prop) (w : World) (ha : RB ok w ao n c) (hb : RB ok' w bo n c) (hn : n ≤ 1048576) :
    Calls Try.prog 13 #[.agg #[.int .u16 f, .slice ao n c1], .agg #[.int .u16 f, .slice bo n c2]] w fun e w' => e = .returned (.bool true) ∧ Below w.heap.size w w' := by
  have hal : ∀ o o', Below w.heap.size w ((w.alloc o).alloc o') := fun o o' => ((Below.refl _ _).alloc (Nat.le_refl _) o).alloc (by simp) o'
  have HA : Hid (∀ o o', Below w.heap.size w ((w.alloc o).alloc o')) := hal
  clear hal
  go_enter Try.func13, Try.ntmps13
  go_wp2_with (go_at_call 15; refine (same_any ao n c1 bo c2 c ok ok' _ (ha.carry (SameOn.all (HA.out _ _))) (hb.carry (SameOn.all (HA.out _ _))) hn).mono ?_; rintro e w' ⟨rfl, q, rfl⟩)
  go_ret
  exact ⟨rfl, below_dN (HA.out _ _) q⟩
end Go.Proofs.Qxb6601125a
