import Derived.Test.Qxb6601151aRows
import Derived.Test.Qxb6601151aPlain
import Derived.WalkKit
import Derived.WalkSpells
import Derived.WalkLawsBesides
import Derived.Deep.QuietTactic
import Derived.BigQuiet
import Derived.Deep.LoopGhost
namespace Go.Proofs.Qxb6601151a
open Go.RowKit

/-- The slice (so, zs.length) of runes reads as zs; its cells lie outside block p. -/
def Runes (p : Nat) (w : World) (so : Option Addr) (zs : List Int) : Prop :=
  0 < zs.length → ∃ b o, so = some ⟨b, o, none⟩ ∧ b ≠ p ∧ ∀ i, i < zs.length → w.cell? ⟨b, o + i, none⟩ = some (.int .i32 (zs.getD i 0))

/-- The parser in block p: its text reads as zs, it stands at pos. -/
structure PS (p : Nat) (so : Option Addr) (cap : Nat) (zs : List Int) (pos : Nat) (w : World) : Prop where
  src : w.cell? ⟨p, 0, none⟩ = some (.slice so zs.length cap)
  pos : w.cell? ⟨p, 1, none⟩ = some (.int .i64 pos)
  free : w.frozen? ⟨p, 1, none⟩ = false
  runes : Runes p w so zs

/-- Nothing but block p has turned. -/
structure SB (p : Nat) (w w' : World) : Prop where
  os : w'.os = w.os
  tape : w'.tape = w.tape
  output : w'.output = w.output
  size : w'.heap.size = w.heap.size
  block : ∀ k, k ≠ p → w'.heap[k]? = w.heap[k]?

theorem SB.refl (p : Nat) (w : World) : SB p w w := ⟨rfl, rfl, rfl, rfl, fun _ _ => rfl⟩
theorem SB.trans {p : Nat} {a b c : World} (h : SB p a b) (k : SB p b c) : SB p a c :=
  ⟨k.os.trans h.os, k.tape.trans h.tape, k.output.trans h.output, k.size.trans h.size, fun i hi => (k.block i hi).trans (h.block i hi)⟩
theorem SB.drewN {p : Nat} {a b : World} (h : SB p a b) (n : Nat) : SB p a (b.drewN n) := ⟨h.os, h.tape, h.output, h.size, h.block⟩
theorem SB.setCell {p : Nat} {a b : World} (h : SB p a b) (o : Nat) (v : Value) : SB p a (b.setCell ⟨p, o, none⟩ v) :=
  ⟨h.os, h.tape, h.output, by simp [World.setCell, h.size], fun k hk => (Below.heap_setCell _ _ _ _ hk).trans (h.block k hk)⟩
theorem SB.cell {p : Nat} {w w' : World} (h : SB p w w') {a : Addr} (ha : a.block ≠ p) : w'.cell? a = w.cell? a := World.cell?_of_block (w := w) (h.block _ ha)
theorem SB.frozen {p : Nat} {w w' : World} (h : SB p w w') {a : Addr} (ha : a.block ≠ p) : w'.frozen? a = w.frozen? a := World.frozen?_of_block (w := w) (h.block _ ha)

theorem Runes.carry {p : Nat} {w w' : World} {so : Option Addr} {zs : List Int} (h : Runes p w so zs) (hs : ∀ k, k ≠ p → w'.heap[k]? = w.heap[k]?) : Runes p w' so zs := by
  intro hn
  obtain ⟨b, o, e, hb, hc⟩ := h hn
  exact ⟨b, o, e, hb, fun i hi => (World.cell?_of_block (w := w) (hs b hb)).trans (hc i hi)⟩

theorem PS.drewN {p : Nat} {so : Option Addr} {cap : Nat} {zs : List Int} {pos : Nat} {w : World} (h : PS p so cap zs pos w) (n : Nat) : PS p so cap zs pos (w.drewN n) := ⟨h.src, h.pos, h.free, h.runes⟩

/-- pos is set. -/
theorem PS.move {p : Nat} {so : Option Addr} {cap : Nat} {zs : List Int} {pos : Nat} {w : World} (h : PS p so cap zs pos w) (pos' : Nat) : PS p so cap zs pos' (w.setCell ⟨p, 1, none⟩ (.int .i64 pos')) := by
  refine ⟨?_, ?_, ?_, h.runes.carry fun k hk => Below.heap_setCell _ _ _ _ hk⟩
  · rw [World.cell?_setCell_other (h := by simp)]
    exact h.src
  · exact World.cell?_setCell_same _ _ _ h.pos
  · rw [World.frozen?_setCell]
    exact h.free

def PeekOut (w : World) (c : Int) (e : Ending) (w' : World) : Prop := e = .returned (.int .i32 c) ∧ ∃ n, w' = w.drewN n

set_option maxHeartbeats 400000 in
/-- peek(0). -/
theorem peek_any (p : Nat) (so : Option Addr) (cap : Nat) (zs : List Int) (pos : Nat) (w : World) (h : PS p so cap zs pos w) (hb : pos ≤ 9223372036854775807) (hn : zs.length ≤ 9223372036854775807) :
    Calls Try.prog 32 #[.pointer (some ⟨p, 0, none⟩), .int .i64 0] w (PeekOut w (pk zs pos)) := by
  have h0 := h.src
  have h1 := h.pos
  have hr := h.runes
  clear h
  by_cases hlt : pos < zs.length
  · obtain ⟨b, o, rfl, hb', hc⟩ := hr (by omega)
    have g := hc pos hlt
    have hpk : pk zs pos = zs.getD pos 0 := by unfold pk; rw [if_pos hlt]
    rw [hpk]
    generalize zs.getD pos 0 = c at *
    clear hpk hc hr
    have i1 : (0 : Int) ≤ (pos : Int) := by omega
    have i2 : (pos : Int) < (zs.length : Int) := by omega
    go_enter Try.func32, Try.ntmps32
    go_wp2
    go_quiet (fail)
    go_wp2
    go_quiet (fail)
    go_wp2
    go_ret
    exact ⟨rfl, _, World.drewN_drewN _ _ _⟩
  · have hpk : pk zs pos = -1 := by unfold pk; rw [if_neg hlt]
    rw [hpk]
    clear hpk hr
    go_enter Try.func32, Try.ntmps32
    go_wp2
    go_quiet (fail)
    go_wp2
    go_ret
    exact ⟨rfl, _, rfl⟩

/-- What a function of the parser leaves: the parser at pos', nothing else turned. -/
def At (p : Nat) (so : Option Addr) (cap : Nat) (zs : List Int) (pos' : Nat) (w w' : World) : Prop := PS p so cap zs pos' w' ∧ SB p w w'

theorem At.next {p : Nat} {so : Option Addr} {cap : Nat} {zs : List Int} {pos : Nat} {w w' : World} (h : At p so cap zs pos w w') (pos' : Nat) (n : Nat) : At p so cap zs pos' w ((w'.setCell ⟨p, 1, none⟩ (.int .i64 pos')).drewN n) :=
  ⟨(h.1.move pos').drewN n, (h.2.setCell _ _).drewN n⟩

def BlanksOut (p : Nat) (so : Option Addr) (cap : Nat) (zs : List Int) (pos' : Nat) (w : World) (e : Ending) (w' : World) : Prop := e = .returned (.tuple #[]) ∧ At p so cap zs pos' w w'

set_option maxHeartbeats 400000 in
/-- The closure 'blanks': q is the block in which the captured p lies. -/
theorem blanks_any (q p : Nat) (so : Option Addr) (cap : Nat) (zs : List Int) (pos : Nat) (w : World) (h : PS p so cap zs pos w) (hq : w.cell? ⟨q, 0, none⟩ = some (.pointer (some ⟨p, 0, none⟩))) (hqp : q ≠ p)
    (hb : pos ≤ 9223372036854775807) (hn : zs.length ≤ 1048576) :
    Calls Try.prog 31 #[.pointer (some ⟨q, 0, none⟩)] w (BlanksOut p so cap zs (pos + run bl zs pos) w) := by
  have hrl := run_le bl zs pos
  go_enter Try.func31, Try.ntmps31
  go_wp2_with fail
  go_loopg [] (run bl zs pos) (fun m wr => ∃ k : Nat, k + m = run bl zs pos ∧ At p so cap zs (pos + k) w wr)
  case atStart => exact ⟨0, by omega, h, SB.refl _ _⟩
  case round =>
    obtain ⟨k, hk, hat⟩ := hrel
    have hq2 : wr.cell? ⟨q, 0, none⟩ = some (.pointer (some ⟨p, 0, none⟩)) := (hat.2.cell (a := ⟨q, 0, none⟩) hqp).trans hq
    have hpos : pos + k ≤ 9223372036854775807 := by omega
    have hn2 : zs.length ≤ 9223372036854775807 := by omega
    have g1 := hat.1.pos
    have f1 := hat.1.free
    have HA : Hid (At p so cap zs (pos + k) w wr) := hat
    have HP : Hid (∀ n, Calls Try.prog 32 #[.pointer (some ⟨p, 0, none⟩), .int .i64 0] (wr.drewN n) (PeekOut (wr.drewN n) (pk zs (pos + k)))) := fun n => peek_any p so cap zs (pos + k) (wr.drewN n) (hat.1.drewN n) hpos hn2
    clear hat h hq
    by_cases hg : gk = 0
    · subst hg
      have hout := run_out bl bl_neg zs pos
      have hk0 : k = run bl zs pos := by omega
      rw [← hk0] at hout
      have HK : Hid (k = run bl zs pos) := hk0
      clear hk hk0
      generalize pk zs (pos + k) = c at *
      have e1 : (c == 32) = false := by simp [bl] at hout; simp [hout.1]
      have e2 : (c == 9) = false := by simp [bl] at hout; simp [hout.2]
      clear hout
      go_wp2_with fail
      refine (HP.out 0).mono ?_
      rintro e w' ⟨rfl, n, rfl⟩
      go_wp2_with fail
      refine (HP.out n).mono ?_
      rintro e w' ⟨rfl, n2, rfl⟩
      go_wp2
      go_end0
      exact ⟨rfl, by rw [← HK.out]; exact HA.out.1.drewN _, HA.out.2.drewN _⟩
    · obtain ⟨m, rfl⟩ : ∃ m, gk = m + 1 := ⟨gk - 1, by omega⟩
      have hin := run_in bl zs pos k (by omega)
      have hlt := hin.1
      have hbl := hin.2
      clear hin hg
      have R : Hid (∀ n, At p so cap zs (pos + (k + 1)) w ((wr.setCell ⟨p, 1, none⟩ (.int .i64 ((pos : Int) + k + 1))).drewN n)) := fun n => by
        have := HA.out.next (pos + (k + 1)) n
        rw [show ((pos + (k + 1) : Nat) : Int) = (pos : Int) + k + 1 by omega] at this
        exact this
      generalize pk zs (pos + k) = c at *
      by_cases hc : c = 32
      · subst hc
        clear hbl
        go_wp2_with fail
        refine (HP.out 0).mono ?_
        rintro e w' ⟨rfl, n, rfl⟩
        go_wp2
        go_roundg m
        case measure => omega
        case rel => exact ⟨k + 1, by omega, R.out _⟩
      · obtain rfl : c = 9 := by simp [bl] at hbl; omega
        clear hbl hc
        go_wp2_with fail
        refine (HP.out 0).mono ?_
        rintro e w' ⟨rfl, n, rfl⟩
        go_wp2_with fail
        refine (HP.out n).mono ?_
        rintro e w' ⟨rfl, n2, rfl⟩
        go_wp2
        go_roundg m
        case measure => omega
        case rel => exact ⟨k + 1, by omega, R.out _⟩

def CountOut (p : Nat) (so : Option Addr) (cap : Nat) (zs : List Int) (pos : Nat) (w : World) (e : Ending) (w' : World) : Prop :=
  e = .returned (.tuple #[.int .i64 (capped (digitsAt zs pos)), .bool (decide (0 < run dg zs pos))]) ∧ At p so cap zs (pos + run dg zs pos) w w'

set_option maxHeartbeats 400000 in
/-- count. -/
theorem count_any (p : Nat) (so : Option Addr) (cap : Nat) (zs : List Int) (pos : Nat) (w : World) (h : PS p so cap zs pos w)
    (hb : pos ≤ 9223372036854775807) (hn : zs.length ≤ 1048576) :
    Calls Try.prog 33 #[.pointer (some ⟨p, 0, none⟩)] w (CountOut p so cap zs pos w) := by
  have hrl := run_le dg zs pos
  have HP0 := peek_any p so cap zs pos w h hb (by omega)
  have HP : Hid (Calls Try.prog 32 #[.pointer (some ⟨p, 0, none⟩), .int .i64 0] w (PeekOut w (pk zs pos))) := HP0
  clear HP0
  go_enter Try.func33, Try.ntmps33
  go_wp2_with fail
  refine HP.out.mono ?_
  rintro e w1 ⟨rfl, n, rfl⟩
  clear HP
  have hat : At p so cap zs pos w (w.drewN n) := ⟨h.drewN n, (SB.refl _ _).drewN n⟩
  clear h
  go_wp2_with fail
  go_loopg [4, 5, 6] (run dg zs pos) (fun m v d c wr => ∃ k : Nat, k + m = run dg zs pos ∧ v = .int .i64 (capped ((digitsAt zs pos).take k)) ∧ d = .int .i64 k ∧ c = .int .i32 (pk zs (pos + k)) ∧ At p so cap zs (pos + k) w wr)
  case atStart => exact ⟨0, by omega, rfl, rfl, rfl, hat⟩
  case round =>
    obtain ⟨k, hk, rfl, rfl, rfl, hat⟩ := hrel
    by_cases hg : gk = 0
    · subst hg
      have hout := run_out dg dg_neg zs pos
      have hk0 : k = run dg zs pos := by omega
      rw [← hk0] at hout
      have HK : Hid (k = run dg zs pos) := hk0
      have HT : Hid ((digitsAt zs pos).take k = digitsAt zs pos) := by
        show (digitsAt zs pos).take k = digitsAt zs pos
        rw [List.take_of_length_le (by rw [digitsAt_length, hk0]; omega)]
      rw [HT.out]
      clear hk hk0
      generalize pk zs (pos + k) = c at *
      generalize hcd : capped (digitsAt zs pos) = cd at *
      have HC : Hid (capped (digitsAt zs pos) = cd) := hcd
      clear hcd
      have HA : Hid (At p so cap zs (pos + k) w wr) := hat
      clear hat
      by_cases hc : 48 ≤ c
      · have hc2 : ¬ c ≤ 57 := fun h => by have := (dg_iff c).2 ⟨hc, h⟩; rw [this] at hout; cases hout
        clear hout
        go_wp2
        go_ret2
        exact ⟨by rw [HC.out, ← HK.out]; rfl, by rw [← HK.out]; exact HA.out⟩
      · clear hout
        have hd : decide (48 ≤ c) = false := decide_eq_false hc
        go_wp2
        go_ret2
        exact ⟨by rw [HC.out, ← HK.out]; rfl, by rw [← HK.out]; exact HA.out⟩
    · obtain ⟨m, rfl⟩ : ∃ m, gk = m + 1 := ⟨gk - 1, by omega⟩
      have hin := run_in dg zs pos k (by omega)
      have hlt := hin.1
      have hdg := (dg_iff _).1 hin.2
      obtain ⟨d0, d1⟩ := hdg
      have hbd := capped_bd ((digitsAt zs pos).take k) (fun c hc => digitsAt_dg zs pos c (List.mem_of_mem_take hc))
      have hsn : capped ((digitsAt zs pos).take (k + 1)) = cap1 (capped ((digitsAt zs pos).take k)) (pk zs (pos + k)) := by rw [digitsAt_take zs pos k (by omega), capped_snoc]
      have HS : Hid (capped ((digitsAt zs pos).take (k + 1)) = cap1 (capped ((digitsAt zs pos).take k)) (pk zs (pos + k))) := hsn
      clear hsn hin hg
      have R : Hid (∀ n, At p so cap zs (pos + (k + 1)) w ((wr.setCell ⟨p, 1, none⟩ (.int .i64 ((pos : Int) + k + 1))).drewN n)) := fun n => by
        have := hat.next (pos + (k + 1)) n
        rw [show ((pos + (k + 1) : Nat) : Int) = (pos : Int) + k + 1 by omega] at this
        exact this
      have HP : Hid (Calls Try.prog 32 #[.pointer (some ⟨p, 0, none⟩), .int .i64 0] (wr.setCell ⟨p, 1, none⟩ (.int .i64 ((pos : Int) + k + 1))) (PeekOut (wr.setCell ⟨p, 1, none⟩ (.int .i64 ((pos : Int) + k + 1))) (pk zs (pos + (k + 1))))) :=
        peek_any p so cap zs (pos + (k + 1)) _ (R.out 0).1 (by omega) (by omega)
      generalize pk zs (pos + k) = c at *
      generalize hc' : pk zs (pos + (k + 1)) = c' at *
      have HC' : Hid (pk zs (pos + (k + 1)) = c') := hc'
      clear hc'
      generalize capped ((digitsAt zs pos).take k) = v at *
      have g1 := hat.1.pos
      have f1 := hat.1.free
      obtain ⟨v0, v1⟩ := hbd
      have HV : Hid (cap1 v c = min (v * 10 + (c - 48)) 65536) := rfl
      by_cases hm : v * 10 + (c - 48) ≤ 65536
      · have HV2 : Hid (capped ((digitsAt zs pos).take (k + 1)) = v * 10 + (c - 48)) := by have := HS.out; rw [HV.out] at this; rw [Int.min_eq_left hm] at this; exact this
        go_wp2_with fail
        refine HP.out.mono ?_
        rintro e w' ⟨rfl, n2, rfl⟩
        go_wp2
        go_roundg m
        case measure => omega
        case rel => exact ⟨k + 1, by omega, by rw [HV2.out], by go_num, by rw [HC'.out], R.out _⟩
      · have HV2 : Hid (capped ((digitsAt zs pos).take (k + 1)) = 65536) := by have := HS.out; rw [HV.out] at this; rw [Int.min_eq_right (by omega)] at this; exact this
        go_wp2_with fail
        refine HP.out.mono ?_
        rintro e w' ⟨rfl, n2, rfl⟩
        go_wp2
        go_roundg m
        case measure => omega
        case rel => exact ⟨k + 1, by omega, by rw [HV2.out], by go_num, by rw [HC'.out], R.out _⟩
end Go.Proofs.Qxb6601151a
