import Derived.Test.Qxb6601151aParse
namespace Go.Proofs.Qxb6601151a
open Go.RowKit

/-- What braces answers, from the place behind the brace on: lo, hi, ok, and where it stands. -/
def fin (zs : List Int) (lo hi : Int) (has : Bool) (e : Nat) : Int × Int × Bool × Nat := if pk zs e = 125 ∧ has = true then (lo, hi, true, e + 1) else (0, 0, false, e)
def q1 (zs : List Int) (s : Nat) : Nat := s + run bl zs s
def q2 (zs : List Int) (s : Nat) : Nat := q1 zs s + run dg zs (q1 zs s)
def q3 (zs : List Int) (s : Nat) : Nat := q2 zs s + run bl zs (q2 zs s)
def loAt (zs : List Int) (s : Nat) : Int := capped (digitsAt zs (q1 zs s))
def hasAt (zs : List Int) (s : Nat) : Bool := decide (0 < run dg zs (q1 zs s))
def bracesAt (zs : List Int) (s : Nat) : Int × Int × Bool × Nat :=
  if pk zs (q3 zs s) = 44 then
    fin zs (loAt zs s) (if hasAt zs (q3 zs s + 1) = true then loAt zs (q3 zs s + 1) else -1) (hasAt zs s || hasAt zs (q3 zs s + 1)) (q3 zs (q3 zs s + 1))
  else fin zs (loAt zs s) (loAt zs s) (hasAt zs s) (q3 zs s)

theorem run_bd (f : Int → Bool) (zs : List Int) (s M : Nat) (h : s ≤ M) (hn : zs.length ≤ M) : s + run f zs s ≤ M := by
  have := run_le f zs s
  omega

theorem At.trans {p : Nat} {so : Option Addr} {cap : Nat} {zs : List Int} {a b : Nat} {w w1 w2 : World} (h : At p so cap zs a w w1) (k : At p so cap zs b w1 w2) : At p so cap zs b w w2 := ⟨k.1, h.2.trans k.2⟩

theorem PS.alloc {p : Nat} {so : Option Addr} {cap : Nat} {zs : List Int} {pos : Nat} {w : World} (h : PS p so cap zs pos w) (o : Obj) : PS p so cap zs pos (w.alloc o) := by
  have hp := World.block_lt_of_cell? w _ h.src
  have hb : (w.alloc o).heap[p]? = w.heap[p]? := Below.heap_alloc w o p hp
  refine ⟨(World.cell?_of_block (w := w) hb).trans h.src, (World.cell?_of_block (w := w) hb).trans h.pos, (World.frozen?_of_block (w := w) hb).trans h.free, fun hn => ?_⟩
  obtain ⟨b, off, e, hbp, hc⟩ := h.runes hn
  refine ⟨b, off, e, hbp, fun i hi => ?_⟩
  have hbl := World.block_lt_of_cell? w _ (hc i hi)
  exact (World.cell?_of_block (w := w) (Below.heap_alloc w o b hbl)).trans (hc i hi)

/-- Of what was there nothing but block p has turned. -/
structure SG (p : Nat) (w w' : World) : Prop where
  os : w'.os = w.os
  tape : w'.tape = w.tape
  output : w'.output = w.output
  size : w.heap.size ≤ w'.heap.size
  block : ∀ k, k < w.heap.size → k ≠ p → w'.heap[k]? = w.heap[k]?

theorem SG.sb {p : Nat} {a b c : World} (h : SG p a b) (k : SB p b c) : SG p a c :=
  ⟨k.os.trans h.os, k.tape.trans h.tape, k.output.trans h.output, by rw [k.size]; exact h.size, fun i hi hp => (k.block i hp).trans (h.block i hi hp)⟩

def BracesOut (p : Nat) (so : Option Addr) (cap : Nat) (zs : List Int) (r : Int × Int × Bool × Nat) (w : World) (e : Ending) (w' : World) : Prop :=
  e = .returned (.tuple #[.int .i64 r.1, .int .i64 r.2.1, .bool r.2.2.1]) ∧ PS p so cap zs r.2.2.2 w' ∧ SG p w w'

theorem BracesOut.mk {p : Nat} {so : Option Addr} {cap : Nat} {zs : List Int} {r : Int × Int × Bool × Nat} {w : World} {e : Ending} {w' : World} {lo hi : Int} {ok : Bool} {en : Nat} (hr : r = (lo, hi, ok, en))
    (he : e = .returned (.tuple #[.int .i64 lo, .int .i64 hi, .bool ok])) (hp : PS p so cap zs en w') (hs : SG p w w') : BracesOut p so cap zs r w e w' := by
  subst hr
  exact ⟨he, hp, hs⟩

theorem start_world {p : Nat} {so : Option Addr} {cap : Nat} {zs : List Int} {pos : Nat} {w : World} (h : PS p so cap zs pos w) :
    ∃ W0, (w.setCell ⟨p, 1, none⟩ (.int .i64 ((pos : Int) + 1))).alloc (.cells #[.pointer (some ⟨p, 0, none⟩)] 54) = W0 ∧ PS p so cap zs (pos + 1) W0 ∧ W0.cell? ⟨w.heap.size, 0, none⟩ = some (.pointer (some ⟨p, 0, none⟩)) ∧ SG p w W0 := by
  have hp := World.block_lt_of_cell? w _ h.src
  refine ⟨_, rfl, ?_, ?_, ?_⟩
  · have := (h.move (pos + 1)).alloc (.cells #[.pointer (some ⟨p, 0, none⟩)] 54)
    rw [show ((pos + 1 : Nat) : Int) = (pos : Int) + 1 by omega] at this
    exact this
  · have hz : (w.setCell ⟨p, 1, none⟩ (.int .i64 ((pos : Int) + 1))).heap.size = w.heap.size := by simp [World.setCell]
    have hh := heap_alloc_new (w.setCell ⟨p, 1, none⟩ (.int .i64 ((pos : Int) + 1))) (.cells #[.pointer (some ⟨p, 0, none⟩)] 54)
    rw [hz] at hh
    rw [cell_of_row _ _ _ _ _ _ hh]
    rfl
  · refine ⟨rfl, rfl, rfl, by simp [World.setCell], fun k hk hkp => ?_⟩
    rw [Below.heap_alloc _ _ _ (by simpa [World.setCell] using hk), Below.heap_setCell _ _ _ _ hkp]

theorem fin_yes {zs : List Int} {lo hi : Int} {e : Nat} (h : pk zs e = 125) : fin zs lo hi true e = (lo, hi, true, e + 1) := by unfold fin; rw [if_pos ⟨h, rfl⟩]
theorem fin_no {zs : List Int} {lo hi : Int} {has : Bool} {e : Nat} (h : pk zs e ≠ 125) : fin zs lo hi has e = (0, 0, false, e) := by unfold fin; rw [if_neg (fun k => h k.1)]
theorem fin_none {zs : List Int} {lo hi : Int} {e : Nat} : fin zs lo hi false e = (0, 0, false, e) := by unfold fin; rw [if_neg (fun k => by cases k.2)]
theorem pk_lt {zs : List Int} {e : Nat} {c : Int} (h : pk zs e = c) (hc : c ≠ -1) : e < zs.length := by
  unfold pk at h
  split at h
  · assumption
  · exact absurd h.symm hc

/-- pos moved on by one. -/
theorem At.inc {p : Nat} {so : Option Addr} {cap : Nat} {zs : List Int} {a : Nat} {w w' : World} (h : At p so cap zs a w w') : At p so cap zs (a + 1) w (w'.setCell ⟨p, 1, none⟩ (.int .i64 ((a : Int) + 1))) := by
  have := h.next (a + 1) 0
  rw [show ((a + 1 : Nat) : Int) = (a : Int) + 1 by omega] at this
  exact this

set_option maxHeartbeats 1000000 in
theorem braces_any (p : Nat) (so : Option Addr) (cap : Nat) (zs : List Int) (pos : Nat) (w : World) (h : PS p so cap zs pos w) (hb : pos < 9223372036854775807) (hn : zs.length ≤ 1048576) :
    Calls Try.prog 26 #[.pointer (some ⟨p, 0, none⟩)] w (BracesOut p so cap zs (bracesAt zs (pos + 1)) w) := by
  have hp := World.block_lt_of_cell? w _ h.src
  have g1 := h.pos
  have f1 := h.free
  have hpq : ¬ p = w.heap.size := by show ¬ p = w.heap.size; have : p < w.heap.size := hp; omega
  obtain ⟨W0, hW, hps, hq0, hsg⟩ := start_world h
  have HW : Hid ((w.setCell ⟨p, 1, none⟩ (.int .i64 ((pos : Int) + 1))).alloc (.cells #[.pointer (some ⟨p, 0, none⟩)] 54) = W0) := hW
  clear hW
  go_enter Try.func26, Try.ntmps26
  go_wp2_with fail
  rw [HW.out]
  clear HW g1 f1 h
  generalize hs : pos + 1 = s at *
  have hsb : s ≤ 9223372036854775807 := by omega
  clear hs
  have HQ : Hid (∀ w', SB p W0 w' → w'.cell? ⟨w.heap.size, 0, none⟩ = some (.pointer (some ⟨p, 0, none⟩))) := fun w' k => (k.cell (a := ⟨w.heap.size, 0, none⟩) (fun e => hpq e.symm)).trans hq0
  -- blanks
  refine (blanks_any w.heap.size p so cap zs s W0 hps hq0 (fun e => hpq e.symm) hsb hn).mono ?_
  rintro e w1 ⟨rfl, hat⟩
  have B1 := run_bd bl zs s 9223372036854775807 hsb (by omega)
  have HQ1 : Hid (s + run bl zs s = q1 zs s) := rfl
  rw [HQ1.out] at hat B1
  clear hps hq0
  have hp1 := HQ.out _ hat.2
  go_wp2_with fail
  refine (count_any p so cap zs (q1 zs s) w1 hat.1 B1 hn).mono ?_
  rintro e w2 ⟨rfl, hat2⟩
  have B2 := run_bd dg zs (q1 zs s) 9223372036854775807 B1 (by omega)
  have HQ2 : Hid (q1 zs s + run dg zs (q1 zs s) = q2 zs s) := rfl
  rw [HQ2.out] at hat2 B2
  have HL : Hid (capped (digitsAt zs (q1 zs s)) = loAt zs s) := rfl
  have HH : Hid (decide (0 < run dg zs (q1 zs s)) = hasAt zs s) := rfl
  rw [HL.out, HH.out]
  replace hat2 := hat.trans hat2
  clear hat hp1
  have hp2 := HQ.out _ hat2.2
  go_wp2_with fail
  refine (blanks_any w.heap.size p so cap zs (q2 zs s) w2 hat2.1 hp2 (fun e => hpq e.symm) B2 hn).mono ?_
  rintro e w3 ⟨rfl, hat3⟩
  have B3 := run_bd bl zs (q2 zs s) 9223372036854775807 B2 (by omega)
  have HQ3 : Hid (q2 zs s + run bl zs (q2 zs s) = q3 zs s) := rfl
  rw [HQ3.out] at hat3 B3
  replace hat3 := hat2.trans hat3
  clear hat2 hp2
  have hp3 := HQ.out _ hat3.2
  go_wp2_with fail
  refine (peek_any p so cap zs (q3 zs s) w3 hat3.1 B3 (by omega)).mono ?_
  rintro e w4 ⟨rfl, n4, rfl⟩
  by_cases hcm : pk zs (q3 zs s) = 44
  · rw [hcm]
    have hq3 := pk_lt hcm (by omega)
    have hin := hat3.inc
    have g3 := hat3.1.pos
    have f3 := hat3.1.free
    have hat4 : At p so cap zs (q3 zs s + 1) W0 ((w3.setCell ⟨p, 1, none⟩ (.int .i64 (((q3 zs s : Nat) : Int) + 1))).drewN n4) := ⟨hin.1.drewN _, hin.2.drewN _⟩
    have HBr0 : Hid (bracesAt zs s = fin zs (loAt zs s) (if hasAt zs (q3 zs s + 1) = true then loAt zs (q3 zs s + 1) else -1) (hasAt zs s || hasAt zs (q3 zs s + 1)) (q3 zs (q3 zs s + 1))) := by show bracesAt zs s = _; unfold bracesAt; rw [if_pos hcm]
    clear hin hcm
    have B4 : q3 zs s + 1 ≤ 9223372036854775807 := by omega
    have hp4 := HQ.out _ hat4.2
    have HBl := blanks_any w.heap.size p so cap zs (q3 zs s + 1) _ hat4.1 hp4 (fun e => hpq e.symm) B4 hn
    have HBlH : Hid (Calls Try.prog 31 #[.pointer (some ⟨w.heap.size, 0, none⟩)] ((w3.setCell ⟨p, 1, none⟩ (.int .i64 (((q3 zs s : Nat) : Int) + 1))).drewN n4) (BlanksOut p so cap zs (q3 zs s + 1 + run bl zs (q3 zs s + 1)) ((w3.setCell ⟨p, 1, none⟩ (.int .i64 (((q3 zs s : Nat) : Int) + 1))).drewN n4))) := HBl
    have HA4 : Hid (At p so cap zs (q3 zs s + 1) W0 ((w3.setCell ⟨p, 1, none⟩ (.int .i64 (((q3 zs s : Nat) : Int) + 1))).drewN n4)) := hat4
    clear HBl hat4 hp4
    go_wp2_with fail
    refine HBlH.out.mono ?_
    rintro e w5 ⟨rfl, hat5⟩
    replace hat5 := HA4.out.trans hat5
    clear HA4 HBlH g3 f3 hat3 hp3
    generalize q3 zs s + 1 = t at *
    have B5 := run_bd bl zs t 9223372036854775807 B4 (by omega)
    have HQ5 : Hid (t + run bl zs t = q1 zs t) := rfl
    rw [HQ5.out] at hat5 B5
    have hp5 := HQ.out _ hat5.2
    go_wp2_with fail
    refine (count_any p so cap zs (q1 zs t) w5 hat5.1 B5 hn).mono ?_
    rintro e w6 ⟨rfl, hat6⟩
    have B6 := run_bd dg zs (q1 zs t) 9223372036854775807 B5 (by omega)
    have HQ6 : Hid (q1 zs t + run dg zs (q1 zs t) = q2 zs t) := rfl
    rw [HQ6.out] at hat6 B6
    have HL2 : Hid (capped (digitsAt zs (q1 zs t)) = loAt zs t) := rfl
    have HH2 : Hid (decide (0 < run dg zs (q1 zs t)) = hasAt zs t) := rfl
    rw [HL2.out, HH2.out]
    replace hat6 := hat5.trans hat6
    clear hat5 hp5
    have hp6 := HQ.out _ hat6.2
    have HBl := blanks_any w.heap.size p so cap zs (q2 zs t) w6 hat6.1 hp6 (fun e => hpq e.symm) B6 hn
    have HBlH : Hid (Calls Try.prog 31 #[.pointer (some ⟨w.heap.size, 0, none⟩)] w6 (BlanksOut p so cap zs (q2 zs t + run bl zs (q2 zs t)) w6)) := HBl
    clear HBl
    have B7 := run_bd bl zs (q2 zs t) 9223372036854775807 B6 (by omega)
    have HQ7 : Hid (q2 zs t + run bl zs (q2 zs t) = q3 zs t) := rfl
    rw [HQ7.out] at B7 HBlH
    cases hhi : hasAt zs t with
    | true =>
      have HBr : Hid (bracesAt zs s = fin zs (loAt zs s) (loAt zs t) (hasAt zs s || true) (q3 zs t)) := by show bracesAt zs s = _; rw [HBr0.out, hhi]; rfl
      clear HBr0 hhi
      go_wp2_with fail
      refine HBlH.out.mono ?_
      rintro e w7 ⟨rfl, hat7⟩
      replace hat7 := hat6.trans hat7
      clear hat6 hp6 HBlH
      have hp7 := HQ.out _ hat7.2
      have HP := peek_any p so cap zs (q3 zs t) w7 hat7.1 B7 (by omega)
      have HPP : Hid (Calls Try.prog 32 #[.pointer (some ⟨p, 0, none⟩), .int .i64 0] w7 (PeekOut w7 (pk zs (q3 zs t)))) := HP
      clear HP
      by_cases hcb : pk zs (q3 zs t) = 125
      · have hel := pk_lt hcb (by omega)
        rw [hcb] at HPP
        cases hh : hasAt zs s with
        | false =>
          have HR : Hid (bracesAt zs s = (loAt zs s, loAt zs t, true, q3 zs t + 1)) := by show bracesAt zs s = _; rw [HBr.out, hh, Bool.false_or, fin_yes hcb]
          clear hcb HBr
          have g5 := hat7.1.pos
          have f5 := hat7.1.free
          have HIN := hat7.inc
          have HIH : Hid (At p so cap zs (q3 zs t + 1) W0 (w7.setCell ⟨p, 1, none⟩ (.int .i64 ((q3 zs t : Nat) + 1)))) := HIN
          clear HIN
          go_wp2_with fail
          refine HPP.out.mono ?_
          rintro e w5 ⟨rfl, n5, rfl⟩
          go_wp2
          go_ret3
          exact BracesOut.mk HR.out rfl (HIH.out.1.drewN _) (hsg.sb (HIH.out.2.drewN _))
        | true =>
          have HR : Hid (bracesAt zs s = (loAt zs s, loAt zs t, true, q3 zs t + 1)) := by show bracesAt zs s = _; rw [HBr.out, hh, Bool.true_or, fin_yes hcb]
          clear hcb HBr
          have g5 := hat7.1.pos
          have f5 := hat7.1.free
          have HIN := hat7.inc
          have HIH : Hid (At p so cap zs (q3 zs t + 1) W0 (w7.setCell ⟨p, 1, none⟩ (.int .i64 ((q3 zs t : Nat) + 1)))) := HIN
          clear HIN
          go_wp2_with fail
          refine HPP.out.mono ?_
          rintro e w5 ⟨rfl, n5, rfl⟩
          go_wp2
          go_ret3
          exact BracesOut.mk HR.out rfl (HIH.out.1.drewN _) (hsg.sb (HIH.out.2.drewN _))
      · have hcbf : (pk zs (q3 zs t) != 125) = true := by rw [bne_iff_ne]; exact hcb
        have HR : Hid (bracesAt zs s = (0, 0, false, q3 zs t)) := by show bracesAt zs s = _; rw [HBr.out, fin_no hcb]
        clear hcb HBr
        generalize pk zs (q3 zs t) = c at *
        go_wp2_with fail
        refine HPP.out.mono ?_
        rintro e w5 ⟨rfl, n5, rfl⟩
        go_wp2
        go_ret3
        exact BracesOut.mk HR.out rfl (hat7.1.drewN _) (hsg.sb (hat7.2.drewN _))
    | false =>
      have HBr : Hid (bracesAt zs s = fin zs (loAt zs s) (-1) (hasAt zs s || false) (q3 zs t)) := by show bracesAt zs s = _; rw [HBr0.out, hhi]; rfl
      clear HBr0 hhi
      go_wp2_with fail
      refine HBlH.out.mono ?_
      rintro e w7 ⟨rfl, hat7⟩
      replace hat7 := hat6.trans hat7
      clear hat6 hp6 HBlH
      have hp7 := HQ.out _ hat7.2
      have HP := peek_any p so cap zs (q3 zs t) w7 hat7.1 B7 (by omega)
      have HPP : Hid (Calls Try.prog 32 #[.pointer (some ⟨p, 0, none⟩), .int .i64 0] w7 (PeekOut w7 (pk zs (q3 zs t)))) := HP
      clear HP
      by_cases hcb : pk zs (q3 zs t) = 125
      · have hel := pk_lt hcb (by omega)
        rw [hcb] at HPP
        cases hh : hasAt zs s with
        | false =>
          have HR : Hid (bracesAt zs s = (0, 0, false, q3 zs t)) := by show bracesAt zs s = _; rw [HBr.out, hh, Bool.false_or, fin_none]
          clear hcb HBr
          go_wp2_with fail
          refine HPP.out.mono ?_
          rintro e w5 ⟨rfl, n5, rfl⟩
          go_wp2
          go_ret3
          exact BracesOut.mk HR.out rfl (hat7.1.drewN _) (hsg.sb (hat7.2.drewN _))
        | true =>
          have HR : Hid (bracesAt zs s = (loAt zs s, -1, true, q3 zs t + 1)) := by show bracesAt zs s = _; rw [HBr.out, hh, Bool.true_or, fin_yes hcb]
          clear hcb HBr
          have g5 := hat7.1.pos
          have f5 := hat7.1.free
          have HIN := hat7.inc
          have HIH : Hid (At p so cap zs (q3 zs t + 1) W0 (w7.setCell ⟨p, 1, none⟩ (.int .i64 ((q3 zs t : Nat) + 1)))) := HIN
          clear HIN
          go_wp2_with fail
          refine HPP.out.mono ?_
          rintro e w5 ⟨rfl, n5, rfl⟩
          go_wp2
          go_ret3
          exact BracesOut.mk HR.out rfl (HIH.out.1.drewN _) (hsg.sb (HIH.out.2.drewN _))
      · have hcbf : (pk zs (q3 zs t) != 125) = true := by rw [bne_iff_ne]; exact hcb
        have HR : Hid (bracesAt zs s = (0, 0, false, q3 zs t)) := by show bracesAt zs s = _; rw [HBr.out, fin_no hcb]
        clear hcb HBr
        generalize pk zs (q3 zs t) = c at *
        go_wp2_with fail
        refine HPP.out.mono ?_
        rintro e w5 ⟨rfl, n5, rfl⟩
        go_wp2
        go_ret3
        exact BracesOut.mk HR.out rfl (hat7.1.drewN _) (hsg.sb (hat7.2.drewN _))
  · have hcf : (pk zs (q3 zs s) == 44) = false := by rw [beq_eq_false_iff_ne]; exact hcm
    have HBr : Hid (bracesAt zs s = fin zs (loAt zs s) (loAt zs s) (hasAt zs s) (q3 zs s)) := by show bracesAt zs s = _; unfold bracesAt; rw [if_neg hcm]
    clear hcm
    have HP := peek_any p so cap zs (q3 zs s) (w3.drewN n4) (hat3.1.drewN n4) B3 (by omega)
    have HPP : Hid (Calls Try.prog 32 #[.pointer (some ⟨p, 0, none⟩), .int .i64 0] (w3.drewN n4) (PeekOut (w3.drewN n4) (pk zs (q3 zs s)))) := HP
    clear HP
    by_cases hcb : pk zs (q3 zs s) = 125
    · have hel := pk_lt hcb (by omega)
      rw [hcb] at HPP
      cases hh : hasAt zs s with
      | false =>
        have HR : Hid (bracesAt zs s = (0, 0, false, q3 zs s)) := by show bracesAt zs s = _; rw [HBr.out, hh, fin_none]
        clear hcb HBr
        go_wp2_with fail
        refine HPP.out.mono ?_
        rintro e w5 ⟨rfl, n5, rfl⟩
        go_wp2
        go_ret3
        exact BracesOut.mk HR.out rfl (hat3.1.drewN _) (hsg.sb (hat3.2.drewN _))
      | true =>
        have HR : Hid (bracesAt zs s = (loAt zs s, loAt zs s, true, q3 zs s + 1)) := by show bracesAt zs s = _; rw [HBr.out, hh, fin_yes hcb]
        clear hcb HBr
        have g5 := hat3.1.pos
        have f5 := hat3.1.free
        have HIN := hat3.inc
        have HIH : Hid (At p so cap zs (q3 zs s + 1) W0 (w3.setCell ⟨p, 1, none⟩ (.int .i64 ((q3 zs s : Nat) + 1)))) := HIN
        clear HIN
        go_wp2_with fail
        refine HPP.out.mono ?_
        rintro e w5 ⟨rfl, n5, rfl⟩
        go_wp2
        go_ret3
        exact BracesOut.mk HR.out rfl (HIH.out.1.drewN _) (hsg.sb (HIH.out.2.drewN _))
    · have hcbf : (pk zs (q3 zs s) != 125) = true := by rw [bne_iff_ne]; exact hcb
      have HR : Hid (bracesAt zs s = (0, 0, false, q3 zs s)) := by show bracesAt zs s = _; rw [HBr.out, fin_no hcb]
      clear hcb HBr
      generalize pk zs (q3 zs s) = c at *
      go_wp2_with fail
      refine HPP.out.mono ?_
      rintro e w5 ⟨rfl, n5, rfl⟩
      go_wp2
      go_ret3
      exact BracesOut.mk HR.out rfl (hat3.1.drewN _) (hsg.sb (hat3.2.drewN _))
end Go.Proofs.Qxb6601151a
