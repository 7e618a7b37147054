import Derived.Test.Qxb6601151aModel
import Derived.Test.Qxb6601151aZZ
import Derived.Laws.CopyOwn
namespace Go.Proofs.Qxb6601151a.fnMatch
open Go.RowKit Go.Proofs.Qxb6601151a

theorem Try.info21 : (Try.prog.info? 21).map (fun i => (i.zero, i.size, i.bytes)) = some (some (.int .i32 0), 1, 4) := by kernel_rfl
theorem Try.size21 : (Try.prog.info? 21).map (·.size) = some 1 := by kernel_rfl

set_option maxHeartbeats 1000000 in
/-- The place behind the brace is the text's end, and the text has no room behind it. -/
theorem model_edge (b o n cap : Nat) (zs : List Int) (pos : Nat) (w : World) (h : RS w (some ⟨b, o, none⟩) n cap zs) (hn : n ≤ 1048576) (hlt : pos + 1 ≤ zs.length) (hc : cap = pos + 1) :
    Calls Try.prog 11 #[.slice (some ⟨b, o, none⟩) n cap, .int .i64 pos] w (MdOut (bracesAt zs (pos + 1)) w) := by
  have hz := h.1
  have hcap := h.2.1
  obtain rfl : n = pos + 1 := by omega
  subst hc
  have hd : zs.drop (pos + 1) = [] := List.drop_eq_nil_of_le (by omega)
  have hR : bracesAt zs (pos + 1) = (0, 0, false, pos + 1 + kst []) := model_no zs (pos + 1) [] hd (.inl (by simp))
  have hk : kst [] = 0 := rfl
  rw [hk] at hR
  have HR : Hid (bracesAt zs (pos + 1) = (0, 0, false, pos + 1 + 0)) := hR
  have HL := longest_any (some ⟨b, o, none⟩) 0 0 [] w ⟨rfl, Nat.le_refl _, fun h => by omega⟩ (by omega) (by omega)
  rw [hk] at HL
  have HLH : Hid (Calls Try.prog 27 #[.slice (some ⟨b, o, none⟩) 0 0] w (IntOut 0 w)) := HL
  clear HL hR hd hk h hz hlt hcap
  have i1 : (0 : Int) ≤ (pos : Int) + 1 := by omega
  go_enter Try.func11, Try.ntmps11
  go_wp2_with fail
  refine HLH.out.mono ?_
  rintro e w' ⟨rfl, rfl⟩
  go_wp2
  exact bodyPost_ret (v := .tuple #[.int .i64 0, .int .i64 0, .bool false, .int .i64 ((pos : Int) + 1)]) (by simp [results, Try.results11, go_sem]) rfl (MdOut.mk HR.out (by omega) rfl)

theorem model_any (so : Option Addr) (n cap : Nat) (zs : List Int) (pos : Nat) (w : World) (h : RS w so n cap zs) (hn : n ≤ 1048576) (hcm : cap ≤ 9223372036854775807) (hb : pos < 9223372036854775807) :
    Calls Try.prog 11 #[.slice so n cap, .int .i64 pos] w (MdOut (bracesAt zs (pos + 1)) w) := by
  by_cases hlt : pos + 1 ≤ zs.length
  · obtain ⟨b, o, rfl, _⟩ := h.2.2 (by have := h.1; omega)
    by_cases hc : cap = pos + 1
    · exact model_edge b o n cap zs pos w h hn hlt hc
    · exact model_within b o n cap zs pos w h hn hcm hlt hc
  · exact model_beyond so n cap zs pos w h hn hb (by omega)

def SizeOut (w : World) (e : Ending) (w' : World) : Prop := ∃ b, e = .returned (.bool b) ∧ w' = w

theorem size_any (so : Option Addr) (n cap : Nat) (pos : Int) (w : World) : Calls Try.prog 9 #[.slice so n cap, .int .i64 pos] w (SizeOut w) := by
  go_enter Try.func9, Try.ntmps9
  go_wp2
  all_goals
    go_ret
    exact ⟨_, rfl, rfl⟩

def LawOut (w : World) (e : Ending) (w' : World) : Prop := e = .returned (.bool true) ∧ Below w.heap.size w w'

set_option maxHeartbeats 1000000 in
/-- Outside the law's own bounds. -/
theorem walk_out (so : Option Addr) (n cap : Nat) (pos : Int) (w : World) (h : 262144 < n ∨ pos < 0 ∨ pos = 9223372036854775807) :
    Calls Try.prog 3 #[.slice so n cap, .int .i64 pos] w (LawOut w) := by
  go_enter Try.func3, Try.ntmps3
  go_wp2_with fail
  refine (size_any so n cap pos w).mono ?_
  rintro e w1 ⟨b, rfl, rfl⟩
  cases b with
  | false =>
    go_wp2
    go_ret
    exact ⟨rfl, Below.refl _ _⟩
  | true =>
    by_cases h1 : n ≤ 262144
    · by_cases h2 : pos < 0
      · clear h
        go_wp2
        go_ret
        exact ⟨rfl, Below.refl _ _⟩
      · obtain rfl : pos = 9223372036854775807 := by omega
        clear h
        go_wp2
        go_ret
        exact ⟨rfl, Below.refl _ _⟩
    · clear h
      go_wp2
      go_ret
      exact ⟨rfl, Below.refl _ _⟩

theorem RS.ri {w : World} {so : Option Addr} {n cap : Nat} {zs : List Int} (h : RS w so n cap zs) : RI w so zs := by
  intro hn
  obtain ⟨b, o, e, hc⟩ := h.2.2 (by rw [h.1]; exact hn)
  exact ⟨b, o, e, fun i hi => hc i (by rw [h.1]; exact hi)⟩

theorem RS.later {w w' : World} {so : Option Addr} {n cap : Nat} {zs : List Int} (h : RS w so n cap zs) (hb : Below w.heap.size w w') : RS w' so n cap zs := by
  refine ⟨h.1, h.2.1, fun hn => ?_⟩
  obtain ⟨b, o, e, hc⟩ := h.2.2 hn
  have hlt : b < w.heap.size := World.block_lt_of_cell? w ⟨b, o + 0, none⟩ (hc 0 hn)
  exact ⟨b, o, e, fun i hi => (hb.cell (p := ⟨b, o + i, none⟩) hlt).trans (hc i hi)⟩

/-- The copy's row reads as the text. -/
theorem RS.row {w : World} {g : Nat} {zs : List Int} (h : w.heap[g]? = some (.cells (zs.map (Value.int .i32)).toArray 21 (0, 0))) : RS w (some ⟨g, 0, none⟩) zs.length zs.length zs := by
  refine ⟨rfl, Nat.le_refl _, fun _ => ⟨g, 0, rfl, fun i hi => ?_⟩⟩
  rw [Nat.zero_add, cell_of_row w g i _ 21 (0, 0) h]
  simp [hi]

set_option maxHeartbeats 1000000 in
/-- A nil text. -/
theorem walk_nil (cap pos : Nat) (w : World) (hb : pos < 9223372036854775807) (hcm : cap ≤ 9223372036854775807) :
    Calls Try.prog 3 #[.slice none 0 cap, .int .i64 pos] w (LawOut w) := by
  have hq : ∀ w', (binOp .neq 22 (.slice none 0 cap) (.slice none 0 0)).run Try.prog w' = .ok (.bool false) w' := fun w' => run_neq_slice_nil_any w' 22 21 none 0 cap 0 0 Try.underlying22
  have HS : RS w none 0 cap [] := ⟨rfl, Nat.zero_le _, fun h => by omega⟩
  have HZ := zzbraces_any none cap [] pos w (RS.ri HS) hb (by simp)
  have HZH : Hid (Calls Try.prog 10 #[.slice none 0 cap, .int .i64 pos] w (ZZOut (bracesAt [] (pos + 1)) w)) := HZ
  have HSH : Hid (RS w none 0 cap []) := HS
  clear HZ HS
  go_enter Try.func3, Try.ntmps3
  go_wp2_with fail
  refine (size_any none 0 cap pos w).mono ?_
  rintro e w1 ⟨b, rfl, rfl⟩
  cases b with
  | false =>
    go_wp2
    go_ret
    exact ⟨rfl, Below.refl _ _⟩
  | true =>
    have e0 : ((pos : Int) == 9223372036854775807) = false := by rw [beq_eq_false_iff_ne]; omega
    go_wp2_with fail
    refine HZH.out.mono ?_
    rintro e w2 ⟨rfl, hb2⟩
    have HM := model_any none 0 cap [] pos w2 (RS.later HSH.out hb2) (by omega) hcm hb
    have HMH : Hid (Calls Try.prog 11 #[.slice none 0 cap, .int .i64 pos] w2 (MdOut (bracesAt [] (pos + 1)) w2)) := HM
    clear HM
    generalize bracesAt [] (pos + 1) = r at *
    go_wp2_with fail
    refine HMH.out.mono ?_
    rintro e w3 ⟨rfl, rfl⟩
    go_wp2
    go_ret
    exact ⟨rfl, hb2⟩

theorem splice_all (n : Nat) (z : Value) (cs : List Value) (h : cs.length = n) : splice (List.replicate n z) 0 cs = cs := by
  unfold splice
  simp [h]

theorem made_row {w : World} {g n : Nat} {z : Value} (h : w.ownsRow g 21 1 (.slice (some ⟨g, 0, none⟩) n n) n (List.replicate n z)) : w.heap[g]? = some (.cells (List.replicate n z).toArray 21 (0, 0)) := by
  rcases h.2 with ⟨h', _⟩ | ⟨g', c, cur, e, _, hh, _, _, hcs, htake⟩
  · simp at h'
  · simp only [Value.slice.injEq, Option.some.injEq, Addr.mk.injEq, and_true, true_and] at e
    obtain ⟨rfl, rfl⟩ := e
    rw [hh]
    rw [List.take_of_length_le (by rw [Array.length_toList]; omega)] at htake
    rw [← htake]

set_option maxHeartbeats 1000000 in
/-- A text that is not nil: it is copied first. -/
theorem walk_some (a : Addr) (n cap pos : Nat) (zs : List Int) (w : World) (h : RS w (some a) n cap zs) (hn : n ≤ 262144) (hb : pos < 9223372036854775807) :
    Calls Try.prog 3 #[.slice (some a) n cap, .int .i64 pos] w (LawOut w) := by
  have hq : ∀ w', (binOp .neq 22 (.slice (some a) n cap) (.slice none 0 0)).run Try.prog w' = .ok (.bool true) w' := fun w' => run_neq_slice_nil_any w' 22 21 (some a) n cap 0 0 Try.underlying22
  obtain ⟨i0, hi0, hz0, hz1, hz2⟩ := info_parts Try.info21
  have hnz := h.1
  have HSRC : Hid (RS w (some a) n cap zs) := h
  obtain ⟨cs, hcs⟩ : ∃ cs, cs = zs.map (Value.int .i32) := ⟨_, rfl⟩
  have HCS : Hid (cs = zs.map (Value.int .i32)) := hcs
  have hcl : cs.length = n := by rw [hcs, List.length_map, hnz]
  have HNZ : Hid (n = zs.length) := hnz
  have HCL : Hid (cs.length = n) := hcl
  clear h hnz hcs hcl
  go_enter Try.func3, Try.ntmps3
  go_wp2_with fail
  refine (size_any (some a) n cap pos w).mono ?_
  rintro e w1 ⟨b, rfl, rfl⟩
  cases b with
  | false =>
    go_wp2
    go_ret
    exact ⟨rfl, Below.refl _ _⟩
  | true =>
    have e0 : ((pos : Int) == 9223372036854775807) = false := by rw [beq_eq_false_iff_ne]; omega
    go_wp2_with (at_make; refine wpList_make_full _ rfl _ _ 22 rfl w1.heap.size 21 i0 (.int .i32 0) 1 Try.underlying22 hi0 hz0 hz1 _ _ _ _ n rfl rfl (by omega) (by omega) (by rw [hz2]; omega) (by unfold maxLen; omega) (Nat.le_refl _) ?_)
    intro w2 hown hgrow
    have hrow : w2.heap[w1.heap.size]? = some (.cells (List.replicate n (.int .i32 0)).toArray 21 (0, 0)) := by
      have hown' : w2.ownsRow w1.heap.size 21 1 (.slice (some ⟨w1.heap.size, 0, none⟩) n n) n (List.replicate n (.int .i32 0)) := by
        simpa [toList_madeCells_one, Value.cells] using hown
      exact made_row hown'
    have hb2 : Below w1.heap.size w1 w2 := (Below.refl _ _).grown hgrow (Nat.le_refl _) (fun k h => by cases h)
    have HROW : Hid (w2.heap[w1.heap.size]? = some (.cells (List.replicate n (.int .i32 0)).toArray 21 (0, 0))) := hrow
    have HB2 : Hid (Below w1.heap.size w1 w2) := hb2
    clear hown hgrow hrow hb2
    go_wp2_with (refine wpList_copy_splice rfl (.tmp 32) (.tmp 33) 22 22 rfl 21 Try.underlying22 Try.size21 _ _ _ _ _ _ rfl rfl w1.heap.size 0 (List.replicate n (.int .i32 0)) 21 HROW.out cs ?c1 ?c2 ?c3 ?c4 w1.heap.size w1 HB2.out (Nat.le_refl _) ?_)
    case c1 => rw [HCL.out]; exact (Nat.min_self n).symm
    case c2 =>
      intro hpos j v hj
      obtain ⟨b, o, e, hc⟩ := HSRC.out.2.2 (by rw [← HCL.out]; exact hpos)
      obtain rfl := Option.some.inj e
      have hjn : j < n := by rw [← HCL.out]; exact (List.getElem?_eq_some_iff.1 hj).1
      have hlt : b < w1.heap.size := World.block_lt_of_cell? w1 ⟨b, o + j, none⟩ (hc j hjn)
      rw [Addr.add_lit, HB2.out.cell (p := ⟨b, o + j, none⟩) hlt, hc j hjn, ← hj, HCS.out]
      simp [show j < zs.length by rw [← HNZ.out]; exact hjn]
    case c3 => simp [HCL.out]
    case c4 =>
      rw [HCS.out]
      exact ints_oneCell _ _
    intro w3 hg3 hb3
    have HS : RS w3 (some ⟨w1.heap.size, 0, none⟩) n n zs := by
      have hg := hg3.out
      rw [splice_all n _ cs HCL.out, HCS.out] at hg
      have := RS.row hg
      rw [← HNZ.out] at this
      exact this
    have HZ := zzbraces_any (some ⟨w1.heap.size, 0, none⟩) n zs pos w3 (RS.ri HS) hb (by rw [← HNZ.out]; omega)
    rw [← HNZ.out] at HZ
    have HZH : Hid (Calls Try.prog 10 #[.slice (some ⟨w1.heap.size, 0, none⟩) n n, .int .i64 pos] w3 (ZZOut (bracesAt zs (pos + 1)) w3)) := HZ
    have HSH : Hid (RS w3 (some ⟨w1.heap.size, 0, none⟩) n n zs) := HS
    clear HZ HS hg3
    go_wp2_with fail
    refine HZH.out.mono ?_
    rintro e w4 ⟨rfl, hb4⟩
    have HM := model_any (some ⟨w1.heap.size, 0, none⟩) n n zs pos w4 (RS.later HSH.out hb4) (by omega) (by omega) hb
    have HMH : Hid (Calls Try.prog 11 #[.slice (some ⟨w1.heap.size, 0, none⟩) n n, .int .i64 pos] w4 (MdOut (bracesAt zs (pos + 1)) w4)) := HM
    have HBF : Hid (Below w1.heap.size w1 w4) := hb3.trans (hb4.mono hb3.size)
    clear HM hb3 hb4
    generalize bracesAt zs (pos + 1) = r at *
    go_wp2_with fail
    refine HMH.out.mono ?_
    rintro e w5 ⟨rfl, rfl⟩
    go_wp2
    go_ret
    exact ⟨rfl, HBF⟩
end Go.Proofs.Qxb6601151a.fnMatch
