import Derived.Test.Qxb6601151aBackS
import Derived.Test.Qxb6601151aBackP
import Derived.Test.Qxb6601151aBackQ
import Derived.Test.Qxb6601151aBackOut
import Derived.ProofKit
import Derived.OpenShut
import Derived.ShutString
import Derived.ChangeOld
import Derived.Deep.Slices
namespace Go.Proofs.Qxb6601151a.back
open Go.ChangeShapes Go.WideShapes Go.ChangeAt Go.RowKit Go.Deep Go.Proofs.Qxb6601151a

theorem own : ownKnob Try.prog.godebug = none := by kernel_rfl
theorem laidOut : laidOutB Try.prog = true := by kernel_rfl
theorem cells21 : Try.prog.cellsOf 21 = 1 := by kernel_rfl
theorem cells4 : Try.prog.cellsOf 4 = 1 := by kernel_rfl

section
variable {H : Type} {enc : TypeId × Value → H} {W : World} {base : Nat} {held : Bool}

theorem runes_in {fuel : Nat} {v : Value} {x : DataW H × List MemPlace} (h : DataW.trod enc Try.prog W base (fun _ => true) held fuel 22 [v] = some x) :
    ∃ ao n cap zs, v = .slice ao n cap ∧ RT W.heap.size W ao n zs := by
  rcases open_ints Try.underlying22 Try.underlying21 cells21 h with ⟨hcs, _⟩ | ⟨a, len, cap, zs, hcs, _, hl, hm, hz, _, hcell, _⟩
  · simp only [List.cons.injEq, and_true] at hcs
    exact ⟨none, 0, 0, [], hcs, rfl, fun h => by omega⟩
  · simp only [List.cons.injEq, and_true] at hcs
    simp only [if_true] at hz
    refine ⟨some a, len, cap, zs.take len, hcs, by simp; omega, fun hn => ?_⟩
    have hs := World.cell?_spot (hcell 0 (by omega))
    obtain ⟨b, o, spot⟩ := a
    have hspot : spot = none := by simpa [Addr.add] using hs
    subst hspot
    refine ⟨b, o, rfl, ?_, fun i hi => ?_⟩
    · have := World.block_lt_of_cell? W _ (hcell 0 (by omega))
      simpa [Addr.add] using this
    · have := hcell i (by omega)
      rw [Addr.add_lit] at this
      rw [this]
      have hi2 : i < zs.length := by omega
      simp [hi, hi2]

theorem bools_in {fuel : Nat} {v : Value} {x : DataW H × List MemPlace} (h : DataW.trod enc Try.prog W base (fun _ => true) held fuel 26 [v] = some x) :
    ∃ ao cap tb, v = .slice ao tb.length cap ∧ RBo W.heap.size W ao tb := by
  rcases open_slice1 Try.underlying26 cells4 h with ⟨hcs, _⟩ | ⟨a, len, cap, m, n, V, D, Pl, hcs, _, hl, hm, hmm, _, hx⟩
  · simp only [List.cons.injEq, and_true] at hcs
    exact ⟨none, 0, [], hcs, fun h => by simp at h⟩
  · simp only [List.cons.injEq, and_true] at hcs
    simp only [if_true] at hmm
    subst hmm
    have each : ∀ i, i < len → ∃ b : Bool, W.cell? (a.add i) = some (.bool b) := by
      intro i hi
      obtain ⟨c0, t0⟩ := hx i (by omega)
      obtain ⟨b, e0, _⟩ := DataW.trod_bool Try.underlying4 t0
      simp only [List.cons.injEq, and_true] at e0
      exact ⟨b, by rw [c0, e0]⟩
    obtain ⟨q, hq⟩ := choose_lt each
    refine ⟨some a, m, (List.range len).map q, by rw [hcs]; simp, fun hn => ?_⟩
    have hn' : 0 < len := by simpa using hn
    have hs := World.cell?_spot (hq 0 hn')
    have hblt := World.block_lt_of_cell? W _ (hq 0 hn')
    obtain ⟨b, o, spot⟩ := a
    have hspot : spot = none := by simpa [Addr.add] using hs
    subst hspot
    refine ⟨b, o, rfl, by simpa [Addr.add] using hblt, fun i hi => ?_⟩
    have hi' : i < len := by simpa using hi
    have := hq i hi'
    rw [Addr.add_lit] at this
    rw [this]
    simp [hi']
end

/-- The law's walk, whatever the input. -/
theorem walk (po : Option Addr) (np pc : Nat) (pre : List Int) (lo hi : Int) (sg no : Bool) (o1 : Option Addr) (c1 : Nat) (t1 : List Bool) (o2 : Option Addr) (c2 : Nat) (t2 : List Bool) (o3 : Option Addr) (c3 : Nat) (t3 : List Bool) (o4 : Option Addr) (c4 : Nat) (t4 : List Bool) (to : Option Addr) (nt tc : Nat) (tail : List Int) (w : World)
    (hp : RT w.heap.size w po np pre) (r1 : RBo w.heap.size w o1 t1) (r2 : RBo w.heap.size w o2 t2) (r3 : RBo w.heap.size w o3 t3) (r4 : RBo w.heap.size w o4 t4) (ht : RT w.heap.size w to nt tail) :
    Calls Try.prog 4 #[.slice po np pc, .int .i64 lo, .int .i64 hi, .bool sg, .bool no, .slice o1 t1.length c1, .slice o2 t2.length c2, .slice o3 t3.length c3, .slice o4 t4.length c4, .slice to nt tc] w (LawOut w) := by
  by_cases hw : Within np t1.length t2.length t3.length t4.length nt lo hi
  · obtain ⟨d0, d1, d2, d3, d4, d5, d6, d7, d8, d9⟩ := hw
    obtain ⟨x, rfl⟩ := Int.eq_ofNat_of_zero_le d6
    have hx : x ≤ 65535 := by omega
    cases sg with
    | true =>
      cases no with
      | false => exact walk_s0 po np pc pre x hi o1 c1 t1 o2 c2 t2 o3 c3 t3 o4 c4 t4 to nt tc tail w hp r1 r2 ht d0 d2 d3 d4 d5 d1 hx d8 d9
      | true => exact walk_s1 po np pc pre x hi o1 c1 t1 o2 c2 t2 o3 c3 t3 o4 c4 t4 to nt tc tail w hp r1 r2 ht d0 d2 d3 d4 d5 d1 hx d8 d9
    | false =>
      by_cases hn : 0 ≤ hi
      · obtain ⟨y, rfl⟩ := Int.eq_ofNat_of_zero_le hn
        have hy : y ≤ 65535 := by omega
        cases no with
        | false => exact walk_p00 po np pc pre x y o1 c1 t1 o2 c2 t2 o3 c3 t3 o4 c4 t4 to nt tc tail w hp r1 r2 r3 r4 ht d0 d2 d3 d4 d5 d1 hx hy
        | true => exact walk_p10 po np pc pre x y o1 c1 t1 o2 c2 t2 o3 c3 t3 o4 c4 t4 to nt tc tail w hp r1 r2 r3 r4 ht d0 d2 d3 d4 d5 d1 hx hy
      · obtain rfl : hi = -1 := by omega
        cases no with
        | false => exact walk_p01 po np pc pre x o1 c1 t1 o2 c2 t2 o3 c3 t3 o4 c4 t4 to nt tc tail w hp r1 r2 r3 r4 ht d0 d2 d3 d4 d5 d1 hx
        | true => exact walk_p11 po np pc pre x o1 c1 t1 o2 c2 t2 o3 c3 t3 o4 c4 t4 to nt tc tail w hp r1 r2 r3 r4 ht d0 d2 d3 d4 d5 d1 hx
  · exact walk_out po np pc lo hi sg no o1 t1.length c1 o2 t2.length c2 o3 t3.length c3 o4 t4.length c4 to nt tc w hw

set_option maxRecDepth 100000 in
theorem lifted (os : Os) (started : os.Started) (H : Type) (enc : TypeId × Value → H) :
    ReturnsInHanded {} Try.checked os 4 .any (Rows.fnBracesReadsBackWhatIsWrittenSpec.pre6 enc Try.prog Try.f4 Rows.fnBracesReadsBackWhatIsWrittenRow.domain false) (Rows.fnBracesReadsBackWhatIsWrittenSpec.post enc Try.prog Try.f4 false true false false) := by
  refine returnsInHanded_of_change (C := Try.checked) own started (by kernel_rfl) Try.func4
    (ChangeSpec.witness6 (enc := enc) (C := Try.checked) false ⟨#[], #[.slice none 0 0, .int .i64 0, .int .i64 0, .bool false, .bool false, .slice none 0 0, .slice none 0 0, .slice none 0 0, .slice none 0 0, .slice none 0 0], []⟩ 8 (by kernel_rfl) (by kernel_rfl) (by kernel_rfl) (by kernel_rfl)) ?_
  intro W base args ds gs before hval0 hW hcnd _
  have hval : ∀ (j : Nat) t v, Try.f4.params[j]? = some t → args[j]? = some v → Value.okWide Try.prog W .any base t v := hval0
  have hW' := hW
  obtain ⟨p, q, hA0, hV, rfl, hfz, hnd⟩ := hW
  have hA : DataW.TrodAll enc Try.prog W 0 (fun _ => true) true Try.f4.params.toList args.toList ds p := hA0
  rw [Try.params4] at hA hval
  obtain ⟨v0, vs0, d0, ds0, p0, q0, hargs, rfl, rfl, h0, s0⟩ := trodAll_cons hA
  obtain ⟨v1, vs1, d1, ds1, p1, q1, rfl, rfl, rfl, h1, s1⟩ := trodAll_cons s0
  obtain ⟨v2, vs2, d2, ds2, p2, q2, rfl, rfl, rfl, h2, s2⟩ := trodAll_cons s1
  obtain ⟨v3, vs3, d3, ds3, p3, q3, rfl, rfl, rfl, h3, s3⟩ := trodAll_cons s2
  obtain ⟨v4, vs4, d4, ds4, p4, q4, rfl, rfl, rfl, h4, s4⟩ := trodAll_cons s3
  obtain ⟨v5, vs5, d5, ds5, p5, q5, rfl, rfl, rfl, h5, s5⟩ := trodAll_cons s4
  obtain ⟨v6, vs6, d6, ds6, p6, q6, rfl, rfl, rfl, h6, s6⟩ := trodAll_cons s5
  obtain ⟨v7, vs7, d7, ds7, p7, q7, rfl, rfl, rfl, h7, s7⟩ := trodAll_cons s6
  obtain ⟨v8, vs8, d8, ds8, p8, q8, rfl, rfl, rfl, h8, s8⟩ := trodAll_cons s7
  obtain ⟨v9, vs9, d9, ds9, p9, q9, rfl, rfl, rfl, h9, s9⟩ := trodAll_cons s8
  obtain ⟨rfl, rfl, rfl⟩ := trodAll_nil s9
  obtain rfl : args = #[v0, v1, v2, v3, v4, v5, v6, v7, v8, v9] := by cases args; simp_all
  obtain ⟨rfl, rfl⟩ := trodVars_none hV
  obtain ⟨a0, n0, c0, rfl⟩ := okWide_slice Try.underlying22 (hval 0 22 v0 rfl rfl)
  obtain ⟨x1, rfl, rfl, rfl, e1⟩ := open_int Try.underlying3 (hval 1 3 v1 rfl rfl) h1
  obtain ⟨x2, rfl, rfl, rfl, e2⟩ := open_int Try.underlying3 (hval 2 3 v2 rfl rfl) h2
  obtain ⟨x3, rfl, rfl, rfl⟩ := open_bool Try.underlying4 (hval 3 4 v3 rfl rfl) h3
  obtain ⟨x4, rfl, rfl, rfl⟩ := open_bool Try.underlying4 (hval 4 4 v4 rfl rfl) h4
  obtain ⟨a5, n5, c5, rfl⟩ := okWide_slice Try.underlying26 (hval 5 26 v5 rfl rfl)
  obtain ⟨a6, n6, c6, rfl⟩ := okWide_slice Try.underlying26 (hval 6 26 v6 rfl rfl)
  obtain ⟨a7, n7, c7, rfl⟩ := okWide_slice Try.underlying26 (hval 7 26 v7 rfl rfl)
  obtain ⟨a8, n8, c8, rfl⟩ := okWide_slice Try.underlying26 (hval 8 26 v8 rfl rfl)
  obtain ⟨a9, n9, c9, rfl⟩ := okWide_slice Try.underlying22 (hval 9 22 v9 rfl rfl)
  have k0 := h0
  have k5 := h5
  have k6 := h6
  have k7 := h7
  have k8 := h8
  have k9 := h9
  have lt0 : ∀ x ∈ p0, x.block < W.heap.size := by obtain ⟨m, hm⟩ := k0; exact DataW.trod_lt m _ _ _ hm
  have lt5 : ∀ x ∈ p5, x.block < W.heap.size := by obtain ⟨m, hm⟩ := k5; exact DataW.trod_lt m _ _ _ hm
  have lt6 : ∀ x ∈ p6, x.block < W.heap.size := by obtain ⟨m, hm⟩ := k6; exact DataW.trod_lt m _ _ _ hm
  have lt7 : ∀ x ∈ p7, x.block < W.heap.size := by obtain ⟨m, hm⟩ := k7; exact DataW.trod_lt m _ _ _ hm
  have lt8 : ∀ x ∈ p8, x.block < W.heap.size := by obtain ⟨m, hm⟩ := k8; exact DataW.trod_lt m _ _ _ hm
  have lt9 : ∀ x ∈ p9, x.block < W.heap.size := by obtain ⟨m, hm⟩ := k9; exact DataW.trod_lt m _ _ _ hm
  obtain ⟨pre, hp⟩ : ∃ zs, RT W.heap.size W a0 n0 zs := by
    obtain ⟨fuel, hf⟩ := h0
    obtain ⟨ao, n, cap, zs, e, hr⟩ := runes_in (v := .slice a0 n0 c0) (by simpa [Value.cells] using hf)
    simp only [Value.slice.injEq] at e
    obtain ⟨rfl, rfl, rfl⟩ := e
    exact ⟨zs, hr⟩
  obtain ⟨tail, ht⟩ : ∃ zs, RT W.heap.size W a9 n9 zs := by
    obtain ⟨fuel, hf⟩ := h9
    obtain ⟨ao, n, cap, zs, e, hr⟩ := runes_in (v := .slice a9 n9 c9) (by simpa [Value.cells] using hf)
    simp only [Value.slice.injEq] at e
    obtain ⟨rfl, rfl, rfl⟩ := e
    exact ⟨zs, hr⟩
  have bools : ∀ {a : Option Addr} {n c : Nat} {d : DataW H} {pl : List MemPlace}, DataW.Trod enc Try.prog W 0 (fun _ => true) true 26 (.slice a n c) d pl → ∃ tb : List Bool, n = tb.length ∧ RBo W.heap.size W a tb := by
    intro a n c d pl h
    obtain ⟨fuel, hf⟩ := h
    obtain ⟨ao, cap, tb, e, hr⟩ := bools_in (v := .slice a n c) (by simpa [Value.cells] using hf)
    simp only [Value.slice.injEq] at e
    obtain ⟨rfl, e, rfl⟩ := e
    exact ⟨tb, e, hr⟩
  obtain ⟨t1, rfl, r1⟩ := bools h5
  obtain ⟨t2, rfl, r2⟩ := bools h6
  obtain ⟨t3, rfl, r3⟩ := bools h7
  obtain ⟨t4, rfl, r4⟩ := bools h8
  clear hA0 hval0
  refine (walk a0 n0 c0 pre x1 x2 x3 x4 a5 c5 t1 a6 c6 t2 a7 c7 t3 a8 c8 t4 a9 n9 c9 tail W hp r1 r2 r3 r4 ht).mono fun e W' ⟨he, bel⟩ => ?_
  subst he
  exact ⟨_, rfl, _, _, _, [], _, [], hW', trodAll_mk1 (shut_bool Try.underlying4 _), (trodAll_cons_mk (Below.trod laidOut (by kernel_rfl) (of_decide_eq_true (by kernel_rfl)) k0 bel lt0) (trodAll_cons_mk (shut_int Try.underlying3 e1) (trodAll_cons_mk (shut_int Try.underlying3 e2) (trodAll_cons_mk (shut_bool Try.underlying4 _) (trodAll_cons_mk (shut_bool Try.underlying4 _) (trodAll_cons_mk (Below.trod laidOut (by kernel_rfl) (of_decide_eq_true (by kernel_rfl)) k5 bel lt5) (trodAll_cons_mk (Below.trod laidOut (by kernel_rfl) (of_decide_eq_true (by kernel_rfl)) k6 bel lt6) (trodAll_cons_mk (Below.trod laidOut (by kernel_rfl) (of_decide_eq_true (by kernel_rfl)) k7 bel lt7) (trodAll_cons_mk (Below.trod laidOut (by kernel_rfl) (of_decide_eq_true (by kernel_rfl)) k8 bel lt8) (trodAll_cons_mk (Below.trod laidOut (by kernel_rfl) (of_decide_eq_true (by kernel_rfl)) k9 bel lt9) trodAll_mk0)))))))))), rfl, bel.frame _, fun h => by cases h⟩

theorem over : Rows.fnBracesReadsBackWhatIsWrittenRow.holds Try.pinned (OpenSpec.ofChange Rows.fnBracesReadsBackWhatIsWrittenSpec) :=
  OpenClaim.holds_of_wide 4 Try.f4 rfl rfl rfl rfl rfl rfl rfl ⟨rfl, rfl, rfl, rfl, rfl⟩ rfl rfl rfl rfl rfl (by kernel_rfl) Try.func4 (by kernel_rfl)
    (of_decide_eq_true (by kernel_rfl)) (by unfold Func.isWrapper; first | (rw [if_pos (by decide +kernel)]; kernel_rfl) | (rw [if_neg (by decide +kernel)]; exact ⟨rfl, rfl⟩))
    (fun os started H enc _ => lifted os started H enc)

/-- THE STATEMENT -/
theorem proved : Rows.FnBracesReadsBackWhatIsWrittenSaid := over
#print axioms proved
end Go.Proofs.Qxb6601151a.back
