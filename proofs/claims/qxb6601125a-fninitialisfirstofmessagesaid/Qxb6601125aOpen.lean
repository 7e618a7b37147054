import Derived.Test.Qxb6601125aBlocks
import Derived.ProofKit
import Derived.OpenShut
import Derived.Deep.SlicePairs
namespace Go.Proofs.Qxb6601125a
open Go.ChangeShapes Go.WideShapes Go.ChangeAt Go.RowKit Go.Deep

theorem Try.cells5 : Try.prog.cellsOf 5 = 1 := by kernel_rfl
theorem Try.cells33 : Try.prog.cellsOf 33 = 1 := by kernel_rfl
theorem Try.cells34 : Try.prog.cellsOf 34 = 1 := by kernel_rfl
theorem Try.cells23 : Try.prog.cellsOf 23 = 1 := by kernel_rfl

section
variable {H : Type} {enc : TypeId × Value → H} {W : World} {base : Nat} {held : Bool}

/-- A slice of bytes that came in. -/
theorem bytes_in {fuel : Nat} {v : Value} {x : DataW H × List MemPlace} (h : DataW.trod enc Try.prog W base (fun _ => true) held fuel 34 [v] = some x) :
    ∃ ao n cap c, v = .slice ao n cap ∧ RB (fun k => k < W.heap.size) W ao n c := by
  rcases open_ints Try.underlying34 Try.underlying5 Try.cells5 h with ⟨hcs, _⟩ | ⟨a, len, cap, zs, hcs, _, hl, hm, hz, _, hcell, _⟩
  · simp only [List.cons.injEq, and_true] at hcs
    exact ⟨none, 0, 0, none, hcs, by simp, by simp, fun h => by omega⟩
  · simp only [List.cons.injEq, and_true] at hcs
    simp only [if_true] at hz
    refine ⟨some a, len, cap, some (zs.take len), hcs, by simp, by simp; omega, fun hn => ?_⟩
    have hs := World.cell?_spot (hcell 0 (by omega))
    obtain ⟨b, o, spot⟩ := a
    have hspot : spot = none := by simpa [Addr.add] using hs
    subst hspot
    refine ⟨b, o, rfl, ?_, fun i hi => ?_⟩
    · have := World.block_lt_of_cell? W _ (hcell 0 (by omega))
      simpa [Addr.add] using this
    · have := hcell i (by omega)
      rw [Addr.add_lit] at this
      rw [this]
      have hi2 : i < zs.length := by omega
      simp [hi, hi2]

/-- A slice of frames that came in. -/
theorem frames_in {fuel : Nat} {v : Value} {x : DataW H × List MemPlace} (h : DataW.trod enc Try.prog W base (fun _ => true) held fuel 23 [v] = some x) :
    ∃ ao n cap l, v = .slice ao n cap ∧ RF (fun k => k < W.heap.size) W ao n l := by
  rcases open_slice_pairs Try.underlying23 Try.underlying37 Try.cells37 rfl rfl Try.cells33 Try.cells34 h with ⟨hcs, _⟩ | ⟨a, len, cap, m, n, V0, V1, D0, D1, P0, P1, hcs, _, hl, hm, hmm, _, hx⟩
  · simp only [List.cons.injEq, and_true] at hcs
    exact ⟨none, 0, 0, [], hcs, rfl, fun h => by omega⟩
  · simp only [List.cons.injEq, and_true] at hcs
    simp only [if_true] at hmm
    subst hmm
    have each : ∀ i, i < len → ∃ q : Hdr × Dt, W.cell? (a.add (i * 2)) = some (.int .u16 q.1.1) ∧ W.cell? (a.add (i * 2 + 1)) = some (.slice q.1.2.1 q.1.2.2.1 q.1.2.2.2) ∧ RH (fun k => k < W.heap.size) W q.1 q.2 := by
      intro i hi
      obtain ⟨c0, c1, t0, t1⟩ := hx i (by omega)
      obtain ⟨f, e0, _, _⟩ := DataW.trod_int Try.underlying33 t0
      simp only [List.cons.injEq, and_true] at e0
      obtain ⟨co, cn, cc, c, e1, hrb⟩ := bytes_in t1
      exact ⟨((f, co, cn, cc), (f, c)), by rw [c0, e0], by rw [c1, e1], rfl, hrb⟩
    obtain ⟨q, hq⟩ := choose_lt each
    refine ⟨some a, len, _, (List.range len).map fun i => (q i).2, hcs, by simp, fun hn => ?_⟩
    have hs := World.cell?_spot (hq 0 hn).1
    have hblt := World.block_lt_of_cell? W _ (hq 0 hn).1
    obtain ⟨b, o, spot⟩ := a
    have hspot : spot = none := by simpa [Addr.add] using hs
    subst hspot
    refine ⟨b, o, (List.range len).map fun i => (q i).1, rfl, by simpa [Addr.add] using hblt, ?_, ?_⟩
    · refine Reads.of (by simp) fun i hi => ?_
      have hi' : i < len := by simpa using hi
      simpa [hi'] using (hq i hi').2.2
    · intro j u hu
      obtain ⟨i, hi, h'⟩ := fcells_get _ j u hu
      have hi' : i < len := by simpa using hi
      rcases h' with ⟨rfl, rfl⟩ | ⟨rfl, rfl⟩
      · have := (hq i hi').1
        rw [Addr.add_lit] at this
        simpa [hi'] using this
      · have := (hq i hi').2.1
        rw [Addr.add_lit] at this
        simpa [hi'] using this

/-- A slice of blocks that came in. -/
theorem blocks_in {fuel : Nat} {v : Value} {x : DataW H × List MemPlace} (h : DataW.trod enc Try.prog W base (fun _ => true) held fuel 22 [v] = some x) :
    ∃ ao n cap D, v = .slice ao n cap ∧ RR (fun k => k < W.heap.size) W ao n D := by
  rcases open_slice1 Try.underlying22 Try.cells23 h with ⟨hcs, _⟩ | ⟨a, len, cap, m, n, V, D, Pl, hcs, _, hl, hm, hmm, _, hx⟩
  · simp only [List.cons.injEq, and_true] at hcs
    exact ⟨none, 0, 0, [], hcs, rfl, fun h => by omega⟩
  · simp only [List.cons.injEq, and_true] at hcs
    simp only [if_true] at hmm
    subst hmm
    have each : ∀ i, i < len → ∃ q : (Option Addr × Nat × Nat) × List Dt, W.cell? (a.add i) = some (.slice q.1.1 q.1.2.1 q.1.2.2) ∧ RF (fun k => k < W.heap.size) W q.1.1 q.1.2.1 q.2 := by
      intro i hi
      obtain ⟨c0, t0⟩ := hx i (by omega)
      obtain ⟨ro, rn, rc, l, e0, hrf⟩ := frames_in t0
      exact ⟨((ro, rn, rc), l), by rw [c0, e0], hrf⟩
    obtain ⟨q, hq⟩ := choose_lt each
    refine ⟨some a, len, _, (List.range len).map fun i => (q i).2, hcs, by simp, fun hn => ?_⟩
    have hs := World.cell?_spot (hq 0 hn).1
    have hblt := World.block_lt_of_cell? W _ (hq 0 hn).1
    obtain ⟨b, o, spot⟩ := a
    have hspot : spot = none := by simpa [Addr.add] using hs
    subst hspot
    refine ⟨b, o, rfl, by simpa [Addr.add] using hblt, fun i hi => ⟨(q i).1.1, (q i).1.2.1, (q i).1.2.2, ?_, ?_⟩⟩
    · have := (hq i hi).1
      rwa [Addr.add_lit] at this
    · simpa [hi] using (hq i hi).2
end
end Go.Proofs.Qxb6601125a
