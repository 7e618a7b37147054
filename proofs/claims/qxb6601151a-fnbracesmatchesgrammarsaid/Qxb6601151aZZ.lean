import Derived.Test.Qxb6601151aBraces
namespace Go.Proofs.Qxb6601151a
open Go.RowKit

/-- The slice (so, zs.length) of runes reads as zs. -/
def RI (w : World) (so : Option Addr) (zs : List Int) : Prop :=
  0 < zs.length → ∃ b o, so = some ⟨b, o, none⟩ ∧ ∀ i, i < zs.length → w.cell? ⟨b, o + i, none⟩ = some (.int .i32 (zs.getD i 0))

theorem RI.lt {w : World} {so : Option Addr} {zs : List Int} (h : RI w so zs) {b o : Nat} (e : so = some ⟨b, o, none⟩) (hn : 0 < zs.length) : b < w.heap.size := by
  obtain ⟨b', o', e', hc⟩ := h hn
  rw [e] at e'
  simp only [Option.some.injEq, Addr.mk.injEq, and_true] at e'
  rw [e'.1]
  exact World.block_lt_of_cell? w ⟨b', o' + 0, none⟩ (hc 0 hn)

theorem RI.runes {w w' : World} {so : Option Addr} {zs : List Int} (h : RI w so zs) (hb : Below w.heap.size w w') : Runes w.heap.size w' so zs := by
  intro hn
  obtain ⟨b, o, e, hc⟩ := h hn
  have hlt := h.lt e hn
  exact ⟨b, o, e, by omega, fun i hi => (hb.cell (p := ⟨b, o + i, none⟩) hlt).trans (hc i hi)⟩

def ZZOut (r : Int × Int × Bool × Nat) (w : World) (e : Ending) (w' : World) : Prop :=
  e = .returned (.tuple #[.int .i64 r.1, .int .i64 r.2.1, .bool r.2.2.1, .int .i64 r.2.2.2]) ∧ Below w.heap.size w w'

theorem SG.below {w w1 w2 : World} (h : SG w.heap.size w1 w2) (hb : Below w.heap.size w w1) : Below w.heap.size w w2 :=
  hb.trans ⟨h.os, h.tape, h.output, h.size, fun k hk => h.block k (by have := hb.size; omega) (by omega)⟩

set_option maxHeartbeats 1000000 in
theorem zzbraces_any (so : Option Addr) (cap : Nat) (zs : List Int) (pos : Nat) (w : World) (h : RI w so zs) (hb : pos < 9223372036854775807) (hn : zs.length ≤ 1048576) :
    Calls Try.prog 10 #[.slice so zs.length cap, .int .i64 pos] w (ZZOut (bracesAt zs (pos + 1)) w) := by
  have hal : ∀ xs : List Value, PS w.heap.size so cap zs pos (w.alloc (.cells (.slice so zs.length cap :: .int .i64 pos :: xs).toArray 65)) := fun xs => by
    have hh := heap_alloc_new w (.cells (.slice so zs.length cap :: .int .i64 pos :: xs).toArray 65)
    refine ⟨?_, ?_, frozen_of_row _ _ _ _ _ hh, h.runes ((Below.refl _ _).alloc (Nat.le_refl _) _)⟩
    · rw [cell_of_row _ _ _ _ _ _ hh]; rfl
    · rw [cell_of_row _ _ _ _ _ _ hh]; rfl
  have HAL : Hid (∀ xs : List Value, PS w.heap.size so cap zs pos (w.alloc (.cells (.slice so zs.length cap :: .int .i64 pos :: xs).toArray 65))) := hal
  clear hal
  go_enter Try.func10, Try.ntmps10
  go_wp2_with fail
  refine (braces_any w.heap.size so cap zs pos _ (HAL.out _) hb hn).mono ?_
  rintro e w2 ⟨rfl, hps, hsg⟩
  have hbel : Below w.heap.size w w2 := hsg.below ((Below.refl _ _).alloc (Nat.le_refl _) _)
  clear hsg
  have g0 := hps.pos
  generalize bracesAt zs (pos + 1) = r at *
  go_wp2
  go_quiet (fail)
  go_wp2
  exact bodyPost_ret (v := .tuple #[.int .i64 r.1, .int .i64 r.2.1, .bool r.2.2.1, .int .i64 r.2.2.2]) (by simp [results, Try.results10, go_sem]) rfl ⟨rfl, ⟨hbel.os, hbel.tape, hbel.output, hbel.size, hbel.block⟩⟩
end Go.Proofs.Qxb6601151a
