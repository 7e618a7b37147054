import Derived.Test.Qxb6601125aBlocks
namespace Go.Proofs.Qxb6601125a
open Go.RowKit

theorem RB.lt {ok : Nat → Prop} {w : World} {ao : Option Addr} {n : Nat} {c : Option (List Int)} (h : RB ok w ao n c) : RB (fun k => k < w.heap.size) w ao n c := by
  obtain ⟨h1, h2, h3⟩ := h
  refine ⟨h1, h2, fun hn => ?_⟩
  obtain ⟨b, o, e, hb, hc⟩ := h3 hn
  exact ⟨b, o, e, World.block_lt_of_cell? w ⟨b, o + 0, none⟩ (hc 0 hn), hc⟩

theorem Reads.lt {ok : Nat → Prop} {w : World} : ∀ {hh : List Hdr} {l : List Dt}, Reads ok w hh l → Reads (fun k => k < w.heap.size) w hh l
  | [], [], _ => trivial
  | _ :: _, _ :: _, h => ⟨⟨h.1.1, h.1.2.lt⟩, Reads.lt h.2⟩
  | [], _ :: _, h => h.elim
  | _ :: _, [], h => h.elim

theorem RF.lt {ok : Nat → Prop} {w : World} {ao : Option Addr} {n : Nat} {l : List Dt} (h : RF ok w ao n l) : RF (fun k => k < w.heap.size) w ao n l := by
  obtain ⟨h2, h3⟩ := h
  refine ⟨h2, fun hn => ?_⟩
  obtain ⟨b, o, hh, e, hb, hr, hc⟩ := h3 hn
  have hl := hr.length
  exact ⟨b, o, hh, e, World.block_lt_of_cell? w ⟨b, o + 0 * 2, none⟩ (hc _ _ (fcells_even hh 0 (by omega))), hr.lt, hc⟩

theorem RR.lt {ok : Nat → Prop} {w : World} {ao : Option Addr} {n : Nat} {D : List (List Dt)} (h : RR ok w ao n D) : RR (fun k => k < w.heap.size) w ao n D := by
  obtain ⟨h2, h3⟩ := h
  refine ⟨h2, fun hn => ?_⟩
  obtain ⟨b, o, e, hb, hc⟩ := h3 hn
  refine ⟨b, o, e, ?_, fun i hi => ?_⟩
  · obtain ⟨ro, rn, rc, g1, _⟩ := hc 0 hn
    exact World.block_lt_of_cell? w ⟨b, o + 0, none⟩ g1
  · obtain ⟨ro, rn, rc, g1, g2⟩ := hc i hi
    exact ⟨ro, rn, rc, g1, g2.lt⟩

theorem RF.later {ok : Nat → Prop} {w w' : World} {ao : Option Addr} {n : Nat} {l : List Dt} (h : RF ok w ao n l) (hb : Below w.heap.size w w') : RF (fun k => k < w'.heap.size) w' ao n l :=
  (h.carry (SameOn.all hb)).lt

theorem RR.later {ok : Nat → Prop} {w w' : World} {ao : Option Addr} {n : Nat} {D : List (List Dt)} (h : RR ok w ao n D) (hb : Below w.heap.size w w') : RR (fun k => k < w'.heap.size) w' ao n D :=
  (h.carry (SameOn.all hb)).lt

end Go.Proofs.Qxb6601125a
