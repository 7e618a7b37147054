/-
  THE READING OF BYTES, FRAMES AND BLOCKS OF FRAMES IN MEMORY, said of cells; no walk here.
-/
import Derived.WalkKit
import Derived.WalkSpells
import Derived.WalkLawsBesides
namespace Go.Proofs.Qxb6601125a
open Go.RowKit

/-- The blocks that 'ok' names are in w' as they were in w. -/
def SameOn (ok : Nat → Prop) (w w' : World) : Prop := ∀ k, ok k → k < w.heap.size → w'.heap[k]? = w.heap[k]?

theorem SameOn.cell {ok : Nat → Prop} {w w' : World} (h : SameOn ok w w') {b o : Nat} {v : Value} (hb : ok b) (hc : w.cell? ⟨b, o, none⟩ = some v) : w'.cell? ⟨b, o, none⟩ = some v := by
  have hlt := World.block_lt_of_cell? w ⟨b, o, none⟩ hc
  rw [← hc]
  exact World.cell?_of_block (w := w) (h b hb hlt)

theorem SameOn.below {B : Nat} {w w' : World} (h : Below B w w') : SameOn (fun k => k < B) w w' := fun k hk _ => h.block k hk

theorem SameOn.mono {ok ok' : Nat → Prop} {w w' : World} (h : SameOn ok w w') (hm : ∀ k, ok' k → ok k) : SameOn ok' w w' := fun k hk hl => h k (hm k hk) hl

theorem SameOn.all {ok : Nat → Prop} {w w' : World} (h : Below w.heap.size w w') : SameOn ok w w' := fun k _ hl => h.block k hl

/-- A frame's content: nil, or its bytes. A frame: its flags and its content. -/
abbrev Dt := Int × Option (List Int)
/-- What a frame's two cells hold: the flags; the content's header. -/
abbrev Hdr := Int × (Option Addr × Nat × Nat)

/-- The slice (ao, n) of bytes reads as c. -/
def RB (ok : Nat → Prop) (w : World) (ao : Option Addr) (n : Nat) (c : Option (List Int)) : Prop :=
  (ao = none ↔ c = none) ∧ n = (c.getD []).length ∧
  (0 < n → ∃ b o, ao = some ⟨b, o, none⟩ ∧ ok b ∧ ∀ i, i < n → w.cell? ⟨b, o + i, none⟩ = some (.int .u8 ((c.getD []).getD i 0)))

theorem RB.carry {ok : Nat → Prop} {w w' : World} {ao : Option Addr} {n : Nat} {c : Option (List Int)} (h : RB ok w ao n c) (hs : SameOn ok w w') : RB ok w' ao n c := by
  obtain ⟨h1, h2, h3⟩ := h
  refine ⟨h1, h2, fun hn => ?_⟩
  obtain ⟨b, o, e, hb, hc⟩ := h3 hn
  exact ⟨b, o, e, hb, fun i hi => hs.cell hb (hc i hi)⟩

theorem RB.mono {ok ok' : Nat → Prop} {w : World} {ao : Option Addr} {n : Nat} {c : Option (List Int)} (h : RB ok w ao n c) (hm : ∀ k, ok k → ok' k) : RB ok' w ao n c := by
  obtain ⟨h1, h2, h3⟩ := h
  refine ⟨h1, h2, fun hn => ?_⟩
  obtain ⟨b, o, e, hb, hc⟩ := h3 hn
  exact ⟨b, o, e, hm b hb, hc⟩

/-- One frame: the header reads as the datum. -/
def RH (ok : Nat → Prop) (w : World) (h : Hdr) (d : Dt) : Prop := h.1 = d.1 ∧ RB ok w h.2.1 h.2.2.1 d.2

def Reads (ok : Nat → Prop) (w : World) : List Hdr → List Dt → Prop
  | [], [] => True
  | h :: hs, d :: l => RH ok w h d ∧ Reads ok w hs l
  | _, _ => False

theorem RH.carry {ok : Nat → Prop} {w w' : World} {h : Hdr} {d : Dt} (k : RH ok w h d) (hs : SameOn ok w w') : RH ok w' h d := ⟨k.1, k.2.carry hs⟩
theorem RH.mono {ok ok' : Nat → Prop} {w : World} {h : Hdr} {d : Dt} (k : RH ok w h d) (hm : ∀ k, ok k → ok' k) : RH ok' w h d := ⟨k.1, k.2.mono hm⟩

theorem Reads.carry {ok : Nat → Prop} {w w' : World} (hs : SameOn ok w w') : ∀ {hh : List Hdr} {l : List Dt}, Reads ok w hh l → Reads ok w' hh l
  | [], [], _ => trivial
  | _ :: _, _ :: _, h => ⟨h.1.carry hs, Reads.carry hs h.2⟩
  | [], _ :: _, h => h.elim
  | _ :: _, [], h => h.elim

theorem Reads.mono {ok ok' : Nat → Prop} {w : World} (hm : ∀ k, ok k → ok' k) : ∀ {hh : List Hdr} {l : List Dt}, Reads ok w hh l → Reads ok' w hh l
  | [], [], _ => trivial
  | _ :: _, _ :: _, h => ⟨h.1.mono hm, Reads.mono hm h.2⟩
  | [], _ :: _, h => h.elim
  | _ :: _, [], h => h.elim

theorem Reads.append {ok : Nat → Prop} {w : World} : ∀ {h1 : List Hdr} {l1 : List Dt} {h2 : List Hdr} {l2 : List Dt}, Reads ok w h1 l1 → Reads ok w h2 l2 → Reads ok w (h1 ++ h2) (l1 ++ l2)
  | [], [], _, _, _, k => k
  | _ :: _, _ :: _, _, _, h, k => ⟨h.1, Reads.append h.2 k⟩
  | [], _ :: _, _, _, h, _ => h.elim
  | _ :: _, [], _, _, h, _ => h.elim

theorem Reads.length {ok : Nat → Prop} {w : World} : ∀ {hh : List Hdr} {l : List Dt}, Reads ok w hh l → hh.length = l.length
  | [], [], _ => rfl
  | _ :: _, _ :: _, h => by simp [Reads.length h.2]
  | [], _ :: _, h => h.elim
  | _ :: _, [], h => h.elim

/-- The zero header and datum, for what lies beyond a list's end. -/
def hz : Hdr := (0, none, 0, 0)
def dz : Dt := (0, none)

theorem Reads.at {ok : Nat → Prop} {w : World} : ∀ {hh : List Hdr} {l : List Dt}, Reads ok w hh l → ∀ i, i < l.length → RH ok w (hh.getD i hz) (l.getD i dz)
  | [], [], _, i, hi => by simp at hi
  | _ :: _, _ :: _, h, 0, _ => by simpa using h.1
  | _ :: _, _ :: _, h, i + 1, hi => by simpa using Reads.at h.2 i (by simpa using hi)
  | [], _ :: _, h, _, _ => h.elim
  | _ :: _, [], h, _, _ => h.elim

theorem Reads.of {ok : Nat → Prop} {w : World} : ∀ {hh : List Hdr} {l : List Dt}, hh.length = l.length → (∀ i, i < l.length → RH ok w (hh.getD i hz) (l.getD i dz)) → Reads ok w hh l
  | [], [], _, _ => trivial
  | h :: hh, d :: l, e, k => ⟨by simpa using k 0 (by simp), Reads.of (by simpa using e) fun i hi => by simpa using k (i + 1) (by simpa using hi)⟩
  | [], _ :: _, e, _ => by simp at e
  | _ :: _, [], e, _ => by simp at e

/-- The two cells of a frame; the cells of a list of frames. -/
def hcells (h : Hdr) : List Value := [.int .u16 h.1, .slice h.2.1 h.2.2.1 h.2.2.2]
def fcells : List Hdr → List Value
  | [] => []
  | h :: hs => .int .u16 h.1 :: .slice h.2.1 h.2.2.1 h.2.2.2 :: fcells hs

theorem fcells_length : ∀ hs : List Hdr, (fcells hs).length = hs.length * 2
  | [] => rfl
  | _ :: hs => by simp [fcells, fcells_length hs]; omega

theorem fcells_append : ∀ (a b : List Hdr), fcells (a ++ b) = fcells a ++ fcells b
  | [], _ => rfl
  | _ :: a, b => by simp [fcells, fcells_append a b]

theorem fcells_even : ∀ (hs : List Hdr) (i : Nat), i < hs.length → (fcells hs)[i * 2]? = some (.int .u16 (hs.getD i hz).1)
  | [], i, h => by simp at h
  | _ :: _, 0, _ => by simp [fcells]
  | _ :: hs, i + 1, h => by
    have := fcells_even hs i (by simpa using h)
    rw [show (i + 1) * 2 = i * 2 + 1 + 1 by omega]
    simpa [fcells] using this

theorem fcells_odd : ∀ (hs : List Hdr) (i : Nat), i < hs.length → (fcells hs)[i * 2 + 1]? = some (.slice (hs.getD i hz).2.1 (hs.getD i hz).2.2.1 (hs.getD i hz).2.2.2)
  | [], i, h => by simp at h
  | _ :: _, 0, _ => by simp [fcells]
  | _ :: hs, i + 1, h => by
    have := fcells_odd hs i (by simpa using h)
    rw [show (i + 1) * 2 + 1 = i * 2 + 1 + 1 + 1 by omega]
    simpa [fcells] using this

theorem fcells_set : ∀ (hs : List Hdr) (i : Nat) (h : Hdr), ((fcells hs).set (i * 2) (.int .u16 h.1)).set (i * 2 + 1) (.slice h.2.1 h.2.2.1 h.2.2.2) = fcells (hs.set i h)
  | [], _, _ => by simp [fcells]
  | _ :: _, 0, _ => by simp [fcells]
  | _ :: hs, i + 1, h => by
    have := fcells_set hs i h
    rw [show (i + 1) * 2 = i * 2 + 1 + 1 by omega]
    simpa [fcells] using this

/-- The flags alone. -/
theorem fcells_set0 : ∀ (hs : List Hdr) (i : Nat) (f : Int), (fcells hs).set (i * 2) (.int .u16 f) = fcells (hs.set i (f, (hs.getD i hz).2))
  | [], _, _ => by simp [fcells]
  | _ :: _, 0, _ => by simp [fcells]
  | _ :: hs, i + 1, f => by
    have := fcells_set0 hs i f
    rw [show (i + 1) * 2 = i * 2 + 1 + 1 by omega]
    simpa [fcells] using this

theorem fcells_one : ∀ (hs : List Hdr), ∀ u ∈ fcells hs, u.oneCell' = true
  | [], u, h => by simp [fcells] at h
  | _ :: hs, u, h => by
    simp only [fcells, List.mem_cons] at h
    rcases h with rfl | rfl | h
    · rfl
    · rfl
    · exact fcells_one hs u h

theorem fcells_get (hs : List Hdr) (j : Nat) (u : Value) (h : (fcells hs)[j]? = some u) : ∃ i, i < hs.length ∧ ((j = i * 2 ∧ u = .int .u16 (hs.getD i hz).1) ∨ (j = i * 2 + 1 ∧ u = .slice (hs.getD i hz).2.1 (hs.getD i hz).2.2.1 (hs.getD i hz).2.2.2)) := by
  have hl := (List.getElem?_eq_some_iff.1 h).1
  rw [fcells_length] at hl
  refine ⟨j / 2, by omega, ?_⟩
  rcases Nat.mod_two_eq_zero_or_one j with e | e
  · left
    have ej : j = j / 2 * 2 := by omega
    have := fcells_even hs (j / 2) (by omega)
    rw [← ej, h] at this
    exact ⟨ej, Option.some.inj this⟩
  · right
    have ej : j = j / 2 * 2 + 1 := by omega
    have := fcells_odd hs (j / 2) (by omega)
    rw [← ej, h] at this
    exact ⟨ej, Option.some.inj this⟩

/-- n zero frames, as 'make' lays them. -/
theorem made_frames (n : Nat) : (madeCells #[Value.int .u16 0, Value.slice none 0 0] (n * 2)).toList = fcells (List.replicate n hz) := by
  apply List.ext_getElem?
  intro j
  by_cases hj : j < n * 2
  · rcases Nat.mod_two_eq_zero_or_one j with e | e
    · have ej : j = j / 2 * 2 := by omega
      have := fcells_even (List.replicate n hz) (j / 2) (by simp; omega)
      rw [← ej] at this
      rw [this]
      have hd : (List.replicate n hz).getD (j / 2) hz = hz := by
        rw [List.getD_eq_getElem?_getD, List.getElem?_replicate]; split <;> rfl
      rw [hd]
      simp [madeCells, hj, e, hz]
    · have ej : j = j / 2 * 2 + 1 := by omega
      have := fcells_odd (List.replicate n hz) (j / 2) (by simp; omega)
      rw [← ej] at this
      rw [this]
      have hd : (List.replicate n hz).getD (j / 2) hz = hz := by
        rw [List.getD_eq_getElem?_getD, List.getElem?_replicate]; split <;> rfl
      rw [hd]
      simp [madeCells, hj, e, hz]
  · rw [List.getElem?_eq_none (by simp [size_madeCells]; omega), List.getElem?_eq_none (by rw [fcells_length]; simp; omega)]

/-- The slice (ao, n) of frames (of either type) reads as l. -/
def RF (ok : Nat → Prop) (w : World) (ao : Option Addr) (n : Nat) (l : List Dt) : Prop :=
  n = l.length ∧ (0 < n → ∃ b o hs, ao = some ⟨b, o, none⟩ ∧ ok b ∧ Reads ok w hs l ∧ ∀ j u, (fcells hs)[j]? = some u → w.cell? ⟨b, o + j, none⟩ = some u)

theorem RF.carry {ok : Nat → Prop} {w w' : World} {ao : Option Addr} {n : Nat} {l : List Dt} (h : RF ok w ao n l) (hs : SameOn ok w w') : RF ok w' ao n l := by
  obtain ⟨h2, h3⟩ := h
  refine ⟨h2, fun hn => ?_⟩
  obtain ⟨b, o, hh, e, hb, hr, hc⟩ := h3 hn
  exact ⟨b, o, hh, e, hb, hr.carry hs, fun j u hu => hs.cell hb (hc j u hu)⟩

theorem RF.mono {ok ok' : Nat → Prop} {w : World} {ao : Option Addr} {n : Nat} {l : List Dt} (h : RF ok w ao n l) (hm : ∀ k, ok k → ok' k) : RF ok' w ao n l := by
  obtain ⟨h2, h3⟩ := h
  refine ⟨h2, fun hn => ?_⟩
  obtain ⟨b, o, hh, e, hb, hr, hc⟩ := h3 hn
  exact ⟨b, o, hh, e, hm b hb, hr.mono hm, hc⟩

/-- The slice (ao, n) of blocks of frames reads as D. -/
def RR (ok : Nat → Prop) (w : World) (ao : Option Addr) (n : Nat) (D : List (List Dt)) : Prop :=
  n = D.length ∧ (0 < n → ∃ b o, ao = some ⟨b, o, none⟩ ∧ ok b ∧ ∀ i, i < n → ∃ ro rn rc, w.cell? ⟨b, o + i, none⟩ = some (.slice ro rn rc) ∧ RF ok w ro rn (D.getD i []))

theorem RR.carry {ok : Nat → Prop} {w w' : World} {ao : Option Addr} {n : Nat} {D : List (List Dt)} (h : RR ok w ao n D) (hs : SameOn ok w w') : RR ok w' ao n D := by
  obtain ⟨h2, h3⟩ := h
  refine ⟨h2, fun hn => ?_⟩
  obtain ⟨b, o, e, hb, hc⟩ := h3 hn
  refine ⟨b, o, e, hb, fun i hi => ?_⟩
  obtain ⟨ro, rn, rc, g1, g2⟩ := hc i hi
  exact ⟨ro, rn, rc, hs.cell hb g1, g2.carry hs⟩

theorem RR.mono {ok ok' : Nat → Prop} {w : World} {ao : Option Addr} {n : Nat} {D : List (List Dt)} (h : RR ok w ao n D) (hm : ∀ k, ok k → ok' k) : RR ok' w ao n D := by
  obtain ⟨h2, h3⟩ := h
  refine ⟨h2, fun hn => ?_⟩
  obtain ⟨b, o, e, hb, hc⟩ := h3 hn
  refine ⟨b, o, e, hm b hb, fun i hi => ?_⟩
  obtain ⟨ro, rn, rc, g1, g2⟩ := hc i hi
  exact ⟨ro, rn, rc, g1, g2.mono hm⟩

/-- Frame i of a slice of frames: its two cells. -/
theorem RF.at {ok : Nat → Prop} {w : World} {ao : Option Addr} {n : Nat} {l : List Dt} (h : RF ok w ao n l) {i : Nat} (hi : i < n) :
    ∃ b o co cn cc, ao = some ⟨b, o, none⟩ ∧ ok b ∧ w.cell? ⟨b, o + i * 2, none⟩ = some (.int .u16 (l.getD i dz).1) ∧ w.cell? ⟨b, o + i * 2 + 1, none⟩ = some (.slice co cn cc) ∧ RB ok w co cn (l.getD i dz).2 := by
  obtain ⟨h2, h3⟩ := h
  obtain ⟨b, o, hh, e, hb, hr, hc⟩ := h3 (by omega)
  have hl := hr.length
  have g := hr.at i (by omega)
  refine ⟨b, o, (hh.getD i hz).2.1, (hh.getD i hz).2.2.1, (hh.getD i hz).2.2.2, e, hb, ?_, ?_, g.2⟩
  · rw [← g.1]; exact hc _ _ (fcells_even hh i (by omega))
  · rw [Nat.add_assoc]; exact hc _ _ (fcells_odd hh i (by omega))

theorem RR.at {ok : Nat → Prop} {w : World} {ao : Option Addr} {n : Nat} {D : List (List Dt)} (h : RR ok w ao n D) {i : Nat} (hi : i < n) :
    ∃ b o ro rn rc, ao = some ⟨b, o, none⟩ ∧ ok b ∧ w.cell? ⟨b, o + i, none⟩ = some (.slice ro rn rc) ∧ RF ok w ro rn (D.getD i []) := by
  obtain ⟨h2, h3⟩ := h
  obtain ⟨b, o, e, hb, hc⟩ := h3 (by omega)
  obtain ⟨ro, rn, rc, g1, g2⟩ := hc i hi
  exact ⟨b, o, ro, rn, rc, e, hb, g1, g2⟩

end Go.Proofs.Qxb6601125a
