import Derived.Test.Qxb6601125aMsgAny
namespace Go.Proofs.Qxb6601125a
open Go.RowKit

/-- '^x' on a uint16, as the model has it. -/
abbrev flg (x : Int) : Int := bits .xor .u16 65535 x
def flipH (h : Hdr) : Hdr := (flg h.1, h.2)
def flipD (d : Dt) : Dt := (flg d.1, d.2)

/-- The first k turned. -/
def flipTo (hs : List Hdr) (k : Nat) : List Hdr := (hs.take k).map flipH ++ hs.drop k

theorem flipTo_zero (hs : List Hdr) : flipTo hs 0 = hs := by simp [flipTo]
theorem flipTo_all (hs : List Hdr) : flipTo hs hs.length = hs.map flipH := by simp [flipTo]
theorem flipTo_length (hs : List Hdr) (k : Nat) : (flipTo hs k).length = hs.length := by simp [flipTo]; omega
theorem flipTo_at (hs : List Hdr) (k : Nat) (hk : k < hs.length) : (flipTo hs k).getD k hz = hs.getD k hz := by
  unfold flipTo
  rw [List.getD_eq_getElem?_getD, List.getD_eq_getElem?_getD, List.getElem?_append_right (by simp; omega)]
  have e : k - ((hs.take k).map flipH).length = 0 := by simp; omega
  rw [e, List.getElem?_drop]
  simp
theorem flipTo_succ (hs : List Hdr) (k : Nat) (hk : k < hs.length) : (flipTo hs k).set k (flipH (hs.getD k hz)) = flipTo hs (k + 1) := by
  unfold flipTo
  rw [List.set_append_right _ _ (by simp; omega)]
  have e : k - ((hs.take k).map flipH).length = 0 := by simp; omega
  have e2 : hs.getD k hz = hs[k] := by simp [hk]
  rw [e, List.drop_eq_getElem_cons hk, List.set_cons_zero, List.take_add_one, List.getElem?_eq_getElem hk, e2, List.map_append]
  simp only [Option.toList_some, List.map_cons, List.map_nil, List.append_assoc, List.singleton_append]

theorem Reads.flip {ok : Nat → Prop} {w : World} : ∀ {hh : List Hdr} {l : List Dt}, Reads ok w hh l → Reads ok w (hh.map flipH) (l.map flipD)
  | [], [], _ => trivial
  | _ :: _, _ :: _, h => ⟨⟨by show flg _ = flg _; rw [h.1.1], h.1.2⟩, Reads.flip h.2⟩
  | [], _ :: _, h => h.elim
  | _ :: _, [], h => h.elim

/-- Nothing but block g has turned. -/
structure SameBut (g : Nat) (w w' : World) : Prop where
  os : w'.os = w.os
  tape : w'.tape = w.tape
  output : w'.output = w.output
  size : w'.heap.size = w.heap.size
  block : ∀ k, k ≠ g → w'.heap[k]? = w.heap[k]?

theorem SameBut.refl (g : Nat) (w : World) : SameBut g w w := ⟨rfl, rfl, rfl, rfl, fun _ _ => rfl⟩
theorem SameBut.setCell {g : Nat} {w w' : World} (h : SameBut g w w') (o : Nat) (v : Value) : SameBut g w (w'.setCell ⟨g, o, none⟩ v) :=
  ⟨h.os, h.tape, h.output, by rw [size_setCell]; exact h.size, fun k hk => (Below.heap_setCell _ _ _ _ hk).trans (h.block k hk)⟩
theorem SameBut.below {g B : Nat} {w w' : World} (h : SameBut g w w') (hg : B ≤ g) : Below B w w' := ⟨h.os, h.tape, h.output, Nat.le_of_eq h.size.symm, fun k hk => h.block k (by omega)⟩
theorem SameBut.on {g : Nat} {ok : Nat → Prop} {w w' : World} (h : SameBut g w w') (hg : ∀ k, ok k → k ≠ g) : SameOn ok w w' := fun k hk _ => h.block k (hg k hk)

/-- What is known behind message: the row m that the law then turns. -/
def Flippable (w2 : World) (nf : Nat) (po : Option Addr) (D : List (List Dt)) (qo : Option Addr) (nl : Nat) (L : List Dt) (mo : Option Addr) (N mc : Nat) (g : Nat) (hs : List Hdr) (w6 : World) : Prop :=
  (0 < N → w2.heap.size ≤ g ∧ mo = some ⟨g, 0, none⟩ ∧ w6.ownsRow w2.heap.size 36 2 (.slice (some ⟨g, 0, none⟩) N mc) N (fcells hs) ∧ hs.length = N ∧
    ((nf = 0 ∧ qo = some ⟨g, 0, none⟩ ∧ nl = N ∧ Reads (fun k => k ≠ g) w6 hs L) ∨ (0 < nf ∧ RR (fun k => k ≠ g) w6 po nf D ∧ RF (fun k => k ≠ g) w6 qo nl L))) ∧
  (N = 0 → nf = 0 → nl = 0) ∧ RR (fun k => k < w6.heap.size) w6 po nf D ∧ RF (fun k => k < w6.heap.size) w6 qo nl L ∧ Below w2.heap.size w2 w6

def MsgRow (w2 : World) (nf : Nat) (po : Option Addr) (D : List (List Dt)) (qo : Option Addr) (nl : Nat) (L : List Dt) (e : Ending) (w6 : World) : Prop :=
  ∃ mo N mc g hs, e = .returned (.slice mo N mc) ∧ N ≤ 17825792 ∧ Flippable w2 nf po D qo nl L mo N mc g hs w6

/-- Behind k rounds. -/
def FI (w2 : World) (N mc g : Nat) (hs : List Hdr) (w6 : World) (k : Nat) (wr : World) : Prop :=
  (0 < N → wr.ownsRow w2.heap.size 36 2 (.slice (some ⟨g, 0, none⟩) N mc) N (fcells (flipTo hs k))) ∧ SameBut g w6 wr ∧ (N = 0 → wr = w6)

theorem FI.step {w2 w6 wr : World} {N mc g k : Nat} {hs : List Hdr} (h : FI w2 N mc g hs w6 k wr) (hk : k < N) (hl : hs.length = N) :
    FI w2 N mc g hs w6 (k + 1) (wr.setCell ⟨g, k * 2, none⟩ (.int .u16 (flg (hs.getD k hz).1))) := by
  obtain ⟨h1, h2, h3⟩ := h
  refine ⟨fun hn => ?_, h2.setCell _ _, fun h0 => by omega⟩
  have := ((h1 hn).stored (k * 2) (.int .u16 (flg (hs.getD k hz).1))).1
  rw [fcells_set0, flipTo_at hs k (by omega)] at this
  have e : (flg (hs.getD k hz).1, (hs.getD k hz).2) = flipH (hs.getD k hz) := rfl
  rw [e, flipTo_succ hs k (by omega)] at this
  exact this

/-- .. the cells that the round reads and writes. -/
theorem FI.cell {w2 w6 wr : World} {N mc g k : Nat} {hs : List Hdr} (h : FI w2 N mc g hs w6 k wr) (hk : k < N) (hl : hs.length = N) :
    wr.cell? ⟨g, k * 2, none⟩ = some (.int .u16 (hs.getD k hz).1) ∧ wr.frozen? ⟨g, k * 2, none⟩ = false := by
  have h1 := h.1 (by omega)
  refine ⟨?_, h1.frozenAt _⟩
  rw [h1.cellAt (k * 2) (by omega), fcells_even _ k (by rw [flipTo_length]; omega), flipTo_at hs k (by omega)]

/-- Behind the loop: all read as the law wants it. -/
theorem FI.done {w2 w6 wr : World} {nf : Nat} {po : Option Addr} {D : List (List Dt)} {qo : Option Addr} {nl : Nat} {L : List Dt} {mo : Option Addr} {N mc g : Nat} {hs : List Hdr}
    (hf : Flippable w2 nf po D qo nl L mo N mc g hs w6) (h : FI w2 N mc g hs w6 N wr) :
    Below w2.heap.size w2 wr ∧ RR (fun k => k < wr.heap.size) wr po nf D ∧ RF (fun k => k < wr.heap.size) wr qo nl (if nf = 0 then L.map flipD else L) := by
  obtain ⟨f1, f2, f3, f4, f5⟩ := hf
  obtain ⟨h1, h2, h3⟩ := h
  rcases Nat.eq_zero_or_pos N with h0 | h0
  · have e := h3 h0
    subst e
    refine ⟨f5, f3, ?_⟩
    by_cases hn : nf = 0
    · have hl0 := f2 h0 hn
      have hL : L = [] := List.eq_nil_of_length_eq_zero (by rw [← f4.1]; exact hl0)
      subst hL
      rw [if_pos hn]
      exact f4
    · rw [if_neg hn]
      exact f4
  · obtain ⟨hg, hm, hown, hlen, hcase⟩ := f1 h0
    have hb : Below w2.heap.size w2 wr := f5.trans (h2.below hg)
    have hown' := h1 h0
    rcases hcase with ⟨rfl, rfl, rfl, hrd⟩ | ⟨hpos, hrr, hrf⟩
    · have hD : D = [] := List.eq_nil_of_length_eq_zero f3.1.symm
      subst hD
      refine ⟨hb, ⟨rfl, fun h => by omega⟩, ?_⟩
      rw [if_pos rfl]
      have hrd' := (hrd.carry (h2.on fun k hk => hk)).flip
      rw [← hlen, flipTo_all, hlen] at hown'
      have hc : ∀ j u, (fcells (hs.map flipH))[j]? = some u → wr.cell? ⟨g, 0 + j, none⟩ = some u := fun j u hu => by
        have hj := (List.getElem?_eq_some_iff.1 hu).1
        rw [Nat.zero_add, hown'.cellAt j (by rw [← hown'.1]; exact hj)]
        exact hu
      exact ⟨by rw [List.length_map]; exact f4.1, fun _ => ⟨g, 0, _, rfl, (hown'.lt g rfl).2, hrd'.lt, hc⟩⟩
    · refine ⟨hb, (hrr.carry (h2.on fun k hk => hk)).lt, ?_⟩
      rw [if_neg (by omega)]
      exact (hrf.carry (h2.on fun k hk => hk)).lt

theorem ownsRow_base {w : World} {base base' : Nat} {e : TypeId} {size : Nat} {v : Value} {n : Nat} {xs : List Value} (h : w.ownsRow base e size v n xs) (hb : base' ≤ base) : w.ownsRow base' e size v n xs := by
  refine ⟨h.1, ?_⟩
  rcases h.2 with h' | ⟨g', c', cur, e1, e2, r⟩
  · exact .inl h'
  · exact .inr ⟨g', c', cur, e1, Nat.le_trans hb e2, r⟩

theorem zzmessage_row (lo : Option Addr) (po : Option Addr) (nf pc : Nat) (qo : Option Addr) (nl qc : Nat) (D : List (List Dt)) (L : List Dt) (w2 w3 w4 : World) (hb3 : Below w2.heap.size w2 w3)
    (hfo : FramesOut w3 lo L (.returned (.slice qo nl qc)) w4) (hrr : RR (fun k => k < w4.heap.size) w4 po nf D) (hrf : RF (fun k => k < w4.heap.size) w4 qo nl L)
    (b0 : nf ≤ 16) (b1 : nl ≤ 1048576) (hm : ∀ i, i < D.length → (D.getD i []).length ≤ 1048576) :
    Calls Try.prog 12 #[.slice po nf pc, .slice qo nl qc] w4 (MsgRow w2 nf po D qo nl L) := by
  rcases Nat.eq_zero_or_pos nf with h0 | h0
  · subst h0
    refine (zzmessage_none po pc qo nl qc w4).mono fun e w6 ⟨he, hb6⟩ => ?_
    subst he
    rcases hfo with ⟨_, he, hw⟩ | ⟨hs, he, _, hown, hrd, hb4⟩
    · simp only [Ending.returned.injEq, Value.slice.injEq] at he
      obtain ⟨rfl, rfl, rfl⟩ := he
      subst hw
      exact ⟨none, 0, 0, 0, [], rfl, by omega, fun h => by omega, fun _ _ => rfl, hrr.later hb6, hrf.later hb6, hb3.trans (hb6.mono hb3.size)⟩
    · simp only [Ending.returned.injEq, Value.slice.injEq] at he
      obtain ⟨rfl, rfl, rfl⟩ := he
      have hsz3 := hb3.size
      have hown' := hown.kept (grown_of_below hb6) (.inr (by simp [Value.ownBlock]))
      have hB : Below w2.heap.size w2 w6 := hb3.trans ((hb4.mono hb3.size).trans (hb6.mono (Nat.le_trans hb3.size hb4.size)))
      exact ⟨_, _, _, w3.heap.size, hs, rfl, by omega, fun hn => ⟨hb3.size, rfl, ownsRow_base hown' hb3.size, hrd.length, .inl ⟨rfl, rfl, rfl, (hrd.mono fun k hk => by omega).carry (SameOn.all hb6)⟩⟩, fun h _ => h, hrr.later hb6, hrf.later hb6, hB⟩
  · refine (zzmessage_some po nf pc qo nl qc D L _ w4 b0 b1 h0 (fun _ h => h) hrr hrf hm).mono fun e w6 ⟨g, cap, hs, he, hown, hrd, hb6⟩ => ?_
    subst he
    have hsz4 : w2.heap.size ≤ w4.heap.size ∧ Below w2.heap.size w2 w4 := by
      rcases hfo with ⟨_, _, hw⟩ | ⟨_, _, _, _, _, hb4⟩
      · subst hw
        exact ⟨hb3.size, hb3⟩
      · exact ⟨Nat.le_trans hb3.size hb4.size, hb3.trans (hb4.mono hb3.size)⟩
    have hg := (hown.lt g rfl).1
    have hlen : (D.flatten ++ L).length ≤ 17825792 := by
      have := flatten_len D D.length 1048576 (Nat.le_refl _) hm
      rw [List.take_length] at this
      rw [List.length_append, ← hrf.1]
      have := hrr.1
      omega
    refine ⟨_, _, _, g, hs, rfl, hlen, fun hn => ⟨Nat.le_trans hsz4.1 hg, rfl, ownsRow_base hown hsz4.1, hrd.length, .inr ⟨h0, ?_, ?_⟩⟩, fun _ h => by omega, hrr.later hb6, hrf.later hb6, hsz4.2.trans (hb6.mono hsz4.1)⟩
    · exact (hrr.carry (SameOn.below hb6)).mono fun k hk => by omega
    · exact (hrf.carry (SameOn.below hb6)).mono fun k hk => by omega

end Go.Proofs.Qxb6601125a
