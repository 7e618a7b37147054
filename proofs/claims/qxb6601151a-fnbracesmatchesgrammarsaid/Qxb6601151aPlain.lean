/-
  PLAIN: blanks, digits, counts on lists of runes. No Go here.
-/
namespace Go.Proofs.Qxb6601151a

def bl (c : Int) : Bool := c == 32 || c == 9
def dg (c : Int) : Bool := decide (48 ≤ c) && decide (c ≤ 57)

/-- The rune at pos; -1 beyond the end. -/
def pk (zs : List Int) (pos : Nat) : Int := if pos < zs.length then zs.getD pos 0 else -1

/-- How many runes from pos on satisfy f. -/
def run (f : Int → Bool) (zs : List Int) (pos : Nat) : Nat := ((zs.drop pos).takeWhile f).length

theorem takeWhile_length_le (f : Int → Bool) : ∀ l : List Int, (l.takeWhile f).length ≤ l.length
  | [] => by simp
  | a :: l => by
    rw [List.takeWhile_cons]
    split
    · have := takeWhile_length_le f l
      simp; omega
    · simp

theorem takeWhile_in (f : Int → Bool) : ∀ (l : List Int) (k : Nat), k < (l.takeWhile f).length → f (l.getD k 0) = true
  | [], k, h => by simp at h
  | a :: l, k, h => by
    rw [List.takeWhile_cons] at h
    split at h
    · match k, h with
      | 0, _ => simpa
      | k + 1, h => simpa using takeWhile_in f l k (by simpa using h)
    · simp at h

theorem takeWhile_out (f : Int → Bool) : ∀ (l : List Int), (l.takeWhile f).length < l.length → f (l.getD (l.takeWhile f).length 0) = false
  | [], h => by simp at h
  | a :: l, h => by
    rw [List.takeWhile_cons] at h ⊢
    split
    · rename_i ha
      rw [if_pos ha] at h
      simpa using takeWhile_out f l (by simpa using h)
    · rename_i ha
      simpa using ha

theorem takeWhile_take (f : Int → Bool) : ∀ (l : List Int), l.takeWhile f = l.take (l.takeWhile f).length
  | [] => by simp
  | a :: l => by
    rw [List.takeWhile_cons]
    split
    · simp only [List.length_cons, List.take_succ_cons]
      rw [← takeWhile_take f l]
    · simp

theorem run_le (f : Int → Bool) (zs : List Int) (pos : Nat) : run f zs pos ≤ zs.length - pos := by
  have := takeWhile_length_le f (zs.drop pos)
  simpa [run] using this

theorem getD_drop (zs : List Int) (pos k : Nat) : (zs.drop pos).getD k 0 = zs.getD (pos + k) 0 := by
  rw [List.getD_eq_getElem?_getD, List.getD_eq_getElem?_getD, List.getElem?_drop]

/-- Inside the run the rune satisfies f, and pos lies inside the text. -/
theorem run_in (f : Int → Bool) (zs : List Int) (pos k : Nat) (h : k < run f zs pos) : pos + k < zs.length ∧ f (pk zs (pos + k)) = true := by
  have h1 := run_le f zs pos
  have h2 := takeWhile_in f (zs.drop pos) k h
  refine ⟨by omega, ?_⟩
  unfold pk
  rw [if_pos (by omega), ← getD_drop]
  exact h2

/-- Behind the run it does not, or the text has ended. -/
theorem run_out (f : Int → Bool) (hf : f (-1) = false) (zs : List Int) (pos : Nat) : f (pk zs (pos + run f zs pos)) = false := by
  unfold pk
  split
  · rename_i h
    have := takeWhile_out f (zs.drop pos) (by simp; unfold run at h; omega)
    rw [getD_drop] at this
    exact this
  · exact hf

theorem bl_neg : bl (-1) = false := by decide
theorem dg_neg : dg (-1) = false := by decide

/-- The count's value, capped as the code caps it. -/
def cap1 (n c : Int) : Int := min (n * 10 + (c - 48)) 65536
def capped (ds : List Int) : Int := ds.foldl cap1 0
def digitsAt (zs : List Int) (pos : Nat) : List Int := (zs.drop pos).takeWhile dg

theorem digitsAt_length (zs : List Int) (pos : Nat) : (digitsAt zs pos).length = run dg zs pos := rfl

theorem digitsAt_take (zs : List Int) (pos k : Nat) (hk : k < run dg zs pos) : (digitsAt zs pos).take (k + 1) = (digitsAt zs pos).take k ++ [pk zs (pos + k)] := by
  have hin := (run_in dg zs pos k hk).1
  have h : (digitsAt zs pos)[k]? = some (pk zs (pos + k)) := by
    unfold digitsAt
    rw [takeWhile_take dg (zs.drop pos), List.getElem?_take, if_pos (show k < ((zs.drop pos).takeWhile dg).length from hk), List.getElem?_drop, List.getElem?_eq_getElem hin]
    have e : pk zs (pos + k) = zs.getD (pos + k) 0 := by unfold pk; rw [if_pos hin]
    rw [e]
    simp [hin]
  rw [List.take_add_one, h]
  rfl

theorem capped_snoc (ds : List Int) (c : Int) : capped (ds ++ [c]) = cap1 (capped ds) c := by simp [capped]

theorem dg_iff (c : Int) : dg c = true ↔ 48 ≤ c ∧ c ≤ 57 := by simp [dg]

theorem capped_bd : ∀ (ds : List Int), (∀ c ∈ ds, dg c = true) → 0 ≤ capped ds ∧ capped ds ≤ 65536 := by
  intro ds
  have key : ∀ (ds : List Int) (a : Int), 0 ≤ a → a ≤ 65536 → (∀ c ∈ ds, dg c = true) → 0 ≤ ds.foldl cap1 a ∧ ds.foldl cap1 a ≤ 65536 := by
    intro ds
    induction ds with
    | nil => intro a h0 h1 _; exact ⟨h0, h1⟩
    | cons c ds ih =>
      intro a h0 h1 hc
      have hd := (dg_iff c).1 (hc c (by simp))
      refine ih _ ?_ ?_ (fun x hx => hc x (by simp [hx]))
      · unfold cap1; omega
      · unfold cap1; omega
  exact key ds 0 (by omega) (by omega)

theorem digitsAt_dg (zs : List Int) (pos : Nat) : ∀ c ∈ digitsAt zs pos, dg c = true := by
  intro c hc
  exact List.all_eq_true.1 (List.all_takeWhile (p := dg) (l := zs.drop pos)) c hc

end Go.Proofs.Qxb6601151a
