import Derived.Test.Qxb6601151aBraces
import Derived.Test.Qxb6601151aDigits
namespace Go.Proofs.Qxb6601151a

theorem takeWhile_split (f : Int → Bool) : ∀ (X : List Int) (c : Int) (Y : List Int), (∀ x ∈ X, f x = true) → f c = false → (X ++ c :: Y).takeWhile f = X
  | [], c, Y, _, hc => by simp [hc]
  | x :: X, c, Y, hX, hc => by
    rw [List.cons_append, List.takeWhile_cons, if_pos (hX x (by simp)), takeWhile_split f X c Y (fun y hy => hX y (by simp [hy])) hc]

/-- The run over X, which ends at c. -/
theorem adv (f : Int → Bool) (zs : List Int) (s : Nat) (X : List Int) (c : Int) (Y : List Int) (h : zs.drop s = X ++ c :: Y) (hX : ∀ x ∈ X, f x = true) (hc : f c = false) :
    run f zs s = X.length ∧ zs.drop (s + run f zs s) = c :: Y := by
  have h1 : run f zs s = X.length := by unfold run; rw [h, takeWhile_split f X c Y hX hc]
  refine ⟨h1, ?_⟩
  rw [h1, ← List.drop_drop, h]
  simp

theorem pk_of_drop (zs : List Int) (s : Nat) (c : Int) (Y : List Int) (h : zs.drop s = c :: Y) : pk zs s = c := by
  have hl : s < zs.length := by
    rcases Nat.lt_or_ge s zs.length with h' | h'
    · exact h'
    · rw [List.drop_eq_nil_of_le h'] at h; cases h
  unfold pk
  rw [if_pos hl]
  have := getD_drop zs s 0
  rw [h] at this
  simpa using this.symm

theorem bl_dg (c : Int) (h : dg c = true) : bl c = false := by
  have := (dg_iff c).1 h
  simp [bl]
  omega
theorem dg_bl (c : Int) (h : bl c = true) : dg c = false := by
  cases hd : dg c with
  | false => rfl
  | true => rw [bl_dg c hd] at h; cases h

/-- One piece: blanks, digits, blanks, then c, which is neither. -/
theorem piece (zs : List Int) (s : Nat) (A Ds C : List Int) (c : Int) (Y : List Int) (h : zs.drop s = A ++ (Ds ++ (C ++ c :: Y))) (hA : ∀ x ∈ A, bl x = true) (hD : ∀ x ∈ Ds, dg x = true) (hC : ∀ x ∈ C, bl x = true) (hcb : bl c = false) (hcd : dg c = false) :
    q3 zs s = s + (A.length + (Ds.length + C.length)) ∧ zs.drop (q3 zs s) = c :: Y ∧ loAt zs s = capped Ds ∧ hasAt zs s = decide (0 < Ds.length) := by
  cases Ds with
  | nil =>
    have h' : zs.drop s = (A ++ C) ++ c :: Y := by rw [h]; simp
    have hAC : ∀ x ∈ A ++ C, bl x = true := fun x hx => by rcases List.mem_append.1 hx with h1 | h1; exact hA x h1; exact hC x h1
    obtain ⟨r1, d1⟩ := adv bl zs s (A ++ C) c Y h' hAC hcb
    have e1 : q1 zs s = s + (A ++ C).length := by unfold q1; rw [r1]
    have d1' : zs.drop (q1 zs s) = [] ++ c :: Y := by unfold q1; simpa using d1
    obtain ⟨r2, d2⟩ := adv dg zs (q1 zs s) [] c Y d1' (by simp) hcd
    have e2 : q2 zs s = q1 zs s := by unfold q2; rw [r2]; rfl
    obtain ⟨r3, d3⟩ := adv bl zs (q2 zs s) [] c Y (by rw [e2]; exact d1') (by simp) hcb
    have e3 : q3 zs s = q2 zs s := by unfold q3; rw [r3]; rfl
    refine ⟨by rw [e3, e2, e1]; simp, by rw [e3, e2]; simpa using d1', ?_, ?_⟩
    · unfold loAt digitsAt
      rw [d1', takeWhile_split dg [] c Y (by simp) hcd]
    · unfold hasAt
      rw [r2]
  | cons d Ds =>
    have hdd := hD d (by simp)
    obtain ⟨r1, d1⟩ := adv bl zs s A d (Ds ++ (C ++ c :: Y)) (by rw [h]; rfl) hA (bl_dg d hdd)
    have e1 : q1 zs s = s + A.length := by unfold q1; rw [r1]
    have d1' : zs.drop (q1 zs s) = d :: (Ds ++ (C ++ c :: Y)) := d1
    have hx : ∃ c' Y', C ++ c :: Y = c' :: Y' ∧ dg c' = false := by
      cases C with
      | nil => exact ⟨c, Y, rfl, hcd⟩
      | cons c' C => exact ⟨c', C ++ c :: Y, rfl, dg_bl c' (hC c' (by simp))⟩
    obtain ⟨c', Y', eC, hc'⟩ := hx
    obtain ⟨r2, d2⟩ := adv dg zs (q1 zs s) (d :: Ds) c' Y' (by rw [d1', eC]; rfl) hD hc'
    have e2 : q2 zs s = q1 zs s + (d :: Ds).length := by unfold q2; rw [r2]
    have d2' : zs.drop (q2 zs s) = C ++ c :: Y := by rw [eC]; exact d2
    obtain ⟨r3, d3⟩ := adv bl zs (q2 zs s) C c Y d2' hC hcb
    have e3 : q3 zs s = q2 zs s + C.length := by unfold q3; rw [r3]
    refine ⟨by rw [e3, e2, e1]; omega, d3, ?_, ?_⟩
    · unfold loAt digitsAt
      rw [d1', eC]
      have := takeWhile_split dg (d :: Ds) c' Y' hD hc'
      rw [List.cons_append] at this
      rw [this]
    · unfold hasAt
      rw [r2]

theorem rd_dg : ∀ (f v : Nat), ∀ c ∈ rd f v, dg c = true
  | 0, _, c, h => by simp [rd] at h
  | f + 1, v, c, h => by
    unfold rd at h
    split at h
    · simp at h
    · rcases List.mem_cons.1 h with rfl | h'
      · rw [dg_iff]; omega
      · exact rd_dg f (v / 10) c h'

theorem capped_rd : ∀ (f v : Nat), v < 10 ^ f → v ≤ 65536 → capped (rd f v).reverse = v
  | 0, v, h, _ => by
    have : v = 0 := by simpa using h
    subst this
    rfl
  | f + 1, v, h, hb => by
    unfold rd
    split
    · rename_i h0
      subst h0
      rfl
    · rw [List.reverse_cons, capped_snoc, capped_rd f (v / 10) (by rw [Nat.pow_succ] at h; omega) (by omega)]
      unfold cap1
      omega

theorem dec_dg (x : Nat) : ∀ c ∈ dec x, dg c = true := by
  intro c hc
  unfold dec at hc
  split at hc
  · simp at hc; subst hc; decide
  · exact rd_dg 8 x c (by simpa using hc)

theorem capped_dec (x : Nat) (h : x ≤ 65535) : capped (dec x) = x := by
  unfold dec
  split
  · rename_i h0; subst h0; rfl
  · exact capped_rd 8 x (by omega) (by omega)

theorem dec_pos (x : Nat) : 0 < (dec x).length := by
  unfold dec
  split
  · simp
  · rename_i h
    rw [List.length_reverse]
    show 0 < (if x = 0 then [] else _ : List Int).length
    rw [if_neg h]
    simp

theorem dec_len (x : Nat) : (dec x).length ≤ 8 := by
  have : ∀ f v, (rd f v).length ≤ f := by
    intro f
    induction f with
    | zero => intro v; simp [rd]
    | succ f ih =>
      intro v
      unfold rd
      split
      · simp
      · simp [ih (v / 10)]
  unfold dec
  split
  · simp
  · rw [List.length_reverse]; exact this 8 x

theorem blank_bl (b : Bool) : bl (blank b) = true := by cases b <;> decide
theorem blanks_bl (t : List Bool) : ∀ x ∈ t.map blank, bl x = true := by
  intro x hx
  obtain ⟨b, _, rfl⟩ := List.mem_map.1 hx
  exact blank_bl b

/-- The count as it is written: nothing, or its decimal digits. -/
def wr (no : Bool) (x : Nat) : List Int := if no then [] else dec x
theorem wr_dg (no : Bool) (x : Nat) : ∀ c ∈ wr no x, dg c = true := by
  cases no
  · exact dec_dg x
  · intro c hc; simp [wr] at hc
theorem wr_has (no : Bool) (x : Nat) : decide (0 < (wr no x).length) = !no := by
  cases no
  · have := dec_pos x; simp [wr, this]
  · simp [wr]
theorem wr_val (no : Bool) (x : Nat) (h : x ≤ 65535) : capped (wr no x) = if no then 0 else (x : Int) := by
  cases no
  · simp [wr, capped_dec x h]
  · rfl

/-- {A n B}: no comma. -/
theorem back_single (pre tail : List Int) (t1 t2 : List Bool) (no : Bool) (x : Nat) (h : x ≤ 65535) :
    bracesAt (pre ++ 123 :: (t1.map blank ++ (wr no x ++ (t2.map blank ++ 125 :: tail)))) (pre.length + 1) =
      if no then (0, 0, false, pre.length + 1 + (t1.length + ((wr no x).length + t2.length))) else ((x : Int), (x : Int), true, pre.length + 1 + (t1.length + ((wr no x).length + t2.length)) + 1) := by
  generalize hz : pre ++ 123 :: (t1.map blank ++ (wr no x ++ (t2.map blank ++ 125 :: tail))) = zs
  have hd : zs.drop (pre.length + 1) = t1.map blank ++ (wr no x ++ (t2.map blank ++ 125 :: tail)) := by
    rw [← hz, ← List.drop_drop]
    simp
  obtain ⟨p1, p2, p3, p4⟩ := piece zs (pre.length + 1) _ _ _ 125 tail hd (blanks_bl t1) (wr_dg no x) (blanks_bl t2) (by decide) (by decide)
  have hpk := pk_of_drop zs _ 125 tail p2
  unfold bracesAt
  rw [if_neg (by rw [hpk]; decide), p3, p4, wr_has, wr_val no x h]
  simp only [List.length_map] at p1
  rw [← p1]
  cases no
  · simp only [Bool.not_false, Bool.false_eq_true, if_false]
    exact fin_yes hpk
  · simp only [Bool.not_true, if_true]
    exact fin_none

/-- {A n B , C m D}. -/
theorem back_pair (pre tail : List Int) (t1 t2 t3 t4 : List Bool) (no1 no2 : Bool) (x y : Nat) (h : x ≤ 65535) (h2 : y ≤ 65535) :
    bracesAt (pre ++ 123 :: (t1.map blank ++ (wr no1 x ++ (t2.map blank ++ 44 :: (t3.map blank ++ (wr no2 y ++ (t4.map blank ++ 125 :: tail))))))) (pre.length + 1) =
      if no1 && no2 then (0, 0, false, pre.length + 1 + (t1.length + ((wr no1 x).length + t2.length)) + 1 + (t3.length + ((wr no2 y).length + t4.length)))
      else (if no1 then 0 else (x : Int), if no2 then -1 else (y : Int), true, pre.length + 1 + (t1.length + ((wr no1 x).length + t2.length)) + 1 + (t3.length + ((wr no2 y).length + t4.length)) + 1) := by
  generalize hz : pre ++ 123 :: (t1.map blank ++ (wr no1 x ++ (t2.map blank ++ 44 :: (t3.map blank ++ (wr no2 y ++ (t4.map blank ++ 125 :: tail)))))) = zs
  have hd : zs.drop (pre.length + 1) = t1.map blank ++ (wr no1 x ++ (t2.map blank ++ 44 :: (t3.map blank ++ (wr no2 y ++ (t4.map blank ++ 125 :: tail))))) := by
    rw [← hz, ← List.drop_drop]
    simp
  obtain ⟨p1, p2, p3, p4⟩ := piece zs (pre.length + 1) _ _ _ 44 _ hd (blanks_bl t1) (wr_dg no1 x) (blanks_bl t2) (by decide) (by decide)
  have hpk := pk_of_drop zs _ 44 _ p2
  have hd2 : zs.drop (q3 zs (pre.length + 1) + 1) = t3.map blank ++ (wr no2 y ++ (t4.map blank ++ 125 :: tail)) := by
    rw [← List.drop_drop, p2]
    simp
  obtain ⟨r1, r2, r3, r4⟩ := piece zs (q3 zs (pre.length + 1) + 1) _ _ _ 125 tail hd2 (blanks_bl t3) (wr_dg no2 y) (blanks_bl t4) (by decide) (by decide)
  have hpk2 := pk_of_drop zs _ 125 tail r2
  unfold bracesAt
  rw [if_pos hpk, p3, p4, r3, r4, wr_has, wr_has, wr_val no1 x h, wr_val no2 y h2]
  simp only [List.length_map] at p1 r1
  have hE : pre.length + 1 + (t1.length + ((wr no1 x).length + t2.length)) + 1 + (t3.length + ((wr no2 y).length + t4.length)) = q3 zs (q3 zs (pre.length + 1) + 1) := by rw [r1, p1]
  rw [hE]
  generalize q3 zs (q3 zs (pre.length + 1) + 1) = E at *
  cases no1 <;> cases no2
  · exact fin_yes hpk2
  · exact fin_yes hpk2
  · exact fin_yes hpk2
  · exact fin_none
end Go.Proofs.Qxb6601151a
