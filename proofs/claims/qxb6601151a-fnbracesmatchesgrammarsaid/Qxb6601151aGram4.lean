/-
  PLAIN, THE END: what the declarative model answers is what braces answers.
-/
import Derived.Test.Qxb6601151aGram3
namespace Go.Proofs.Qxb6601151a

theorem getD_piece (t : List Int) (c : Int) (r : List Int) (h : pR t = c :: r) : t.getD (plen t) 0 = c ∧ plen t < t.length := by
  have hl := len_piece t
  rw [h] at hl
  simp only [List.length_cons] at hl
  refine ⟨?_, by omega⟩
  have e := p_split t
  rw [h] at e
  rw [List.getD_eq_getElem?_getD]
  conv => lhs; rw [e]
  rw [show plen (pA t ++ (pD t ++ pC t) ++ c :: r) = plen t from by rw [← e]]
  rw [List.getElem?_append_right (by rw [plen_eq]; omega), plen_eq, Nat.sub_self]
  rfl

theorem pk_drop (zs : List Int) (s : Nat) (l : List Int) (h : zs.drop s = l) : pk zs s = l.headD (-1) := by
  subst h
  cases e : zs.drop s with
  | nil =>
    have : ¬ s < zs.length := fun hs => by
      have := congrArg List.length e
      rw [List.length_drop] at this
      simp only [List.length_nil] at this
      omega
    unfold pk
    rw [if_neg this]
    rfl
  | cons c r =>
    have hs : s < zs.length := by
      have := congrArg List.length e
      rw [List.length_drop] at this
      simp only [List.length_cons] at this
      omega
    unfold pk
    rw [if_pos hs]
    have := getD_drop zs s 0
    rw [e] at this
    simpa using this.symm

theorem kst_nil {t : List Int} (h : pR t = []) : kst t = plen t := by unfold kst; rw [h]
theorem kst_other {t : List Int} {c : Int} {r : List Int} (h : pR t = c :: r) (hc : c ≠ 44) : kst t = plen t := by unfold kst; rw [h]; exact if_neg hc
theorem kst_comma {t : List Int} {r : List Int} (h : pR t = 44 :: r) : kst t = plen t + (1 + plen r) := by unfold kst; rw [h]; rfl

/-- Behind a comma. -/
theorem comma_drop (zs : List Int) (s : Nat) (r : List Int) (h : zs.drop (q3 zs s) = 44 :: r) : zs.drop (q3 zs s + 1) = r := by
  rw [← List.drop_drop, h]
  rfl

theorem getD_comma (t r : List Int) (h : pR t = 44 :: r) (m : Nat) : t.getD (plen t + (1 + m)) 0 = r.getD m 0 ∧ t.length = plen t + (1 + r.length) := by
  have hl := len_piece t
  rw [h] at hl
  simp only [List.length_cons] at hl
  refine ⟨?_, by omega⟩
  have e := p_split t
  rw [h] at e
  have : t[plen t + (1 + m)]? = r[m]? := by
    conv => lhs; rw [e]
    rw [show plen (pA t ++ (pD t ++ pC t) ++ 44 :: r) = plen t from by rw [← e]]
    rw [List.getElem?_append_right (by rw [plen_eq]; omega), plen_eq, Nat.add_sub_cancel_left, Nat.add_comm, List.getElem?_cons_succ]
  rw [List.getD_eq_getElem?_getD, List.getD_eq_getElem?_getD, this]

/-- Refused by what stands behind the head. -/
theorem model_no (zs : List Int) (s : Nat) (t : List Int) (ht : zs.drop s = t) (h : t.length ≤ kst t ∨ t.getD (kst t) 0 ≠ 125) : bracesAt zs s = (0, 0, false, s + kst t) := by
  obtain ⟨h1, h2, h3, h4⟩ := q_pieces zs s
  rw [ht] at h1 h2 h3 h4
  have hpk := pk_drop zs _ _ h2
  unfold bracesAt
  cases hR : pR t with
  | nil =>
    rw [hR] at hpk
    have hpk' : pk zs (q3 zs s) = -1 := hpk
    rw [if_neg (by rw [hpk']; decide), fin_no (by rw [hpk']; decide), h1, kst_nil hR]
  | cons c r =>
    rw [hR] at hpk h2
    have hpk' : pk zs (q3 zs s) = c := hpk
    by_cases hc : c = 44
    · subst hc
      rw [if_pos hpk']
      have hk := kst_comma hR
      have d2 := comma_drop zs s r h2
      obtain ⟨g1, g2, g3, g4⟩ := q_pieces zs (q3 zs s + 1)
      rw [d2] at g1 g2 g3 g4
      have hpk2 := pk_drop zs _ _ g2
      have hne : pk zs (q3 zs (q3 zs s + 1)) ≠ 125 := by
        cases hR2 : pR r with
        | nil => rw [hR2] at hpk2; rw [show pk zs (q3 zs (q3 zs s + 1)) = -1 from hpk2]; decide
        | cons c2 r2 =>
          rw [hR2] at hpk2
          rw [show pk zs (q3 zs (q3 zs s + 1)) = c2 from hpk2]
          obtain ⟨e1, e2⟩ := getD_comma t r hR (plen r)
          obtain ⟨e3, e4⟩ := getD_piece r c2 r2 hR2
          rcases h with h | h
          · omega
          · rw [hk, e1, e3] at h
            exact h
      rw [fin_no hne, g1, h1, hk]
      simp only [Prod.mk.injEq, true_and]
      omega
    · rw [if_neg (by rw [hpk']; exact hc)]
      obtain ⟨e1, e2⟩ := getD_piece t c r hR
      have hk := kst_other hR hc
      have hne : c ≠ 125 := by
        rcases h with h | h
        · omega
        · rw [hk, e1] at h
          exact h
      rw [fin_no (by rw [hpk']; exact hne), h1, hk]

/-- A piece: blanks, digits, blanks. -/
def Pc (A D C : List Int) : Prop := (∀ c ∈ A, bl c = true) ∧ (∀ c ∈ D, dg c = true) ∧ (∀ c ∈ C, bl c = true)

/-- Else: the head is one piece, or two about a comma; and braces answers by their digits. -/
theorem model_yes (zs : List Int) (s : Nat) (t : List Int) (ht : zs.drop s = t) (h1' : kst t < t.length) (h2' : t.getD (kst t) 0 = 125) :
    (∃ A D C, Pc A D C ∧ t.take (kst t) = A ++ (D ++ C) ∧ bracesAt zs s = if 0 < D.length then (capped D, capped D, true, s + kst t + 1) else (0, 0, false, s + kst t)) ∨
    ∃ A D C A2 D2 C2, Pc A D C ∧ Pc A2 D2 C2 ∧ t.take (kst t) = (A ++ (D ++ C)) ++ 44 :: (A2 ++ (D2 ++ C2)) ∧
      bracesAt zs s = if 0 < D.length ∨ 0 < D2.length then (capped D, if 0 < D2.length then capped D2 else -1, true, s + kst t + 1) else (0, 0, false, s + kst t) := by
  obtain ⟨h1, h2, h3, h4⟩ := q_pieces zs s
  rw [ht] at h1 h2 h3 h4
  have hpk := pk_drop zs _ _ h2
  cases hR : pR t with
  | nil =>
    have hl := len_piece t
    rw [hR] at hl
    simp only [List.length_nil] at hl
    rw [kst_nil hR] at h1'
    omega
  | cons c r =>
    rw [hR] at hpk h2
    have hpk' : pk zs (q3 zs s) = c := hpk
    by_cases hc : c = 44
    · subst hc
      right
      have hk := kst_comma hR
      have d2 := comma_drop zs s r h2
      obtain ⟨g1, g2, g3, g4⟩ := q_pieces zs (q3 zs s + 1)
      rw [d2] at g1 g2 g3 g4
      have hpk2 := pk_drop zs _ _ g2
      obtain ⟨e1, e2⟩ := getD_comma t r hR (plen r)
      have hyes : pk zs (q3 zs (q3 zs s + 1)) = 125 := by
        cases hR2 : pR r with
        | nil =>
          have hl2 := len_piece r
          rw [hR2] at hl2
          simp only [List.length_nil] at hl2
          rw [hk] at h1'
          omega
        | cons c2 r2 =>
          rw [hR2] at hpk2
          rw [show pk zs (q3 zs (q3 zs s + 1)) = c2 from hpk2]
          obtain ⟨e3, e4⟩ := getD_piece r c2 r2 hR2
          rw [hk, e1, e3] at h2'
          exact h2'
      refine ⟨pA t, pD t, pC t, pA r, pD r, pC r, ⟨pA_bl t, pD_dg t, pC_bl t⟩, ⟨pA_bl r, pD_dg r, pC_bl r⟩, ?_, ?_⟩
      · have e := p_split t
        rw [hR] at e
        rw [hk, take_app e (plen_eq t), Nat.add_comm 1, List.take_succ_cons, take_piece]
      · unfold bracesAt
        rw [if_pos hpk', h3, h4, g3, g4]
        unfold fin
        rw [hyes]
        have hend : q3 zs (q3 zs s + 1) = s + kst t := by rw [g1, h1, hk]; omega
        rw [hend]
        by_cases n1 : 0 < (pD t).length
        · by_cases n2 : 0 < (pD r).length <;> simp [n1, n2]
        · by_cases n2 : 0 < (pD r).length <;> simp [n1, n2]
    · left
      have hk := kst_other hR hc
      obtain ⟨e1, e2⟩ := getD_piece t c r hR
      rw [hk, e1] at h2'
      refine ⟨pA t, pD t, pC t, ⟨pA_bl t, pD_dg t, pC_bl t⟩, by rw [hk, take_piece], ?_⟩
      unfold bracesAt
      rw [if_neg (by rw [hpk']; exact hc), h3, h4]
      unfold fin
      rw [hpk', h2', h1, hk]
      by_cases n1 : 0 < (pD t).length <;> simp [n1]

end Go.Proofs.Qxb6601151a
