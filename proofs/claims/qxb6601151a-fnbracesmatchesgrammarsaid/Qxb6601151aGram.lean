/-
  PLAIN: the grammar's automaton; the longest head; where the parser stops.
-/
import Derived.Test.Qxb6601151aPlain
namespace Go.Proofs.Qxb6601151a

/-- The phase of a piece: 0 ahead of its digits, 1 in them, 2 behind them. -/
def pst (ph : Nat) (c : Int) : Option Nat := if dg c = true then (if ph = 2 then none else some 1) else some (if ph = 0 then 0 else 2)
def pr : Nat → List Int → Option Nat
  | ph, [] => some ph
  | ph, c :: l => (pst ph c).bind fun ph' => pr ph' l
/-- The digits of p lie together. -/
def dt (p : List Int) : Bool := (pr 0 p).isSome

theorem pr_append : ∀ (ph : Nat) (a b : List Int), pr ph (a ++ b) = (pr ph a).bind fun ph' => pr ph' b
  | ph, [], b => rfl
  | ph, c :: a, b => by
    show (pst ph c).bind _ = ((pst ph c).bind _).bind _
    cases pst ph c with
    | none => rfl
    | some ph' => exact pr_append ph' a b

/-- The head's automaton: whether a comma has been met; the phase of the piece. -/
def hst (s : Bool × Nat) (c : Int) : Option (Bool × Nat) :=
  if c = 44 then (if s.1 = true then none else some (true, 0))
  else if (bl c || dg c) = true then (pst s.2 c).map fun ph => (s.1, ph) else none
def hr : Bool × Nat → List Int → Option (Bool × Nat)
  | s, [] => some s
  | s, c :: l => (hst s c).bind fun s' => hr s' l
def hok (h : List Int) : Bool := (hr (false, 0) h).isSome

theorem hr_append : ∀ (s : Bool × Nat) (a b : List Int), hr s (a ++ b) = (hr s a).bind fun s' => hr s' b
  | s, [], b => rfl
  | s, c :: a, b => by
    show (hst s c).bind _ = ((hst s c).bind _).bind _
    cases hst s c with
    | none => rfl
    | some s' => exact hr_append s' a b

/-- Heads are closed under prefixes. -/
theorem hok_take (h : List Int) (k : Nat) (hh : hok h = true) : hok (h.take k) = true := by
  unfold hok at *
  rw [← List.take_append_drop k h, hr_append] at hh
  cases e : hr (false, 0) (h.take k) with
  | none => rw [e] at hh; cases hh
  | some s => rfl

/-- What the search finds: the last k whose prefix is a head. -/
def IsLong (t : List Int) (k : Nat) : Prop := k ≤ t.length ∧ hok (t.take k) = true ∧ (k = t.length ∨ hok (t.take (k + 1)) = false)

theorem IsLong.unique {t : List Int} {k m : Nat} (h : IsLong t k) (h' : IsLong t m) : k = m := by
  rcases Nat.lt_trichotomy k m with hlt | rfl | hlt
  · exfalso
    rcases h.2.2 with e | e
    · have := h'.1; omega
    · have := hok_take (t.take m) (k + 1) h'.2.1
      rw [List.take_take, Nat.min_eq_left (by omega), e] at this
      cases this
  · rfl
  · exfalso
    rcases h'.2.2 with e | e
    · have := h.1; omega
    · have := hok_take (t.take k) (m + 1) h.2.1
      rw [List.take_take, Nat.min_eq_left (by omega), e] at this
      cases this

/-! ### Blanks, digits, blanks -/
theorem bl_not44 (c : Int) (h : bl c = true) : c ≠ 44 := by simp [bl] at h; omega
theorem dg_not44 (c : Int) (h : dg c = true) : c ≠ 44 := by have := (dg_iff c).1 h; omega
theorem dg_of_bl (c : Int) (h : bl c = true) : dg c = false := by
  cases hd : dg c with
  | false => rfl
  | true => have := (dg_iff c).1 hd; simp [bl] at h; omega

theorem hst_bl (cm : Bool) (ph : Nat) (c : Int) (h : bl c = true) : hst (cm, ph) c = some (cm, if ph = 0 then 0 else 2) := by
  unfold hst
  rw [if_neg (bl_not44 c h), if_pos (by rw [h]; rfl)]
  unfold pst
  rw [if_neg (by rw [dg_of_bl c h]; decide)]
  rfl
theorem hst_dg (cm : Bool) (ph : Nat) (c : Int) (h : dg c = true) (hp : ph ≠ 2) : hst (cm, ph) c = some (cm, 1) := by
  unfold hst
  rw [if_neg (dg_not44 c h), if_pos (by rw [h]; cases bl c <;> rfl)]
  unfold pst
  rw [if_pos h, if_neg hp]
  rfl
theorem hst_dg2 (cm : Bool) (c : Int) (h : dg c = true) : hst (cm, 2) c = none := by
  unfold hst
  rw [if_neg (dg_not44 c h), if_pos (by rw [h]; cases bl c <;> rfl)]
  unfold pst
  rw [if_pos h]
  rfl
theorem hst_bad (s : Bool × Nat) (c : Int) (h : c ≠ 44) (hb : bl c = false) (hd : dg c = false) : hst s c = none := by
  unfold hst
  rw [if_neg h, if_neg (by rw [hb, hd]; decide)]

/-- The phase behind a run of blanks; behind digits. -/
theorem hr_blanks (cm : Bool) : ∀ (A : List Int) (ph : Nat), (∀ a ∈ A, bl a = true) → hr (cm, ph) A = some (cm, if A = [] then ph else if ph = 0 then 0 else 2)
  | [], ph, _ => rfl
  | a :: A, ph, h => by
    show (hst (cm, ph) a).bind _ = _
    rw [hst_bl cm ph a (h a (by simp))]
    show hr (cm, if ph = 0 then 0 else 2) A = _
    rw [hr_blanks cm A _ (fun x hx => h x (by simp [hx]))]
    simp only [List.cons_ne_nil, if_false]
    by_cases hA : A = []
    · rw [if_pos hA]
    · rw [if_neg hA]
      by_cases h0 : ph = 0
      · simp [h0]
      · simp [h0]
theorem hr_digits (cm : Bool) : ∀ (D : List Int) (ph : Nat), (∀ d ∈ D, dg d = true) → ph ≠ 2 → hr (cm, ph) D = some (cm, if D = [] then ph else 1)
  | [], ph, _, _ => rfl
  | d :: D, ph, h, hp => by
    show (hst (cm, ph) d).bind _ = _
    rw [hst_dg cm ph d (h d (by simp)) hp]
    show hr (cm, 1) D = _
    rw [hr_digits cm D 1 (fun x hx => h x (by simp [hx])) (by omega)]
    simp

/-- The phase behind a whole piece. -/
def phOf (D C : List Int) : Nat := if D = [] then 0 else if C = [] then 1 else 2
theorem hr_piece (cm : Bool) (A D C : List Int) (hA : ∀ a ∈ A, bl a = true) (hD : ∀ d ∈ D, dg d = true) (hC : ∀ c ∈ C, bl c = true) : hr (cm, 0) (A ++ (D ++ C)) = some (cm, phOf D C) := by
  rw [hr_append, hr_blanks cm A 0 hA]
  simp only [Option.bind_some, if_true, ite_self]
  rw [hr_append, hr_digits cm D 0 hD (by omega)]
  simp only [Option.bind_some]
  rw [hr_blanks cm C _ hC]
  unfold phOf
  by_cases h1 : D = []
  · simp [h1]
  · by_cases h2 : C = []
    · simp [h1, h2]
    · simp [h1, h2]

/-! ### The pieces of a text -/
def pA (t : List Int) : List Int := t.takeWhile bl
def pD (t : List Int) : List Int := (t.dropWhile bl).takeWhile dg
def pC (t : List Int) : List Int := ((t.dropWhile bl).dropWhile dg).takeWhile bl
def pR (t : List Int) : List Int := ((t.dropWhile bl).dropWhile dg).dropWhile bl
def plen (t : List Int) : Nat := (pA t).length + ((pD t).length + (pC t).length)

theorem p_split (t : List Int) : t = (pA t ++ (pD t ++ pC t)) ++ pR t := by
  unfold pA pD pC pR
  rw [List.append_assoc, List.append_assoc, List.takeWhile_append_dropWhile, List.takeWhile_append_dropWhile, List.takeWhile_append_dropWhile]

theorem tw_all (f : Int → Bool) (l : List Int) : ∀ x ∈ l.takeWhile f, f x = true := fun x hx => List.all_eq_true.1 (List.all_takeWhile (p := f) (l := l)) x hx
theorem pA_bl (t : List Int) : ∀ x ∈ pA t, bl x = true := tw_all bl t
theorem pD_dg (t : List Int) : ∀ x ∈ pD t, dg x = true := tw_all dg _
theorem pC_bl (t : List Int) : ∀ x ∈ pC t, bl x = true := tw_all bl _

theorem dw_head (f : Int → Bool) : ∀ (l : List Int) (c : Int) (r : List Int), l.dropWhile f = c :: r → f c = false
  | [], c, r, h => by simp at h
  | a :: l, c, r, h => by
    rw [List.dropWhile_cons] at h
    split at h
    · exact dw_head f l c r h
    · rename_i ha
      simp only [List.cons.injEq] at h
      rw [← h.1]
      simpa using ha

/-- What stands behind a piece: no blank; a digit only behind digits and blanks. -/
theorem pR_head (t : List Int) (c : Int) (r : List Int) (h : pR t = c :: r) : bl c = false ∧ (dg c = true → pD t ≠ [] ∧ pC t ≠ []) := by
  have hb := dw_head bl _ c r h
  refine ⟨hb, fun hd => ?_⟩
  have hC : pC t ≠ [] := by
    intro e
    unfold pR at h
    unfold pC at e
    have hs := List.takeWhile_append_dropWhile (p := bl) (l := (t.dropWhile bl).dropWhile dg)
    rw [e, h, List.nil_append] at hs
    have := dw_head dg _ c r hs.symm
    rw [hd] at this
    cases this
  refine ⟨fun e => hC ?_, hC⟩
  unfold pD at e
  have hs := List.takeWhile_append_dropWhile (p := dg) (l := t.dropWhile bl)
  rw [e, List.nil_append] at hs
  unfold pC
  rw [hs]
  cases hd' : t.dropWhile bl with
  | nil => rfl
  | cons a l =>
    have := dw_head bl _ a l hd'
    rw [List.takeWhile_cons, this]
    rfl

/-- Where the parser stops. -/
def kst (t : List Int) : Nat := match pR t with
  | c :: r => if c = 44 then plen t + (1 + plen r) else plen t
  | [] => plen t

theorem plen_eq (t : List Int) : (pA t ++ (pD t ++ pC t)).length = plen t := by simp [plen]
theorem take_app {t X Y : List Int} {n : Nat} (h : t = X ++ Y) (hn : X.length = n) (m : Nat) : t.take (n + m) = X ++ Y.take m := by
  subst h hn
  rw [List.take_append, List.take_of_length_le (by omega), Nat.add_sub_cancel_left]
theorem take_piece (t : List Int) : t.take (plen t) = pA t ++ (pD t ++ pC t) := by
  have := take_app (p_split t) (plen_eq t) 0
  simpa using this
theorem len_piece (t : List Int) : t.length = plen t + (pR t).length := by
  have := congrArg List.length (p_split t)
  rw [List.length_append, plen_eq] at this
  exact this

/-- Behind a piece the automaton refuses whatever is no comma. -/
theorem piece_stop (cm : Bool) (t : List Int) (c : Int) (r : List Int) (h : pR t = c :: r) (hc : c ≠ 44 ∨ cm = true) : hr (cm, 0) (pA t ++ (pD t ++ pC t) ++ [c]) = none := by
  obtain ⟨h1, h2⟩ := pR_head t c r h
  rw [hr_append, hr_piece cm _ _ _ (pA_bl t) (pD_dg t) (pC_bl t)]
  show (hst (cm, phOf (pD t) (pC t)) c).bind _ = none
  have : hst (cm, phOf (pD t) (pC t)) c = none := by
    by_cases hd : dg c = true
    · obtain ⟨n1, n2⟩ := h2 hd
      unfold phOf
      rw [if_neg n1, if_neg n2]
      exact hst_dg2 cm c hd
    · by_cases h44 : c = 44
      · rcases hc with hc | hc
        · exact absurd h44 hc
        · unfold hst
          rw [if_pos h44, if_pos hc]
      · exact hst_bad _ c h44 h1 (by simpa using hd)
  rw [this]
  rfl

theorem kst_long (t : List Int) : IsLong t (kst t) := by
  have hsp := p_split t
  have hlen := len_piece t
  unfold kst
  cases hR : pR t with
  | nil =>
    rw [hR] at hlen
    simp only [List.length_nil] at hlen
    refine ⟨by show plen t ≤ _; omega, ?_, .inl (by show plen t = _; omega)⟩
    show hok (t.take (plen t)) = true
    rw [take_piece]
    unfold hok
    rw [hr_piece false _ _ _ (pA_bl t) (pD_dg t) (pC_bl t)]
    rfl
  | cons c r =>
    rw [hR] at hlen hsp
    simp only [List.length_cons] at hlen
    have htk : t.take (plen t + 1) = pA t ++ (pD t ++ pC t) ++ [c] := by
      have := take_app hsp (plen_eq t) 1
      simpa using this
    by_cases h44 : c = 44
    · simp only [h44, if_true]
      have hsp2 := p_split r
      have hlen2 := len_piece r
      have hpre : hr (false, 0) (pA t ++ (pD t ++ pC t) ++ [44]) = some (true, 0) := by
        rw [hr_append, hr_piece false _ _ _ (pA_bl t) (pD_dg t) (pC_bl t)]
        rfl
      have htk2 : ∀ m, t.take (plen t + (1 + m)) = pA t ++ (pD t ++ pC t) ++ [44] ++ r.take m := by
        intro m
        have := take_app hsp (plen_eq t) (1 + m)
        rw [this, h44, Nat.add_comm 1 m, List.take_succ_cons]
        simp
      refine ⟨by omega, ?_, ?_⟩
      · rw [htk2, take_piece]
        unfold hok
        rw [hr_append, hpre]
        show (hr (true, 0) _).isSome = true
        rw [hr_piece true _ _ _ (pA_bl r) (pD_dg r) (pC_bl r)]
        rfl
      · cases hR2 : pR r with
        | nil => rw [hR2] at hlen2; simp only [List.length_nil] at hlen2; exact .inl (by omega)
        | cons c2 r2 =>
          right
          rw [show plen t + (1 + plen r) + 1 = plen t + (1 + (plen r + 1)) by omega, htk2]
          have htk3 : r.take (plen r + 1) = pA r ++ (pD r ++ pC r) ++ [c2] := by
            rw [hR2] at hsp2
            have := take_app hsp2 (plen_eq r) 1
            simpa using this
          rw [htk3]
          unfold hok
          rw [hr_append, hpre]
          show (hr (true, 0) _).isSome = false
          rw [piece_stop true r c2 r2 hR2 (.inr rfl)]
          rfl
    · simp only [h44, if_false]
      refine ⟨by omega, ?_, .inr ?_⟩
      · rw [take_piece]
        unfold hok
        rw [hr_piece false _ _ _ (pA_bl t) (pD_dg t) (pC_bl t)]
        rfl
      · rw [htk]
        unfold hok
        rw [piece_stop false t c r hR (.inl h44)]
        rfl

end Go.Proofs.Qxb6601151a
