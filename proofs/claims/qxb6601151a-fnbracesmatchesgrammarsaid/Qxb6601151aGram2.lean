/-
  PLAIN, MORE: digits together by first and last; heads by the comma; counts.
-/
import Derived.Test.Qxb6601151aGram
namespace Go.Proofs.Qxb6601151a

/-! ### first and last digit -/
def FL (p : List Int) (k : Nat) (f l : Int) : Prop :=
  (f = -1 ∧ l = -1 ∧ ∀ i, i < k → dg (p.getD i 0) = false) ∨
  ∃ a b : Nat, f = a ∧ l = b ∧ a ≤ b ∧ b < k ∧ dg (p.getD a 0) = true ∧ dg (p.getD b 0) = true ∧ (∀ i, i < a → dg (p.getD i 0) = false) ∧ (∀ i, b < i → i < k → dg (p.getD i 0) = false)

theorem FL.zero (p : List Int) : FL p 0 (-1) (-1) := .inl ⟨rfl, rfl, fun i hi => by omega⟩
theorem FL.bd {p : List Int} {k : Nat} {f l : Int} (h : FL p k f l) : (f = -1 ∧ l = -1) ∨ (0 ≤ f ∧ f ≤ l ∧ l < k) := by
  rcases h with ⟨h1, h2, _⟩ | ⟨a, b, h1, h2, h3, h4, _⟩
  · exact .inl ⟨h1, h2⟩
  · exact .inr (by omega)
theorem FL.no {p : List Int} {k : Nat} {f l : Int} (h : FL p k f l) (hd : dg (p.getD k 0) = false) : FL p (k + 1) f l := by
  rcases h with ⟨h1, h2, h3⟩ | ⟨a, b, h1, h2, h3, h4, h5, h6, h7, h8⟩
  · refine .inl ⟨h1, h2, fun i hi => ?_⟩
    rcases Nat.lt_succ_iff_lt_or_eq.1 hi with h | rfl
    · exact h3 i h
    · exact hd
  · refine .inr ⟨a, b, h1, h2, h3, by omega, h5, h6, h7, fun i hi hk => ?_⟩
    rcases Nat.lt_succ_iff_lt_or_eq.1 hk with h | rfl
    · exact h8 i hi h
    · exact hd
theorem FL.first {p : List Int} {k : Nat} {f l : Int} (h : FL p k f l) (hf : f < 0) (hd : dg (p.getD k 0) = true) : FL p (k + 1) k k := by
  rcases h with ⟨_, _, h3⟩ | ⟨a, b, h1, _⟩
  · exact .inr ⟨k, k, rfl, rfl, Nat.le_refl _, by omega, hd, hd, h3, fun i hi hk => by omega⟩
  · omega
theorem FL.next {p : List Int} {k : Nat} {f l : Int} (h : FL p k f l) (hf : 0 ≤ f) (hd : dg (p.getD k 0) = true) : FL p (k + 1) f k := by
  rcases h with ⟨h1, _, _⟩ | ⟨a, b, h1, h2, h3, h4, h5, h6, h7, h8⟩
  · omega
  · exact .inr ⟨a, k, h1, rfl, by omega, by omega, h5, hd, h7, fun i hi hk => by omega⟩

/-! ### dt by them -/
theorem pr_no : ∀ (l : List Int) (ph : Nat), (∀ c ∈ l, dg c = false) → pr ph l = some (if l = [] then ph else if ph = 0 then 0 else 2)
  | [], ph, _ => rfl
  | c :: l, ph, h => by
    show (pst ph c).bind _ = _
    have : pst ph c = some (if ph = 0 then 0 else 2) := by unfold pst; rw [if_neg (by rw [h c (by simp)]; decide)]
    rw [this]
    show pr _ l = _
    rw [pr_no l _ (fun x hx => h x (by simp [hx]))]
    by_cases hl : l = []
    · simp [hl]
    · by_cases h0 : ph = 0
      · simp [hl, h0]
      · simp [hl, h0]
theorem pr_yes : ∀ (l : List Int) (ph : Nat), ph ≠ 2 → (∀ c ∈ l, dg c = true) → pr ph l = some (if l = [] then ph else 1)
  | [], ph, _, _ => rfl
  | c :: l, ph, hp, h => by
    show (pst ph c).bind _ = _
    have : pst ph c = some 1 := by unfold pst; rw [if_pos (h c (by simp)), if_neg hp]
    rw [this]
    show pr 1 l = _
    rw [pr_yes l 1 (by omega) (fun x hx => h x (by simp [hx]))]
    simp

theorem dt_of (X Y Z : List Int) (hX : ∀ c ∈ X, dg c = false) (hY : ∀ c ∈ Y, dg c = true) (hZ : ∀ c ∈ Z, dg c = false) : dt (X ++ (Y ++ Z)) = true := by
  unfold dt
  rw [pr_append, pr_no X 0 hX]
  simp only [Option.bind_some, if_true, ite_self]
  rw [pr_append, pr_yes Y 0 (by omega) hY]
  simp only [Option.bind_some]
  rw [pr_no Z _ hZ]
  rfl

theorem mem_take_getD (p : List Int) (n : Nat) (c : Int) (h : c ∈ p.take n) : ∃ i, i < n ∧ i < p.length ∧ p.getD i 0 = c := by
  obtain ⟨i, hi, rfl⟩ := List.mem_iff_getElem.1 h
  have hi' : i < n ∧ i < p.length := by rw [List.length_take] at hi; omega
  exact ⟨i, hi'.1, hi'.2, by simp [hi'.2]⟩
theorem mem_drop_getD (p : List Int) (n : Nat) (c : Int) (h : c ∈ p.drop n) : ∃ i, n ≤ i ∧ i < p.length ∧ p.getD i 0 = c := by
  obtain ⟨i, hi, rfl⟩ := List.mem_iff_getElem.1 h
  have hi' : i < p.length - n := by simpa using hi
  exact ⟨n + i, by omega, by omega, by simp [show n + i < p.length by omega]⟩

theorem dt_none (p : List Int) (h : ∀ i, i < p.length → dg (p.getD i 0) = false) : dt p = true := by
  have := dt_of p [] [] (fun c hc => by
    obtain ⟨i, hi, rfl⟩ := List.mem_iff_getElem.1 hc
    have := h i hi
    simpa [hi] using this) (by simp) (by simp)
  simpa using this

theorem dt_all (p : List Int) (a b : Nat) (hab : a ≤ b) (h1 : ∀ i, i < a → dg (p.getD i 0) = false) (h2 : ∀ i, a ≤ i → i < b + 1 → dg (p.getD i 0) = true) (h3 : ∀ i, b < i → i < p.length → dg (p.getD i 0) = false) : dt p = true := by
  have e : p = p.take a ++ ((p.drop a).take (b + 1 - a) ++ p.drop (b + 1)) := by
    have e2 : p.drop (b + 1) = (p.drop a).drop (b + 1 - a) := by rw [List.drop_drop]; congr 1; omega
    rw [e2, List.take_append_drop, List.take_append_drop]
  rw [e]
  refine dt_of _ _ _ (fun c hc => ?_) (fun c hc => ?_) (fun c hc => ?_)
  · obtain ⟨i, hi, _, rfl⟩ := mem_take_getD p a c hc
    exact h1 i hi
  · obtain ⟨i, hi, hi2, rfl⟩ := mem_take_getD (p.drop a) _ c hc
    rw [List.length_drop] at hi2
    rw [getD_drop]
    exact h2 (a + i) (by omega) (by omega)
  · obtain ⟨i, hi, hi2, rfl⟩ := mem_drop_getD p _ c hc
    exact h3 i (by omega) hi2

theorem pr_step (p : List Int) (i : Nat) (hi : i < p.length) : pr 0 (p.take (i + 1)) = (pr 0 (p.take i)).bind fun ph => pst ph (p.getD i 0) := by
  have e : p.getD i 0 = p[i] := by simp [hi]
  rw [List.take_add_one, List.getElem?_eq_getElem hi, pr_append, e]
  congr 1
  funext ph
  show (pst ph p[i]).bind _ = _
  cases pst ph p[i] <;> rfl

theorem dt_gap (p : List Int) (a m b : Nat) (ham : a < m) (hmb : m < b) (hb : b < p.length) (h1 : dg (p.getD a 0) = true) (h2 : dg (p.getD m 0) = false) (h3 : dg (p.getD b 0) = true) : dt p = false := by
  cases hdt : dt p with
  | false => rfl
  | true =>
    exfalso
    have some_all : ∀ i, i ≤ p.length → ∃ s, pr 0 (p.take i) = some s := by
      intro i _
      unfold dt at hdt
      rw [← List.take_append_drop i p, pr_append] at hdt
      cases e : pr 0 (p.take i) with
      | none => rw [e] at hdt; cases hdt
      | some s => exact ⟨s, rfl⟩
    have A1 : pr 0 (p.take (a + 1)) = some 1 := by
      obtain ⟨s, hs⟩ := some_all a (by omega)
      obtain ⟨s', hs'⟩ := some_all (a + 1) (by omega)
      rw [pr_step p a (by omega), hs] at hs' ⊢
      simp only [Option.bind_some] at hs' ⊢
      unfold pst at hs' ⊢
      rw [if_pos h1] at hs' ⊢
      split at hs'
      · cases hs'
      · rename_i hne; rw [if_neg hne]
    have A2 : ∀ i, a + 1 ≤ i → i ≤ p.length → ∃ s, pr 0 (p.take i) = some s ∧ s ≠ 0 := by
      intro i hi
      induction i with
      | zero => omega
      | succ i ih =>
        intro hil
        by_cases e : i = a
        · subst e; exact ⟨1, A1, by omega⟩
        · obtain ⟨s, hs, hs0⟩ := ih (by omega) (by omega)
          obtain ⟨s', hs'⟩ := some_all (i + 1) (by omega)
          refine ⟨s', hs', ?_⟩
          rw [pr_step p i (by omega), hs] at hs'
          simp only [Option.bind_some] at hs'
          unfold pst at hs'
          split at hs'
          · split at hs'
            · cases hs'
            · simp only [Option.some.injEq] at hs'; omega
          · simp only [Option.some.injEq] at hs'
            omega
    have A3 : pr 0 (p.take (m + 1)) = some 2 := by
      obtain ⟨s, hs, hs0⟩ := A2 m (by omega) (by omega)
      rw [pr_step p m (by omega), hs]
      simp only [Option.bind_some]
      unfold pst
      rw [if_neg (by rw [h2]; decide), if_neg hs0]
    have A4 : ∀ i, m + 1 ≤ i → i ≤ p.length → pr 0 (p.take i) = some 2 := by
      intro i hi
      induction i with
      | zero => omega
      | succ i ih =>
        intro hil
        by_cases e : i = m
        · subst e; exact A3
        · have hs := ih (by omega) (by omega)
          obtain ⟨s', hs'⟩ := some_all (i + 1) (by omega)
          rw [pr_step p i (by omega), hs] at hs' ⊢
          simp only [Option.bind_some] at hs' ⊢
          unfold pst at hs' ⊢
          split at hs'
          · rw [if_pos rfl] at hs'; cases hs'
          · rename_i hne; rw [if_neg hne]; rfl
    obtain ⟨s', hs'⟩ := some_all (b + 1) (by omega)
    rw [pr_step p b hb, A4 b (by omega) (by omega)] at hs'
    simp only [Option.bind_some] at hs'
    unfold pst at hs'
    rw [if_pos h3, if_pos rfl] at hs'
    cases hs'

/-! ### heads by the comma -/
def vld (c : Int) : Bool := bl c || dg c
def CM (h : List Int) (k : Nat) (cm : Int) : Prop :=
  (cm = -1 ∧ ∀ i, i < k → h.getD i 0 ≠ 44 ∧ vld (h.getD i 0) = true) ∨
  ∃ a : Nat, cm = a ∧ a < k ∧ h.getD a 0 = 44 ∧ ∀ i, i < k → i ≠ a → h.getD i 0 ≠ 44 ∧ vld (h.getD i 0) = true

theorem CM.bd {h : List Int} {k : Nat} {cm : Int} (c : CM h k cm) : cm = -1 ∨ (0 ≤ cm ∧ cm < k) := by
  rcases c with ⟨h1, _⟩ | ⟨a, h1, h2, _⟩
  · exact .inl h1
  · exact .inr (by omega)
theorem CM.char {h : List Int} {k : Nat} {cm : Int} (c : CM h k cm) (h1 : h.getD k 0 ≠ 44) (h2 : vld (h.getD k 0) = true) : CM h (k + 1) cm := by
  rcases c with ⟨e, g⟩ | ⟨a, e, ha, h44, g⟩
  · refine .inl ⟨e, fun i hi => ?_⟩
    rcases Nat.lt_succ_iff_lt_or_eq.1 hi with h' | rfl
    · exact g i h'
    · exact ⟨h1, h2⟩
  · refine .inr ⟨a, e, by omega, h44, fun i hi hne => ?_⟩
    rcases Nat.lt_succ_iff_lt_or_eq.1 hi with h' | rfl
    · exact g i h' hne
    · exact ⟨h1, h2⟩
theorem CM.comma {h : List Int} {k : Nat} {cm : Int} (c : CM h k cm) (hc : cm < 0) (h1 : h.getD k 0 = 44) : CM h (k + 1) k := by
  rcases c with ⟨e, g⟩ | ⟨a, e, _⟩
  · refine .inr ⟨k, rfl, by omega, h1, fun i hi hne => g i (by omega)⟩
  · omega

theorem hr_pr (cm : Bool) : ∀ (l : List Int) (ph : Nat), (∀ c ∈ l, c ≠ 44 ∧ vld c = true) → hr (cm, ph) l = (pr ph l).map fun x => (cm, x)
  | [], ph, _ => rfl
  | c :: l, ph, h => by
    obtain ⟨h1, h2⟩ := h c (by simp)
    show (hst (cm, ph) c).bind _ = ((pst ph c).bind _).map _
    have : hst (cm, ph) c = (pst ph c).map fun x => (cm, x) := by
      unfold hst
      rw [if_neg h1, if_pos (show (bl c || dg c) = true from h2)]
    rw [this]
    cases pst ph c with
    | none => rfl
    | some ph' => exact hr_pr cm l ph' (fun x hx => h x (by simp [hx]))

theorem hok_plain (l : List Int) (h : ∀ c ∈ l, c ≠ 44 ∧ vld c = true) : hok l = dt l := by
  unfold hok dt
  rw [hr_pr false l 0 h]
  cases pr 0 l <;> rfl
theorem hok_comma (a b : List Int) (ha : ∀ c ∈ a, c ≠ 44 ∧ vld c = true) (hb : ∀ c ∈ b, c ≠ 44 ∧ vld c = true) : hok (a ++ 44 :: b) = (dt a && dt b) := by
  unfold hok dt
  rw [hr_append, hr_pr false a 0 ha]
  cases pr 0 a with
  | none => rfl
  | some s =>
    show (hr (true, 0) b).isSome = _
    rw [hr_pr true b 0 hb]
    cases pr 0 b <;> rfl
theorem hok_bad (a b : List Int) (c : Int) (h1 : c ≠ 44) (h2 : vld c = false) : hok (a ++ c :: b) = false := by
  unfold hok
  rw [hr_append]
  cases hr (false, 0) a with
  | none => rfl
  | some s =>
    show ((hst s c).bind _).isSome = false
    have : hst s c = none := by unfold hst; unfold vld at h2; rw [if_neg h1, if_neg (by rw [h2]; decide)]
    rw [this]
    rfl
theorem hr_true : ∀ (l : List Int) (ph : Nat) (s : Bool × Nat), hr (true, ph) l = some s → s.1 = true
  | [], ph, s, h => by simp only [hr, Option.some.injEq] at h; rw [← h]
  | c :: l, ph, s, h => by
    have h' : (hst (true, ph) c).bind (fun s' => hr s' l) = some s := h
    cases e : hst (true, ph) c with
    | none => rw [e] at h'; cases h'
    | some s' =>
      rw [e] at h'
      unfold hst at e
      split at e
      · rw [if_pos rfl] at e; cases e
      · split at e
        · cases e2 : pst ph c with
          | none => rw [e2] at e; cases e
          | some x =>
            rw [e2] at e
            simp only [Option.map_some, Option.some.injEq] at e
            subst e
            exact hr_true l x s h'
        · cases e
theorem hok_two (a b d : List Int) : hok (a ++ 44 :: (b ++ 44 :: d)) = false := by
  unfold hok
  rw [hr_append]
  cases hr (false, 0) a with
  | none => rfl
  | some s =>
    show ((hst s 44).bind _).isSome = false
    cases hs : s.1 with
    | true =>
      have : hst s 44 = none := by unfold hst; rw [if_pos rfl, if_pos hs]
      rw [this]
      rfl
    | false =>
      have : hst s 44 = some (true, 0) := by unfold hst; rw [if_pos rfl, if_neg (by rw [hs]; decide)]
      rw [this]
      show (hr (true, 0) (b ++ 44 :: d)).isSome = false
      rw [hr_append]
      cases e : hr (true, 0) b with
      | none => rfl
      | some s' =>
        have hs' := hr_true b 0 s' e
        show ((hst s' 44).bind _).isSome = false
        have : hst s' 44 = none := by unfold hst; rw [if_pos rfl, if_pos hs']
        rw [this]
        rfl

/-- The list split at an index. -/
theorem split_at (h : List Int) (k : Nat) (hk : k < h.length) : h = h.take k ++ h.getD k 0 :: h.drop (k + 1) := by
  have e : h.getD k 0 = h[k] := by simp [hk]
  rw [e, ← List.drop_eq_getElem_cons hk, List.take_append_drop]

theorem CM.bad {h : List Int} {k : Nat} (hk : k < h.length) (h1 : h.getD k 0 ≠ 44) (h2 : vld (h.getD k 0) = false) : hok h = false := by
  rw [split_at h k hk]
  exact hok_bad _ _ _ h1 h2
theorem CM.two {h : List Int} {k : Nat} {cm : Int} (c : CM h k cm) (hc : 0 ≤ cm) (hk : k < h.length) (h1 : h.getD k 0 = 44) : hok h = false := by
  rcases c with ⟨e, _⟩ | ⟨a, e, ha, h44, _⟩
  · omega
  · have e1 := split_at h a (by omega)
    have e2 := split_at (h.drop (a + 1)) (k - (a + 1)) (by rw [List.length_drop]; omega)
    rw [getD_drop, show a + 1 + (k - (a + 1)) = k by omega, h1] at e2
    rw [h44, e2] at e1
    rw [e1]
    exact hok_two _ _ _
theorem CM.none {h : List Int} {cm : Int} (c : CM h h.length cm) (hc : cm < 0) : hok h = dt h := by
  rcases c with ⟨_, g⟩ | ⟨a, e, _⟩
  · refine hok_plain h fun c hc => ?_
    obtain ⟨i, hi, rfl⟩ := List.mem_iff_getElem.1 hc
    have := g i hi
    simpa [hi] using this
  · omega
theorem CM.one {h : List Int} {a : Nat} (c : CM h h.length a) : hok h = (dt (h.take a) && dt (h.drop (a + 1))) := by
  rcases c with ⟨e, _⟩ | ⟨a', e, ha, h44, g⟩
  · omega
  · obtain rfl : a = a' := by omega
    have e1 := split_at h a ha
    rw [h44] at e1
    conv => lhs; rw [e1]
    refine hok_comma _ _ (fun c hc => ?_) (fun c hc => ?_)
    · obtain ⟨i, hi, hi2, rfl⟩ := mem_take_getD h a c hc
      exact g i hi2 (by omega)
    · obtain ⟨i, hi, hi2, rfl⟩ := mem_drop_getD h _ c hc
      exact g i hi2 (by omega)

end Go.Proofs.Qxb6601151a
