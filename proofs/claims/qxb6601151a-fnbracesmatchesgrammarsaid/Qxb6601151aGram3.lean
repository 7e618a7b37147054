/-
  PLAIN, MORE: the count's value; braces by the pieces of the text behind the brace.
-/
import Derived.Test.Qxb6601151aGram2
import Derived.Test.Qxb6601151aBraces
namespace Go.Proofs.Qxb6601151a

def val1 (n c : Int) : Int := n * 10 + (c - 48)
def val (ds : List Int) : Int := ds.foldl val1 0

theorem val_snoc (ds : List Int) (c : Int) : val (ds ++ [c]) = val ds * 10 + (c - 48) := by simp [val, val1]

theorem capped_val : ∀ (ds : List Int), (∀ c ∈ ds, dg c = true) → capped ds = min (val ds) 65536 ∧ 0 ≤ val ds := by
  have key : ∀ (ds : List Int) (a b : Int), 0 ≤ b → a = min b 65536 → (∀ c ∈ ds, dg c = true) → ds.foldl cap1 a = min (ds.foldl val1 b) 65536 ∧ 0 ≤ ds.foldl val1 b := by
    intro ds
    induction ds with
    | nil => intro a b h0 h _; exact ⟨h, h0⟩
    | cons c ds ih =>
      intro a b h0 h hc
      have hd := (dg_iff c).1 (hc c (by simp))
      refine ih _ _ ?_ ?_ (fun x hx => hc x (by simp [hx]))
      · unfold val1; omega
      · unfold cap1 val1; omega
  intro ds h
  exact key ds 0 0 (by omega) (by omega) h

theorem foldl_val (ds : List Int) : ∀ a : Int, ds.foldl val1 a = a * 10 ^ ds.length + val ds := by
  induction ds with
  | nil => intro a; simp [val]
  | cons c ds ih =>
    intro a
    show ds.foldl val1 (val1 a c) = _ + ds.foldl val1 (val1 0 c)
    rw [ih, ih]
    unfold val1
    rw [List.length_cons, Int.pow_succ, Int.add_mul, Int.mul_assoc a 10, Int.mul_comm 10, Int.zero_mul, Int.zero_add]
    omega

theorem val_cons (c : Int) (ds : List Int) : val (c :: ds) = (c - 48) * 10 ^ ds.length + val ds := by
  show ds.foldl val1 (val1 0 c) = _
  rw [foldl_val]
  unfold val1
  congr 2
  omega

theorem val_zeros (z : Nat) (ds : List Int) (h : ∀ i, i < z → ds.getD i 0 = 48) (hz : z ≤ ds.length) : val ds = val (ds.drop z) := by
  induction z with
  | zero => rfl
  | succ z ih =>
    rw [ih (fun i hi => h i (by omega)) (by omega)]
    have e : ds.drop z = ds.getD z 0 :: ds.drop (z + 1) := by
      have e : ds.getD z 0 = ds[z] := by simp [show z < ds.length by omega]
      rw [e, ← List.drop_eq_getElem_cons (by omega)]
    rw [e, h z (by omega), val_cons]
    simp

/-- More than five digits, the first no zero: at the cap. -/
theorem capped_big (ds : List Int) (hd : ∀ c ∈ ds, dg c = true) (z : Nat) (h : ∀ i, i < z → ds.getD i 0 = 48) (hz : z + 5 < ds.length) (h1 : ds.getD z 0 ≠ 48) : capped ds = 65536 := by
  have hv := capped_val ds hd
  have hz' := val_zeros z ds h (by omega)
  have e : ds.drop z = ds.getD z 0 :: ds.drop (z + 1) := by
    have e : ds.getD z 0 = ds[z] := by simp [show z < ds.length by omega]
    rw [e, ← List.drop_eq_getElem_cons (by omega)]
  have hdz : dg (ds.getD z 0) = true := by
    have e : ds.getD z 0 = ds[z] := by simp [show z < ds.length by omega]
    rw [e]
    exact hd _ (List.getElem_mem _)
  have hb := (dg_iff _).1 hdz
  have hrest := (capped_val (ds.drop (z + 1)) (fun c hc => hd c (List.mem_of_mem_drop hc))).2
  rw [e, val_cons] at hz'
  have hp : (10 : Int) ^ 5 ≤ 10 ^ (ds.drop (z + 1)).length := by
    have hn : 10 ^ 5 ≤ 10 ^ (ds.drop (z + 1)).length := Nat.pow_le_pow_right (by omega) (by rw [List.length_drop]; omega)
    exact_mod_cast hn
  have : (100000 : Int) ≤ val ds := by
    rw [hz']
    have h2 : (1 : Int) * 10 ^ (ds.drop (z + 1)).length ≤ (ds.getD z 0 - 48) * 10 ^ (ds.drop (z + 1)).length := Int.mul_le_mul_of_nonneg_right (by omega) (by omega)
    omega
  rw [hv.1]
  omega

/-- The value of the digits behind the zeros, capped once at the end. -/
theorem capped_small (ds : List Int) (hd : ∀ c ∈ ds, dg c = true) (z : Nat) (h : ∀ i, i < z → ds.getD i 0 = 48) (hz : z ≤ ds.length) : capped ds = min (val (ds.drop z)) 65536 := by
  rw [(capped_val ds hd).1, val_zeros z ds h hz]

theorem val_bd (ds : List Int) (hd : ∀ c ∈ ds, dg c = true) (h : ds.length ≤ 5) : 0 ≤ val ds ∧ val ds ≤ 99999 := by
  refine ⟨(capped_val ds hd).2, ?_⟩
  have key : ∀ (ds : List Int), (∀ c ∈ ds, dg c = true) → val ds + 1 ≤ 10 ^ ds.length := by
    intro ds
    induction ds with
    | nil => intro _; simp [val]
    | cons c ds ih =>
      intro hc
      have hb := (dg_iff c).1 (hc c (by simp))
      have := ih (fun x hx => hc x (by simp [hx]))
      have hp : (0 : Int) ≤ 10 ^ ds.length := Int.le_of_lt (Int.pow_pos (by decide))
      have h2 : (c - 48) * 10 ^ ds.length ≤ 9 * 10 ^ ds.length := Int.mul_le_mul_of_nonneg_right (by omega) hp
      rw [val_cons, List.length_cons, Int.pow_succ]
      omega
  have := key ds hd
  have hp : (10 : Int) ^ ds.length ≤ 10 ^ 5 := by
    have hn : 10 ^ ds.length ≤ 10 ^ 5 := Nat.pow_le_pow_right (by omega) h
    exact_mod_cast hn
  omega

/-! ### first and last of a piece -/
theorem FL.piece {A D C : List Int} {f l : Int} (h : FL (A ++ (D ++ C)) (A ++ (D ++ C)).length f l) (hA : ∀ c ∈ A, dg c = false) (hD : ∀ c ∈ D, dg c = true) (hC : ∀ c ∈ C, dg c = false) :
    (D = [] ∧ f = -1) ∨ (D ≠ [] ∧ f = A.length ∧ l = (A.length : Int) + D.length - 1) := by
  have gA : ∀ i, i < A.length → dg ((A ++ (D ++ C)).getD i 0) = false := by
    intro i hi
    have : (A ++ (D ++ C)).getD i 0 = A[i] := by rw [List.getD_eq_getElem?_getD, List.getElem?_append_left hi, List.getElem?_eq_getElem hi]; rfl
    rw [this]
    exact hA _ (List.getElem_mem _)
  have gD : ∀ i, i < D.length → dg ((A ++ (D ++ C)).getD (A.length + i) 0) = true := by
    intro i hi
    have : (A ++ (D ++ C)).getD (A.length + i) 0 = D[i] := by
      rw [List.getD_eq_getElem?_getD, List.getElem?_append_right (by omega), Nat.add_sub_cancel_left, List.getElem?_append_left hi, List.getElem?_eq_getElem hi]
      rfl
    rw [this]
    exact hD _ (List.getElem_mem _)
  have gC : ∀ i, A.length + D.length ≤ i → i < (A ++ (D ++ C)).length → dg ((A ++ (D ++ C)).getD i 0) = false := by
    intro i hi hl
    have hl' : i - (A.length + D.length) < C.length := by simp only [List.length_append] at hl; omega
    have : (A ++ (D ++ C)).getD i 0 = C[i - (A.length + D.length)] := by
      rw [List.getD_eq_getElem?_getD, List.getElem?_append_right (by omega), List.getElem?_append_right (by omega), show i - A.length - D.length = i - (A.length + D.length) by omega, List.getElem?_eq_getElem hl']
      rfl
    rw [this]
    exact hC _ (List.getElem_mem _)
  have hlen : (A ++ (D ++ C)).length = A.length + (D.length + C.length) := by simp
  rcases Nat.eq_zero_or_pos D.length with hD0 | hD0
  · left
    refine ⟨List.eq_nil_of_length_eq_zero hD0, ?_⟩
    rcases h with ⟨h1, _⟩ | ⟨a, b, h1, h2, h3, h4, h5, _⟩
    · exact h1
    · exfalso
      rcases Nat.lt_or_ge a A.length with h' | h'
      · rw [gA a h'] at h5; cases h5
      · rw [gC a (by omega) (by omega)] at h5; cases h5
  · right
    refine ⟨fun e => by rw [e] at hD0; simp at hD0, ?_⟩
    rcases h with ⟨_, _, h3⟩ | ⟨a, b, h1, h2, h3, h4, h5, h6, h7, h8⟩
    · have := h3 (A.length + 0) (by omega)
      rw [gD 0 hD0] at this
      cases this
    · have ha : a = A.length := by
        rcases Nat.lt_trichotomy a A.length with h' | h' | h'
        · rw [gA a h'] at h5; cases h5
        · exact h'
        · have := h7 A.length h'
          have g := gD 0 hD0
          rw [Nat.add_zero, this] at g
          cases g
      have hb : b = A.length + D.length - 1 := by
        rcases Nat.lt_trichotomy b (A.length + D.length - 1) with h' | h' | h'
        · have := h8 (A.length + (D.length - 1)) (by omega) (by omega)
          rw [gD (D.length - 1) (by omega)] at this
          cases this
        · exact h'
        · rw [gC b (by omega) (by omega)] at h6; cases h6
      refine ⟨by rw [h1, ha], by rw [h2, hb]; omega⟩

/-! ### braces by the pieces -/
theorem drop_tw (f : Int → Bool) : ∀ l : List Int, l.drop (l.takeWhile f).length = l.dropWhile f
  | [] => rfl
  | a :: l => by
    rw [List.takeWhile_cons, List.dropWhile_cons]
    by_cases h : f a = true
    · rw [if_pos h, if_pos h, List.length_cons, List.drop_succ_cons]
      exact drop_tw f l
    · rw [if_neg h, if_neg h]
      rfl

theorem q_pieces (zs : List Int) (s : Nat) : q3 zs s = s + plen (zs.drop s) ∧ zs.drop (q3 zs s) = pR (zs.drop s) ∧ loAt zs s = capped (pD (zs.drop s)) ∧ hasAt zs s = decide (0 < (pD (zs.drop s)).length) := by
  have d1 : zs.drop (q1 zs s) = (zs.drop s).dropWhile bl := by
    show zs.drop (s + run bl zs s) = _
    rw [← List.drop_drop]
    exact drop_tw bl _
  have r2 : run dg zs (q1 zs s) = (pD (zs.drop s)).length := by
    unfold run pD
    rw [d1]
  have d2 : zs.drop (q2 zs s) = ((zs.drop s).dropWhile bl).dropWhile dg := by
    show zs.drop (q1 zs s + run dg zs (q1 zs s)) = _
    rw [← List.drop_drop, r2, d1]
    exact drop_tw dg _
  have r3 : run bl zs (q2 zs s) = (pC (zs.drop s)).length := by
    unfold run pC
    rw [d2]
  have d3 : zs.drop (q3 zs s) = pR (zs.drop s) := by
    show zs.drop (q2 zs s + run bl zs (q2 zs s)) = _
    rw [← List.drop_drop, r3, d2]
    exact drop_tw bl _
  refine ⟨?_, d3, ?_, ?_⟩
  · show s + run bl zs s + run dg zs (q1 zs s) + run bl zs (q2 zs s) = _
    rw [r2, r3]
    unfold plen pA run
    omega
  · unfold loAt digitsAt
    rw [d1]
    rfl
  · unfold hasAt
    rw [r2]

end Go.Proofs.Qxb6601151a
