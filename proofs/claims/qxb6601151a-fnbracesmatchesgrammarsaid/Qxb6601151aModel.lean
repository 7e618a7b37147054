import Derived.Test.Qxb6601151aLongest
import Derived.Test.Qxb6601151aCount
namespace Go.Proofs.Qxb6601151a
open Go.RowKit

def MdOut (r : Int × Int × Bool × Nat) (w : World) (e : Ending) (w' : World) : Prop :=
  e = .returned (.tuple #[.int .i64 r.1, .int .i64 r.2.1, .bool r.2.2.1, .int .i64 r.2.2.2]) ∧ w' = w

theorem MdOut.mk {r : Int × Int × Bool × Nat} {w : World} {e : Ending} {lo hi : Int} {ok : Bool} {en : Nat} {en' : Int} (hr : r = (lo, hi, ok, en)) (hen : en' = en) (he : e = .returned (.tuple #[.int .i64 lo, .int .i64 hi, .bool ok, .int .i64 en'])) : MdOut r w e w := by
  subst hr hen
  exact ⟨he, rfl⟩

set_option maxHeartbeats 1000000 in
/-- The place behind the brace lies beyond the text: refused there. -/
theorem model_beyond (so : Option Addr) (n cap : Nat) (zs : List Int) (pos : Nat) (w : World) (h : RS w so n cap zs) (hn : n ≤ 1048576) (hb : pos < 9223372036854775807) (hlt : zs.length < pos + 1) :
    Calls Try.prog 11 #[.slice so n cap, .int .i64 pos] w (MdOut (bracesAt zs (pos + 1)) w) := by
  have hz := h.1
  subst hz
  have hd : zs.drop (pos + 1) = [] := List.drop_eq_nil_of_le (by omega)
  have hR : bracesAt zs (pos + 1) = (0, 0, false, pos + 1 + kst []) := model_no zs (pos + 1) [] hd (.inl (by simp))
  have hk : kst [] = 0 := rfl
  rw [hk] at hR
  have HR : Hid (bracesAt zs (pos + 1) = (0, 0, false, pos + 1 + 0)) := hR
  have HL := longest_any none 0 0 [] w ⟨rfl, Nat.le_refl _, fun h => by omega⟩ (by omega) (by omega)
  rw [hk] at HL
  have HLH : Hid (Calls Try.prog 27 #[.slice none 0 0] w (IntOut 0 w)) := HL
  clear HL hR hd hk h
  go_enter Try.func11, Try.ntmps11
  go_wp2_with fail
  refine HLH.out.mono ?_
  rintro e w' ⟨rfl, rfl⟩
  go_wp2
  exact bodyPost_ret (v := .tuple #[.int .i64 0, .int .i64 0, .bool false, .int .i64 ((pos : Int) + 1)]) (by simp [results, Try.results11, go_sem]) rfl (MdOut.mk HR.out (by omega) rfl)

theorem Pc.no44 {A D C : List Int} (h : Pc A D C) : ∀ c ∈ A ++ (D ++ C), c ≠ 44 := by
  intro c hc
  rcases List.mem_append.1 hc with h1 | h1
  · exact bl_not44 c (h.1 c h1)
  · rcases List.mem_append.1 h1 with h2 | h2
    · exact dg_not44 c (h.2.1 c h2)
    · exact bl_not44 c (h.2.2 c h2)

theorem getD_ne44 {l : List Int} (h : ∀ c ∈ l, c ≠ 44) (i : Nat) (hi : i < l.length) : l.getD i 0 ≠ 44 := by
  have e : l.getD i 0 = l[i] := by simp [hi]
  rw [e]
  exact h _ (List.getElem_mem _)

set_option maxHeartbeats 2000000 in
theorem model_within (b o n cap : Nat) (zs : List Int) (pos : Nat) (w : World) (h : RS w (some ⟨b, o, none⟩) n cap zs) (hn : n ≤ 1048576) (hcm : cap ≤ 9223372036854775807) (hlt : pos + 1 ≤ zs.length) (hne : ¬ cap = pos + 1) :
    Calls Try.prog 11 #[.slice (some ⟨b, o, none⟩) n cap, .int .i64 pos] w (MdOut (bracesAt zs (pos + 1)) w) := by
  have hz := h.1
  subst hz
  have hcap := h.2.1
  have HT := h.from (pos + 1) hlt (ao := some ⟨b, o + (pos + 1), none⟩) (fun _ => rfl)
  have hlong := kst_long (zs.drop (pos + 1))
  have hno := model_no zs (pos + 1) _ rfl
  have hyes := model_yes zs (pos + 1) _ rfl
  have htl : (zs.drop (pos + 1)).length = zs.length - (pos + 1) := List.length_drop
  have HL := longest_any _ _ _ (zs.drop (pos + 1)) w HT (by omega) (by omega)
  generalize zs.drop (pos + 1) = t at *
  generalize hk : kst t = k at *
  have hkl : k ≤ zs.length - (pos + 1) := by have := hlong.1; omega
  have HNo : Hid (t.length ≤ k ∨ t.getD k 0 ≠ 125 → bracesAt zs (pos + 1) = (0, 0, false, pos + 1 + k)) := hno
  have HYes : Hid (k < t.length → t.getD k 0 = 125 → (∃ A D C, Pc A D C ∧ t.take k = A ++ (D ++ C) ∧ bracesAt zs (pos + 1) = if 0 < D.length then (capped D, capped D, true, pos + 1 + k + 1) else (0, 0, false, pos + 1 + k)) ∨
    ∃ A D C A2 D2 C2, Pc A D C ∧ Pc A2 D2 C2 ∧ t.take k = (A ++ (D ++ C)) ++ 44 :: (A2 ++ (D2 ++ C2)) ∧
      bracesAt zs (pos + 1) = if 0 < D.length ∨ 0 < D2.length then (capped D, if 0 < D2.length then capped D2 else -1, true, pos + 1 + k + 1) else (0, 0, false, pos + 1 + k)) := hyes
  have HLH : Hid (Calls Try.prog 27 #[.slice (some ⟨b, o + (pos + 1), none⟩) (zs.length - (pos + 1)) (cap - (pos + 1))] w (IntOut k w)) := HL
  have HTH : Hid (RS w (some ⟨b, o + (pos + 1), none⟩) (zs.length - (pos + 1)) (cap - (pos + 1)) t) := HT
  have HTL : Hid (t.length = zs.length - (pos + 1)) := htl
  clear hk hlong hno hyes HL HT htl h
  have i1 : (0 : Int) ≤ (pos : Int) + 1 := by omega
  have i2 : (pos : Int) + 1 ≤ (zs.length : Int) := by omega
  go_enter Try.func11, Try.ntmps11
  go_wp2_with fail
  refine HLH.out.mono ?_
  rintro e w' ⟨rfl, rfl⟩
  by_cases hkn : k < zs.length - (pos + 1)
  · obtain ⟨b', o', e', hcell⟩ := HTH.out.2.2 (by omega)
    simp only [Option.some.injEq, Addr.mk.injEq, and_true] at e'
    obtain ⟨rfl, rfl⟩ := e'
    have g := hcell k hkn
    have HC : Hid (∀ i, i < zs.length - (pos + 1) → w'.cell? ⟨b, o + (pos + 1) + i, none⟩ = some (.int .i32 (t.getD i 0))) := hcell
    clear hcell
    have hkd : decide (zs.length - (pos + 1) ≤ k) = false := decide_eq_false (by omega)
    by_cases h125 : t.getD k 0 = 125
    · rw [h125] at g
      rcases HYes.out (by rw [HTL.out]; exact hkn) h125 with ⟨A, D, C, hp, hh, hR⟩ | ⟨A, D, C, A2, D2, C2, hp, hp2, hh, hR⟩
      · have H44 : Hid (∀ i, i < k → t.getD i 0 ≠ 44) := fun i hi => by
          have e : t.getD i 0 = (t.take k).getD i 0 := by rw [List.getD_eq_getElem?_getD, List.getD_eq_getElem?_getD, List.getElem?_take, if_pos hi]
          rw [e]
          have hl : (t.take k).length = k := by rw [List.length_take, HTL.out]; omega
          refine getD_ne44 (fun c hc => ?_) i (by omega)
          rw [hh] at hc
          exact hp.no44 c hc
        have HR : Hid (bracesAt zs (pos + 1) = if 0 < D.length then (capped D, capped D, true, pos + 1 + k + 1) else (0, 0, false, pos + 1 + k)) := hR
        have HCV := countvalue_any _ k (cap - (pos + 1)) (t.take k) A D C w' (HTH.out.cut k hkl) (by omega) hh hp
        have HCVH : Hid (Calls Try.prog 28 #[.slice (some ⟨b, o + (pos + 1), none⟩) k (cap - (pos + 1))] w' (CvOut D w')) := HCV
        clear HCV hR hh hp h125
        go_wp2_with fail
        go_loop [13, 14] (fun c i => ∃ (j : Nat), j ≤ k ∧ c = .int .i64 (-1) ∧ i = .int .i64 j) (fun _ i => k - (intOf i).toNat)
        case atStart => exact ⟨0, Nat.zero_le _, rfl, rfl⟩
        case round =>
          obtain ⟨j, hj, rfl, rfl⟩ := hrel
          by_cases hjk : j < k
          · have gj := HC.out j (by omega)
            have hne44 := H44.out j hjk
            have e44 : (t.getD j 0 == 44) = false := by rw [beq_eq_false_iff_ne]; exact hne44
            clear hne44
            generalize t.getD j 0 = c at *
            go_wp2
            go_round
            case rel => exact ⟨j + 1, by omega, rfl, by go_num⟩
            case measure => simp [intOf]; omega
          · go_wp2_with fail
            refine HCVH.out.mono ?_
            rintro e w'' ⟨rfl, rfl⟩
            by_cases hD : 0 < D.length
            · have HR2 : Hid (bracesAt zs (pos + 1) = (capped D, capped D, true, pos + 1 + k + 1)) := by show _ = _; rw [HR.out, if_pos hD]
              rw [decide_eq_true hD]
              generalize capped D = cd at *
              go_wp2
              exact bodyPost_ret (v := .tuple #[.int .i64 (cd), .int .i64 (cd), .bool true, .int .i64 ((pos : Int) + 1 + k + 1)]) (by simp [results, Try.results11, go_sem]) rfl (MdOut.mk HR2.out (by omega) rfl)
            · have HR2 : Hid (bracesAt zs (pos + 1) = (0, 0, false, pos + 1 + k)) := by show _ = _; rw [HR.out, if_neg hD]
              rw [decide_eq_false hD]
              generalize capped D = cd at *
              go_wp2
              exact bodyPost_ret (v := .tuple #[.int .i64 (0), .int .i64 (0), .bool false, .int .i64 ((pos : Int) + 1 + k)]) (by simp [results, Try.results11, go_sem]) rfl (MdOut.mk HR2.out (by omega) rfl)
      · obtain ⟨a, ha⟩ : ∃ a, a = (A ++ (D ++ C)).length := ⟨_, rfl⟩
        have hkt : (t.take k).length = k := by rw [List.length_take, HTL.out]; omega
        have hak : a < k := by
          have := congrArg List.length hh
          rw [List.length_append, ← ha, hkt, List.length_cons] at this
          omega
        have gt : ∀ i, i < k → t.getD i 0 = (t.take k).getD i 0 := fun i hi => by rw [List.getD_eq_getElem?_getD, List.getD_eq_getElem?_getD, List.getElem?_take, if_pos hi]
        have Ha44 : Hid (t.getD a 0 = 44) := by
          show t.getD a 0 = 44
          rw [gt a hak, hh, List.getD_eq_getElem?_getD, List.getElem?_append_right (by omega), ha, Nat.sub_self]
          rfl
        have H44 : Hid (∀ i, i < a → t.getD i 0 ≠ 44) := fun i hi => by
          have e : t.getD i 0 = (A ++ (D ++ C)).getD i 0 := by
            rw [gt i (by omega), hh, List.getD_eq_getElem?_getD, List.getElem?_append_left (by omega), List.getD_eq_getElem?_getD]
          rw [e]
          exact getD_ne44 hp.no44 i (by omega)
        have HR : Hid (bracesAt zs (pos + 1) = if 0 < D.length ∨ 0 < D2.length then (capped D, if 0 < D2.length then capped D2 else -1, true, pos + 1 + k + 1) else (0, 0, false, pos + 1 + k)) := hR
        have hcut := HTH.out.cut k hkl
        have HCV := countvalue_any _ a (cap - (pos + 1)) ((t.take k).take a) A D C w' (hcut.cut a (by omega)) (by omega) (by rw [hh, List.take_left' ha.symm]) hp
        have HCVH : Hid (Calls Try.prog 28 #[.slice (some ⟨b, o + (pos + 1), none⟩) a (cap - (pos + 1))] w' (CvOut D w')) := HCV
        have HCV2 := countvalue_any _ (k - (a + 1)) (cap - (pos + 1) - (a + 1)) ((t.take k).drop (a + 1)) A2 D2 C2 w' (hcut.from (a + 1) (by omega) (ao := some ⟨b, o + (pos + 1) + (a + 1), none⟩) (fun _ => rfl)) (by omega) (by
          rw [hh, ← List.drop_drop, List.drop_left' ha.symm]
          rfl) hp2
        have HCV2H : Hid (Calls Try.prog 28 #[.slice (some ⟨b, o + (pos + 1) + (a + 1), none⟩) (k - (a + 1)) (cap - (pos + 1) - (a + 1))] w' (CvOut D2 w')) := HCV2
        clear HCV HCV2 hcut hR hh hp hp2 h125 ha gt hkt
        go_wp2_with fail
        go_loop [13, 14] (fun c i => ∃ (j : Nat), j ≤ a ∧ c = .int .i64 (-1) ∧ i = .int .i64 j) (fun _ i => a + 1 - (intOf i).toNat)
        case atStart => exact ⟨0, Nat.zero_le _, rfl, rfl⟩
        case round =>
          obtain ⟨j, hj, rfl, rfl⟩ := hrel
          have gj := HC.out j (by omega)
          by_cases hja : j < a
          · have hne44 := H44.out j hja
            have e44 : (t.getD j 0 == 44) = false := by rw [beq_eq_false_iff_ne]; exact hne44
            clear hne44
            generalize t.getD j 0 = c at *
            go_wp2
            go_round
            case rel => exact ⟨j + 1, by omega, rfl, by go_num⟩
            case measure => simp [intOf]; omega
          · obtain rfl : j = a := by omega
            rw [Ha44.out] at gj
            go_wp2_with fail
            refine HCVH.out.mono ?_
            rintro e w'' ⟨rfl, rfl⟩
            go_wp2_with fail
            refine HCV2H.out.mono ?_
            rintro e w3 ⟨rfl, rfl⟩
            by_cases hD : 0 < D.length
            · rw [decide_eq_true hD]
              by_cases hD2 : 0 < D2.length
              · have HR2 : Hid (bracesAt zs (pos + 1) = (capped D, capped D2, true, pos + 1 + k + 1)) := by show _ = _; rw [HR.out, if_pos (.inl hD), if_pos hD2]
                rw [decide_eq_true hD2]
                generalize capped D = cd at *
                generalize capped D2 = cd2 at *
                go_wp2
                exact bodyPost_ret (v := .tuple #[.int .i64 (cd), .int .i64 (cd2), .bool true, .int .i64 ((pos : Int) + 1 + k + 1)]) (by simp [results, Try.results11, go_sem]) rfl (MdOut.mk HR2.out (by omega) rfl)
              · have HR2 : Hid (bracesAt zs (pos + 1) = (capped D, -1, true, pos + 1 + k + 1)) := by show _ = _; rw [HR.out, if_pos (.inl hD), if_neg hD2]
                rw [decide_eq_false hD2]
                generalize capped D = cd at *
                generalize capped D2 = cd2 at *
                go_wp2
                exact bodyPost_ret (v := .tuple #[.int .i64 (cd), .int .i64 (-1), .bool true, .int .i64 ((pos : Int) + 1 + k + 1)]) (by simp [results, Try.results11, go_sem]) rfl (MdOut.mk HR2.out (by omega) rfl)
            · rw [decide_eq_false hD]
              by_cases hD2 : 0 < D2.length
              · have HR2 : Hid (bracesAt zs (pos + 1) = (capped D, capped D2, true, pos + 1 + k + 1)) := by show _ = _; rw [HR.out, if_pos (.inr hD2), if_pos hD2]
                rw [decide_eq_true hD2]
                generalize capped D = cd at *
                generalize capped D2 = cd2 at *
                go_wp2
                exact bodyPost_ret (v := .tuple #[.int .i64 (cd), .int .i64 (cd2), .bool true, .int .i64 ((pos : Int) + 1 + k + 1)]) (by simp [results, Try.results11, go_sem]) rfl (MdOut.mk HR2.out (by omega) rfl)
              · have HR2 : Hid (bracesAt zs (pos + 1) = (0, 0, false, pos + 1 + k)) := by show _ = _; rw [HR.out, if_neg (fun h => h.elim hD hD2)]
                rw [decide_eq_false hD2]
                generalize capped D = cd at *
                generalize capped D2 = cd2 at *
                go_wp2
                exact bodyPost_ret (v := .tuple #[.int .i64 (0), .int .i64 (0), .bool false, .int .i64 ((pos : Int) + 1 + k)]) (by simp [results, Try.results11, go_sem]) rfl (MdOut.mk HR2.out (by omega) rfl)
    · have HR := HNo.out (.inr h125)
      have HRH : Hid (bracesAt zs (pos + 1) = (0, 0, false, pos + 1 + k)) := HR
      have e125 : (t.getD k 0 != 125) = true := by rw [bne_iff_ne]; exact h125
      clear HR h125
      generalize t.getD k 0 = c at *
      go_wp2
      exact bodyPost_ret (v := .tuple #[.int .i64 0, .int .i64 0, .bool false, .int .i64 ((pos : Int) + 1 + k)]) (by simp [results, Try.results11, go_sem]) rfl (MdOut.mk HRH.out (by omega) rfl)
  · have HR := HNo.out (.inl (by rw [HTL.out]; omega))
    have HRH : Hid (bracesAt zs (pos + 1) = (0, 0, false, pos + 1 + k)) := HR
    clear HR
    go_wp2
    exact bodyPost_ret (v := .tuple #[.int .i64 0, .int .i64 0, .bool false, .int .i64 ((pos : Int) + 1 + k)]) (by simp [results, Try.results11, go_sem]) rfl (MdOut.mk HRH.out (by omega) rfl)
end Go.Proofs.Qxb6601151a
