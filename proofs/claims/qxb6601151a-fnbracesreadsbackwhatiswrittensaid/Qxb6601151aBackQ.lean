import Derived.Test.Qxb6601151aBackWalk
namespace Go.Proofs.Qxb6601151a.back
open Go.RowKit Go.Proofs.Qxb6601151a

set_option maxHeartbeats 2000000 in
set_option maxRecDepth 100000 in
theorem walk_p10 (po : Option Addr) (np pc : Nat) (pre : List Int) (x : Nat) (y : Nat) (o1 : Option Addr) (c1 : Nat) (t1 : List Bool) (o2 : Option Addr) (c2 : Nat) (t2 : List Bool) (o3 : Option Addr) (c3 : Nat) (t3 : List Bool) (o4 : Option Addr) (c4 : Nat) (t4 : List Bool) (to : Option Addr) (nt tc : Nat) (tail : List Int) (w : World)
    (hp : RT w.heap.size w po np pre) (r1 : RBo w.heap.size w o1 t1) (r2 : RBo w.heap.size w o2 t2) (r3 : RBo w.heap.size w o3 t3) (r4 : RBo w.heap.size w o4 t4) (ht : RT w.heap.size w to nt tail)
    (b0 : np ≤ 65536) (b1 : t1.length ≤ 65536) (b2 : t2.length ≤ 65536) (b3 : t3.length ≤ 65536) (b4 : t4.length ≤ 65536) (b5 : nt ≤ 65536) (hx : x ≤ 65535) (hy : y ≤ 65535) :
    Calls Try.prog 4 #[.slice po np pc, .int .i64 x, .int .i64 y, .bool false, .bool true, .slice o1 t1.length c1, .slice o2 t2.length c2, .slice o3 t3.length c3, .slice o4 t4.length c4, .slice to nt tc] w (LawOut w) := by
  obtain ⟨i0, hi0, hz0, hz1, hz2⟩ := info_parts Try.info21
  have hpn := hp.1
  have htn := ht.1
  subst hpn htn
  go_enter Try.func4, Try.ntmps4
  go_wp2_with fail
  refine (size_any _ _ _ _ _ _ _ _ _ _ _ _ _ _ _ _ _ _ _ _ _ _ w).mono ?_
  rintro e w0 ⟨b, rfl, rfl⟩
  cases b with
  | false =>
    go_wp2
    go_ret
    exact ⟨rfl, Below.refl _ _⟩
  | true =>
    go_wp2_with (at_make; refine wpList_make_own _ rfl _ _ 22 rfl w0.heap.size 21 i0 (.int .i32 0) 1 Try.underlying22 hi0 hz0 hz1 _ _ _ (pre.length + tail.length + t1.length + t2.length + t3.length + t4.length + 16) rfl rfl (by omega) (by rw [hz2]; omega) (by unfold maxLen; omega) (Nat.le_refl _) ?_)
    intro w1 hown hgrow
    have A1 : OR w0.heap.size w1 (.slice (some ⟨w0.heap.size, 0, none⟩) 0 (pre.length + tail.length + t1.length + t2.length + t3.length + t4.length + 16)) [] := ⟨hown, by simp⟩
    have B1 : Below w0.heap.size w0 w1 := (Below.refl _ _).grown hgrow (Nat.le_refl _) (fun k h => by cases h)
    have C1 : w0.heap.size ≤ w1.heap.size := B1.size
    clear hown hgrow
    have HA1 : Hid (OR w0.heap.size w1 _ ([] : List Int)) := A1
    have HB1 : Hid (Below w0.heap.size w0 w1) := B1
    clear A1 B1
    go_wp2_with (at_builtin; refine wpList_append_any rfl _ _ 22 22 rfl w0.heap.size 21 21 i0 (.int .i32 0) 1 4 Try.underlying22 Try.underlying22 hi0 hz0 hz1 hz2 rfl (by decide) _ _ _ rfl HA1.out.1 po pre.length pc (pre.map (Value.int .i32)) rfl (by simp) hp.nilLen (hp.news HB1.out) (ints_oneCell _ _) (by unfold maxLen; first | omega | (simp only [List.length_nil]; omega)) (by first | omega | (simp only [List.length_nil]; omega)) C1 ?_; intro v' w' hown hgrow hnil; have R := hide1 (or_step0 (ys := pre) HA1.out HB1.out C1 rfl hown hgrow hnil); clear hown hgrow hnil; revert R; revert w'; revert v')
    intro v2 w2 R
    obtain ⟨A2, B2, C2⟩ := R.out
    clear HA1 HB1 C1
    obtain ⟨l2, E2⟩ : ∃ l, l = ([] : List Int) ++ pre := ⟨_, rfl⟩
    replace A2 : OR w0.heap.size w2 v2 l2 := by rw [E2]; first | exact A2 | simpa using A2
    have L2 : l2.length ≤ 140000 := by rw [E2, List.length_append, List.length_nil]; omega
    have H2 : Hid (l2 = ([] : List Int) ++ pre) := E2
    clear E2
    obtain ⟨g2, k2, F2, _⟩ := A2.form
    subst F2
    have HA2 : Hid (OR w0.heap.size w2 _ l2) := A2
    have HB2 : Hid (Below w0.heap.size w0 w2) := B2
    clear A2 B2
    go_wp2_with (at_builtin; refine wpList_append_own _ rfl _ _ 22 rfl w0.heap.size 21 i0 (.int .i32 0) 1 4 Try.underlying22 hi0 hz0 hz1 hz2 rfl (by decide) _ _ _ rfl (HA2.out.1.alloc _) ⟨w2.heap.size, 0, none⟩ 1 1 [_] rfl rfl (cell_one_new _ _ _) (by intro u hu; simp at hu; subst hu; rfl) (by unfold maxLen; omega) (by omega) (by simp; omega) ?_; intro v' w' hown hgrow hnil; have R := hide1 (or_step (ys := [123]) HA2.out HB2.out C2 rfl hown hgrow hnil); clear hown hgrow hnil; revert R; revert w'; revert v')
    intro v3 w3 R
    obtain ⟨A3, B3, C3⟩ := R.out
    clear HA2 HB2 C2
    obtain ⟨l3, E3⟩ : ∃ l, l = l2 ++ [123] := ⟨_, rfl⟩
    replace A3 : OR w0.heap.size w3 v3 l3 := by rw [E3]; first | exact A3 | simpa using A3
    have L3 : l3.length ≤ 210000 := by rw [E3, List.length_append, List.length_singleton]; omega
    have H3 : Hid (l3 = l2 ++ [123]) := E3
    clear E3
    go_wp2_with fail
    refine (appblanks_any w0.heap.size _ l3 o1 c1 t1 w3 A3 C3 (RBo.carry r1 B3) (by omega) (by omega)).mono ?_
    rintro e w4 ⟨v4, rfl, A4, D4, C4⟩
    have B4 := B3.trans D4
    clear A3 B3 C3 D4
    obtain ⟨l4, E4⟩ : ∃ l, l = l3 ++ t1.map blank := ⟨_, rfl⟩
    replace A4 : OR w0.heap.size w4 v4 l4 := by rw [E4]; first | exact A4 | simpa using A4
    have L4 : l4.length ≤ 280000 := by rw [E4, List.length_append, List.length_map]; omega
    have H4 : Hid (l4 = l3 ++ t1.map blank) := E4
    clear E4
    go_wp2_with fail
    refine (appblanks_any w0.heap.size _ l4 o2 c2 t2 w4 A4 C4 (RBo.carry r2 B4) (by omega) (by omega)).mono ?_
    rintro e w5 ⟨v5, rfl, A5, D5, C5⟩
    have B5 := B4.trans D5
    clear A4 B4 C4 D5
    obtain ⟨l6, E5⟩ : ∃ l, l = l4 ++ t2.map blank := ⟨_, rfl⟩
    replace A5 : OR w0.heap.size w5 v5 l6 := by rw [E5]; first | exact A5 | simpa using A5
    have L5 : l6.length ≤ 350000 := by rw [E5, List.length_append, List.length_map]; omega
    have H5 : Hid (l6 = l4 ++ t2.map blank) := E5
    clear E5
    have HA5 : Hid (OR w0.heap.size w5 _ l6) := A5
    have HB5 : Hid (Below w0.heap.size w0 w5) := B5
    clear A5 B5
    go_wp2_with (at_builtin; refine wpList_append_own _ rfl _ _ 22 rfl w0.heap.size 21 i0 (.int .i32 0) 1 4 Try.underlying22 hi0 hz0 hz1 hz2 rfl (by decide) _ _ _ rfl (HA5.out.1.alloc _) ⟨w5.heap.size, 0, none⟩ 1 1 [_] rfl rfl (cell_one_new _ _ _) (by intro u hu; simp at hu; subst hu; rfl) (by unfold maxLen; omega) (by omega) (by simp; omega) ?_; intro v' w' hown hgrow hnil; have R := hide1 (or_step (ys := [44]) HA5.out HB5.out C5 rfl hown hgrow hnil); clear hown hgrow hnil; revert R; revert w'; revert v')
    intro v6 w6 R
    obtain ⟨A6, B6, C6⟩ := R.out
    clear HA5 HB5 C5
    obtain ⟨l7, E6⟩ : ∃ l, l = l6 ++ [44] := ⟨_, rfl⟩
    replace A6 : OR w0.heap.size w6 v6 l7 := by rw [E6]; first | exact A6 | simpa using A6
    have L6 : l7.length ≤ 420000 := by rw [E6, List.length_append, List.length_singleton]; omega
    have H6 : Hid (l7 = l6 ++ [44]) := E6
    clear E6
    go_wp2_with fail
    refine (appblanks_any w0.heap.size _ l7 o3 c3 t3 w6 A6 C6 (RBo.carry r3 B6) (by omega) (by omega)).mono ?_
    rintro e w7 ⟨v7, rfl, A7, D7, C7⟩
    have B7 := B6.trans D7
    clear A6 B6 C6 D7
    obtain ⟨l8, E7⟩ : ∃ l, l = l7 ++ t3.map blank := ⟨_, rfl⟩
    replace A7 : OR w0.heap.size w7 v7 l8 := by rw [E7]; first | exact A7 | simpa using A7
    have L7 : l8.length ≤ 490000 := by rw [E7, List.length_append, List.length_map]; omega
    have H7 : Hid (l8 = l7 ++ t3.map blank) := E7
    clear E7
    go_wp2_with fail
    refine (appdigits_any w0.heap.size _ l8 y w7 A7 C7 (by omega) hy).mono ?_
    rintro e w8 ⟨v8, rfl, A8, D8, C8⟩
    have B8 := B7.trans D8
    have dl8 := dec_len y
    clear A7 B7 C7 D8
    obtain ⟨l9, E8⟩ : ∃ l, l = l8 ++ dec y := ⟨_, rfl⟩
    replace A8 : OR w0.heap.size w8 v8 l9 := by rw [E8]; first | exact A8 | simpa using A8
    have L8 : l9.length ≤ 560000 := by rw [E8, List.length_append]; omega
    have H8 : Hid (l9 = l8 ++ dec y) := E8
    clear E8
    go_wp2_with fail
    refine (appblanks_any w0.heap.size _ l9 o4 c4 t4 w8 A8 C8 (RBo.carry r4 B8) (by omega) (by omega)).mono ?_
    rintro e w9 ⟨v9, rfl, A9, D9, C9⟩
    have B9 := B8.trans D9
    clear A8 B8 C8 D9
    obtain ⟨l10, E9⟩ : ∃ l, l = l9 ++ t4.map blank := ⟨_, rfl⟩
    replace A9 : OR w0.heap.size w9 v9 l10 := by rw [E9]; first | exact A9 | simpa using A9
    have L9 : l10.length ≤ 630000 := by rw [E9, List.length_append, List.length_map]; omega
    have H9 : Hid (l10 = l9 ++ t4.map blank) := E9
    clear E9
    obtain ⟨g9, k9, F9, _⟩ := A9.form
    subst F9
    have HA9 : Hid (OR w0.heap.size w9 _ l10) := A9
    have HB9 : Hid (Below w0.heap.size w0 w9) := B9
    clear A9 B9
    go_wp2_with (at_builtin; refine wpList_append_own _ rfl _ _ 22 rfl w0.heap.size 21 i0 (.int .i32 0) 1 4 Try.underlying22 hi0 hz0 hz1 hz2 rfl (by decide) _ _ _ rfl (HA9.out.1.alloc _) ⟨w9.heap.size, 0, none⟩ 1 1 [_] rfl rfl (cell_one_new _ _ _) (by intro u hu; simp at hu; subst hu; rfl) (by unfold maxLen; omega) (by omega) (by simp; omega) ?_; intro v' w' hown hgrow hnil; have R := hide1 (or_step (ys := [125]) HA9.out HB9.out C9 rfl hown hgrow hnil); clear hown hgrow hnil; revert R; revert w'; revert v')
    intro v10 w10 R
    obtain ⟨A10, B10, C10⟩ := R.out
    clear HA9 HB9 C9
    obtain ⟨m1, E10⟩ : ∃ l, l = l10 ++ [125] := ⟨_, rfl⟩
    replace A10 : OR w0.heap.size w10 v10 m1 := by rw [E10]; first | exact A10 | simpa using A10
    have L10 : m1.length ≤ 700000 := by rw [E10, List.length_append, List.length_singleton]; omega
    have H10 : Hid (m1 = l10 ++ [125]) := E10
    clear E10
    have HA10 : Hid (OR w0.heap.size w10 _ m1) := A10
    have HB10 : Hid (Below w0.heap.size w0 w10) := B10
    clear A10 B10
    go_wp2_with (at_builtin; refine wpList_append_any rfl _ _ 22 22 rfl w0.heap.size 21 21 i0 (.int .i32 0) 1 4 Try.underlying22 Try.underlying22 hi0 hz0 hz1 hz2 rfl (by decide) _ _ _ rfl HA10.out.1 to tail.length tc (tail.map (Value.int .i32)) rfl (by simp) ht.nilLen (ht.news HB10.out) (ints_oneCell _ _) (by unfold maxLen; first | omega | (simp only [List.length_nil]; omega)) (by first | omega | (simp only [List.length_nil]; omega)) C10 ?_; intro v' w' hown hgrow hnil; have R := hide1 (or_step0 (ys := tail) HA10.out HB10.out C10 rfl hown hgrow hnil); clear hown hgrow hnil; revert R; revert w'; revert v')
    intro v11 w11 R
    obtain ⟨A11, B11, C11⟩ := R.out
    clear HA10 HB10 C10
    obtain ⟨m2, E11⟩ : ∃ l, l = m1 ++ tail := ⟨_, rfl⟩
    replace A11 : OR w0.heap.size w11 v11 m2 := by rw [E11]; first | exact A11 | simpa using A11
    have L11 : m2.length ≤ 770000 := by rw [E11, List.length_append]; omega
    have H11 : Hid (m2 = m1 ++ tail) := E11
    clear E11
    obtain ⟨g11, k11, F11, _⟩ := A11.form
    subst F11
    have hZ : m2 = pre ++ 123 :: (t1.map blank ++ (wr true x ++ (t2.map blank ++ 44 :: (t3.map blank ++ (wr false y ++ (t4.map blank ++ 125 :: tail)))))) := by rw [H11.out, H10.out, H9.out, H8.out, H7.out, H6.out, H5.out, H4.out, H3.out, H2.out]; simp [wr, List.append_assoc]
    have hCl : l10.length = pre.length + 1 + (t1.length + ((wr true x).length + t2.length)) + 1 + (t3.length + ((wr false y).length + t4.length)) := by rw [H9.out, H8.out, H7.out, H6.out, H5.out, H4.out, H3.out, H2.out]; simp [wr]; omega
    have hR : bracesAt m2 (l2.length + 1) = (0, (y : Int), true, l10.length + 1) := by rw [show l2.length = pre.length from by rw [H2.out]; rfl, hZ, back_pair pre tail t1 t2 t3 t4 true false x y hx hy, hCl]; rfl
    have HR : Hid (bracesAt m2 (l2.length + 1) = (0, (y : Int), true, l10.length + 1)) := hR
    clear hR hZ hCl
    go_wp2_with fail
    refine (zzbraces_any _ _ m2 l2.length w11 (OR.ri A11) (by omega) (by omega)).mono ?_
    rintro e w12 ⟨rfl, D12⟩
    rw [HR.out]
    have HBF : Hid (Below w0.heap.size w0 w12) := B11.trans (D12.mono C11)
    clear D12 B11 A11
    go_wp2
    go_ret
    exact ⟨rfl, HBF⟩

set_option maxHeartbeats 2000000 in
set_option maxRecDepth 100000 in
theorem walk_p11 (po : Option Addr) (np pc : Nat) (pre : List Int) (x : Nat) (o1 : Option Addr) (c1 : Nat) (t1 : List Bool) (o2 : Option Addr) (c2 : Nat) (t2 : List Bool) (o3 : Option Addr) (c3 : Nat) (t3 : List Bool) (o4 : Option Addr) (c4 : Nat) (t4 : List Bool) (to : Option Addr) (nt tc : Nat) (tail : List Int) (w : World)
    (hp : RT w.heap.size w po np pre) (r1 : RBo w.heap.size w o1 t1) (r2 : RBo w.heap.size w o2 t2) (r3 : RBo w.heap.size w o3 t3) (r4 : RBo w.heap.size w o4 t4) (ht : RT w.heap.size w to nt tail)
    (b0 : np ≤ 65536) (b1 : t1.length ≤ 65536) (b2 : t2.length ≤ 65536) (b3 : t3.length ≤ 65536) (b4 : t4.length ≤ 65536) (b5 : nt ≤ 65536) (hx : x ≤ 65535) :
    Calls Try.prog 4 #[.slice po np pc, .int .i64 x, .int .i64 (-1), .bool false, .bool true, .slice o1 t1.length c1, .slice o2 t2.length c2, .slice o3 t3.length c3, .slice o4 t4.length c4, .slice to nt tc] w (LawOut w) := by
  obtain ⟨i0, hi0, hz0, hz1, hz2⟩ := info_parts Try.info21
  have hpn := hp.1
  have htn := ht.1
  subst hpn htn
  go_enter Try.func4, Try.ntmps4
  go_wp2_with fail
  refine (size_any _ _ _ _ _ _ _ _ _ _ _ _ _ _ _ _ _ _ _ _ _ _ w).mono ?_
  rintro e w0 ⟨b, rfl, rfl⟩
  cases b with
  | false =>
    go_wp2
    go_ret
    exact ⟨rfl, Below.refl _ _⟩
  | true =>
    go_wp2_with (at_make; refine wpList_make_own _ rfl _ _ 22 rfl w0.heap.size 21 i0 (.int .i32 0) 1 Try.underlying22 hi0 hz0 hz1 _ _ _ (pre.length + tail.length + t1.length + t2.length + t3.length + t4.length + 16) rfl rfl (by omega) (by rw [hz2]; omega) (by unfold maxLen; omega) (Nat.le_refl _) ?_)
    intro w1 hown hgrow
    have A1 : OR w0.heap.size w1 (.slice (some ⟨w0.heap.size, 0, none⟩) 0 (pre.length + tail.length + t1.length + t2.length + t3.length + t4.length + 16)) [] := ⟨hown, by simp⟩
    have B1 : Below w0.heap.size w0 w1 := (Below.refl _ _).grown hgrow (Nat.le_refl _) (fun k h => by cases h)
    have C1 : w0.heap.size ≤ w1.heap.size := B1.size
    clear hown hgrow
    have HA1 : Hid (OR w0.heap.size w1 _ ([] : List Int)) := A1
    have HB1 : Hid (Below w0.heap.size w0 w1) := B1
    clear A1 B1
    go_wp2_with (at_builtin; refine wpList_append_any rfl _ _ 22 22 rfl w0.heap.size 21 21 i0 (.int .i32 0) 1 4 Try.underlying22 Try.underlying22 hi0 hz0 hz1 hz2 rfl (by decide) _ _ _ rfl HA1.out.1 po pre.length pc (pre.map (Value.int .i32)) rfl (by simp) hp.nilLen (hp.news HB1.out) (ints_oneCell _ _) (by unfold maxLen; first | omega | (simp only [List.length_nil]; omega)) (by first | omega | (simp only [List.length_nil]; omega)) C1 ?_; intro v' w' hown hgrow hnil; have R := hide1 (or_step0 (ys := pre) HA1.out HB1.out C1 rfl hown hgrow hnil); clear hown hgrow hnil; revert R; revert w'; revert v')
    intro v2 w2 R
    obtain ⟨A2, B2, C2⟩ := R.out
    clear HA1 HB1 C1
    obtain ⟨l2, E2⟩ : ∃ l, l = ([] : List Int) ++ pre := ⟨_, rfl⟩
    replace A2 : OR w0.heap.size w2 v2 l2 := by rw [E2]; first | exact A2 | simpa using A2
    have L2 : l2.length ≤ 140000 := by rw [E2, List.length_append, List.length_nil]; omega
    have H2 : Hid (l2 = ([] : List Int) ++ pre) := E2
    clear E2
    obtain ⟨g2, k2, F2, _⟩ := A2.form
    subst F2
    have HA2 : Hid (OR w0.heap.size w2 _ l2) := A2
    have HB2 : Hid (Below w0.heap.size w0 w2) := B2
    clear A2 B2
    go_wp2_with (at_builtin; refine wpList_append_own _ rfl _ _ 22 rfl w0.heap.size 21 i0 (.int .i32 0) 1 4 Try.underlying22 hi0 hz0 hz1 hz2 rfl (by decide) _ _ _ rfl (HA2.out.1.alloc _) ⟨w2.heap.size, 0, none⟩ 1 1 [_] rfl rfl (cell_one_new _ _ _) (by intro u hu; simp at hu; subst hu; rfl) (by unfold maxLen; omega) (by omega) (by simp; omega) ?_; intro v' w' hown hgrow hnil; have R := hide1 (or_step (ys := [123]) HA2.out HB2.out C2 rfl hown hgrow hnil); clear hown hgrow hnil; revert R; revert w'; revert v')
    intro v3 w3 R
    obtain ⟨A3, B3, C3⟩ := R.out
    clear HA2 HB2 C2
    obtain ⟨l3, E3⟩ : ∃ l, l = l2 ++ [123] := ⟨_, rfl⟩
    replace A3 : OR w0.heap.size w3 v3 l3 := by rw [E3]; first | exact A3 | simpa using A3
    have L3 : l3.length ≤ 210000 := by rw [E3, List.length_append, List.length_singleton]; omega
    have H3 : Hid (l3 = l2 ++ [123]) := E3
    clear E3
    go_wp2_with fail
    refine (appblanks_any w0.heap.size _ l3 o1 c1 t1 w3 A3 C3 (RBo.carry r1 B3) (by omega) (by omega)).mono ?_
    rintro e w4 ⟨v4, rfl, A4, D4, C4⟩
    have B4 := B3.trans D4
    clear A3 B3 C3 D4
    obtain ⟨l4, E4⟩ : ∃ l, l = l3 ++ t1.map blank := ⟨_, rfl⟩
    replace A4 : OR w0.heap.size w4 v4 l4 := by rw [E4]; first | exact A4 | simpa using A4
    have L4 : l4.length ≤ 280000 := by rw [E4, List.length_append, List.length_map]; omega
    have H4 : Hid (l4 = l3 ++ t1.map blank) := E4
    clear E4
    go_wp2_with fail
    refine (appblanks_any w0.heap.size _ l4 o2 c2 t2 w4 A4 C4 (RBo.carry r2 B4) (by omega) (by omega)).mono ?_
    rintro e w5 ⟨v5, rfl, A5, D5, C5⟩
    have B5 := B4.trans D5
    clear A4 B4 C4 D5
    obtain ⟨l6, E5⟩ : ∃ l, l = l4 ++ t2.map blank := ⟨_, rfl⟩
    replace A5 : OR w0.heap.size w5 v5 l6 := by rw [E5]; first | exact A5 | simpa using A5
    have L5 : l6.length ≤ 350000 := by rw [E5, List.length_append, List.length_map]; omega
    have H5 : Hid (l6 = l4 ++ t2.map blank) := E5
    clear E5
    have HA5 : Hid (OR w0.heap.size w5 _ l6) := A5
    have HB5 : Hid (Below w0.heap.size w0 w5) := B5
    clear A5 B5
    go_wp2_with (at_builtin; refine wpList_append_own _ rfl _ _ 22 rfl w0.heap.size 21 i0 (.int .i32 0) 1 4 Try.underlying22 hi0 hz0 hz1 hz2 rfl (by decide) _ _ _ rfl (HA5.out.1.alloc _) ⟨w5.heap.size, 0, none⟩ 1 1 [_] rfl rfl (cell_one_new _ _ _) (by intro u hu; simp at hu; subst hu; rfl) (by unfold maxLen; omega) (by omega) (by simp; omega) ?_; intro v' w' hown hgrow hnil; have R := hide1 (or_step (ys := [44]) HA5.out HB5.out C5 rfl hown hgrow hnil); clear hown hgrow hnil; revert R; revert w'; revert v')
    intro v6 w6 R
    obtain ⟨A6, B6, C6⟩ := R.out
    clear HA5 HB5 C5
    obtain ⟨l7, E6⟩ : ∃ l, l = l6 ++ [44] := ⟨_, rfl⟩
    replace A6 : OR w0.heap.size w6 v6 l7 := by rw [E6]; first | exact A6 | simpa using A6
    have L6 : l7.length ≤ 420000 := by rw [E6, List.length_append, List.length_singleton]; omega
    have H6 : Hid (l7 = l6 ++ [44]) := E6
    clear E6
    go_wp2_with fail
    refine (appblanks_any w0.heap.size _ l7 o3 c3 t3 w6 A6 C6 (RBo.carry r3 B6) (by omega) (by omega)).mono ?_
    rintro e w7 ⟨v7, rfl, A7, D7, C7⟩
    have B7 := B6.trans D7
    clear A6 B6 C6 D7
    obtain ⟨l8, E7⟩ : ∃ l, l = l7 ++ t3.map blank := ⟨_, rfl⟩
    replace A7 : OR w0.heap.size w7 v7 l8 := by rw [E7]; first | exact A7 | simpa using A7
    have L7 : l8.length ≤ 490000 := by rw [E7, List.length_append, List.length_map]; omega
    have H7 : Hid (l8 = l7 ++ t3.map blank) := E7
    clear E7
    go_wp2_with fail
    refine (appblanks_any w0.heap.size _ l8 o4 c4 t4 w7 A7 C7 (RBo.carry r4 B7) (by omega) (by omega)).mono ?_
    rintro e w8 ⟨v8, rfl, A8, D8, C8⟩
    have B8 := B7.trans D8
    clear A7 B7 C7 D8
    obtain ⟨l10, E8⟩ : ∃ l, l = l8 ++ t4.map blank := ⟨_, rfl⟩
    replace A8 : OR w0.heap.size w8 v8 l10 := by rw [E8]; first | exact A8 | simpa using A8
    have L8 : l10.length ≤ 560000 := by rw [E8, List.length_append, List.length_map]; omega
    have H8 : Hid (l10 = l8 ++ t4.map blank) := E8
    clear E8
    obtain ⟨g8, k8, F8, _⟩ := A8.form
    subst F8
    have HA8 : Hid (OR w0.heap.size w8 _ l10) := A8
    have HB8 : Hid (Below w0.heap.size w0 w8) := B8
    clear A8 B8
    go_wp2_with (at_builtin; refine wpList_append_own _ rfl _ _ 22 rfl w0.heap.size 21 i0 (.int .i32 0) 1 4 Try.underlying22 hi0 hz0 hz1 hz2 rfl (by decide) _ _ _ rfl (HA8.out.1.alloc _) ⟨w8.heap.size, 0, none⟩ 1 1 [_] rfl rfl (cell_one_new _ _ _) (by intro u hu; simp at hu; subst hu; rfl) (by unfold maxLen; omega) (by omega) (by simp; omega) ?_; intro v' w' hown hgrow hnil; have R := hide1 (or_step (ys := [125]) HA8.out HB8.out C8 rfl hown hgrow hnil); clear hown hgrow hnil; revert R; revert w'; revert v')
    intro v9 w9 R
    obtain ⟨A9, B9, C9⟩ := R.out
    clear HA8 HB8 C8
    obtain ⟨m1, E9⟩ : ∃ l, l = l10 ++ [125] := ⟨_, rfl⟩
    replace A9 : OR w0.heap.size w9 v9 m1 := by rw [E9]; first | exact A9 | simpa using A9
    have L9 : m1.length ≤ 630000 := by rw [E9, List.length_append, List.length_singleton]; omega
    have H9 : Hid (m1 = l10 ++ [125]) := E9
    clear E9
    have HA9 : Hid (OR w0.heap.size w9 _ m1) := A9
    have HB9 : Hid (Below w0.heap.size w0 w9) := B9
    clear A9 B9
    go_wp2_with (at_builtin; refine wpList_append_any rfl _ _ 22 22 rfl w0.heap.size 21 21 i0 (.int .i32 0) 1 4 Try.underlying22 Try.underlying22 hi0 hz0 hz1 hz2 rfl (by decide) _ _ _ rfl HA9.out.1 to tail.length tc (tail.map (Value.int .i32)) rfl (by simp) ht.nilLen (ht.news HB9.out) (ints_oneCell _ _) (by unfold maxLen; first | omega | (simp only [List.length_nil]; omega)) (by first | omega | (simp only [List.length_nil]; omega)) C9 ?_; intro v' w' hown hgrow hnil; have R := hide1 (or_step0 (ys := tail) HA9.out HB9.out C9 rfl hown hgrow hnil); clear hown hgrow hnil; revert R; revert w'; revert v')
    intro v10 w10 R
    obtain ⟨A10, B10, C10⟩ := R.out
    clear HA9 HB9 C9
    obtain ⟨m2, E10⟩ : ∃ l, l = m1 ++ tail := ⟨_, rfl⟩
    replace A10 : OR w0.heap.size w10 v10 m2 := by rw [E10]; first | exact A10 | simpa using A10
    have L10 : m2.length ≤ 700000 := by rw [E10, List.length_append]; omega
    have H10 : Hid (m2 = m1 ++ tail) := E10
    clear E10
    obtain ⟨g10, k10, F10, _⟩ := A10.form
    subst F10
    have hZ : m2 = pre ++ 123 :: (t1.map blank ++ (wr true x ++ (t2.map blank ++ 44 :: (t3.map blank ++ (wr true 0 ++ (t4.map blank ++ 125 :: tail)))))) := by rw [H10.out, H9.out, H8.out, H7.out, H6.out, H5.out, H4.out, H3.out, H2.out]; simp [wr, List.append_assoc]
    have hCl : l10.length = pre.length + 1 + (t1.length + ((wr true x).length + t2.length)) + 1 + (t3.length + ((wr true 0).length + t4.length)) := by rw [H8.out, H7.out, H6.out, H5.out, H4.out, H3.out, H2.out]; simp [wr]; omega
    have hR : bracesAt m2 (l2.length + 1) = (0, 0, false, l10.length) := by rw [show l2.length = pre.length from by rw [H2.out]; rfl, hZ, back_pair pre tail t1 t2 t3 t4 true true x 0 hx (by omega), hCl]; rfl
    have HR : Hid (bracesAt m2 (l2.length + 1) = (0, 0, false, l10.length)) := hR
    clear hR hZ hCl
    go_wp2_with fail
    refine (zzbraces_any _ _ m2 l2.length w10 (OR.ri A10) (by omega) (by omega)).mono ?_
    rintro e w11 ⟨rfl, D11⟩
    rw [HR.out]
    have HBF : Hid (Below w0.heap.size w0 w11) := B10.trans (D11.mono C10)
    clear D11 B10 A10
    go_wp2
    go_ret
    exact ⟨rfl, HBF⟩

end Go.Proofs.Qxb6601151a.back
