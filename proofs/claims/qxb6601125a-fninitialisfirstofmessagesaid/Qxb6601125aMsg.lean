import Derived.Test.Qxb6601125aApp
import Derived.Deep.QuietTactic
import Derived.BigQuiet
namespace Go.Proofs.Qxb6601125a
open Go.RowKit

/-- (l *frameList).len(). -/
theorem len_any (p : Nat) (fo : Option Addr) (nf fc : Nat) (lo : Option Addr) (nl lc : Nat) (w : World) (h0 : w.cell? ⟨p, 0, none⟩ = some (.slice fo nf fc)) (h1 : w.cell? ⟨p, 1, none⟩ = some (.slice lo nl lc)) (b0 : nf ≤ 16) (b1 : nl ≤ 1048576) :
    Calls Try.prog 26 #[.pointer (some ⟨p, 0, none⟩)] w fun e w' => e = .returned (.int .i64 ((nf : Int) * 4096 + nl)) ∧ ∃ n, w' = w.drewN n := by
  go_enter Try.func26, Try.ntmps26
  go_wp2
  go_quiet (fail)
  go_wp2
  go_ret
  exact ⟨rfl, _, rfl⟩

theorem below_drewN (B : Nat) (w : World) (n : Nat) : Below B w (w.drewN n) := by
  induction n with
  | zero => exact Below.refl _ _
  | succ n ih => exact ih.drew

/-- ZZLen. -/
theorem zzlen_any (fo : Option Addr) (nf fc : Nat) (lo : Option Addr) (nl lc : Nat) (w : World) (b0 : nf ≤ 16) (b1 : nl ≤ 1048576) :
    Calls Try.prog 22 #[.slice fo nf fc, .slice lo nl lc] w fun e w' => e = .returned (.int .i64 ((nf : Int) * 4096 + nl)) ∧ Below w.heap.size w w' := by
  go_enter Try.func22, Try.ntmps22
  go_wp2_with (go_at_call 26; refine (len_any _ fo nf fc lo nl lc _ (by simp) (by simp) b0 b1).mono ?_; rintro e w' ⟨rfl, nq, rfl⟩)
  go_ret
  exact ⟨rfl, ((Below.refl _ _).alloc (Nat.le_refl _) _).trans (below_drewN _ _ _)⟩

theorem RF.news {ok : Nat → Prop} {w : World} {ao : Option Addr} {n : Nat} {l : List Dt} (h : RF ok w ao n l) :
    ∃ hs, Reads ok w hs l ∧ (fcells hs).length = n * 2 ∧ ∀ ad, ao = some ad → ∀ j u, (fcells hs)[j]? = some u → w.cell? (ad.add j) = some u := by
  rcases Nat.eq_zero_or_pos n with h0 | h0
  · have hl : l = [] := List.eq_nil_of_length_eq_zero (by rw [← h.1]; exact h0)
    subst hl
    exact ⟨[], trivial, by simp [fcells, h0], fun ad _ j u hu => by simp [fcells] at hu⟩
  · obtain ⟨b, o, hs, rfl, hb, hr, hc⟩ := h.2 h0
    refine ⟨hs, hr, by rw [fcells_length, hr.length, h.1], fun ad had j u hu => ?_⟩
    obtain rfl := Option.some.inj had
    rw [Addr.add_lit]
    exact hc j u hu

/-- What message leaves where there is a full block: a row of its own; its frames read as all blocks' frames in order. -/
def MsgOut (ok : Nat → Prop) (w : World) (F : List Dt) (e : Ending) (w' : World) : Prop :=
  ∃ g cap hs, e = .returned (.slice (some ⟨g, 0, none⟩) F.length cap) ∧ w'.ownsRow w.heap.size 36 2 (.slice (some ⟨g, 0, none⟩) F.length cap) F.length (fcells hs) ∧ Reads ok w' hs F ∧ Below w.heap.size w w'

/-- What holds behind k rounds of message. -/
def MsgInv (ok : Nat → Prop) (w : World) (F : List Dt) (v : Value) (wr : World) : Prop :=
  ∃ hs, wr.ownsRow w.heap.size 36 2 v F.length (fcells hs) ∧ v ≠ .slice none 0 0 ∧ Reads ok wr hs F ∧ Below w.heap.size w wr

theorem msg_step {ok : Nat → Prop} {w wr w' : World} {F l : List Dt} {v v' : Value} {hs hs' : List Hdr} {m : Nat} (hok : ∀ k, ok k → k < w.heap.size) (hown0 : wr.ownsRow w.heap.size 36 2 v F.length (fcells hs)) (hv : v ≠ .slice none 0 0) (hrd : Reads ok wr hs F) (hb : Below w.heap.size w wr)
    (hrl : Reads ok wr hs' l) (hm : m = l.length) (hown : w'.ownsRow w.heap.size 36 2 v' (F.length + m) (fcells hs ++ fcells hs')) (hg : wr.grownBy w' v.ownBlock) (hnil : v' = .slice none 0 0 ↔ v = .slice none 0 0 ∧ m = 0) :
    MsgInv ok w (F ++ l) v' w' := by
  have hlt := hown0.lt
  have s : SameOn ok wr w' := fun k hk hl => hg.block k hl (fun e => by have := hlt k e.symm; have := hok k hk; omega)
  refine ⟨hs ++ hs', ?_, fun e => hv (hnil.1 e).1, (hrd.carry s).append (hrl.carry s), hb.grown hg (by have := hb.size; omega) (fun k e => (hlt k e).1)⟩
  rw [List.length_append, fcells_append, ← hm]
  exact hown

theorem flatten_take_succ (D : List (List Dt)) (k : Nat) (hk : k < D.length) : (D.take (k + 1)).flatten = (D.take k).flatten ++ D.getD k [] := by
  have e : D.getD k [] = D[k] := by simp [hk]
  rw [List.take_add_one, List.getElem?_eq_getElem hk, List.flatten_append, e]
  simp

theorem flatten_len (D : List (List Dt)) (k M : Nat) (hk : k ≤ D.length) (h : ∀ i, i < D.length → (D.getD i []).length ≤ M) : (D.take k).flatten.length ≤ k * M := by
  induction k with
  | zero => simp
  | succ k ih =>
    rw [flatten_take_succ D k (by omega), List.length_append]
    have := ih (by omega)
    have := h k (by omega)
    rw [Nat.add_mul]
    omega

theorem MsgInv.out {ok : Nat → Prop} {w wr : World} {F : List Dt} {v : Value} (h : MsgInv ok w F v wr) : MsgOut ok w F (.returned v) wr := by
  obtain ⟨hs, hown, hv, hr, hb⟩ := h
  rcases hown.2 with ⟨h', _⟩ | ⟨g, cap, cur, h', _⟩
  · exact absurd h' hv
  · subst h'
    exact ⟨g, cap, hs, rfl, hown, hr, hb⟩

/-- No full block: the message is the last block itself. -/
theorem message_none (p : Nat) (fo : Option Addr) (fc : Nat) (lo : Option Addr) (nl lc : Nat) (w : World) (h0 : w.cell? ⟨p, 0, none⟩ = some (.slice fo 0 fc)) (h1 : w.cell? ⟨p, 1, none⟩ = some (.slice lo nl lc)) :
    Calls Try.prog 24 #[.pointer (some ⟨p, 0, none⟩)] w fun e w' => e = .returned (.slice lo nl lc) ∧ w' = w := by
  go_enter Try.func24, Try.ntmps24
  go_wp2
  go_ret
  exact ⟨rfl, rfl⟩

set_option maxHeartbeats 400000 in
theorem message_some (p : Nat) (fo : Option Addr) (nf fc : Nat) (lo : Option Addr) (nl lc : Nat) (D : List (List Dt)) (L : List Dt) (ok : Nat → Prop) (w : World) (h0 : w.cell? ⟨p, 0, none⟩ = some (.slice fo nf fc)) (h1 : w.cell? ⟨p, 1, none⟩ = some (.slice lo nl lc))
    (b0 : nf ≤ 16) (b1 : nl ≤ 1048576) (hpos : 0 < nf) (hok : ∀ k, ok k → k < w.heap.size) (hp : p < w.heap.size) (hr : RR ok w fo nf D) (hl : RF ok w lo nl L) (hm : ∀ i, i < D.length → (D.getD i []).length ≤ 1048576) :
    Calls Try.prog 24 #[.pointer (some ⟨p, 0, none⟩)] w (MsgOut ok w (D.flatten ++ L)) := by
  obtain ⟨i0, hi, hz0, hz1, hz2⟩ := info_parts Try.info36
  have hne : ((nf : Int) == 0) = false := by rw [beq_eq_false_iff_ne]; omega
  go_enter Try.func24, Try.ntmps24
  go_wp2_with (first | (go_at_call 26; refine (len_any _ fo nf fc lo nl lc _ (by exact h0) (by exact h1) b0 b1).mono ?_; rintro e w' ⟨rfl, nq, rfl⟩) | (at_make; refine wpList_make_own _ rfl _ _ 30 rfl w.heap.size 36 i0 (.agg #[.int .u16 0, .slice none 0 0]) 2 Try.underlying30 hi hz0 hz1 _ _ _ (nf * 4096 + nl) rfl rfl (by omega) (by rw [hz2]; omega) (by unfold maxLen; omega) (by simp) ?_; intro w1 hown hgrow; have hb1 : Below w.heap.size w w1 := (below_drewN _ _ _).grown hgrow (by simp) (fun k h => by cases h); have k0 := (hb1.cell (p := ⟨p, 0, none⟩) hp).trans h0; have k1 := (hb1.cell (p := ⟨p, 1, none⟩) hp).trans h1; clear hgrow))
  have hsz : (w.drewN nq).heap.size = w.heap.size := by simp
  have inv1 : MsgInv ok w (D.take 0).flatten (.slice (some ⟨w.heap.size, 0, none⟩) 0 (nf * 4096 + nl)) w1 := by
    rw [hsz] at hown
    exact ⟨[], hown, by simp, trivial, hb1⟩
  have hn := hr.1
  subst hn
  clear hown hb1 hsz hne k0 k1
  go_loopw [3, 24] (fun v i wr => ∃ (k : Nat), k ≤ D.length ∧ i = .int .i64 k ∧ MsgInv ok w (D.take k).flatten v wr) (fun _ i _ => D.length - (intOf i).toNat)
  case atStart => exact ⟨0, Nat.zero_le _, rfl, inv1⟩
  case round =>
    obtain ⟨k, hk, rfl, inv⟩ := hrel
    clear inv1
    have hlen := flatten_len D k 1048576 hk hm
    by_cases hlt : k < D.length
    · obtain ⟨b, o, ro, rn, rc, ha, hbk, hc0, hrf⟩ := hr.at hlt
      subst ha
      obtain ⟨hs, hown, hv, hrd, hb⟩ := inv
      have g0 : wr.cell? ⟨b, o + k, none⟩ = some (.slice ro rn rc) := (hb.cell (p := ⟨b, o + k, none⟩) (hok _ hbk)).trans hc0
      have hrfr : RF ok wr ro rn (D.getD k []) := hrf.carry ((SameOn.below hb).mono hok)
      obtain ⟨hs', hrl, hnl, hnews⟩ := hrfr.news
      have hrn := hrfr.1
      have hmk := hm k hlt
      have HN := hrfr.nil
      have HE : Hid ((D.take (k + 1)).flatten = (D.take k).flatten ++ D.getD k []) := flatten_take_succ D k hlt
      have hbs := hb.size
      have b2 : (D.take k).flatten.length + rn ≤ 17825792 := by omega
      have HRn : Hid (rn = (D.getD k []).length) := hrn
      clear hrf hrfr hc0 hrn hmk hlen
      generalize (D.take k).flatten = F at *
      generalize D.getD k [] = dk at *
      have HO : Hid (wr.ownsRow w.heap.size 36 2 u3 F.length (fcells hs)) := hown
      have HC : Hid ((fcells hs').length = rn * 2 ∧ ∀ ad, ro = some ad → ∀ j u, (fcells hs')[j]? = some u → wr.cell? (ad.add j) = some u) := ⟨hnl, hnews⟩
      clear hown hnl hnews
      go_wp2_with (at_builtin; refine wpList_append_any rfl _ _ 30 28 rfl w.heap.size 36 36 i0 (.agg #[.int .u16 0, .slice none 0 0]) 2 32 Try.underlying30 Try.underlying28 hi hz0 hz1 hz2 rfl (by decide) _ _ _ rfl HO.out ro rn rc (fcells hs') rfl HC.out.1 HN HC.out.2 (fcells_one _) (by unfold maxLen; omega) (by omega) hbs ?_; intro v' w2 hown2 hgrow2 hnil2)
      have R := msg_step hok HO.out hv hrd hb hrl HRn.out hown2 hgrow2 hnil2
      go_roundw
      case rel => exact ⟨k + 1, by omega, by go_num, by rw [HE.out]; exact R⟩
      case measure => simp [intOf]; omega
    · obtain rfl : k = D.length := by omega
      rw [List.take_length] at inv hlen
      obtain ⟨hs, hown, hv, hrd, hb⟩ := inv
      have k1 := (hb.cell (p := ⟨p, 1, none⟩) hp).trans h1
      have hrfr : RF ok wr lo nl L := hl.carry ((SameOn.below hb).mono hok)
      obtain ⟨hs', hrl, hnl, hnews⟩ := hrfr.news
      have hrn := hrfr.1
      have HN := hrfr.nil
      have hbs := hb.size
      have b2 : D.flatten.length + nl ≤ 17825792 := by omega
      have HRn : Hid (nl = L.length) := hrn
      clear hrfr hrn hlen
      generalize D.flatten = F at *
      have HO : Hid (wr.ownsRow w.heap.size 36 2 u3 F.length (fcells hs)) := hown
      have HC : Hid ((fcells hs').length = nl * 2 ∧ ∀ ad, lo = some ad → ∀ j u, (fcells hs')[j]? = some u → wr.cell? (ad.add j) = some u) := ⟨hnl, hnews⟩
      clear hown hnl hnews
      go_wp2_with (at_builtin; refine wpList_append_any rfl _ _ 30 28 rfl w.heap.size 36 36 i0 (.agg #[.int .u16 0, .slice none 0 0]) 2 32 Try.underlying30 Try.underlying28 hi hz0 hz1 hz2 rfl (by decide) _ _ _ rfl HO.out lo nl lc (fcells hs') rfl HC.out.1 HN HC.out.2 (fcells_one _) (by unfold maxLen; omega) (by omega) hbs ?_; intro v' w2 hown2 hgrow2 hnil2)
      have R := msg_step hok HO.out hv hrd hb hrl HRn.out hown2 hgrow2 hnil2
      go_ret
      exact R.out

/-- ZZMessage, no full block. -/
theorem zzmessage_none (fo : Option Addr) (fc : Nat) (lo : Option Addr) (nl lc : Nat) (w : World) :
    Calls Try.prog 12 #[.slice fo 0 fc, .slice lo nl lc] w fun e w' => e = .returned (.slice lo nl lc) ∧ Below w.heap.size w w' := by
  go_enter Try.func12, Try.ntmps12
  go_wp2_with (go_at_call 24; refine (message_none _ fo fc lo nl lc _ (by simp) (by simp)).mono ?_; rintro e w' ⟨rfl, rfl⟩)
  go_ret
  exact ⟨rfl, (Below.refl _ _).alloc (Nat.le_refl _) _⟩

theorem MsgOut.later {ok : Nat → Prop} {w w1 : World} {F : List Dt} {e : Ending} {w' : World} (h : MsgOut ok w1 F e w') (hb : Below w.heap.size w w1) (hs : w.heap.size ≤ w1.heap.size) : MsgOut ok w F e w' := by
  obtain ⟨g, cap, hh, h1, h2, h3, h4⟩ := h
  refine ⟨g, cap, hh, h1, ?_, h3, hb.trans (h4.mono hs)⟩
  refine ⟨h2.1, ?_⟩
  rcases h2.2 with h' | ⟨g', c', cur, e1, e2, r⟩
  · exact .inl h'
  · exact .inr ⟨g', c', cur, e1, Nat.le_trans hs e2, r⟩

/-- ZZMessage, with a full block. -/
theorem zzmessage_some (fo : Option Addr) (nf fc : Nat) (lo : Option Addr) (nl lc : Nat) (D : List (List Dt)) (L : List Dt) (ok : Nat → Prop) (w : World)
    (b0 : nf ≤ 16) (b1 : nl ≤ 1048576) (hpos : 0 < nf) (hok : ∀ k, ok k → k < w.heap.size) (hr : RR ok w fo nf D) (hl : RF ok w lo nl L) (hm : ∀ i, i < D.length → (D.getD i []).length ≤ 1048576) :
    Calls Try.prog 12 #[.slice fo nf fc, .slice lo nl lc] w (MsgOut ok w (D.flatten ++ L)) := by
  have hb : ∀ o, Below w.heap.size w (w.alloc o) := fun o => (Below.refl _ _).alloc (Nat.le_refl _) o
  have HB : Hid (∀ o, Below w.heap.size w (w.alloc o)) := hb
  clear hb
  generalize hF : D.flatten ++ L = F
  have HF : Hid (D.flatten ++ L = F) := hF
  clear hF
  go_enter Try.func12, Try.ntmps12
  go_wp2_with (go_at_call 24; refine (message_some _ fo nf fc lo nl lc D L ok _ (by simp) (by simp) b0 b1 hpos (fun k hk => by have := hok k hk; simp; omega) (by simp) (hr.carry ((SameOn.below (HB.out _)).mono hok)) (hl.carry ((SameOn.below (HB.out _)).mono hok)) hm).mono ?_; intro e w' hmo; rw [HF.out] at hmo; have hmo' := hmo.later (HB.out _) (by simp); obtain ⟨g, cap, hh, rfl, hrest⟩ := hmo'; clear hmo)
  go_ret
  exact ⟨g, cap, hh, rfl, hrest⟩
end Go.Proofs.Qxb6601125a
