import Derived.Test.Qxb6601125aMsgAny
import Derived.Test.Qxb6601125aEq
namespace Go.Proofs.Qxb6601125a
open Go.RowKit

set_option maxHeartbeats 400000 in
/-- zzEqP of two frames that read alike: true. -/
theorem eqp_any (f : Int) (ao : Option Addr) (n c1 : Nat) (bo : Option Addr) (c2 : Nat) (c : Option (List Int)) (ok ok' : Nat → Prop) (w : World) (ha : RB ok w ao n c) (hb : RB ok' w bo n c) (hn : n ≤ 1048576) :
    Calls Try.prog 18 #[.agg #[.int .u16 f, .slice ao n c1], .agg #[.int .u16 f, .slice bo n c2]] w fun e w' => e = .returned (.bool true) ∧ Below w.heap.size w w' := by
  have hal : ∀ o o', Below w.heap.size w ((w.alloc o).alloc o') := fun o o' => ((Below.refl _ _).alloc (Nat.le_refl _) o).alloc (by simp) o'
  have HA : Hid (∀ o o', Below w.heap.size w ((w.alloc o).alloc o')) := hal
  clear hal
  go_enter Try.func18, Try.ntmps18
  go_wp2_with (go_at_call 15; refine (same_any ao n c1 bo c2 c ok ok' _ (ha.carry (SameOn.all (HA.out _ _))) (hb.carry (SameOn.all (HA.out _ _))) hn).mono ?_; rintro e w' ⟨rfl, q, rfl⟩)
  go_ret
  exact ⟨rfl, below_dN (HA.out _ _) q⟩

/-- What initial leaves: nil where there is no frame; else a slice of one frame that reads as the first. -/
def InitOut (w : World) (F : List Dt) (e : Ending) (w' : World) : Prop :=
  (F = [] ∧ e = .returned (.slice none 0 0) ∧ Below w.heap.size w w') ∨
  (F ≠ [] ∧ ∃ g cap, e = .returned (.slice (some ⟨g, 0, none⟩) 1 cap) ∧ RF (fun k => k < w'.heap.size) w' (some ⟨g, 0, none⟩) 1 [F.getD 0 dz] ∧ Below w.heap.size w w')

theorem rf_one {g : Nat} {w' : World} {f : Int} {co : Option Addr} {cn cc : Nat} {d : Dt} {ok : Nat → Prop} (h0 : w'.cell? ⟨g, 0, none⟩ = some (.int .u16 f)) (h1 : w'.cell? ⟨g, 1, none⟩ = some (.slice co cn cc)) (hf : f = d.1) (hrb : RB ok w' co cn d.2) :
    RF (fun k => k < w'.heap.size) w' (some ⟨g, 0, none⟩) 1 [d] := by
  refine ⟨rfl, fun _ => ⟨g, 0, [(f, co, cn, cc)], rfl, World.block_lt_of_cell? _ _ h0, ⟨⟨hf, hrb.lt⟩, trivial⟩, fun j u hu => ?_⟩⟩
  match j, hu with
  | 0, hu => simp [fcells] at hu; subst hu; exact h0
  | 1, hu => simp [fcells] at hu; subst hu; exact h1
  | j + 2, hu => simp [fcells] at hu

/-- (l *frameList).initial() where the first full block has a frame. -/
theorem init_full (p : Nat) (b o nf fc : Nat) (b' o' rn rc : Nat) (f : Int) (co : Option Addr) (cn cc : Nat) (w : World) (h0 : w.cell? ⟨p, 0, none⟩ = some (.slice (some ⟨b, o, none⟩) nf fc))
    (hpos : 0 < nf) (hc : w.cell? ⟨b, o, none⟩ = some (.slice (some ⟨b', o', none⟩) rn rc)) (hrn : 0 < rn) (hf : w.cell? ⟨b', o', none⟩ = some (.int .u16 f)) (hg : w.cell? ⟨b', o' + 1, none⟩ = some (.slice co cn cc)) :
    Calls Try.prog 25 #[.pointer (some ⟨p, 0, none⟩)] w fun e w' => e = .returned (.slice (some ⟨w.heap.size, 0, none⟩) 1 1) ∧ w' = w.alloc (.cells #[.int .u16 f, .slice co cn cc] 36) := by
  have i1 : (0 : Int) < (nf : Int) := by omega
  have i2 : (0 : Int) < (rn : Int) := by omega
  go_enter Try.func25, Try.ntmps25
  go_wp2
  go_ret
  exact ⟨rfl, rfl⟩

theorem init_last (p : Nat) (fo : Option Addr) (fc : Nat) (b' o' rn rc : Nat) (f : Int) (co : Option Addr) (cn cc : Nat) (w : World) (h0 : w.cell? ⟨p, 0, none⟩ = some (.slice fo 0 fc)) (h1 : w.cell? ⟨p, 1, none⟩ = some (.slice (some ⟨b', o', none⟩) rn rc))
    (hrn : 0 < rn) (hf : w.cell? ⟨b', o', none⟩ = some (.int .u16 f)) (hg : w.cell? ⟨b', o' + 1, none⟩ = some (.slice co cn cc)) :
    Calls Try.prog 25 #[.pointer (some ⟨p, 0, none⟩)] w fun e w' => e = .returned (.slice (some ⟨w.heap.size, 0, none⟩) 1 1) ∧ w' = w.alloc (.cells #[.int .u16 f, .slice co cn cc] 36) := by
  have i2 : (0 : Int) < (rn : Int) := by omega
  go_enter Try.func25, Try.ntmps25
  go_wp2
  go_ret
  exact ⟨rfl, rfl⟩

theorem init_none (p : Nat) (fo : Option Addr) (fc : Nat) (lo : Option Addr) (lc : Nat) (w : World) (h0 : w.cell? ⟨p, 0, none⟩ = some (.slice fo 0 fc)) (h1 : w.cell? ⟨p, 1, none⟩ = some (.slice lo 0 lc)) :
    Calls Try.prog 25 #[.pointer (some ⟨p, 0, none⟩)] w fun e w' => e = .returned (.slice none 0 0) ∧ w' = w := by
  go_enter Try.func25, Try.ntmps25
  go_wp2
  go_ret
  exact ⟨rfl, rfl⟩

theorem init_below {w : World} (o1 o2 : Obj) : Below w.heap.size w ((w.alloc o1).alloc o2) := ((Below.refl _ _).alloc (Nat.le_refl _) o1).alloc (by simp) o2

/-- ZZInitial. -/
theorem zzinitial_any (fo : Option Addr) (nf fc : Nat) (lo : Option Addr) (nl lc : Nat) (D : List (List Dt)) (L : List Dt) (w : World) (hr : RR (fun k => k < w.heap.size) w fo nf D) (hl : RF (fun k => k < w.heap.size) w lo nl L)
    (hne : 0 < nf → 0 < (D.getD 0 []).length) :
    Calls Try.prog 17 #[.slice fo nf fc, .slice lo nl lc] w (InitOut w (D.flatten ++ L)) := by
  have hb : ∀ o, Below w.heap.size w (w.alloc o) := fun o => (Below.refl _ _).alloc (Nat.le_refl _) o
  have HB : Hid (∀ o, Below w.heap.size w (w.alloc o)) := hb
  clear hb
  rcases Nat.eq_zero_or_pos nf with h0 | h0
  · subst h0
    obtain rfl : D = [] := List.eq_nil_of_length_eq_zero hr.1.symm
    rcases Nat.eq_zero_or_pos nl with h1 | h1
    · subst h1
      obtain rfl : L = [] := List.eq_nil_of_length_eq_zero hl.1.symm
      clear hr hl hne
      go_enter Try.func17, Try.ntmps17
      go_wp2_with (go_at_call 25; refine (init_none _ fo fc lo lc _ (by simp) (by simp)).mono ?_; rintro e w' ⟨rfl, rfl⟩)
      go_ret
      exact .inl ⟨rfl, rfl, HB.out _⟩
    · obtain ⟨b', o', co, cn, cc, ha, hbk', h1', h2', hrb⟩ := hl.at h1
      subst ha
      have hF : Hid (InitOut w (List.flatten [] ++ L) = InitOut w L) := rfl
      have g1 : ∀ o, (w.alloc o).cell? ⟨b', o', none⟩ = some (.int .u16 (L.getD 0 dz).1) := fun o => ((HB.out o).cell (p := ⟨b', o', none⟩) hbk').trans (by simpa using h1')
      have g2 : ∀ o, (w.alloc o).cell? ⟨b', o' + 1, none⟩ = some (.slice co cn cc) := fun o => ((HB.out o).cell (p := ⟨b', o' + 1, none⟩) hbk').trans (by simpa using h2')
      have HG : Hid ((∀ o, (w.alloc o).cell? ⟨b', o', none⟩ = some (.int .u16 (L.getD 0 dz).1)) ∧ ∀ o, (w.alloc o).cell? ⟨b', o' + 1, none⟩ = some (.slice co cn cc)) := ⟨g1, g2⟩
      have HLL : Hid (nl = L.length) := hl.1
      clear g1 g2 h1' h2' hne hr
      rw [hF.out]
      go_enter Try.func17, Try.ntmps17
      go_wp2_with (go_at_call 25; refine (init_last _ fo fc b' o' nl lc _ co cn cc _ (by simp) (by simp) h1 (HG.out.1 _) (HG.out.2 _)).mono ?_; rintro e w' ⟨rfl, rfl⟩)
      go_ret
      refine .inr ⟨fun e => by have h := HLL.out; rw [e] at h; simp at h; omega, _, _, rfl, ?_, init_below _ _⟩
      exact rf_one (cc := cc) (by simp) (by simp) rfl (hrb.carry (SameOn.all (init_below _ _)))
  · obtain ⟨b, o, ro, rn, rc, ha, hbk, hc0, hrf⟩ := hr.at h0
    subst ha
    have hrn : 0 < rn := by rw [hrf.1]; exact hne h0
    obtain ⟨b', o', co, cn, cc, ha, hbk', h1', h2', hrb⟩ := hrf.at hrn
    subst ha
    obtain ⟨hfa, hfl⟩ := flatten_at D L 0 0 (by have := hr.1; omega) (hne h0)
    simp only [List.take_zero, List.flatten_nil, List.length_nil, Nat.add_zero] at hfa hfl
    rw [← hfa] at h1' hrb
    generalize D.flatten ++ L = F at *
    have g0 : ∀ x, (w.alloc x).cell? ⟨b, o, none⟩ = some (.slice (some ⟨b', o', none⟩) rn rc) := fun x => ((HB.out x).cell (p := ⟨b, o, none⟩) hbk).trans (by simpa using hc0)
    have g1 : ∀ x, (w.alloc x).cell? ⟨b', o', none⟩ = some (.int .u16 (F.getD 0 dz).1) := fun x => ((HB.out x).cell (p := ⟨b', o', none⟩) hbk').trans (by simpa using h1')
    have g2 : ∀ x, (w.alloc x).cell? ⟨b', o' + 1, none⟩ = some (.slice co cn cc) := fun x => ((HB.out x).cell (p := ⟨b', o' + 1, none⟩) hbk').trans (by simpa using h2')
    have HG : Hid ((∀ x, (w.alloc x).cell? ⟨b', o', none⟩ = some (.int .u16 (F.getD 0 dz).1)) ∧ (∀ x, (w.alloc x).cell? ⟨b', o' + 1, none⟩ = some (.slice co cn cc)) ∧ ∀ x, (w.alloc x).cell? ⟨b, o, none⟩ = some (.slice (some ⟨b', o', none⟩) rn rc)) := ⟨g1, g2, g0⟩
    have HFl : Hid (0 < F.length) := hfl
    clear g0 g1 g2 h1' h2' hne hc0 hfa hfl
    go_enter Try.func17, Try.ntmps17
    go_wp2_with (go_at_call 25; refine (init_full _ b o nf fc b' o' rn rc _ co cn cc _ (by simp) h0 (HG.out.2.2 _) hrn (HG.out.1 _) (HG.out.2.1 _)).mono ?_; rintro e w' ⟨rfl, rfl⟩)
    go_ret
    refine .inr ⟨fun e => by have h := HFl.out; rw [e] at h; simp at h, _, _, rfl, ?_, init_below _ _⟩
    exact rf_one (cc := cc) (by simp) (by simp) rfl (hrb.carry (SameOn.all (init_below _ _)))
end Go.Proofs.Qxb6601125a
