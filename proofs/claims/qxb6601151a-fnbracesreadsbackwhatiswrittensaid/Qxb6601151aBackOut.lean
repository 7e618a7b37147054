import Derived.Test.Qxb6601151aBackWalk
namespace Go.Proofs.Qxb6601151a.back
open Go.RowKit Go.Proofs.Qxb6601151a

def Within (np n1 n2 n3 n4 nt : Nat) (lo hi : Int) : Prop := np ≤ 65536 ∧ nt ≤ 65536 ∧ n1 ≤ 65536 ∧ n2 ≤ 65536 ∧ n3 ≤ 65536 ∧ n4 ≤ 65536 ∧ 0 ≤ lo ∧ lo ≤ 65535 ∧ -1 ≤ hi ∧ hi ≤ 65535

set_option maxHeartbeats 2000000 in
set_option maxRecDepth 100000 in
/-- Outside the law's own bounds it returns true at once. -/
theorem walk_out (po : Option Addr) (np pc : Nat) (lo hi : Int) (sg no : Bool) (o1 : Option Addr) (n1 c1 : Nat) (o2 : Option Addr) (n2 c2 : Nat) (o3 : Option Addr) (n3 c3 : Nat) (o4 : Option Addr) (n4 c4 : Nat) (to : Option Addr) (nt tc : Nat) (w : World)
    (h : ¬ Within np n1 n2 n3 n4 nt lo hi) :
    Calls Try.prog 4 #[.slice po np pc, .int .i64 lo, .int .i64 hi, .bool sg, .bool no, .slice o1 n1 c1, .slice o2 n2 c2, .slice o3 n3 c3, .slice o4 n4 c4, .slice to nt tc] w (LawOut w) := by
  go_enter Try.func4, Try.ntmps4
  go_wp2_with fail
  refine (size_any _ _ _ _ _ _ _ _ _ _ _ _ _ _ _ _ _ _ _ _ _ _ w).mono ?_
  rintro e w0 ⟨b, rfl, rfl⟩
  cases b with
  | false =>
    go_wp2
    go_ret
    exact ⟨rfl, Below.refl _ _⟩
  | true =>
    by_cases d0 : np ≤ 65536
    · by_cases d1 : nt ≤ 65536
      · by_cases d2 : n1 ≤ 65536
        · by_cases d3 : n2 ≤ 65536
          · by_cases d4 : n3 ≤ 65536
            · by_cases d5 : n4 ≤ 65536
              · by_cases d6 : 0 ≤ lo
                · by_cases d7 : lo ≤ 65535
                  · by_cases d8 : -1 ≤ hi
                    · have d9 : ¬ hi ≤ 65535 := fun d9 => h ⟨d0, d1, d2, d3, d4, d5, d6, d7, d8, d9⟩
                      clear h
                      go_wp2
                      go_ret
                      exact ⟨rfl, Below.refl _ _⟩
                    · clear h
                      go_wp2
                      go_ret
                      exact ⟨rfl, Below.refl _ _⟩
                  · clear h
                    go_wp2
                    go_ret
                    exact ⟨rfl, Below.refl _ _⟩
                · clear h
                  go_wp2
                  go_ret
                  exact ⟨rfl, Below.refl _ _⟩
              · clear h
                go_wp2
                go_ret
                exact ⟨rfl, Below.refl _ _⟩
            · clear h
              go_wp2
              go_ret
              exact ⟨rfl, Below.refl _ _⟩
          · clear h
            go_wp2
            go_ret
            exact ⟨rfl, Below.refl _ _⟩
        · clear h
          go_wp2
          go_ret
          exact ⟨rfl, Below.refl _ _⟩
      · clear h
        go_wp2
        go_ret
        exact ⟨rfl, Below.refl _ _⟩
    · clear h
      go_wp2
      go_ret
      exact ⟨rfl, Below.refl _ _⟩
end Go.Proofs.Qxb6601151a.back
