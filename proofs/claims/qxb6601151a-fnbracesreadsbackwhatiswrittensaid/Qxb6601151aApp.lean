import Derived.Test.Qxb6601151aWrite
namespace Go.Proofs.Qxb6601151a
open Go.RowKit

/-- The second argument's type does not matter so long as it is a slice's. -/
theorem run_append_types {P : Program} (w : World) (t tx ty e e' : TypeId) (ht : P.underlying t = some (.slice e)) (hx : P.underlying tx = some (.slice e')) (args : Array Value) :
    (Builtin.append_ #[t, tx] ty args).run P w = (Builtin.append_ #[t, t] ty args).run P w := by
  unfold Builtin.append_
  rcases args with ⟨args⟩
  match args with
  | [] => simp
  | [_] => simp
  | s :: x :: _ => cases s <;> simp [run_underlying ht, run_underlying hx]

theorem run_append_none {P : Program} (w : World) (base : Nat) (t ty e : TypeId) (i : TypeInfo) (size : Nat) (ht : P.underlying t = some (.slice e)) (hi : P.info? e = some i)
    (v : Value) (n : Nat) (xs : List Value) (hown : w.ownsRow base e size v n xs) (c : Nat) :
    (Builtin.append_ #[t, t] ty #[v, .slice none 0 c]).run P w = .ok v w := by
  rcases hown.2 with ⟨rfl, rfl⟩ | ⟨g, cap, cur, rfl, _, _, hnc, _⟩
  · simp [Builtin.append_, run_underlying ht, sizeOf, typeInfo, hi, Builtin.lenOf, Builtin.firstCells]
  · simp [Builtin.append_, run_underlying ht, sizeOf, typeInfo, hi, Builtin.lenOf, Builtin.firstCells, hnc, storeCells]

/-- 'm = append(m, b...)', m the call's own, b whatever slice (nil, empty or not), its type another name of the same. -/
theorem wpList_append_any {P : Program} {w : World} {ops : Array Oper} {rest : List Oper} {o : Oper} {a : Act} {Q : Exit → Act → World → Prop} (hgd : o.guard = none) (s x : Operand) (t tx : TypeId)
    (ho : o.op = .call { callee := .builtin .append, args := #[s, x], argTypes := #[t, tx] })
    (base : Nat) (e e' : TypeId) (i : TypeInfo) (z : Value) (size bytes : Nat) (ht : P.underlying t = some (.slice e)) (htx : P.underlying tx = some (.slice e')) (hi : P.info? e = some i) (hz : i.zero = some z)
    (hsize : i.size = size) (hby : i.bytes = bytes) (hzs : z.cells.size = size) (hsz : 0 < size)
    (v : Value) (n : Nat) (xs : List Value) (hs : a.eval s = v) (hown : w.ownsRow base e size v n xs)
    (ao : Option Addr) (m c : Nat) (news : List Value) (hx : a.eval x = .slice ao m c) (hl : news.length = m * size) (hnone : ao = none → m = 0) (hnews : ∀ ad, ao = some ad → ∀ j u, news[j]? = some u → w.cell? (ad.add j) = some u) (h1 : ∀ u ∈ news, u.oneCell' = true)
    (h63 : n + m ≤ maxLen) (hbytes : (n + m) * bytes ≤ 140737488355328) (hbase : base ≤ w.heap.size)
    (h : ∀ v' w', w'.ownsRow base e size v' (n + m) (xs ++ news) → w.grownBy w' v.ownBlock → (v' = .slice none 0 0 ↔ v = .slice none 0 0 ∧ m = 0) → wpList P ops Q rest (a.put o.dst v') w') : wpList P ops Q (o :: rest) a w := by
  refine wpList_plain hgd fun K hK => ?_
  cases ao with
  | none =>
    have hm := hnone rfl
    subst hm
    have hn : news = [] := List.eq_nil_of_length_eq_zero (by simpa using hl)
    subst hn
    have hrun := run_append_none (P := P) w base t o.type e i size ht hi v n xs hown c
    have hty := run_append_types (P := P) w t tx o.type e e' ht htx #[v, .slice none 0 c]
    rw [hrun] at hty
    unfold Oper.wp execOp
    simp only [ho, resolve, invoke, builtin, Sem.run_bind, Sem.run_pure, Result.andThen_ok, List.map_toArray, List.map_cons, List.map_nil, hs, hx, hty]
    exact hK _ _ (h v w (by simpa using hown) (World.grownBy.refl _ _) (by simp))
  | some ad =>
    obtain ⟨v', w', hr, h2, h3, h4⟩ := run_append_own (P := P) w base t o.type e i z size bytes ht hi hz hsize hby hzs hsz v n xs hown ad m c news hl (hnews ad rfl) h1 h63 hbytes hbase
    have hty := run_append_types (P := P) w t tx o.type e e' ht htx #[v, .slice (some ad) m c]
    rw [hr] at hty
    unfold Oper.wp execOp
    simp only [ho, resolve, invoke, builtin, Sem.run_bind, Sem.run_pure, Result.andThen_ok, List.map_toArray, List.map_cons, List.map_nil, hs, hx, hty]
    exact hK _ _ (h v' w' h2 h3 h4)

end Go.Proofs.Qxb6601151a
