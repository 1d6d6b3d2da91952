/-
  'append' onto a row that the call owns: the law of the kit, with one word more: the row stays in its block or goes to a new one.
-/
import Derived.Test.Qxb6617377aW3
import Derived.Deep.AppendSrc
namespace Go.Proofs.Qxb6617377a
set_option linter.unusedVariables false
set_option linter.unusedSimpArgs false
open Go.RowKit

theorem append_block {P : Program} (w : World) (base : Nat) (t ty e : TypeId) (i : TypeInfo) (z : Value) (ht : P.underlying t = some (.slice e)) (hi : P.info? e = some i) (hz : i.zero = some z)
    (v : Value) (n : Nat) (xs : List Value) (hown : w.ownsRow base e i.size v n xs)
    (a : Addr) (m c : Nat) (news : List Value) (hl : news.length = m * i.size) (hnews : ∀ j u, news[j]? = some u → w.cell? (a.add j) = some u) (h1 : ∀ u ∈ news, u.oneCell' = true)
    (h63 : n + m ≤ maxLen) (hbytes : (n + m) * i.bytes ≤ 140737488355328) (hm : 0 < m) :
    ∃ v' w', (Builtin.append_ #[t, t] ty #[v, .slice (some a) m c]).run P w = .ok v' w' ∧ (v'.ownBlock = v.ownBlock ∨ v'.ownBlock = some w.heap.size) := by
  have hsmall : n + m ≤ 9223372036854775807 := by simp only [maxLen] at h63; omega
  have hsrc := Src.ofSlice (P := P) w (size := i.size) ht a m c news hl hnews h1
  rcases hown.2 with ⟨rfl, rfl⟩ | ⟨g, cap, cur, rfl, hbg, hg, hnc, hcm, hcs, htake⟩
  · have hr := run_append_grow_src (P := P) w t t ty e i z ht hi hz none 0 0 [] (run_firstCells_none w.drew i.size 0 0 0) _ m news hsrc (by omega) (by omega) (growslice_fits (by omega) (by omega))
    exact ⟨_, _, hr, .inr rfl⟩
  · by_cases hroom : n + m ≤ cap
    · obtain ⟨w', hr, _⟩ := run_append_fits (P := P) w base t ty e i i.size ht hi rfl g n cap xs hown a m c news hl hnews h1 hroom
      exact ⟨_, _, hr, .inl rfl⟩
    · have hold : (Builtin.firstCells i.size n (.slice (some ⟨g, 0, none⟩) n cap)).run P w.drew = .ok xs.toArray w.drew := by
        refine run_firstCells_some w.drew i.size n ⟨g, 0, none⟩ n cap xs hown.1 ?_
        intro j u hj
        have hjl : j < n * i.size := by
          have := (List.getElem?_eq_some_iff.1 hj).1
          rw [hown.1] at this
          exact this
        have := hown.cellAt j hjl
        rw [Addr.add_lit, Nat.zero_add]
        rw [hj] at this
        exact this
      have hr := run_append_grow_src (P := P) w t t ty e i z ht hi hz (some ⟨g, 0, none⟩) n cap xs hold _ m news hsrc (by omega) (by omega) (growslice_fits (by omega) (by omega))
      exact ⟨_, _, hr, .inr rfl⟩

theorem wpList_append_own2 {P : Program} {w : World} {ops : Array Oper} {rest : List Oper} {o : Oper} {a : Act} {Q : Exit → Act → World → Prop} (hgd : o.guard = none) (s x : Operand) (t : TypeId)
    (ho : o.op = .call { callee := .builtin .append, args := #[s, x], argTypes := #[t, t] })
    (base : Nat) (e : TypeId) (i : TypeInfo) (z : Value) (size bytes : Nat) (ht : P.underlying t = some (.slice e)) (hi : P.info? e = some i) (hz : i.zero = some z)
    (hsize : i.size = size) (hby : i.bytes = bytes) (hzs : z.cells.size = size) (hsz : 0 < size)
    (v : Value) (n : Nat) (xs : List Value) (hs : a.eval s = v) (hown : w.ownsRow base e size v n xs)
    (ad : Addr) (m c : Nat) (news : List Value) (hx : a.eval x = .slice (some ad) m c) (hl : news.length = m * size) (hnews : ∀ j u, news[j]? = some u → w.cell? (ad.add j) = some u) (h1 : ∀ u ∈ news, u.oneCell' = true)
    (h63 : n + m ≤ maxLen) (hbytes : (n + m) * bytes ≤ 140737488355328) (hbase : base ≤ w.heap.size) (hm : 0 < m)
    (h : ∀ v' w', w'.ownsRow base e size v' (n + m) (xs ++ news) → w.grownBy w' v.ownBlock → (v'.ownBlock = v.ownBlock ∨ v'.ownBlock = some w.heap.size) → wpList P ops Q rest (a.put o.dst v') w') : wpList P ops Q (o :: rest) a w := by
  refine wpList_plain hgd fun K hK => ?_
  obtain ⟨v', w', hr, h2, h3, h4⟩ := run_append_own (P := P) w base t o.type e i z size bytes ht hi hz hsize hby hzs hsz v n xs hown ad m c news hl hnews h1 h63 hbytes hbase
  subst hsize
  subst hby
  obtain ⟨v2, w2, hr2, h5⟩ := append_block (P := P) w base t o.type e i z ht hi hz v n xs hown ad m c news hl hnews h1 h63 hbytes hm
  rw [hr] at hr2
  cases hr2
  unfold Oper.wp execOp
  simp only [ho, resolve, invoke, builtin, Sem.run_bind, Sem.run_pure, Result.andThen_ok, List.map_toArray, List.map_cons, List.map_nil, hs, hx, hr]
  exact hK _ _ (h v' w' h2 h3 h5)

end Go.Proofs.Qxb6617377a
