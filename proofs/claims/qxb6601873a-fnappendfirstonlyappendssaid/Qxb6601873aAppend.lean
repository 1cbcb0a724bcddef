/-
  Seat b6601873a: append, and what stays where it was.
-/
import Derived.Test.Qxb6601873aEnc
namespace Go.Proofs.Qxb6601873a
open Go.RowKit

/-- The types of append's arguments: where both are slices the second's is not looked at. -/
theorem append_types {P : Program} (w : World) (t t2 ty e e2 : TypeId) (ht : P.underlying t = some (.slice e)) (h2 : P.underlying t2 = some (.slice e2)) (i : TypeInfo) (hi : P.info? e = some i) (a : Option Addr) (n c : Nat) (x : Value) :
    (Builtin.append_ #[t, t2] ty #[.slice a n c, x]).run P w = (Builtin.append_ #[t, t] ty #[.slice a n c, x]).run P w := by
  simp [Builtin.append_, run_underlying ht, run_underlying h2, sizeOf, typeInfo, hi]

/-- append onto a row of the call's own: in place (the value keeps its block), or in a block that was just made (then every old block is as it was). -/
theorem run_append_keeps {P : Program} (w : World) (base : Nat) (t t2 ty e e2 : TypeId) (i : TypeInfo) (z : Value) (size bytes : Nat) (ht : P.underlying t = some (.slice e)) (h2 : P.underlying t2 = some (.slice e2)) (hi : P.info? e = some i) (hz : i.zero = some z)
    (hsize : i.size = size) (hby : i.bytes = bytes) (hzs : z.cells.size = size) (hsz : 0 < size)
    (v : Value) (n : Nat) (xs : List Value) (hown : w.ownsRow base e size v n xs)
    (a : Addr) (m c : Nat) (news : List Value) (hl : news.length = m * size) (hnews : ∀ j u, news[j]? = some u → w.cell? (a.add j) = some u) (h1 : ∀ u ∈ news, u.oneCell' = true) (hm : 0 < m)
    (h63 : n + m ≤ maxLen) (hbytes : (n + m) * bytes ≤ 140737488355328) (hbase : base ≤ w.heap.size) :
    ∃ g cap w', (Builtin.append_ #[t, t2] ty #[v, .slice (some a) m c]).run P w = .ok (.slice (some ⟨g, 0, none⟩) (n + m) cap) w' ∧ w'.ownsRow base e size (.slice (some ⟨g, 0, none⟩) (n + m) cap) (n + m) (xs ++ news) ∧ w.grownBy w' v.ownBlock ∧
      (v.ownBlock = some g ∨ (g = w.heap.size ∧ ∀ k, k < w.heap.size → w'.heap[k]? = w.heap[k]?)) := by
  obtain ⟨v', w', hr, ho', hg, _, _⟩ := run_append_own_at (P := P) w base t ty e i z size bytes ht hi hz hsize hby hzs hsz v n xs hown a m c news hl hnews h1 h63 hbytes hbase
  obtain ⟨g, cap, rfl, _, _⟩ := ho'.form (by omega)
  obtain ⟨av, cv, hv⟩ := own_form hown
  refine ⟨g, cap, w', by rw [hv] at hr ⊢; rw [append_types w t t2 ty e e2 ht h2 i hi]; exact hr, ho', hg, ?_⟩
  clear hv
  subst hsize
  subst hby
  simp only [maxLen] at h63
  rcases hown.2 with ⟨rfl, rfl⟩ | ⟨g0, cap0, cur, rfl, hbg, hg0, hnc, hcm, hcs, htake⟩
  · have hr2 := run_append_nil (P := P) w t ty e i z ht hi hz a m c news hl hnews hm (by omega) (by simp only [Nat.zero_add] at hbytes; omega)
    rw [hr] at hr2
    simp only [Result.ok.injEq, Value.slice.injEq, Option.some.injEq, Addr.mk.injEq, and_true] at hr2
    right
    refine ⟨hr2.1.1, fun k hk => ?_⟩
    rw [hr2.2]
    exact Below.heap_alloc w.drew _ k hk
  · by_cases hroom : n + m ≤ cap0
    · have hfit : n * i.size + news.length ≤ cur.size := by rw [hl, hcs, ← Nat.add_mul]; exact Nat.mul_le_mul_right _ hroom
      have hr2 := run_append_room (P := P) w t ty e i ht hi g0 n cap0 cur hg0 a m c news hl hnews h1 hroom hfit
      rw [hr] at hr2
      simp only [Result.ok.injEq, Value.slice.injEq, Option.some.injEq, Addr.mk.injEq, and_true] at hr2
      left
      rw [hr2.1.1]
      rfl
    · have holds : ∀ j u, xs[j]? = some u → w.cell? ((⟨g0, 0, none⟩ : Addr).add j) = some u := hown.cells (g := g0) rfl
      have hr2 := run_append_grow (P := P) w t ty e i z ht hi hz ⟨g0, 0, none⟩ n cap0 xs hown.1 holds a m c news hl hnews (by omega) (by omega) (growslice_fits (by omega) hbytes)
      rw [hr] at hr2
      simp only [Result.ok.injEq, Value.slice.injEq, Option.some.injEq, Addr.mk.injEq, and_true] at hr2
      right
      refine ⟨hr2.1.1, fun k hk => ?_⟩
      rw [hr2.2]
      exact Below.heap_alloc w.drew _ k hk

theorem wpList_append_keeps {P : Program} (w : World) {ops : Array Oper} {rest : List Oper} {o : Oper} {a : Act} {Q : Exit → Act → World → Prop} (hgd : o.guard = none) (s x : Operand) (t t2 : TypeId)
    (ho : o.op = .call { callee := .builtin .append, args := #[s, x], argTypes := #[t, t2] })
    (base : Nat) (e e2 : TypeId) (i : TypeInfo) (z : Value) (size bytes : Nat) (ht : P.underlying t = some (.slice e)) (h2 : P.underlying t2 = some (.slice e2)) (hi : P.info? e = some i) (hz : i.zero = some z)
    (hsize : i.size = size) (hby : i.bytes = bytes) (hzs : z.cells.size = size) (hsz : 0 < size)
    (v : Value) (n : Nat) (xs : List Value) (hs : a.eval s = v) (hown : w.ownsRow base e size v n xs)
    (ad : Addr) (m c : Nat) (news : List Value) (hx : a.eval x = .slice (some ad) m c) (hl : news.length = m * size) (hnews : ∀ j u, news[j]? = some u → w.cell? (ad.add j) = some u) (h1 : ∀ u ∈ news, u.oneCell' = true) (hm : 0 < m)
    (h63 : n + m ≤ maxLen) (hbytes : (n + m) * bytes ≤ 140737488355328) (hbase : base ≤ w.heap.size)
    (h : ∀ g cap w', w'.ownsRow base e size (.slice (some ⟨g, 0, none⟩) (n + m) cap) (n + m) (xs ++ news) → w.grownBy w' v.ownBlock →
      (v.ownBlock = some g ∨ (g = w.heap.size ∧ ∀ k, k < w.heap.size → w'.heap[k]? = w.heap[k]?)) → wpList P ops Q rest (a.put o.dst (.slice (some ⟨g, 0, none⟩) (n + m) cap)) w') : wpList P ops Q (o :: rest) a w := by
  obtain ⟨g, cap, w', hr, h3, h4, h5⟩ := run_append_keeps (P := P) w base t t2 o.type e e2 i z size bytes ht h2 hi hz hsize hby hzs hsz v n xs hown ad m c news hl hnews h1 hm h63 hbytes hbase
  refine wpList_plain hgd fun K hK => ?_
  unfold Oper.wp execOp
  simp only [ho, resolve, invoke, builtin, Sem.run_bind, Sem.run_pure, Result.andThen_ok, List.map_toArray, List.map_cons, List.map_nil, hs, hx, hr]
  exact hK _ _ (h g cap w' h3 h4 h5)

end Go.Proofs.Qxb6601873a
