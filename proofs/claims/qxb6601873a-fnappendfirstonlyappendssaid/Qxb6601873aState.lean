/-
  Seat b6601873a: the two slices that appendFirst appends to, and the Reaches that lie in the second.
-/
import Derived.Test.Qxb6601873aAppend
namespace Go.Proofs.Qxb6601873a
open Go.RowKit

/-- rv reads as rs, and no append onto vq (of m elements) turns it. -/
def SafeRV (w : World) (vq : Value) (m : Nat) (rv : Value) (rs : Option (List Int)) : Prop :=
  (rv = .slice none 0 0 ∧ rs = none) ∨ ∃ (l : List Int) (x : Addr) (cap : Nat), rs = some l ∧ rv = .slice (some x) l.length cap ∧
    (0 < l.length → ∃ b off cur fr, x = ⟨b, off, none⟩ ∧ w.heap[b]? = some (.cells cur 3 fr) ∧ (∀ i, i < l.length → cur[off + i]? = some (.int .i64 (l.getD i 0))) ∧ (vq.ownBlock = some b → off + l.length ≤ m))

theorem SafeRV.rv {w : World} {vq : Value} {m : Nat} {rv : Value} {rs : Option (List Int)} (h : SafeRV w vq m rv rs) : RV w rv rs := by
  rcases h with ⟨rfl, rfl⟩ | ⟨l, x, cap, rfl, rfl, hc⟩
  · exact ⟨⟨none, 0, rfl, fun _ => rfl, fun h => by simp at h⟩, by simp⟩
  · refine ⟨⟨some x, cap, rfl, (fun h => by cases h), fun hl => ?_⟩, by simp⟩
    obtain ⟨b, off, cur, fr, rfl, hb, hcc, _⟩ := hc hl
    refine ⟨b, off, rfl, fun i hi => ?_⟩
    rw [cell_of_row w b (off + i) cur 3 fr hb]
    exact hcc i hi

/-- Where every block of type 3 is as it was. -/
theorem SafeRV.kept {w w' : World} {vq : Value} {m : Nat} {rv : Value} {rs : Option (List Int)} (h : SafeRV w vq m rv rs) (hk : ∀ (b : Nat) (cur : Array Value) (fr : Nat × Nat), w.heap[b]? = some (.cells cur 3 fr) → w'.heap[b]? = some (.cells cur 3 fr)) : SafeRV w' vq m rv rs := by
  rcases h with h | ⟨l, x, cap, h1, h2, hc⟩
  · exact .inl h
  · refine .inr ⟨l, x, cap, h1, h2, fun hl => ?_⟩
    obtain ⟨b, off, cur, fr, rfl, hb, hcc, hq⟩ := hc hl
    exact ⟨b, off, cur, fr, rfl, hk b cur fr hb, hcc, hq⟩

theorem SafeRV.of_own {w : World} {vq : Value} {m base : Nat} {rv : Value} {rs : Option (List Int)} (h : OwnRV w base rv rs) (hq : ∀ b, vq.ownBlock = some b → rv.ownBlock ≠ some b) : SafeRV w vq m rv rs := by
  cases rs with
  | none => exact .inl ⟨h.2.2 rfl, rfl⟩
  | some l =>
    right
    have ho := h.1
    rcases ho.2 with ⟨rfl, _⟩ | ⟨g, cap, cur, rfl, _, hg, _, _, _, ht⟩
    · exact absurd (h.2.1 rfl) (by simp)
    · refine ⟨l, _, cap, rfl, rfl, fun hl => ⟨g, 0, cur, _, rfl, hg, fun i hi => ?_, fun e => absurd rfl (hq g e)⟩⟩
      have := ho.cellAt i (by simp; exact hi)
      rw [cell_of_row w g i cur 3 _ hg] at this
      rw [Nat.zero_add, this]
      simp [List.getD, hi]

/-- Behind an append onto vq. -/
theorem SafeRV.appended {w w' : World} {base g cap m k : Nat} {vq : Value} {xs news : List Value} {rv : Value} {rs : Option (List Int)} (h : SafeRV w vq m rv rs)
    (hown : w.ownsRow base 3 1 vq m xs) (hown' : w'.ownsRow base 3 1 (.slice (some ⟨g, 0, none⟩) (m + k) cap) (m + k) (xs ++ news)) (hg : w.grownBy w' vq.ownBlock)
    (hor : vq.ownBlock = some g ∨ (g = w.heap.size ∧ ∀ k, k < w.heap.size → w'.heap[k]? = w.heap[k]?)) : SafeRV w' (.slice (some ⟨g, 0, none⟩) (m + k) cap) (m + k) rv rs := by
  rcases h with h | ⟨l, x, c, h1, h2, hc⟩
  · exact .inl h
  · refine .inr ⟨l, x, c, h1, h2, fun hl => ?_⟩
    obtain ⟨b, off, cur, fr, rfl, hb, hcc, hq⟩ := hc hl
    have hlt : b < w.heap.size := (Array.getElem?_eq_some_iff.1 hb).1
    by_cases hbg : vq.ownBlock = some b
    · rcases hor with e | ⟨e, hall⟩
      · -- in place
        rw [e] at hbg
        obtain rfl := Option.some.inj hbg
        rcases hown'.2 with ⟨h', _⟩ | ⟨g', cap', cur', h', _, hg', _, _, _, ht'⟩
        · simp at h'
        · simp only [Value.slice.injEq, Option.some.injEq, Addr.mk.injEq, and_true, true_and] at h'
          obtain ⟨rfl, rfl⟩ := h'
          refine ⟨g, off, cur', _, rfl, hg', fun i hi => ?_, fun _ => by have := hq e; omega⟩
          have hm : off + i < m := by have := hq e; omega
          have q1 := hown'.cellAt (off + i) (by omega)
          rw [cell_of_row w' g (off + i) cur' 3 _ hg', List.getElem?_append_left (by have := hown.1; omega)] at q1
          rw [q1]
          have hv : ∃ cap0, vq = .slice (some ⟨g, 0, none⟩) m cap0 := by
            rcases hown.2 with ⟨rfl, _⟩ | ⟨g0, cap0, cur0, rfl, _⟩
            · cases e
            · simp only [Value.ownBlock, Option.some.injEq] at e
              subst e
              exact ⟨cap0, rfl⟩
          obtain ⟨cap0, rfl⟩ := hv
          have q2 := hown.cellAt (off + i) (by omega)
          rw [cell_of_row w g (off + i) cur 3 fr hb] at q2
          rw [← q2]
          exact hcc i hi
      · exact ⟨b, off, cur, fr, rfl, by rw [hall b hlt]; exact hb, hcc, fun e' => by simp only [Value.ownBlock, Option.some.injEq] at e'; omega⟩
    · refine ⟨b, off, cur, fr, rfl, by rw [hg.block b hlt (fun e => hbg e.symm)]; exact hb, hcc, fun e' => ?_⟩
      simp only [Value.ownBlock, Option.some.injEq] at e'
      subst e'
      rcases hor with e | ⟨e, _⟩
      · exact absurd e hbg
      · omega

/-- A block of one type is no row of another. -/
theorem own_ne {w : World} {base g : Nat} {e T : TypeId} {size n : Nat} {v : Value} {xs : List Value} {cur : Array Value} {fr : Nat × Nat} (h : w.ownsRow base e size v n xs) (hg : w.heap[g]? = some (.cells cur T fr)) (hT : T ≠ e) : v.ownBlock ≠ some g := by
  intro h'
  rcases h.2 with ⟨rfl, _⟩ | ⟨g', cap', cur', rfl, _, hg', _⟩
  · cases h'
  · simp only [Value.ownBlock, Option.some.injEq] at h'
    subst h'
    rw [hg] at hg'
    simp only [Option.some.injEq, Obj.cells.injEq] at hg'
    exact hT hg'.2.1

theorem own_ne2 {w : World} {base base' : Nat} {e T : TypeId} {size size' n n' : Nat} {v v' : Value} {xs xs' : List Value} (h : w.ownsRow base e size v n xs) (h' : w.ownsRow base' T size' v' n' xs') (hT : T ≠ e) : v.ownBlock = none ∨ v.ownBlock ≠ v'.ownBlock := by
  rcases h'.2 with ⟨rfl, _⟩ | ⟨g', cap', cur', rfl, _, hg', _⟩
  · cases hv : v.ownBlock with
    | none => exact .inl rfl
    | some k => exact .inr (by simp [Value.ownBlock])
  · exact .inr (own_ne h hg' hT)

/-- The state: first is vf and holds fs, reach is vq and holds qs; both are the call's own (from w0's size on); below, nothing has turned. -/
def St (w0 w : World) (vf : Value) (fs : List Cr) (vq : Value) (qs : List Int) : Prop :=
  ∃ xs, w.ownsRow w0.heap.size 42 4 vf fs.length xs ∧ w.ownsRow w0.heap.size 3 1 vq qs.length (qs.map (Value.int .i64)) ∧
    (∀ i, i < fs.length → ∃ rv, Row4 xs i (fs.getD i Cr.zero) rv ∧ SafeRV w vq qs.length rv (fs.getD i Cr.zero).rs) ∧ Below w0.heap.size w0 w

theorem St.below {w0 w : World} {vf vq : Value} {fs : List Cr} {qs : List Int} (h : St w0 w vf fs vq qs) : Below w0.heap.size w0 w := h.choose_spec.2.2.2

theorem St.drew {w0 w : World} {vf vq : Value} {fs : List Cr} {qs : List Int} (h : St w0 w vf fs vq qs) : St w0 w.drew vf fs vq qs := by
  obtain ⟨xs, h1, h2, h3, h4⟩ := h
  exact ⟨xs, h1, h2, h3, h4.drew⟩

theorem St.alloc {w0 w : World} {vf vq : Value} {fs : List Cr} {qs : List Int} (h : St w0 w vf fs vq qs) (o : Obj) : St w0 (w.alloc o) vf fs vq qs := by
  obtain ⟨xs, h1, h2, h3, h4⟩ := h
  refine ⟨xs, h1.alloc o, h2.alloc o, fun i hi => ?_, h4.alloc h4.size o⟩
  obtain ⟨rv, hr, hs⟩ := h3 i hi
  exact ⟨rv, hr, hs.kept fun b cur fr hb => by rw [Below.heap_alloc w o b (Array.getElem?_eq_some_iff.1 hb).1]; exact hb⟩

/-- A store into a box of type 42 that is not first's row. -/
theorem St.setBox {w0 w : World} {vf vq : Value} {fs : List Cr} {qs : List Int} (h : St w0 w vf fs vq qs) {gc o : Nat} {cur : Array Value} {fr : Nat × Nat} (hg : w.heap[gc]? = some (.cells cur 42 fr)) (hne : vf.ownBlock ≠ some gc) (hge : w0.heap.size ≤ gc) (u : Value) :
    St w0 (w.setCell ⟨gc, o, none⟩ u) vf fs vq qs := by
  obtain ⟨xs, h1, h2, h3, h4⟩ := h
  have hgr : w.grownBy (w.setCell ⟨gc, o, none⟩ u) (some gc) := ⟨rfl, rfl, rfl, by simp [World.setCell], fun k _ hk => Below.heap_setCell w _ u k (fun e => hk (by rw [e]))⟩
  refine ⟨xs, h1.kept hgr (.inr hne), h2.kept hgr (.inr (own_ne h2 hg (by decide))), fun i hi => ?_, h4.setCell hge u⟩
  obtain ⟨rv, hr, hs⟩ := h3 i hi
  refine ⟨rv, hr, hs.kept fun b cur' fr' hb => ?_⟩
  rw [Below.heap_setCell w _ u b (fun e => ?_)]
  · exact hb
  · simp only at e
    subst e
    rw [hg] at hb
    simp at hb

/-- The crash behind a list. -/
theorem getD_snoc (fs : List Cr) (c : Cr) (i : Nat) : (fs ++ [c]).getD i Cr.zero = if i < fs.length then fs.getD i Cr.zero else if i = fs.length then c else Cr.zero := by
  by_cases h : i < fs.length
  · rw [if_pos h]; simp [List.getD, List.getElem?_append_left h]
  · rw [if_neg h]
    by_cases h' : i = fs.length
    · rw [if_pos h', h']; simp [List.getD]
    · rw [if_neg h']; simp [List.getD, List.getElem?_append_right (show fs.length ≤ i by omega)]
      rw [List.getElem?_eq_none (by simp; omega)]
      rfl

/-- 'reach = append(reach, k[at:at+listed]...)'. -/
theorem appQ {ops : Array Oper} {rest : List Oper} {o : Oper} {a : Act} {Q : Exit → Act → World → Prop} (w : World) (hgd : o.guard = none) (s x : Operand)
    (ho : o.op = .call { callee := .builtin .append, args := #[s, x], argTypes := #[22, 48] })
    (w0 : World) (vf vq : Value) (fs : List Cr) (qs : List Int) (hs : a.eval s = vq) (hst : St w0 w vf fs vq qs)
    (ad : Addr) (m m' c : Nat) (N : List Int) (hx : a.eval x = .slice (some ad) m' c) (hm' : m' = m) (hm : N.length = m) (hpos : 0 < m) (hnews : ∀ j u, (N.map (Value.int .i64))[j]? = some u → w.cell? (ad.add j) = some u)
    (hlen : qs.length + m ≤ 1099511627776)
    (h : ∀ g cap w', St w0 w' vf fs (.slice (some ⟨g, 0, none⟩) (qs.length + m) cap) (qs ++ N) → (∀ (gc : Nat) (cur : Array Value) (fr : Nat × Nat), w.heap[gc]? = some (.cells cur 42 fr) → w'.heap[gc]? = some (.cells cur 42 fr)) →
      SafeRV w' (.slice (some ⟨g, 0, none⟩) (qs.length + m) cap) (qs ++ N).length (.slice (some ⟨g, qs.length, none⟩) m m) (some N) → qs.length + m ≤ cap → cap ≤ maxLen → wpList Try.prog ops Q rest (a.put o.dst (.slice (some ⟨g, 0, none⟩) (qs.length + m) cap)) w') : wpList Try.prog ops Q (o :: rest) a w := by
  rw [hm'] at hx
  obtain ⟨i0, hi, hz0, hz1, hz2⟩ := info_parts Try.info3
  obtain ⟨xs, h1, h2, h3, h4⟩ := hst
  refine wpList_append_keeps w hgd s x 22 48 ho w0.heap.size 3 3 i0 (.int .i64 0) 1 8 Try.underlying22 Try.underlying48 hi hz0 hz1 hz2 rfl (by decide) vq _ _ hs h2 ad m c (N.map (Value.int .i64)) hx (by simp [hm]) hnews (ints_oneCell _ _) hpos (by unfold maxLen; omega) (by omega) h4.size ?_
  intro g cap w' ho' hg hor
  have k42 : ∀ (gc : Nat) (cur : Array Value) (fr : Nat × Nat), w.heap[gc]? = some (.cells cur 42 fr) → w'.heap[gc]? = some (.cells cur 42 fr) := by
    intro gc cur fr hgc
    rw [hg.block gc (Array.getElem?_eq_some_iff.1 hgc).1 (fun e => own_ne h2 hgc (by decide) e.symm)]
    exact hgc
  have hll : (qs ++ N).length = qs.length + m := by simp [hm]
  have hmap : (qs ++ N).map (Value.int .i64) = qs.map (Value.int .i64) ++ N.map (Value.int .i64) := List.map_append
  have hform : ∃ cur, w'.heap[g]? = some (.cells cur 3 (0, 0)) ∧ qs.length + m ≤ cap ∧ cap ≤ maxLen := by
    rcases ho'.2 with ⟨h', _⟩ | ⟨g', cap', cur', h', _, hg', q1, q2, _⟩
    · simp at h'
    · simp only [Value.slice.injEq, Option.some.injEq, Addr.mk.injEq, and_true, true_and] at h'
      obtain ⟨rfl, rfl⟩ := h'
      exact ⟨cur', hg', q1, q2⟩
  obtain ⟨cur', hg', q1, q2⟩ := hform
  refine h g cap w' ⟨xs, h1.kept hg (own_ne2 h1 h2 (by decide)), by rw [hll, hmap]; exact ho', fun i hi => ?_, h4.grown hg h4.size (fun k e => (h2.lt k e).1)⟩ k42 ?_ q1 q2
  · obtain ⟨rv, hr, hs'⟩ := h3 i hi
    exact ⟨rv, hr, by rw [hll]; exact hs'.appended h2 ho' hg hor⟩
  · refine .inr ⟨N, _, m, rfl, by rw [hm], fun _ => ⟨g, qs.length, cur', _, rfl, hg', fun i hi => ?_, fun _ => by simp⟩⟩
    have := ho'.cellAt (qs.length + i) (by omega)
    rw [cell_of_row w' g _ cur' 3 _ hg'] at this
    rw [this, List.getElem?_append_right (by simp)]
    simp [List.getD, hi]

/-- 'first = append(first, c)'. -/
theorem appF {ops : Array Oper} {rest : List Oper} {o : Oper} {a : Act} {Q : Exit → Act → World → Prop} (w : World) (hgd : o.guard = none) (s x : Operand)
    (ho : o.op = .call { callee := .builtin .append, args := #[s, x], argTypes := #[31, 31] })
    (w0 : World) (vf vq : Value) (fs : List Cr) (qs : List Int) (hs : a.eval s = vf) (hst : St w0 w vf fs vq qs)
    (ad : Addr) (p r sn : Int) (rv : Value) (rs : Option (List Int)) (hx : a.eval x = .slice (some ad) 1 1) (hnews : ∀ j u, ([.int .i64 p, .int .i64 r, rv, .int .i64 sn] : List Value)[j]? = some u → w.cell? (ad.add j) = some u)
    (hsafe : SafeRV w vq qs.length rv rs) (hlen : fs.length ≤ 1099511627776)
    (h : ∀ vf' w', St w0 w' vf' (fs ++ [⟨p, r, rs, sn⟩]) vq qs → wpList Try.prog ops Q rest (a.put o.dst vf') w') : wpList Try.prog ops Q (o :: rest) a w := by
  obtain ⟨i0, hi, hz0, hz1, hz2⟩ := info_parts Try.info42
  obtain ⟨xs, h1, h2, h3, h4⟩ := hst
  have hone : ∀ u ∈ ([.int .i64 p, .int .i64 r, rv, .int .i64 sn] : List Value), u.oneCell' = true := by
    intro u hu
    simp only [List.mem_cons, List.not_mem_nil, or_false] at hu
    rcases hu with rfl | rfl | rfl | rfl
    · rfl
    · rfl
    · rcases hsafe with ⟨rfl, _⟩ | ⟨l, x, c, _, rfl, _⟩ <;> rfl
    · rfl
  refine wpList_append_keeps w hgd s x 31 31 ho w0.heap.size 42 42 i0 _ 4 48 Try.underlying31 Try.underlying31 hi hz0 hz1 hz2 rfl (by decide) vf _ _ hs h1 ad 1 1 [.int .i64 p, .int .i64 r, rv, .int .i64 sn] hx rfl hnews hone (by decide) (by unfold maxLen; omega) (by omega) h4.size ?_
  intro g cap w' ho' hg hor
  have k3 : ∀ (gc : Nat) (cur : Array Value) (fr : Nat × Nat), w.heap[gc]? = some (.cells cur 3 fr) → w'.heap[gc]? = some (.cells cur 3 fr) := by
    intro gc cur fr hgc
    rw [hg.block gc (Array.getElem?_eq_some_iff.1 hgc).1 (fun e => own_ne h1 hgc (by decide) e.symm)]
    exact hgc
  have hx1 : xs.length = fs.length * 4 := h1.1
  refine h _ w' ⟨xs ++ [.int .i64 p, .int .i64 r, rv, .int .i64 sn], by simpa using ho', h2.kept hg (own_ne2 h2 h1 (by decide)), fun i hi => ?_, h4.grown hg h4.size (fun k e => (h1.lt k e).1)⟩
  rw [getD_snoc]
  by_cases hlt : i < fs.length
  · rw [if_pos hlt]
    obtain ⟨rv', ⟨r0, r1, r2, r3⟩, hs'⟩ := h3 i hlt
    refine ⟨rv', ⟨?_, ?_, ?_, ?_⟩, hs'.kept k3⟩
    all_goals
      rw [List.getElem?_append_left (by omega)]
      assumption
  · have hie : i = fs.length := by simp at hi; omega
    rw [if_neg hlt, if_pos hie, hie]
    refine ⟨rv, ⟨?_, ?_, ?_, ?_⟩, hsafe.kept k3⟩
    all_goals
      rw [← hx1, List.getElem?_append_right (by omega)]
      simp

end Go.Proofs.Qxb6601873a
