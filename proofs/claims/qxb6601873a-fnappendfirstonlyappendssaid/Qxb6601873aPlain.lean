/-
  Plain lists and numbers for the seat b6601873a: no Go in sight.
-/
namespace Go.Proofs.Qxb6601873a
namespace Pl

/-- Of a list: the entries that are p or q, in their order: is each p? -/
def fl (p q : Int) : List Int → List Bool
  | [] => []
  | e :: r => if e = p then true :: fl p q r else if e = q then false :: fl p q r else fl p q r

/-- How many are p. -/
def cnt (p : Int) : List Int → Nat
  | [] => 0
  | e :: r => if e = p then cnt p r + 1 else cnt p r

/-- The numbers, from i on, of those that are true. -/
def arr : List Bool → Nat → List Int
  | [], _ => []
  | b :: r, i => if b then (i : Int) :: arr r (i + 1) else arr r (i + 1)

/-- The order of two ways by the first flag that is set in one of them and not in the other. -/
def cmp : List Bool → List Bool → Int
  | [], lb => if lb.any id then 1 else 0
  | x :: xs, lb => if x && !(lb.headD false) then -1 else if lb.headD false && !x then 1 else cmp xs lb.tail

/-- The order of two lists of numbers of one length by the first place at which they part. -/
def lex : List Int → List Int → Int
  | x :: xs, y :: ys => if x < y then -1 else if y < x then 1 else lex xs ys
  | _, _ => 0

/-- What reachOrder answers. -/
def ro (p q : Int) (a b : List Int) : Int :=
  if cnt p a < cnt p b then -1 else if cnt p b < cnt p a then 1 else cmp (fl p q a) (fl p q b)

/-- What modelReach answers. -/
def mr (sa sb : List Int) : Int :=
  if sa.length < sb.length then -1 else if sb.length < sa.length then 1 else lex sa sb

theorem cnt_arr (p q : Int) (a : List Int) (i : Nat) : (arr (fl p q a) i).length = cnt p a := by
  induction a generalizing i with
  | nil => rfl
  | cons e r ih =>
    simp only [fl, cnt]
    split
    · simp [arr, ih]
    · split
      · simp [arr, ih]
      · exact ih i

theorem arr_ge (l : List Bool) (i : Nat) : ∀ x ∈ arr l i, (i : Int) ≤ x := by
  induction l generalizing i with
  | nil => intro x hx; simp [arr] at hx
  | cons b r ih =>
    intro x hx
    simp only [arr] at hx
    split at hx
    · rcases List.mem_cons.1 hx with rfl | h
      · exact Int.le_refl _
      · have := ih (i + 1) x h; omega
    · have := ih (i + 1) x hx; omega

theorem any_arr (l : List Bool) (i : Nat) (h : (arr l i).length = 0) : l.any id = false := by
  induction l generalizing i with
  | nil => rfl
  | cons b r ih =>
    cases b with
    | true => simp [arr] at h
    | false => simp only [arr] at h; simpa using ih (i + 1) (by simpa using h)

theorem cmp_lex (la lb : List Bool) (i : Nat) (h : (arr la i).length = (arr lb i).length) : cmp la lb = lex (arr la i) (arr lb i) := by
  induction la generalizing lb i with
  | nil =>
    have h0 : (arr lb i).length = 0 := by rw [← h]; rfl
    rw [cmp, any_arr lb i h0]
    simp [arr, lex]
  | cons x xs ih =>
    cases lb with
    | nil =>
      cases x with
      | true => simp [arr] at h
      | false =>
        have := ih [] (i + 1) (by simpa [arr] using h)
        simpa [cmp, arr] using this
    | cons y ys =>
      cases x <;> cases y
      · have := ih ys (i + 1) (by simpa [arr] using h)
        simpa [cmp, arr] using this
      · simp only [cmp, arr, List.headD_cons] at h ⊢
        simp at h ⊢
        match hz : arr xs (i + 1) with
        | [] => rw [hz] at h; simp at h
        | z :: zs =>
          have := arr_ge xs (i + 1) z (by rw [hz]; simp)
          simp only [lex]
          rw [if_neg (by omega), if_pos (by omega)]
      · simp only [cmp, arr, List.headD_cons] at h ⊢
        simp at h ⊢
        match hz : arr ys (i + 1) with
        | [] => rw [hz] at h; simp at h
        | z :: zs =>
          have := arr_ge ys (i + 1) z (by rw [hz]; simp)
          simp only [lex]
          rw [if_pos (by omega)]
      · have := ih ys (i + 1) (by simpa [arr] using h)
        simpa [cmp, arr, lex] using this

/-- THE PLAIN LAW of the first statement. -/
theorem ro_mr (p q : Int) (a b : List Int) : ro p q a b = mr (arr (fl p q a) 0) (arr (fl p q b) 0) := by
  unfold ro mr
  simp only [cnt_arr]
  split
  · rfl
  · split
    · rfl
    · exact cmp_lex _ _ 0 (by simp only [cnt_arr]; omega)

/-! ### one step -/
theorem drop_cons (zs : List Int) (i : Nat) (h : i < zs.length) : zs.drop i = zs.getD i 0 :: zs.drop (i + 1) := by
  rw [List.drop_eq_getElem_cons h]
  simp [List.getD, h]

theorem fl_hit (p q : Int) (zs : List Int) (i : Nat) (h : i < zs.length) (e : zs.getD i 0 = p) : fl p q (zs.drop i) = true :: fl p q (zs.drop (i + 1)) := by
  rw [drop_cons zs i h, fl, if_pos e]
theorem fl_neg (p q : Int) (zs : List Int) (i : Nat) (h : i < zs.length) (e : ¬ zs.getD i 0 = p) (e' : zs.getD i 0 = q) : fl p q (zs.drop i) = false :: fl p q (zs.drop (i + 1)) := by
  rw [drop_cons zs i h, fl, if_neg e, if_pos e']
theorem fl_miss (p q : Int) (zs : List Int) (i : Nat) (h : i < zs.length) (e : ¬ zs.getD i 0 = p) (e' : ¬ zs.getD i 0 = q) : fl p q (zs.drop i) = fl p q (zs.drop (i + 1)) := by
  rw [drop_cons zs i h, fl, if_neg e, if_neg e']

theorem fl_len (p q : Int) (zs : List Int) : (fl p q zs).length ≤ zs.length := by
  induction zs with
  | nil => simp [fl]
  | cons e r ih => simp only [fl]; split <;> (try split) <;> simp <;> omega

theorem cnt_le (p : Int) (zs : List Int) : cnt p zs ≤ zs.length := by
  induction zs with
  | nil => simp [cnt]
  | cons e r ih => simp only [cnt]; split <;> simp <;> omega

theorem cnt_snoc (p e : Int) (l : List Int) : cnt p (l ++ [e]) = cnt p l + if e = p then 1 else 0 := by
  induction l with
  | nil => simp [cnt]
  | cons x r ih =>
    simp only [List.cons_append, cnt, ih]
    by_cases h : x = p <;> simp [h] <;> omega

theorem take_snoc (zs : List Int) (k : Nat) (h : k < zs.length) : zs.take (k + 1) = zs.take k ++ [zs.getD k 0] := by
  rw [List.take_succ_eq_append_getElem h]
  simp [List.getD, h]

theorem cnt_step (p : Int) (zs : List Int) (k : Nat) (h : k < zs.length) : cnt p (zs.take (k + 1)) = cnt p (zs.take k) + if zs.getD k 0 = p then 1 else 0 := by
  rw [take_snoc zs k h, cnt_snoc]

theorem fl_snoc (p q e : Int) (l : List Int) : fl p q (l ++ [e]) = fl p q l ++ (if e = p then [true] else if e = q then [false] else []) := by
  induction l with
  | nil => simp only [List.nil_append, fl]
  | cons x r ih =>
    simp only [List.cons_append, fl, ih]
    by_cases h : x = p
    · rw [if_pos h, if_pos h]; rfl
    · rw [if_neg h, if_neg h]
      by_cases h' : x = q
      · rw [if_pos h', if_pos h']; rfl
      · rw [if_neg h', if_neg h']

theorem fl_step (p q : Int) (zs : List Int) (k : Nat) (h : k < zs.length) :
    fl p q (zs.take (k + 1)) = fl p q (zs.take k) ++ (if zs.getD k 0 = p then [true] else if zs.getD k 0 = q then [false] else []) := by
  rw [take_snoc zs k h, fl_snoc]

theorem arr_append (l m : List Bool) (i : Nat) : arr (l ++ m) i = arr l i ++ arr m (i + l.length) := by
  induction l generalizing i with
  | nil => simp [arr]
  | cons b r ih =>
    have e : i + (r.length + 1) = i + 1 + r.length := by omega
    cases b <;> simp [arr, ih, e]

theorem arr_len (l : List Bool) (i : Nat) : (arr l i).length ≤ l.length := by
  induction l generalizing i with
  | nil => simp [arr]
  | cons b r ih => have := ih (i + 1); cases b <;> simp [arr] <;> omega

theorem arr_bd (l : List Bool) (i : Nat) : ∀ x ∈ arr l i, 0 ≤ x ∧ x < (i + l.length : Int) := by
  induction l generalizing i with
  | nil => intro x hx; simp [arr] at hx
  | cons b r ih =>
    intro x hx
    simp only [arr] at hx
    split at hx
    · rcases List.mem_cons.1 hx with rfl | h
      · simp; omega
      · have := ih (i + 1) x h; simp; omega
    · have := ih (i + 1) x hx; simp; omega

/-! ### cmp, round by round -/
theorem cmp_both_out (la lb : List Bool) (k : Nat) (ha : la.length ≤ k) (hb : lb.length ≤ k) : cmp (la.drop k) (lb.drop k) = 0 := by
  rw [List.drop_of_length_le ha, List.drop_of_length_le hb]; rfl

theorem headD_drop (l : List Bool) (k : Nat) : (l.drop k).headD false = l[k]?.getD false := by
  induction l generalizing k with
  | nil => simp
  | cons b r ih => cases k with
    | zero => simp
    | succ k => exact ih k

theorem cmp_nil_any (lb : List Bool) : cmp [] lb = if lb.headD false then 1 else cmp [] lb.tail := by
  cases lb with
  | nil => rfl
  | cons b r => cases b <;> simp [cmp]

theorem cmp_unfold (la lb : List Bool) : cmp la lb = if la.headD false && !(lb.headD false) then -1 else if lb.headD false && !(la.headD false) then 1 else cmp la.tail lb.tail := by
  cases la with
  | nil => rw [cmp_nil_any]; simp
  | cons x xs => rfl

theorem cmp_round (la lb : List Bool) (k : Nat) : cmp (la.drop k) (lb.drop k) =
    if la[k]?.getD false && !(lb[k]?.getD false) then -1 else if lb[k]?.getD false && !(la[k]?.getD false) then 1 else cmp (la.drop (k + 1)) (lb.drop (k + 1)) := by
  rw [cmp_unfold, headD_drop, headD_drop]
  simp

/-! ### lex, round by round -/
theorem lex_done (sa sb : List Int) (k : Nat) (ha : sa.length ≤ k) : lex (sa.drop k) (sb.drop k) = 0 := by
  rw [List.drop_of_length_le ha]; rfl

theorem lex_round (sa sb : List Int) (k : Nat) (ha : k < sa.length) (hb : k < sb.length) :
    lex (sa.drop k) (sb.drop k) = if sa.getD k 0 < sb.getD k 0 then -1 else if sb.getD k 0 < sa.getD k 0 then 1 else lex (sa.drop (k + 1)) (sb.drop (k + 1)) := by
  rw [drop_cons sa k ha, drop_cons sb k hb, lex]

end Pl
end Go.Proofs.Qxb6601873a
