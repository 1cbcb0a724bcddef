/-
  Seat b6003131a: plain: the places of a class, in order; the table that counting fills.
-/
namespace Go.Proofs.Qxb6003131a.Pl

/-- The places below k at which ss holds c, in order. -/
def idxs (c : Int) (ss : List Int) (k : Nat) : List Int := ((List.range k).filter (fun i => ss.getD i 0 == c)).map (fun i : Nat => (i : Int))
/-- How many. -/
def num (c : Int) (ss : List Int) (k : Nat) : Nat := (idxs c ss k).length

theorem idxs_zero (c : Int) (ss : List Int) : idxs c ss 0 = [] := rfl
theorem idxs_yes {c : Int} {ss : List Int} {k : Nat} (h : ss.getD k 0 = c) : idxs c ss (k + 1) = idxs c ss k ++ [(k : Int)] := by
  unfold idxs
  rw [List.range_succ, List.filter_append, List.map_append, List.filter_cons_of_pos (by rw [h]; simp), List.filter_nil]
  rfl
theorem idxs_no {c : Int} {ss : List Int} {k : Nat} (h : ss.getD k 0 ≠ c) : idxs c ss (k + 1) = idxs c ss k := by
  unfold idxs
  rw [List.range_succ, List.filter_append, List.map_append, List.filter_cons_of_neg (by simpa using h), List.filter_nil]
  simp
theorem num_zero (c : Int) (ss : List Int) : num c ss 0 = 0 := rfl
theorem num_yes {c : Int} {ss : List Int} {k : Nat} (h : ss.getD k 0 = c) : num c ss (k + 1) = num c ss k + 1 := by
  unfold num
  rw [idxs_yes h]
  simp
theorem num_no {c : Int} {ss : List Int} {k : Nat} (h : ss.getD k 0 ≠ c) : num c ss (k + 1) = num c ss k := by
  unfold num
  rw [idxs_no h]
theorem num_step (c : Int) (ss : List Int) (k : Nat) : num c ss k ≤ num c ss (k + 1) ∧ num c ss (k + 1) ≤ num c ss k + 1 := by
  by_cases h : ss.getD k 0 = c
  · rw [num_yes h]; omega
  · rw [num_no h]; omega
theorem num_mono (c : Int) (ss : List Int) {k n : Nat} (h : k ≤ n) : num c ss k ≤ num c ss n := by
  induction n with
  | zero => obtain rfl : k = 0 := by omega
            exact Nat.le_refl _
  | succ n ih =>
    by_cases he : k = n + 1
    · subst he; exact Nat.le_refl _
    · have h1 := ih (by omega)
      have h2 := (num_step c ss n).1
      omega
theorem num_sum (ss : List Int) (k : Nat) : num 2 ss k + num 3 ss k + num 0 ss k + num 4 ss k ≤ k := by
  induction k with
  | zero => exact Nat.le_refl _
  | succ k ih =>
    by_cases h2 : ss.getD k 0 = 2
    · rw [num_yes h2, num_no (c := 3) (by omega), num_no (c := 0) (by omega), num_no (c := 4) (by omega)]; omega
    · by_cases h3 : ss.getD k 0 = 3
      · rw [num_yes h3, num_no (c := 2) (by omega), num_no (c := 0) (by omega), num_no (c := 4) (by omega)]; omega
      · by_cases h0 : ss.getD k 0 = 0
        · rw [num_yes h0, num_no (c := 3) (by omega), num_no (c := 2) (by omega), num_no (c := 4) (by omega)]; omega
        · by_cases h4 : ss.getD k 0 = 4
          · rw [num_yes h4, num_no (c := 3) (by omega), num_no (c := 0) (by omega), num_no (c := 2) (by omega)]; omega
          · rw [num_no h2, num_no h3, num_no h0, num_no h4]; omega

/-- What serialOrder appends. -/
def ord (ss : List Int) (n : Nat) : List Int := idxs 2 ss n ++ (idxs 3 ss n).reverse ++ idxs 0 ss n ++ idxs 4 ss n
theorem ord_len (ss : List Int) (n : Nat) : (ord ss n).length = num 2 ss n + num 3 ss n + num 0 ss n + num 4 ss n := by
  unfold ord num
  simp
  omega

/-- A class's part of the table, filled from its head, and from its end. -/
def fwd (c : Int) (ss : List Int) (n k : Nat) : List Int := idxs c ss k ++ List.replicate (num c ss n - num c ss k) 0
def bwd (c : Int) (ss : List Int) (n k : Nat) : List Int := List.replicate (num c ss n - num c ss k) 0 ++ (idxs c ss k).reverse
theorem fwd_len (c : Int) (ss : List Int) {n k : Nat} (h : k ≤ n) : (fwd c ss n k).length = num c ss n := by
  have := num_mono c ss h
  unfold fwd
  rw [List.length_append, List.length_replicate]
  unfold num at *
  omega
theorem bwd_len (c : Int) (ss : List Int) {n k : Nat} (h : k ≤ n) : (bwd c ss n k).length = num c ss n := by
  have := num_mono c ss h
  unfold bwd
  rw [List.length_append, List.length_replicate, List.length_reverse]
  unfold num at *
  omega
theorem fwd_end (c : Int) (ss : List Int) (n : Nat) : fwd c ss n n = idxs c ss n := by simp [fwd]
theorem bwd_end (c : Int) (ss : List Int) (n : Nat) : bwd c ss n n = (idxs c ss n).reverse := by simp [bwd]
theorem fwd_no {c : Int} {ss : List Int} {n k : Nat} (h : ss.getD k 0 ≠ c) : fwd c ss n (k + 1) = fwd c ss n k := by
  unfold fwd
  rw [idxs_no h, num_no h]
theorem bwd_no {c : Int} {ss : List Int} {n k : Nat} (h : ss.getD k 0 ≠ c) : bwd c ss n (k + 1) = bwd c ss n k := by
  unfold bwd
  rw [idxs_no h, num_no h]
theorem fwd_yes {c : Int} {ss : List Int} {n k : Nat} (hk : k < n) (h : ss.getD k 0 = c) : (fwd c ss n k).set (num c ss k) (k : Int) = fwd c ss n (k + 1) := by
  have h1 := num_mono c ss (show k + 1 ≤ n by omega)
  have h2 := num_yes h
  unfold fwd
  rw [idxs_yes h, h2, show num c ss n - num c ss k = (num c ss n - (num c ss k + 1)) + 1 by omega, List.replicate_succ]
  rw [List.set_append_right _ _ (by unfold num; omega), show num c ss k - (idxs c ss k).length = 0 by unfold num; omega, List.set_cons_zero]
  simp
theorem bwd_yes {c : Int} {ss : List Int} {n k : Nat} (hk : k < n) (h : ss.getD k 0 = c) : (bwd c ss n k).set (num c ss n - 1 - num c ss k) (k : Int) = bwd c ss n (k + 1) := by
  have h1 := num_mono c ss (show k + 1 ≤ n by omega)
  have h2 := num_yes h
  unfold bwd
  rw [idxs_yes h, h2, show num c ss n - num c ss k = (num c ss n - (num c ss k + 1)) + 1 by omega, List.replicate_succ']
  rw [List.set_append_left _ _ (by simp; omega), List.set_append_right _ _ (by simp; omega)]
  rw [show num c ss n - 1 - num c ss k - (List.replicate (num c ss n - (num c ss k + 1)) (0 : Int)).length = 0 by simp; omega]
  simp

/-- The table after k places. -/
def tab (zs ss : List Int) (n k : Nat) : List Int := zs ++ (fwd 2 ss n k ++ (bwd 3 ss n k ++ (fwd 0 ss n k ++ fwd 4 ss n k)))
theorem tab_end (zs ss : List Int) (n : Nat) : tab zs ss n n = zs ++ ord ss n := by
  unfold tab ord
  rw [fwd_end, bwd_end, fwd_end, fwd_end]
  simp
theorem tab_zero (zs ss : List Int) (n : Nat) : tab zs ss n 0 = zs ++ List.replicate (num 2 ss n + num 3 ss n + num 0 ss n + num 4 ss n) 0 := by
  unfold tab fwd bwd
  simp only [idxs_zero, num_zero, List.nil_append, List.reverse_nil, List.append_nil, Nat.sub_zero]
  rw [List.replicate_append_replicate, List.replicate_append_replicate, List.replicate_append_replicate]
  congr 2
  omega
theorem tab_len (zs ss : List Int) {n k : Nat} (h : k ≤ n) : (tab zs ss n k).length = zs.length + (num 2 ss n + num 3 ss n + num 0 ss n + num 4 ss n) := by
  unfold tab
  simp only [List.length_append, fwd_len _ _ h, bwd_len _ _ h]
  omega
theorem set_mid {A B : List Int} {j : Nat} {x : Int} (i : Nat) (h : i = A.length + j) : (A ++ B).set i x = A ++ B.set j x := by
  subst h
  rw [List.set_append_right _ _ (by omega)]
  congr 2
  omega
theorem set_left {A B : List Int} {j : Nat} {x : Int} (h : j < A.length) : (A ++ B).set j x = A.set j x ++ B := List.set_append_left _ _ h
theorem tab_2 {zs ss : List Int} {n k : Nat} (hk : k < n) (h : ss.getD k 0 = 2) : (tab zs ss n k).set (zs.length + num 2 ss k) (k : Int) = tab zs ss n (k + 1) := by
  have h1 := num_mono 2 ss (show k + 1 ≤ n by omega)
  have h2 := num_yes h
  unfold tab
  rw [set_mid (j := num 2 ss k) _ rfl, set_left (by rw [fwd_len _ _ (by omega)]; omega), fwd_yes hk h, bwd_no (c := 3) (by omega), fwd_no (c := 0) (by omega), fwd_no (c := 4) (by omega)]
theorem tab_3 {zs ss : List Int} {n k : Nat} (hk : k < n) (h : ss.getD k 0 = 3) : (tab zs ss n k).set (zs.length + num 2 ss n + (num 3 ss n - 1 - num 3 ss k)) (k : Int) = tab zs ss n (k + 1) := by
  have h1 := num_mono 3 ss (show k + 1 ≤ n by omega)
  have h2 := num_yes h
  unfold tab
  rw [set_mid (j := num 2 ss n + (num 3 ss n - 1 - num 3 ss k)) _ (by omega), set_mid (j := num 3 ss n - 1 - num 3 ss k) _ (by rw [fwd_len _ _ (by omega)]), set_left (by rw [bwd_len _ _ (by omega)]; omega), bwd_yes hk h, fwd_no (c := 2) (by omega), fwd_no (c := 0) (by omega), fwd_no (c := 4) (by omega)]
theorem tab_0 {zs ss : List Int} {n k : Nat} (hk : k < n) (h : ss.getD k 0 = 0) : (tab zs ss n k).set (zs.length + (num 2 ss n + num 3 ss n) + num 0 ss k) (k : Int) = tab zs ss n (k + 1) := by
  have h1 := num_mono 0 ss (show k + 1 ≤ n by omega)
  have h2 := num_yes h
  unfold tab
  rw [set_mid (j := num 2 ss n + (num 3 ss n + num 0 ss k)) _ (by omega), set_mid (j := num 3 ss n + num 0 ss k) _ (by rw [fwd_len _ _ (by omega)]), set_mid (j := num 0 ss k) _ (by rw [bwd_len _ _ (by omega)]), set_left (by rw [fwd_len _ _ (by omega)]; omega), fwd_yes hk h, fwd_no (c := 2) (by omega), bwd_no (c := 3) (by omega), fwd_no (c := 4) (by omega)]
theorem tab_4 {zs ss : List Int} {n k : Nat} (hk : k < n) (h : ss.getD k 0 = 4) : (tab zs ss n k).set (zs.length + (num 2 ss n + num 3 ss n + num 0 ss n) + num 4 ss k) (k : Int) = tab zs ss n (k + 1) := by
  have h1 := num_mono 4 ss (show k + 1 ≤ n by omega)
  have h2 := num_yes h
  unfold tab
  rw [set_mid (j := num 2 ss n + (num 3 ss n + (num 0 ss n + num 4 ss k))) _ (by omega), set_mid (j := num 3 ss n + (num 0 ss n + num 4 ss k)) _ (by rw [fwd_len _ _ (by omega)]), set_mid (j := num 0 ss n + num 4 ss k) _ (by rw [bwd_len _ _ (by omega)]), set_mid (j := num 4 ss k) _ (by rw [fwd_len _ _ (by omega)]), fwd_yes hk h, fwd_no (c := 2) (by omega), bwd_no (c := 3) (by omega), fwd_no (c := 0) (by omega)]
theorem tab_other {zs ss : List Int} {n k : Nat} (h2 : ss.getD k 0 ≠ 2) (h3 : ss.getD k 0 ≠ 3) (h0 : ss.getD k 0 ≠ 0) (h4 : ss.getD k 0 ≠ 4) : tab zs ss n (k + 1) = tab zs ss n k := by
  unfold tab
  rw [fwd_no h2, bwd_no h3, fwd_no h0, fwd_no h4]

end Go.Proofs.Qxb6003131a.Pl
