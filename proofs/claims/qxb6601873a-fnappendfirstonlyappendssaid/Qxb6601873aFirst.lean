/-
  Seat b6601873a: ending, appendFirst.
-/
import Derived.Test.Qxb6601873aState
import Derived.Deep.Cut
namespace Go.Proofs.Qxb6601873a
open Go.RowKit
attribute [local go_sem ↓] Go.wp_at_zero Go.wp_at_succ

theorem hide {p : Prop} (h : p) : Hid p := h

/-! ### what appendFirst reads -/
/-- The crash that is laid out from p on, and where the next one begins. -/
def decOne (ks : List Int) (p : Nat) : Option (Cr × Nat) :=
  if p + 4 ≤ ks.length then
    if ks.getD (p + 3) 0 ≤ 0 then some (⟨ks.getD p 0, ks.getD (p + 1) 0, if ks.getD (p + 3) 0 = 0 then some [] else none, ks.getD (p + 2) 0⟩, p + 4)
    else if p + 4 + (ks.getD (p + 3) 0).toNat ≤ ks.length then some (⟨ks.getD p 0, ks.getD (p + 1) 0, some ((ks.drop (p + 4)).take (ks.getD (p + 3) 0).toNat), ks.getD (p + 2) 0⟩, p + 4 + (ks.getD (p + 3) 0).toNat)
    else none
  else none
/-- n crashes from p on. -/
def decAll (ks : List Int) : Nat → Int → Option (List Cr)
  | 0, _ => some []
  | n + 1, p => if 0 ≤ p then match decOne ks p.toNat with
    | none => none
    | some (c, q) => (decAll ks n q).map (c :: ·)
    else none

/-- The Reaches, end to end. -/
def csFlat : List Cr → List Int
  | [] => []
  | c :: r => c.lst ++ csFlat r
theorem csFlat_append (l m : List Cr) : csFlat (l ++ m) = csFlat l ++ csFlat m := by
  induction l with
  | nil => rfl
  | cons c r ih => simp [csFlat, ih]
theorem csFlat_len (l : List Cr) : (csFlat l).length = rsum l := by
  induction l with
  | nil => rfl
  | cons c r ih => simp [csFlat, rsum, ih]

theorem decAll_step {ks : List Int} {n : Nat} {P : Int} {L : List Cr} (h : decAll ks (n + 1) P = some L) :
    ∃ (p : Nat) (c : Cr) (q : Nat) (rest : List Cr), P = (p : Int) ∧ decOne ks p = some (c, q) ∧ decAll ks n q = some rest ∧ L = c :: rest := by
  unfold decAll at h
  by_cases hp : 0 ≤ P
  · rw [if_pos hp] at h
    cases hd : decOne ks P.toNat with
    | none => rw [hd] at h; cases h
    | some cq =>
      rw [hd] at h
      obtain ⟨c, q⟩ := cq
      obtain ⟨rest, hr, rfl⟩ := Option.map_eq_some_iff.1 h
      exact ⟨P.toNat, c, q, rest, by omega, hd, hr, rfl⟩
  · rw [if_neg hp] at h; cases h
theorem decOne_cases {ks : List Int} {p q : Nat} {c : Cr} (h : decOne ks p = some (c, q)) :
    p + 4 ≤ ks.length ∧ ((ks.getD (p + 3) 0 = 0 ∧ c = ⟨ks.getD p 0, ks.getD (p + 1) 0, some [], ks.getD (p + 2) 0⟩ ∧ q = p + 4) ∨ (ks.getD (p + 3) 0 < 0 ∧ c = ⟨ks.getD p 0, ks.getD (p + 1) 0, none, ks.getD (p + 2) 0⟩ ∧ q = p + 4) ∨
      ∃ m : Nat, 0 < m ∧ ks.getD (p + 3) 0 = (m : Int) ∧ p + 4 + m ≤ ks.length ∧ c = ⟨ks.getD p 0, ks.getD (p + 1) 0, some ((ks.drop (p + 4)).take m), ks.getD (p + 2) 0⟩ ∧ q = p + 4 + m) := by
  unfold decOne at h
  by_cases h4 : p + 4 ≤ ks.length
  · rw [if_pos h4] at h
    refine ⟨h4, ?_⟩
    by_cases hl : ks.getD (p + 3) 0 ≤ 0
    · rw [if_pos hl] at h
      by_cases h0 : ks.getD (p + 3) 0 = 0
      · rw [if_pos h0] at h
        simp only [Option.some.injEq, Prod.mk.injEq] at h
        exact .inl ⟨h0, h.1.symm, h.2.symm⟩
      · rw [if_neg h0] at h
        simp only [Option.some.injEq, Prod.mk.injEq] at h
        exact .inr (.inl ⟨by omega, h.1.symm, h.2.symm⟩)
    · rw [if_neg hl] at h
      by_cases hf : p + 4 + (ks.getD (p + 3) 0).toNat ≤ ks.length
      · rw [if_pos hf] at h
        simp only [Option.some.injEq, Prod.mk.injEq] at h
        exact .inr (.inr ⟨(ks.getD (p + 3) 0).toNat, by omega, by omega, hf, h.1.symm, h.2.symm⟩)
      · rw [if_neg hf] at h; cases h
  · rw [if_neg h4] at h; cases h
theorem decAll_len {ks : List Int} {n : Nat} {P : Int} {L : List Cr} (h : decAll ks n P = some L) : L.length = n := by
  induction n generalizing P L with
  | zero => simp [decAll] at h; subst h; rfl
  | succ n ih =>
    obtain ⟨p, c, q, rest, _, _, hr, rfl⟩ := decAll_step h
    simp [ih hr]
theorem decAll_bound {ks : List Int} {n p : Nat} {L : List Cr} (h : decAll ks n (p : Int) = some L) : L = [] ∨ p + 4 * L.length + rsum L ≤ ks.length := by
  induction n generalizing p L with
  | zero => left; simp [decAll] at h; exact h
  | succ n ih =>
    right
    obtain ⟨p', c, q, rest, hp, hd, hr, rfl⟩ := decAll_step h
    obtain rfl : p = p' := by omega
    obtain ⟨h4, hcs⟩ := decOne_cases hd
    rcases hcs with ⟨_, rfl, rfl⟩ | ⟨_, rfl, rfl⟩ | ⟨m, _, _, hm, rfl, rfl⟩
    · rcases ih hr with rfl | hb
      · simp [rsum, Cr.lst]; omega
      · simp [rsum, Cr.lst]; omega
    · rcases ih hr with rfl | hb
      · simp [rsum, Cr.lst]; omega
      · simp [rsum, Cr.lst]; omega
    · have hlen : ((ks.drop (p + 4)).take m).length = m := by simp; omega
      rcases ih hr with rfl | hb
      · simp only [rsum, Cr.lst, Option.getD_some, hlen, List.length_cons, List.length_nil]; omega
      · simp only [rsum, Cr.lst, Option.getD_some, hlen, List.length_cons]; omega
theorem decAll_small {ks : List Int} {n : Nat} {P : Int} {L : List Cr} (h : decAll ks n P = some L) : L.length ≤ ks.length ∧ rsum L ≤ ks.length := by
  cases n with
  | zero => simp [decAll] at h; subst h; simp [rsum]
  | succ n =>
    obtain ⟨p, c, q, rest, rfl, hd, hr, rfl⟩ := decAll_step h
    rcases decAll_bound h with h' | h'
    · cases h'
    · omega

theorem ending_any (vk : Value) (ks : List Int) (j : Int) (A : Nat) (w : World) (hk : Ints w vk ks) (hl : ks.length ≤ 1099511627776)
    (hA : wrap64 (wrap64 (2 + ks.getD 0 0) + wrap64 (4 * j)) = (A : Int)) (hA4 : A + 4 ≤ ks.length) :
    Calls Try.prog 39 #[vk, .int .i64 j] w fun e w' => ∃ n, w' = w.drewN n ∧ e = .returned (.tuple #[.int .i64 (ks.getD A 0), .int .i64 (ks.getD (A + 1) 0), .int .i64 (ks.getD (A + 2) 0)]) := by
  obtain ⟨a, cap, rfl, _, hc0⟩ := hk
  obtain ⟨b, off, rfl, hc⟩ := hc0 (by omega)
  have c0 : w.cell? ⟨b, off, none⟩ = some (.int .i64 (ks.getD 0 0)) := hc 0 (by omega)
  have c1 := hc A (by omega)
  have c2 := hc (A + 1) (by omega)
  have c3 := hc (A + 2) (by omega)
  generalize ks.getD 0 0 = x0 at *
  generalize ks.getD A 0 = x1 at *
  generalize ks.getD (A + 1) 0 = x2 at *
  generalize ks.getD (A + 2) 0 = x3 at *
  have g0 : (0 : Int) < (ks.length : Int) := by omega
  have g1 : (A : Int) < (ks.length : Int) := by omega
  have g2 : (A : Int) + 1 < (ks.length : Int) := by omega
  have g3 : (A : Int) + 2 < (ks.length : Int) := by omega
  clear hc hc0
  go_enter Try.func39, Try.ntmps39
  go_wp2
  go_quiet (fail)
  go_wp2
  go_ret3
  exact ⟨_, rfl, rfl⟩


/-! ### appendFirst -/
theorem St.drewN {w0 w : World} {vf vq : Value} {fs : List Cr} {qs : List Int} (h : St w0 w vf fs vq qs) (n : Nat) : St w0 (w.drewN n) vf fs vq qs := by
  obtain ⟨xs, h1, h2, h3, h4⟩ := h
  exact ⟨xs, h1, h2, h3, below_drewN h4 n⟩
theorem St.lt {w0 w : World} {vf vq : Value} {fs : List Cr} {qs : List Int} (h : St w0 w vf fs vq qs) : vf.ownBlock ≠ some w.heap.size := by
  obtain ⟨xs, h1, _⟩ := h
  intro e
  have := (h1.lt _ e).2
  omega
theorem St.form {w0 w : World} {vf vq : Value} {fs : List Cr} {qs : List Int} (h : St w0 w vf fs vq qs) : (∃ (a : Option Addr) (c : Nat), vf = .slice a fs.length c) ∧ ∃ (a : Option Addr) (c : Nat), vq = .slice a qs.length c := by
  obtain ⟨xs, h1, h2, _⟩ := h
  exact ⟨own_form h1, own_form h2⟩

theorem box_cells {w : World} {gc : Nat} {a0 a1 a2 a3 : Value} {fr : Nat × Nat} (h : w.heap[gc]? = some (.cells #[a0, a1, a2, a3] 42 fr)) :
    w.cell? ⟨gc, 0, none⟩ = some a0 ∧ w.cell? ⟨gc, 1, none⟩ = some a1 ∧ w.cell? ⟨gc, 2, none⟩ = some a2 ∧ w.cell? ⟨gc, 3, none⟩ = some a3 := by
  refine ⟨?_, ?_, ?_, ?_⟩ <;> (rw [cell_of_row w _ _ _ _ _ h]; rfl)
theorem box_set {w : World} {gc : Nat} {a0 a1 a2 a3 : Value} (h : w.heap[gc]? = some (.cells #[a0, a1, a2, a3] 42 (0, 0))) (u : Value) : (w.setCell ⟨gc, 2, none⟩ u).heap[gc]? = some (.cells #[a0, a1, u, a3] 42 (0, 0)) :=
  heap_setCell_same w gc 2 _ 42 u h
theorem box_alloc {w : World} {gc : Nat} {cur : Array Value} (h : w.heap[gc]? = some (.cells cur 42 (0, 0))) (o : Obj) : (w.alloc o).heap[gc]? = some (.cells cur 42 (0, 0)) := by
  rw [Below.heap_alloc w o gc (Array.getElem?_eq_some_iff.1 h).1]; exact h

theorem news_ks {w : World} {b p m : Nat} {ks : List Int} (hk : ∀ i, i < ks.length → w.cell? ⟨b, i, none⟩ = some (.int .i64 (ks.getD i 0))) (hm : p + m ≤ ks.length) :
    ((ks.drop p).take m).length = m ∧ ∀ j u, (((ks.drop p).take m).map (Value.int .i64))[j]? = some u → w.cell? ((⟨b, p, none⟩ : Addr).add j) = some u := by
  have hlen : ((ks.drop p).take m).length = m := by simp; omega
  refine ⟨hlen, fun j u hj => ?_⟩
  have hjm : j < m := by
    have := (List.getElem?_eq_some_iff.1 hj).1
    rw [List.length_map, hlen] at this
    exact this
  rw [Addr.add_lit, hk (p + j) (by omega)]
  rw [← hj]
  simp [List.getD, hjm, List.getElem?_drop, show p + j < ks.length by omega]

theorem st_step {w0 w' : World} {vf' vq' : Value} {fs cs FS : List Cr} {qs QS QN : List Int} {k : Nat} {c : Cr} {y0 y1 y2 : Int} {rs : Option (List Int)} (hT : cs.take (k + 1) = cs.take k ++ [c]) (hc : c = ⟨y0, y1, rs, y2⟩) (hF : fs ++ cs.take k = FS) (hQ : qs ++ csFlat (cs.take k) = QS)
    (hN : QN = QS ++ rs.getD []) (h : St w0 w' vf' (FS ++ [⟨y0, y1, rs, y2⟩]) vq' QN) : St w0 w' vf' (fs ++ cs.take (k + 1)) vq' (qs ++ csFlat (cs.take (k + 1))) := by
  subst hc
  rw [hT, csFlat_append, ← List.append_assoc, ← List.append_assoc, hF, hQ]
  rw [hN] at h
  simpa [csFlat, Cr.lst] using h

set_option maxHeartbeats 2000000 in
theorem first_any (vk vf vq : Value) (ks : List Int) (fs cs : List Cr) (qs : List Int) (j : Int) (A base : Nat) (w0 w : World) (hk : w0.ownsRow base 3 1 vk ks.length (ks.map (Value.int .i64))) (hst : St w0 w vf fs vq qs) (hl : ks.length ≤ 1073741824)
    (hA : wrap64 (wrap64 (2 + ks.getD 0 0) + wrap64 (4 * j)) = (A : Int)) (hA4 : A + 4 ≤ ks.length) (hlf : fs.length ≤ 1073741824) (hlq : qs.length ≤ 1073741824)
    (hdec : decAll ks (ks.getD A 0).toNat (ks.getD (A + 3) 0) = some cs) :
    Calls Try.prog 35 #[vk, vf, vq, .int .i64 j] w fun e w' => ∃ vf' vq', e = .returned (.tuple #[vf', vq']) ∧ St w0 w' vf' (fs ++ cs) vq' (qs ++ csFlat cs) := by
  have hk' := Ints.of_own hk
  have hbw := hst.below
  obtain ⟨b, cap, rfl, hcap, hcm, hbb, hc⟩ : ∃ b cap, vk = .slice (some ⟨b, 0, none⟩) ks.length cap ∧ ks.length ≤ cap ∧ cap ≤ 9223372036854775807 ∧ b < w0.heap.size ∧ ∀ i, i < ks.length → w0.cell? ⟨b, i, none⟩ = some (.int .i64 (ks.getD i 0)) := by
    have ho := hk
    rcases hk.2 with ⟨_, h0⟩ | ⟨g, cap, cur, rfl, _, hg, h1, h2, _⟩
    · omega
    · refine ⟨g, cap, rfl, h1, by simp only [maxLen] at h2; omega, (Array.getElem?_eq_some_iff.1 hg).1, fun i hi => ?_⟩
      rw [ho.cellAt i (by omega)]
      simp [List.getD, hi]
  have c0 : w.cell? ⟨b, 0, none⟩ = some (.int .i64 (ks.getD 0 0)) := (hbw.cell (p := ⟨b, _, none⟩) hbb).trans (hc 0 (by omega))
  have c3 : w.cell? ⟨b, A + 3, none⟩ = some (.int .i64 (ks.getD (A + 3) 0)) := (hbw.cell (p := ⟨b, _, none⟩) hbb).trans (hc (A + 3) (by omega))
  have HE := hide (ending_any (.slice (some ⟨b, 0, none⟩) ks.length cap) ks j A w (hk'.below hbw) (by omega) hA hA4)
  have hsm := decAll_small hdec
  have hcl := decAll_len hdec
  have HK := hide hc
  generalize ks.getD 0 0 = x0 at *
  generalize ks.getD A 0 = N at *
  generalize ks.getD (A + 3) 0 = P0 at *
  have g0 : (0 : Int) < (ks.length : Int) := by omega
  have g3 : (A : Int) + 3 < (ks.length : Int) := by omega
  clear hc hk' hbw hk
  go_enter Try.func35, Try.ntmps35
  go_wp2_with fail
  refine HE.out.mono ?_
  rintro e w1 ⟨n1, rfl, rfl⟩
  go_wp2_with fail
  have hst1 : St w0 (w.drewN n1) vf (fs ++ cs.take 0) vq (qs ++ csFlat (cs.take 0)) := by simpa [csFlat] using hst.drewN n1
  clear hA hst c0 c3 HE
  go_loopw [1, 2, 13, 36] (fun f q p i wr => ∃ (k : Nat) (P : Int), k ≤ cs.length ∧ i = .int .i64 k ∧ p = .int .i64 P ∧ Hid (decAll ks (N.toNat - k) P = some (cs.drop k)) ∧ St w0 wr f (fs ++ cs.take k) q (qs ++ csFlat (cs.take k))) (fun _ _ _ i _ => cs.length - (intOf i).toNat)
  case atStart => exact ⟨0, P0, Nat.zero_le _, rfl, rfl, hdec, hst1⟩
  case round =>
    clear hst1 hdec
    obtain ⟨k, P, hkl, rfl, rfl, HD, hst⟩ := hrel
    by_cases hlt : k < cs.length
    · obtain ⟨p, c, q, rest, rfl, hd, hr, hL⟩ := decAll_step (n := N.toNat - (k + 1)) (by rw [show N.toNat - (k + 1) + 1 = N.toNat - k by omega]; exact HD.out)
      have hcd : cs.drop k = cs.getD k Cr.zero :: cs.drop (k + 1) := by rw [List.drop_eq_getElem_cons hlt]; simp [List.getD, hlt]
      rw [hcd] at hL
      obtain ⟨e1, e2⟩ := List.cons.inj hL
      have ht := cr_take cs k hlt
      rw [e1] at ht
      rw [← e2] at hr
      obtain ⟨hp4, hcases⟩ := decOne_cases hd
      have HT := hide ht
      have HR := hide hr
      have hsr := rsum_le cs k
      have hll : (fs ++ cs.take k).length ≤ 3000000000 := by simp; omega
      have hlq2 : (qs ++ csFlat (cs.take k)).length ≤ 3000000000 := by simp [csFlat_len]; omega
      have hN : (k : Int) < N := by omega
      obtain ⟨FS, hFS⟩ : ∃ FS, fs ++ cs.take k = FS := ⟨_, rfl⟩
      obtain ⟨QS, hQS⟩ : ∃ QS, qs ++ csFlat (cs.take k) = QS := ⟨_, rfl⟩
      rw [hFS, hQS] at hst
      rw [hFS] at hll
      rw [hQS] at hlq2
      have HFS := hide hFS
      have HQS := hide hQS
      clear hFS hQS
      obtain ⟨aq, cq, rfl⟩ := hst.form.2
      have hbw := hst.below
      have k0 : wr.cell? ⟨b, p, none⟩ = some (.int .i64 (ks.getD p 0)) := (hbw.cell (p := ⟨b, _, none⟩) hbb).trans (HK.out p (by omega))
      have k1 : wr.cell? ⟨b, p + 1, none⟩ = some (.int .i64 (ks.getD (p + 1) 0)) := (hbw.cell (p := ⟨b, _, none⟩) hbb).trans (HK.out (p + 1) (by omega))
      have k2 : wr.cell? ⟨b, p + 2, none⟩ = some (.int .i64 (ks.getD (p + 2) 0)) := (hbw.cell (p := ⟨b, _, none⟩) hbb).trans (HK.out (p + 2) (by omega))
      have k3 : wr.cell? ⟨b, p + 3, none⟩ = some (.int .i64 (ks.getD (p + 3) 0)) := (hbw.cell (p := ⟨b, _, none⟩) hbb).trans (HK.out (p + 3) (by omega))
      have h0 : (0 : Int) ≤ (p : Int) := by omega
      have h1 : (p : Int) < (ks.length : Int) := by omega
      have h2 : (p : Int) + 1 < (ks.length : Int) := by omega
      have h3 : (p : Int) + 2 < (ks.length : Int) := by omega
      have h4 : (p : Int) + 3 < (ks.length : Int) := by omega
      have i1 : (0 : Int) ≤ (p : Int) + 1 := by omega
      have i2 : (0 : Int) ≤ (p : Int) + 2 := by omega
      have t2 : ((p : Int) + 2).toNat = p + 2 := by omega
      have j1 : IntKind.i64.wrap ((p : Int) + 1) = (p : Int) + 1 := wrap_small _ (by omega) (by omega)
      have j2 : IntKind.i64.wrap ((p : Int) + 2) = (p : Int) + 2 := wrap_small _ (by omega) (by omega)
      generalize ks.getD p 0 = y0 at *
      generalize ks.getD (p + 1) 0 = y1 at *
      generalize ks.getD (p + 2) 0 = y2 at *
      generalize ks.getD (p + 3) 0 = y3 at *
      have HCA := hide hcases
      clear hd hr hL hcd e1 e2 ht hcases HD
      obtain ⟨wo, rfl⟩ : ∃ x : World, x = wr := ⟨_, rfl⟩
      go_wp2_with fail
      go_region_held3 (fun w' => w'.cell? ⟨b, p, none⟩ = some (.int .i64 y0) ∧ w'.cell? ⟨b, p + 1, none⟩ = some (.int .i64 y1) ∧ w'.cell? ⟨b, p + 2, none⟩ = some (.int .i64 y2)) (go_keep) (fail)
      have hst1 := (hst.alloc (.cells #[.int .i64 y0, .int .i64 y1, .slice none 0 0, .int .i64 y2] 42)).drew
      have hbx : (wo.alloc (.cells #[.int .i64 y0, .int .i64 y1, .slice none 0 0, .int .i64 y2] 42)).drew.heap[wo.heap.size]? = some (.cells #[.int .i64 y0, .int .i64 y1, .slice none 0 0, .int .i64 y2] 42 (0, 0)) := heap_alloc_new wo _
      have hne := hst.lt
      have hge := hst.below.size
      have kk : ∀ i, i < ks.length → (wo.alloc (.cells #[.int .i64 y0, .int .i64 y1, .slice none 0 0, .int .i64 y2] 42)).drew.cell? ⟨b, i, none⟩ = some (.int .i64 (ks.getD i 0)) := fun i hi => (hst1.below.cell (p := ⟨b, _, none⟩) hbb).trans (HK.out i hi)
      have k3' : (wo.alloc (.cells #[.int .i64 y0, .int .i64 y1, .slice none 0 0, .int .i64 y2] 42)).drew.cell? ⟨b, p + 3, none⟩ = some (.int .i64 y3) := (hst1.below.cell (p := ⟨b, _, none⟩) hbb).trans ((hbw.cell (p := ⟨b, _, none⟩) hbb).symm.trans k3)
      have KK := hide kk
      clear kk k0 k1 k2 k3 hbw hst i1 i2 j1 j2
      generalize (wo.alloc (.cells #[.int .i64 y0, .int .i64 y1, .slice none 0 0, .int .i64 y2] 42)).drew = W1 at *
      generalize wo.heap.size = gc at *
      obtain ⟨b0, b1, b2, b3⟩ := box_cells hbx
      have f2 : W1.frozen? ⟨gc, 2, none⟩ = false := frozen_of_row W1 _ _ _ _ hbx
      rcases HCA.out with ⟨hy, hcc, hq⟩ | ⟨hy, hcc, hq⟩ | ⟨m, hm0, hy, hmk, hcc, hq⟩
      · have hy0 : (y3 == 0) = true := beq_iff_eq.2 hy
        have HY := hide hcc
        have HQ := hide hq
        clear hy hcc hq HCA
        have hst2 := (hst1.alloc (.cells #[] 3)).setBox (box_alloc hbx _) (o := 2) hne hge (.slice (some ⟨W1.heap.size, 0, none⟩) 0 0)
        have hbx2 := box_set (box_alloc hbx (.cells #[] 3)) (.slice (some ⟨W1.heap.size, 0, none⟩) 0 0)
        have d2 := (box_cells (box_alloc hbx (.cells #[] 3))).2.2.1
        have e2 : (W1.alloc (.cells #[] 3)).frozen? ⟨gc, 2, none⟩ = false := frozen_of_row _ _ _ _ _ (box_alloc hbx (.cells #[] 3))
        have HST := hide hst2
        have HBX := hide hbx2
        clear hst2 hbx2
        go_upto_region 15 with fail
        have hsf : SafeRV ((W1.alloc (.cells #[] 3)).setCell ⟨gc, 2, none⟩ (.slice (some ⟨W1.heap.size, 0, none⟩) 0 0)) (.slice aq QS.length cq) QS.length (.slice (some ⟨W1.heap.size, 0, none⟩) 0 0) (some []) := .inr ⟨[], _, 0, rfl, rfl, fun h => by simp at h⟩
        have hst3 := HST.out
        have hbx3 := HBX.out
        generalize (Value.slice (some ⟨W1.heap.size, 0, none⟩) 0 0) = rv at *
        generalize (W1.alloc (.cells #[] 3)).setCell ⟨gc, 2, none⟩ rv = W2 at *
        obtain ⟨q0, q1, q2, q3⟩ := box_cells hbx3
        clear b0 b1 b2 b3 f2 d2 e2 HST HBX hbx hst1 k3' KK hbx3
        go_wp2_with (at_builtin; refine appF _ rfl (.tmp 89) (.tmp 91) rfl w0 _ _ _ _ rfl (hst3.alloc _) ⟨W2.heap.size, 0, none⟩ y0 y1 y2 rv (some []) rfl (World.news_of_block (heap_alloc_new _ _)) (hsf.kept (fun b cur fr hb => by rw [Below.heap_alloc W2 _ b (Array.getElem?_eq_some_iff.1 hb).1]; exact hb)) (by omega) ?_; intro vf4 w' hst4)
        go_roundw
        case rel => exact ⟨k + 1, (q : Int), by omega, by go_num, by rw [HQ.out]; go_num, HR.out, st_step HT.out HY.out HFS.out HQS.out (by simp) hst4⟩
        case measure => simp [intOf]; omega
      · have hy0 : (y3 == 0) = false := beq_eq_false_iff_ne.2 (by omega)
        have HY := hide hcc
        have HQ := hide hq
        clear hcc hq HCA
        have hsf : SafeRV W1 (.slice aq QS.length cq) QS.length (.slice none 0 0) none := .inl ⟨rfl, rfl⟩
        go_wp2_with (at_builtin; refine appF _ rfl (.tmp 89) (.tmp 91) rfl w0 _ _ _ _ rfl (hst1.alloc _) ⟨W1.heap.size, 0, none⟩ y0 y1 y2 (.slice none 0 0) none rfl (World.news_of_block (heap_alloc_new _ _)) (hsf.kept (fun b cur fr hb => by rw [Below.heap_alloc W1 _ b (Array.getElem?_eq_some_iff.1 hb).1]; exact hb)) (by omega) ?_; intro vf4 w' hst4)
        go_roundw
        case rel => exact ⟨k + 1, (q : Int), by omega, by go_num, by rw [HQ.out]; go_num, HR.out, st_step HT.out HY.out HFS.out HQS.out (by simp) hst4⟩
        case measure => simp [intOf]; omega
      · have hy0 : (y3 == 0) = false := beq_eq_false_iff_ne.2 (by omega)
        have HY := hide hcc
        have HQ := hide hq
        obtain rfl := hy
        have z1 : (0 : Int) < (m : Int) := by omega
        have z2 : (p : Int) + 4 + (m : Int) ≤ (cap : Int) := by omega
        obtain ⟨hnl, hnn⟩ := news_ks KK.out hmk
        have HNN := hide hnn
        generalize (ks.drop (p + 4)).take m = NN at *
        clear hcc hq HCA hnn
        have z3 : QS.length + m - QS.length = m := by omega
        have z4 : p + 4 + m - (p + 4) = m := by omega
        go_upto_region 15 with (at_builtin; refine appQ _ rfl (.tmp 70) (.tmp 76) rfl w0 _ _ _ _ rfl hst1 ⟨b, p + 4, none⟩ m _ _ NN rfl (by omega) hnl hm0 HNN.out (by omega) ?_; intro g cp w' hst4 hk4 hsf4 hcp4 hcm4; have hbx4 := hk4 _ _ _ hbx; obtain ⟨r0, r1, r2, r3⟩ := box_cells hbx4; have f4 : w'.frozen? ⟨gc, 2, none⟩ = false := frozen_of_row _ _ _ _ _ hbx4; unfold maxLen at hcm4)
        have hst5 := hst4.setBox hbx4 (o := 2) hne hge (.slice (some ⟨g, QS.length, none⟩) m m)
        have hbx5 := box_set hbx4 (.slice (some ⟨g, QS.length, none⟩) m m)
        have hsf5 : SafeRV (w'.setCell ⟨gc, 2, none⟩ (.slice (some ⟨g, QS.length, none⟩) m m)) (.slice (some ⟨g, 0, none⟩) (QS.length + m) cp) (QS ++ NN).length (.slice (some ⟨g, QS.length, none⟩) m m) (some NN) :=
          hsf4.kept (fun b' cur fr hb' => by
            rw [Below.heap_setCell w' _ _ b' (fun e => ?_)]
            · exact hb'
            · simp only at e
              subst e
              rw [hbx4] at hb'
              simp at hb')
        generalize (Value.slice (some ⟨g, QS.length, none⟩) m m) = rv at *
        generalize w'.setCell ⟨gc, 2, none⟩ rv = W2 at *
        obtain ⟨q0, q1, q2, q3⟩ := box_cells hbx5
        clear b0 b1 b2 b3 f2 hbx hst1 k3' KK hbx5 hst4 hk4 hsf4 hcp4 hcm4 hbx4 r0 r1 r2 r3 f4 HNN hnl
        go_wp2_with (at_builtin; refine appF _ rfl (.tmp 89) (.tmp 91) rfl w0 _ _ _ _ rfl (hst5.alloc _) ⟨W2.heap.size, 0, none⟩ y0 y1 y2 rv (some NN) rfl (World.news_of_block (heap_alloc_new _ _)) (hsf5.kept (fun b cur fr hb => by rw [Below.heap_alloc W2 _ b (Array.getElem?_eq_some_iff.1 hb).1]; exact hb)) (by omega) ?_; intro vf4 w' hst4)
        go_roundw
        case rel => exact ⟨k + 1, (q : Int), by omega, by go_num, by rw [HQ.out]; go_num, HR.out, st_step HT.out HY.out HFS.out HQS.out rfl hst4⟩
        case measure => simp [intOf]; omega
    · obtain rfl : k = cs.length := by omega
      have hN : ¬ ((cs.length : Int) < N) := by omega
      rw [List.take_length] at hst
      go_wp2_with fail
      go_ret2
      exact ⟨_, _, rfl, hst⟩

end Go.Proofs.Qxb6601873a
