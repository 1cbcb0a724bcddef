/-
  Seat b6601873a: encodePacked.
-/
import Derived.Test.Qxb6601873aDeep
import Derived.Deep.AppendLies
namespace Go.Proofs.Qxb6601873a
open Go.RowKit

/-! ### what encodePacked answers -/
def listed (rs : Option (List Int)) : Int := match rs with | none => -1 | some l => l.length
def crEnc (c : Cr) : List Int := [c.proc, c.rnd, c.sent, listed c.rs] ++ c.lst
def csEnc : List Cr → List Int
  | [] => []
  | c :: r => crEnc c ++ csEnc r
def encHead (np j : Nat) (procs : List Int) : List Int := [(np : Int), (j : Int) + 1] ++ procs
def zeros4 : Nat → List Int
  | 0 => []
  | n + 1 => zeros4 n ++ [0, 0, 0, 0]
def encStart (np j no : Nat) : Nat := 2 + np + 4 * (j + 1) + no
def enc (cs : List Cr) (procs outs : List Int) (runs most : Int) (j : Nat) : List Int :=
  encHead procs.length j procs ++ zeros4 j ++ [(cs.length : Int), runs, most, (encStart procs.length j outs.length : Int)] ++ outs ++ csEnc cs

theorem zeros4_len (n : Nat) : (zeros4 n).length = 4 * n := by
  induction n with
  | zero => rfl
  | succ n ih => simp [zeros4, ih]; omega
theorem csEnc_append (l m : List Cr) : csEnc (l ++ m) = csEnc l ++ csEnc m := by
  induction l with
  | nil => rfl
  | cons c r ih => simp [csEnc, ih]
theorem csEnc_len (l : List Cr) : (csEnc l).length = 4 * l.length + rsum l := by
  induction l with
  | nil => rfl
  | cons c r ih => simp [csEnc, crEnc, rsum, ih]; omega
theorem csEnc_step (cs : List Cr) (k : Nat) (h : k < cs.length) : csEnc (cs.take (k + 1)) = csEnc (cs.take k) ++ crEnc (cs.getD k Cr.zero) := by
  rw [cr_take cs k h, csEnc_append]
  simp [csEnc]

/-- The slice of numbers v is the call's own (the call began in w) and holds L; below, nothing has turned. -/
def OL (w wr : World) (v : Value) (L : List Int) : Prop := wr.ownsRow w.heap.size 3 1 v L.length (L.map (Value.int .i64)) ∧ Below w.heap.size w wr
theorem OL.alloc {w wr : World} {v : Value} {L : List Int} (h : OL w wr v L) (o : Obj) : OL w (wr.alloc o) v L := ⟨h.1.alloc o, h.2.alloc h.2.size o⟩
/-- Every block of another type than 3 is as it was. -/
def Kept3 (w w' : World) : Prop := ∀ (g : Nat) (cur : Array Value) (T : TypeId) (fr : Nat × Nat), T ≠ 3 → w.heap[g]? = some (.cells cur T fr) → w'.heap[g]? = some (.cells cur T fr)
theorem Kept3.refl (w : World) : Kept3 w w := fun _ _ _ _ _ h => h
theorem Kept3.trans {a b c : World} (h : Kept3 a b) (k : Kept3 b c) : Kept3 a c := fun g cur T fr hT hg => k g cur T fr hT (h g cur T fr hT hg)
theorem Kept3.alloc {a b : World} (h : Kept3 a b) (o : Obj) : Kept3 a (b.alloc o) := fun g cur T fr hT hg => by
  have h1 := h g cur T fr hT hg
  rw [Below.heap_alloc b o g (Array.getElem?_eq_some_iff.1 h1).1]
  exact h1

/-- 'append' of numbers onto a row of numbers of the call's own. -/
theorem app22 {ops : Array Oper} {rest : List Oper} {o : Oper} {a : Act} {Q : Exit → Act → World → Prop} (w : World) (hgd : o.guard = none) (s x : Operand)
    (ho : o.op = .call { callee := .builtin .append, args := #[s, x], argTypes := #[22, 22] })
    (w0 : World) (v : Value) (L : List Int) (hs : a.eval s = v) (hown : OL w0 w v L)
    (ad : Addr) (m c : Nat) (N : List Int) (hx : a.eval x = .slice (some ad) m c) (hm : N.length = m) (hnews : ∀ j u, (N.map (Value.int .i64))[j]? = some u → w.cell? (ad.add j) = some u)
    (hlen : L.length + N.length ≤ 1099511627776)
    (h : ∀ v' w', OL w0 w' v' (L ++ N) → Kept3 w w' → wpList Try.prog ops Q rest (a.put o.dst v') w') : wpList Try.prog ops Q (o :: rest) a w := by
  obtain ⟨i0, hi, hz0, hz1, hz2⟩ := info_parts Try.info3
  refine wpList_append_own w hgd s x 22 ho w0.heap.size 3 i0 (.int .i64 0) 1 8 Try.underlying22 hi hz0 hz1 hz2 rfl (by decide) v _ _ hs hown.1 ad m c (N.map (Value.int .i64)) hx (by simp [hm]) hnews (ints_oneCell _ _) (by unfold maxLen; omega) (by omega) hown.2.size ?_
  intro v' w' ho' hg _
  refine h v' w' ⟨?_, hown.2.grown hg hown.2.size (fun k h => (hown.1.lt k h).1)⟩ ?_
  · rw [List.length_append, hm, List.map_append]
    exact ho'
  · intro g cur T fr hT hgg
    rw [hg.block g (Array.getElem?_eq_some_iff.1 hgg).1 ?_]
    · exact hgg
    · intro e
      rcases hown.1.2 with ⟨rfl, _⟩ | ⟨g', cap', cur', rfl, _, hg', _⟩
      · cases e
      · simp only [Value.ownBlock, Option.some.injEq] at e
        subst e
        rw [hgg] at hg'
        simp only [Option.some.injEq, Obj.cells.injEq] at hg'
        exact hT hg'.2.1

theorem heap_new2 (w : World) (o o' : Obj) : ((w.alloc o).alloc o').heap[w.heap.size + 1]? = some o' := by
  have := heap_alloc_new (w.alloc o) o'
  simpa using this

theorem RV.of_some {w : World} {rv : Value} {l : List Int} (h : RV w rv (some l)) :
    ∃ (x : Addr) (cap : Nat), rv = .slice (some x) l.length cap ∧ (0 < l.length → ∃ b off, x = ⟨b, off, none⟩ ∧ ∀ i, i < l.length → w.cell? ⟨b, off + i, none⟩ = some (.int .i64 (l.getD i 0))) := by
  obtain ⟨⟨a, cap, rfl, hn, hc⟩, h2⟩ := h
  cases a with
  | none =>
    have hl : l.length = 0 := by
      rcases Nat.eq_zero_or_pos l.length with h | h
      · exact h
      · obtain ⟨_, _, h, _⟩ := hc h; cases h
    have := h2.1 (by rw [hn rfl]; simp [hl])
    cases this
  | some x =>
    refine ⟨x, cap, rfl, fun hl => ?_⟩
    obtain ⟨b, off, hx, hc⟩ := hc hl
    exact ⟨b, off, Option.some.inj hx, hc⟩
theorem RV.of_none {w : World} {rv : Value} (h : RV w rv none) : rv = .slice none 0 0 := h.2.2 rfl

set_option maxHeartbeats 2000000 in
theorem enc_any (vc vp vo : Value) (cs : List Cr) (procs outs : List Int) (runs most : Int) (j : Nat) (w : World) (hc : Crs w vc cs) (hp : Ints w vp procs) (ho : Ints w vo outs)
    (hlc : cs.length ≤ 1048576) (hlr : rsum cs ≤ 1048576) (hlp : procs.length ≤ 1048576) (hlo : outs.length ≤ 1048576) (hj : j ≤ 4096) :
    Calls Try.prog 31 #[vc, vp, vo, .int .i64 runs, .int .i64 most, .int .i64 j] w fun e w' => ∃ v', e = .returned v' ∧ OL w w' v' (enc cs procs outs runs most j) := by
  have n22 : ∀ (w : World) (a : Option Addr) (n c n' c' : Nat), (binOp .neq 22 (.slice a n c) (.slice none n' c')).run Try.prog w = .ok (.bool (!a.isNone)) w := fun w a n c n' c' => run_neq_slice_nil_any w _ _ a n c n' c' Try.underlying22
  obtain ⟨i0, hi, hz0, hz1, hz2⟩ := info_parts Try.info3
  obtain ⟨ac, cc, rfl, _, hc0⟩ := hc
  obtain ⟨ap, cp, rfl, _, hp0⟩ := hp
  obtain ⟨ao, co, rfl, _, ho0⟩ := ho
  have HC0 : Hid _ := hc0
  have HP0 : Hid _ := hp0
  have HO0 : Hid _ := ho0
  clear hc0 hp0 ho0
  go_enter Try.func31, Try.ntmps31
  go_wp2_with (first | (at_make; refine wpList_make_own _ rfl _ _ 22 rfl w.heap.size 3 i0 (.int .i64 0) 1 Try.underlying22 hi hz0 hz1 _ _ _ (encStart procs.length j outs.length) rfl rfl (by unfold encStart; omega) (by rw [hz2]; unfold encStart; omega) (by unfold encStart maxLen; omega) (Nat.le_refl _) ?_; intro w1 hown1 hgrow1; have hol1 : OL w w1 _ [] := ⟨hown1, (Below.refl _ _).grown hgrow1 (Nat.le_refl _) (fun k h => by cases h)⟩; clear hown1 hgrow1) | (at_builtin; refine app22 _ rfl (.tmp 34) (.tmp 39) rfl w _ [] rfl (hol1.alloc _) ⟨w1.heap.size, 0, none⟩ 2 2 [(procs.length : Int), (j : Int) + 1] rfl rfl (World.news_of_block (heap_alloc_new _ _)) (by simp) ?_; intro v2 w2 hol2 _; clear hol1))
  go_loopw [14, 15] (fun v i wr => ∃ k : Nat, k ≤ procs.length ∧ i = .int .i64 k ∧ OL w wr v (encHead procs.length j (procs.take k))) (fun _ i _ => procs.length - (intOf i).toNat)
  case atStart => exact ⟨0, Nat.zero_le _, rfl, hol2⟩
  case round =>
    obtain ⟨k, hk, rfl, hol⟩ := hrel
    clear hol2
    by_cases hlt : k < procs.length
    · obtain ⟨b, off, hx, hcc⟩ := HP0.out (by omega)
      subst hx
      have hcell : wr.cell? ⟨b, off + k, none⟩ = some (.int .i64 (procs.getD k 0)) := (hol.2.cell (World.block_lt_of_cell? w _ (hcc k hlt))).trans (hcc k hlt)
      have hS : encHead procs.length j (procs.take (k + 1)) = encHead procs.length j (procs.take k) ++ [procs.getD k 0] := by unfold encHead; rw [Pl.take_snoc procs k hlt, List.append_assoc]
      generalize procs.getD k 0 = x at hcell hS
      have HS : Hid _ := hS
      clear hS hcc HP0 HC0 HO0
      go_wp2_with (at_builtin; refine app22 _ rfl (.tmp 47) (.tmp 52) rfl w _ _ rfl (hol.alloc _) ⟨wr.heap.size, 0, none⟩ 1 1 [x] rfl rfl (World.news_of_block (heap_alloc_new _ _)) (by simp [encHead]; omega) ?_; intro v3 w3 hol3 _)
      go_roundw
      case rel => exact ⟨k + 1, by omega, by go_num, by rw [HS.out]; exact hol3⟩
      case measure => simp [intOf]; omega
    · have hol3 : OL w wr u14 (encHead procs.length j procs ++ zeros4 0) := by rw [List.take_of_length_le (by omega)] at hol; simpa [zeros4] using hol
      clear hol
      go_wp2_with fail
      go_loopw [14, 16] (fun v i wr => ∃ k : Nat, k ≤ j ∧ i = .int .i64 k ∧ OL w wr v (encHead procs.length j procs ++ zeros4 k)) (fun _ i _ => j - (intOf i).toNat)
      case atStart => exact ⟨0, Nat.zero_le _, rfl, hol3⟩
      case round =>
        clear hol3
        obtain ⟨e, he, rfl, hol⟩ := hrel
        have hzl := zeros4_len e
        by_cases hlt2 : e < j
        · clear HP0 HC0 HO0
          go_wp2_with (at_builtin; refine app22 _ rfl (.tmp 59) (.tmp 60) rfl w _ _ rfl (hol.alloc _) ⟨wr.heap.size, 0, none⟩ 4 4 [0, 0, 0, 0] rfl rfl (World.news_of_block (heap_alloc_new _ _)) (by simp [encHead]; omega) ?_; intro v3 w3 hol3 _)
          go_roundw
          case rel => exact ⟨e + 1, by omega, by go_num, by rw [List.append_assoc] at hol3; exact hol3⟩
          case measure => simp [intOf]; omega
        · obtain rfl : e = j := by omega
          go_wp2_with (at_builtin; refine app22 _ rfl (.tmp 62) (.tmp 68) rfl w _ _ rfl (hol.alloc _) ⟨wr.heap.size, 0, none⟩ 4 4 [(cs.length : Int), runs, most, 2 + (procs.length : Int) + 4 * ((e : Int) + 1) + (outs.length : Int)] rfl rfl (World.news_of_block (heap_alloc_new _ _)) (by simp [encHead]; omega) ?_; intro v3 w3 hol3 _)
          obtain ⟨H, hH⟩ : ∃ H, encHead procs.length e procs ++ zeros4 e ++ [(cs.length : Int), runs, most, 2 + (procs.length : Int) + 4 * ((e : Int) + 1) + (outs.length : Int)] = H := ⟨_, rfl⟩
          have hHl : H.length ≤ 3000000 := by rw [← hH]; simp [encHead]; omega
          have HF : Hid (enc cs procs outs runs most e = H ++ outs ++ csEnc cs) := by
            unfold Hid enc
            rw [← hH]
            have e1 : ((encStart procs.length e outs.length : Nat) : Int) = 2 + (procs.length : Int) + 4 * ((e : Int) + 1) + (outs.length : Int) := by unfold encStart; omega
            rw [e1]
          rw [hH] at hol3
          have hol4 : OL w w3 v3 (H ++ outs.take 0) := by simpa using hol3
          clear hH hol3 hol hzl HP0
          go_loopw [14, 17] (fun v i wr => ∃ k : Nat, k ≤ outs.length ∧ i = .int .i64 k ∧ OL w wr v (H ++ outs.take k)) (fun _ i _ => outs.length - (intOf i).toNat)
          case atStart => exact ⟨0, Nat.zero_le _, rfl, hol4⟩
          case round =>
            clear hol4
            obtain ⟨q, hq, rfl, hol⟩ := hrel
            by_cases hlt3 : q < outs.length
            · obtain ⟨b, off, hx, hcc⟩ := HO0.out (by omega)
              subst hx
              have hcell : wr.cell? ⟨b, off + q, none⟩ = some (.int .i64 (outs.getD q 0)) := (hol.2.cell (World.block_lt_of_cell? w _ (hcc q hlt3))).trans (hcc q hlt3)
              have hS : H ++ outs.take (q + 1) = (H ++ outs.take q) ++ [outs.getD q 0] := by rw [Pl.take_snoc outs q hlt3, List.append_assoc]
              generalize outs.getD q 0 = x at hcell hS
              have HS : Hid _ := hS
              clear hS hcc HC0 HO0
              go_wp2_with (at_builtin; refine app22 _ rfl (.tmp 76) (.tmp 81) rfl w _ _ rfl (hol.alloc _) ⟨wr.heap.size, 0, none⟩ 1 1 [x] rfl rfl (World.news_of_block (heap_alloc_new _ _)) (by simp; omega) ?_; intro v3 w3 hol3 _)
              go_roundw
              case rel => exact ⟨q + 1, by omega, by go_num, by rw [HS.out]; exact hol3⟩
              case measure => simp [intOf]; omega
            · have hol3 : OL w wr u14 (H ++ outs ++ csEnc (cs.take 0)) := by rw [List.take_of_length_le (by omega)] at hol; simpa [csEnc] using hol
              clear hol HO0
              go_wp2_with fail
              go_loopw [14, 18] (fun v i wo => ∃ k : Nat, k ≤ cs.length ∧ i = .int .i64 k ∧ OL w wo v (H ++ outs ++ csEnc (cs.take k))) (fun _ i _ => cs.length - (intOf i).toNat)
              case atStart => exact ⟨0, Nat.zero_le _, rfl, hol3⟩
              case round =>
                clear hol3
                obtain ⟨n, hn, rfl, hol⟩ := hrel
                obtain ⟨wo, rfl⟩ : ∃ x : World, x = wr := ⟨_, rfl⟩
                by_cases hlt4 : n < cs.length
                · obtain ⟨b, off, hx, hcc⟩ := HC0.out (by omega)
                  subst hx
                  obtain ⟨rv, hat⟩ := hcc n hlt4
                  have hlb : b < w.heap.size := World.block_lt_of_cell? w _ hat.p
                  have p0 := (hol.2.cell (p := ⟨b, _, none⟩) hlb).trans hat.p
                  have p1 := (hol.2.cell (p := ⟨b, _, none⟩) hlb).trans hat.r
                  have p2 := (hol.2.cell (p := ⟨b, _, none⟩) hlb).trans hat.v
                  have p3 := (hol.2.cell (p := ⟨b, _, none⟩) hlb).trans hat.s
                  have hrv := hat.rv
                  have hS := csEnc_step cs n hlt4
                  have hLen := csEnc_len (cs.take n)
                  have hLen2 := rsum_le cs n
                  have hLen3 : (cs.take n).length ≤ n := List.length_take_le _ _
                  have hLen4 := rsum_mem cs n hlt4
                  generalize cs.getD n Cr.zero = c at *
                  have HS : Hid _ := hS
                  have HRV : Hid _ := hrv
                  have hl0 : (H ++ outs ++ csEnc (cs.take n)).length ≤ 100000000 := by simp; omega
                  have hl1 : c.lst.length ≤ 1048576 := by omega
                  clear hS hrv hat hcc HC0 hLen hLen2 hLen3 hLen4
                  generalize hLL : H ++ outs ++ csEnc (cs.take n) = LL at *
                  have HLL : Hid _ := hLL
                  clear hLL
                  obtain ⟨cp1, cr1, crs, cs1⟩ := c
                  cases crs with
                  | none =>
                    obtain rfl := RV.of_none HRV.out
                    go_wp2_with (at_builtin; refine app22 _ rfl (.tmp 99) (.tmp 107) rfl w _ _ rfl ((hol.alloc _).alloc _) ⟨wo.heap.size + 1, 0, none⟩ 4 4 [cp1, cr1, cs1, -1] rfl rfl (World.news_of_block (heap_new2 _ _ _)) (by simp; omega) ?_; intro v4 w4 hol4 hk4)
                    have hbx : w4.heap[wo.heap.size]? = some (.cells #[.int .i64 cp1, .int .i64 cr1, .slice none 0 0, .int .i64 cs1] 43 (0, 0)) := hk4 _ _ _ _ (by decide) (by rw [Below.heap_alloc _ _ _ (by simp)]; exact heap_alloc_new _ _)
                    have hcx : w4.cell? ⟨wo.heap.size, 2, none⟩ = some (.slice none 0 0) := by rw [cell_of_row w4 _ _ _ _ _ hbx]; rfl
                    clear hk4 hbx
                    go_loopw [14, 21] (fun v i wi => v = v4 ∧ i = .int .i64 0 ∧ wi = w4) (fun _ _ _ => 0)
                    case atStart => exact ⟨rfl, rfl, rfl⟩
                    case round =>
                      obtain ⟨rfl, rfl, rfl⟩ := hrel
                      go_wp2_with fail
                      go_roundw
                      case rel => exact ⟨n + 1, by omega, by go_num, by rw [HS.out, ← List.append_assoc, HLL.out]; exact hol4⟩
                      case measure => simp [intOf]; omega
                  | some l =>
                    obtain ⟨x, xc, rfl, hxs⟩ := RV.of_some HRV.out
                    have HX : Hid _ := hxs
                    change l.length ≤ _ at hl1
                    clear hxs HRV
                    go_wp2_with (at_builtin; refine app22 _ rfl (.tmp 99) (.tmp 107) rfl w _ _ rfl ((hol.alloc _).alloc _) ⟨wo.heap.size + 1, 0, none⟩ 4 4 [cp1, cr1, cs1, (l.length : Int)] rfl rfl (World.news_of_block (heap_new2 _ _ _)) (by simp; omega) ?_; intro v4 w4 hol4 hk4)
                    have hbx : w4.heap[wo.heap.size]? = some (.cells #[.int .i64 cp1, .int .i64 cr1, .slice (some x) l.length xc, .int .i64 cs1] 43 (0, 0)) := hk4 _ _ _ _ (by decide) (by rw [Below.heap_alloc _ _ _ (by simp)]; exact heap_alloc_new _ _)
                    have hol5 : OL w w4 v4 (LL ++ [cp1, cr1, cs1, (l.length : Int)] ++ l.take 0) := by simpa using hol4
                    clear hk4 hol4
                    go_loopw [14, 21] (fun v i wi => ∃ t : Nat, t ≤ l.length ∧ i = .int .i64 t ∧ OL w wi v (LL ++ [cp1, cr1, cs1, (l.length : Int)] ++ l.take t) ∧ wi.heap[wo.heap.size]? = some (.cells #[.int .i64 cp1, .int .i64 cr1, .slice (some x) l.length xc, .int .i64 cs1] 43 (0, 0))) (fun _ i _ => l.length - (intOf i).toNat)
                    case atStart => exact ⟨0, Nat.zero_le _, rfl, hol5, hbx⟩
                    case round =>
                      clear hol5 hbx
                      obtain ⟨t, ht, rfl, hol5, hbx⟩ := hrel
                      have hcx : wr.cell? ⟨wo.heap.size, 2, none⟩ = some (.slice (some x) l.length xc) := by rw [cell_of_row wr _ _ _ _ _ hbx]; rfl
                      have HBX : Hid _ := hbx
                      clear hbx
                      by_cases hlt5 : t < l.length
                      · obtain ⟨b5, o5, hx5, hcc⟩ := HX.out (by omega)
                        subst hx5
                        have hcell : wr.cell? ⟨b5, o5 + t, none⟩ = some (.int .i64 (l.getD t 0)) := (hol5.2.cell (World.block_lt_of_cell? w _ (hcc t hlt5))).trans (hcc t hlt5)
                        have hS5 := Pl.take_snoc l t hlt5
                        generalize l.getD t 0 = y at hcell hS5
                        have HS5 : Hid _ := hS5
                        clear hS5 hcc HX
                        go_wp2_with (at_builtin; refine app22 _ rfl (.tmp 116) (.tmp 122) rfl w _ _ rfl (hol5.alloc _) ⟨wr.heap.size, 0, none⟩ 1 1 [y] rfl rfl (World.news_of_block (heap_alloc_new _ _)) (by simp; omega) ?_; intro v6 w6 hol6 hk6)
                        go_roundw
                        case rel => exact ⟨t + 1, by omega, by go_num, by rw [HS5.out, ← List.append_assoc]; exact hol6, hk6 _ _ _ _ (by decide) (by rw [Below.heap_alloc _ _ _ (Array.getElem?_eq_some_iff.1 HBX.out).1]; exact HBX.out)⟩
                        case measure => simp [intOf]; omega
                      · have hfin : OL w wr u14 (H ++ outs ++ csEnc (cs.take (n + 1))) := by
                          rw [HS.out, ← List.append_assoc, HLL.out]
                          rw [List.take_of_length_le (by omega)] at hol5
                          rw [List.append_assoc] at hol5
                          exact hol5
                        clear hol5
                        go_wp2_with fail
                        go_roundw
                        case rel => exact ⟨n + 1, by omega, by go_num, hfin⟩
                        case measure => simp [intOf]; omega
                · have hfin : OL w wo u14 (enc cs procs outs runs most e) := by rw [HF.out]; rw [List.take_of_length_le (by omega)] at hol; exact hol
                  clear hol
                  go_wp2_with fail
                  go_ret
                  exact ⟨_, rfl, hfin⟩

end Go.Proofs.Qxb6601873a
