/-
  Seat b6601873a: the bounds on total length (functions 24, 25, 30): each answers a bool and turns nothing.
-/
import Derived.Test.Qxb6601873aCrash
namespace Go.Proofs.Qxb6601873a
open Go.RowKit

def IsBool (e : Ending) : Prop := ∃ r : Bool, e = .returned (.bool r)
theorem isBool (r : Bool) : IsBool (.returned (.bool r)) := ⟨r, rfl⟩

theorem rs_at {w : World} {b off k : Nat} {c : Cr} (h : ∃ rv, CrAt w b (off + k * 4) c rv) (hm : c.lst.length ≤ maxLen) :
    ∃ (ra : Option Addr) (rcap m : Nat), w.cell? ⟨b, off + k * 4 + 2, none⟩ = some (.slice ra m rcap) ∧ m ≤ 9223372036854775807 := by
  obtain ⟨rv, h⟩ := h
  obtain ⟨ra, rcap, hf⟩ := h.rv.form
  refine ⟨ra, rcap, _, by rw [← hf]; exact h.v, ?_⟩
  unfold maxLen at hm
  exact hm

set_option maxHeartbeats 400000 in
theorem bytes30 (v : Value) (cs : List Cr) (a1 a2 : Option Addr) (n1 c1 n2 c2 : Nat) (x y z : Int) (w : World) (hv : Crs w v cs) (hl : cs.length ≤ maxLen) (hr : ∀ i, i < cs.length → (cs.getD i Cr.zero).lst.length ≤ maxLen) (h1 : n1 ≤ maxLen) (h2 : n2 ≤ maxLen) :
    Calls Try.prog 30 #[v, .slice a1 n1 c1, .slice a2 n2 c2, .int .i64 x, .int .i64 y, .int .i64 z] w fun e w' => IsBool e ∧ w' = w := by
  obtain ⟨a, cap, rfl, _, hc0⟩ := hv
  unfold maxLen at hl h1 h2
  by_cases hbig : 1048576 < cs.length
  · go_enter Try.func30, Try.ntmps30
    go_wp2
    go_ret
    exact ⟨isBool _, rfl⟩
  · go_enter Try.func30, Try.ntmps30
    go_wp2
    go_loop [13, 14] (fun t i => ∃ k : Nat, k ≤ cs.length ∧ i = .int .i64 k ∧ ∃ T : Nat, t = .int .i64 T ∧ T ≤ 1048576) (fun _ i => cs.length - (intOf i).toNat)
    case atStart => exact ⟨0, Nat.zero_le _, rfl, cs.length, by go_num, by omega⟩
    case round =>
      obtain ⟨k, hk, rfl, T, rfl, hT⟩ := hrel
      by_cases hlt : k < cs.length
      · obtain ⟨b, off, hx, hc⟩ := hc0 (by omega)
        subst hx
        obtain ⟨ra, rcap, m, hcv, hm⟩ := rs_at (hc k hlt) (hr k hlt)
        clear hc hc0 hr
        by_cases hm1 : 1048576 < m
        · go_wp2
          go_ret
          exact ⟨isBool _, rfl⟩
        by_cases hm2 : 1048576 < T + m
        · go_wp2
          go_ret
          exact ⟨isBool _, rfl⟩
        · go_wp2
          go_round
          case rel => exact ⟨k + 1, by omega, by go_num, T + m, by go_num, by omega⟩
          case measure => simp [intOf]; omega
      · clear hc0 hr
        go_wp2
        all_goals
          go_ret
          exact ⟨isBool _, rfl⟩

end Go.Proofs.Qxb6601873a
