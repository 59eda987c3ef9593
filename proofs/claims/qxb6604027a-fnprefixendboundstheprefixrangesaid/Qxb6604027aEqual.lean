/- Over seat b6604027a: zzEqual (10). -/
import Derived.Test.Qxb6604027aMem
import Derived.Deep.QuietTactic
import Derived.BigQuiet
namespace Go.Proofs.Qxb6604027a
open Go.RowKit Plain

set_option maxHeartbeats 400000 in
theorem equal_other (a0 a1 : Option Addr) (n0 n1 c0 c1 : Nat) (w : World) (h : n0 ≠ n1) : Calls Try.prog 10 #[.slice a0 n0 c0, .slice a1 n1 c1] w fun e w' => e = .returned (.bool false) ∧ w' = w := by
  have h' : ((n0 : Int) != (n1 : Int)) = true := by simp; omega
  go_enter Try.func10, Try.ntmps10
  go_wp2
  go_ret
  exact ⟨rfl, rfl⟩
set_option maxHeartbeats 400000 in
theorem equal_none (a0 a1 : Option Addr) (c0 c1 : Nat) (w : World) : Calls Try.prog 10 #[.slice a0 0 c0, .slice a1 0 c1] w fun e w' => e = .returned (.bool true) ∧ w' = w := by
  go_enter Try.func10, Try.ntmps10
  go_wp2
  refine wp_loop_rounds 1 ?_
  rw [rounds_succ]
  go_wp2
  go_ret
  exact ⟨rfl, rfl⟩

theorem ret_bool {a b : Bool} (h : a = b) : Ending.returned (.bool a) = .returned (.bool b) := by rw [h]
theorem differ {l r : List Int} {k : Nat} (h : l.getD k 0 ≠ r.getD k 0) : false = decide (l = r) := by
  symm; rw [decide_eq_false_iff_not]; intro e; exact h (by rw [e])
theorem same_more {l r : List Int} {k : Nat} (h : ∀ j, j < k → l.getD j 0 = r.getD j 0) (hk : l.getD k 0 = r.getD k 0) : ∀ j, j < k + 1 → l.getD j 0 = r.getD j 0 := by
  intro j hj
  rcases Nat.lt_or_ge j k with g | g
  · exact h j g
  · obtain rfl : j = k := by omega
    exact hk
theorem same_all {l r : List Int} {n k : Nat} (e0 : l.length = n) (e1 : r.length = n) (hk : n ≤ k) (h : ∀ j, j < k → l.getD j 0 = r.getD j 0) : true = decide (l = r) := by
  symm; rw [decide_eq_true_iff]
  apply List.ext_getElem (by omega)
  intro i h1 h2
  have := h i (by omega)
  simpa [List.getD, h1, h2] using this

set_option maxHeartbeats 400000 in
theorem equal_some (g0 g1 c0 c1 n : Nat) (l r : List Int) (w : World) (hl : n ≤ 1048576) (h0 : Row w g0 l) (h1 : Row w g1 r) (e0 : l.length = n) (e1 : r.length = n) :
    Calls Try.prog 10 #[.slice (some ⟨g0, 0, none⟩) n c0, .slice (some ⟨g1, 0, none⟩) n c1] w fun e w' => e = .returned (.bool (decide (l = r))) ∧ Below w.heap.size w w' := by
  have H0 : Hid (Row w g0 l ∧ l.length = n) := ⟨h0, e0⟩
  have H1 : Hid (Row w g1 r ∧ r.length = n) := ⟨h1, e1⟩
  clear h0 h1 e0 e1
  go_enter Try.func10, Try.ntmps10
  go_wp2
  go_loopw [5] (fun i wr => ∃ k : Nat, k ≤ n ∧ i = .int .i64 k ∧ Hid (∀ j, j < k → l.getD j 0 = r.getD j 0) ∧ Below w.heap.size w wr) (fun i _ => n - (intOf i).toNat)
  case atStart => exact ⟨0, Nat.zero_le _, rfl, fun j hj => by omega, Below.refl _ _⟩
  case round =>
    obtain ⟨k, hk, rfl, HE, hb⟩ := hrel
    by_cases hlt : k < n
    · have hlt' : (k : Int) < (n : Int) := by omega
      obtain ⟨x, hx⟩ : ∃ x, x = l.getD k 0 := ⟨_, rfl⟩
      obtain ⟨y, hy⟩ : ∃ y, y = r.getD k 0 := ⟨_, rfl⟩
      have hcx : wr.cell? ⟨g0, k, none⟩ = some (.int .u8 x) := by
        have h0 := H0.out.1.cell (j := k) (by rw [H0.out.2]; exact hlt)
        rw [hb.cell (World.block_lt_of_cell? _ _ h0), h0, hx]
      have hcy : wr.cell? ⟨g1, k, none⟩ = some (.int .u8 y) := by
        have h0 := H1.out.1.cell (j := k) (by rw [H1.out.2]; exact hlt)
        rw [hb.cell (World.block_lt_of_cell? _ _ h0), h0, hy]
      have HXY : Hid (x = l.getD k 0 ∧ y = r.getD k 0) := ⟨hx, hy⟩
      clear hx hy
      go_wp2
      go_quiet (fail)
      go_wp2
      · have h1 : (x != y) = true := by assumption
        go_ret
        exact ⟨ret_bool (differ (by rw [← HXY.out.1, ← HXY.out.2]; simpa using h1)), below_drewN hb _⟩
      · have h1 : (x != y) = false := by assumption
        go_roundw
        case rel => exact ⟨k + 1, by omega, by go_num, same_more HE.out (by rw [← HXY.out.1, ← HXY.out.2]; simpa using h1), below_drewN hb _⟩
        case measure => simp [intOf]; omega
    · have hlt' : ¬ (k : Int) < (n : Int) := by omega
      go_wp2
      go_ret
      exact ⟨ret_bool (same_all H0.out.2 H1.out.2 (by omega) HE.out), hb⟩

/-- zzEqual on two slices of the call's own. -/
theorem equal_any {w : World} {v0 v1 : Value} {l r : List Int} (h0 : Own w v0 l) (h1 : Own w v1 r) (hl : l.length ≤ 1048576) :
    Calls Try.prog 10 #[v0, v1] w fun e w' => e = .returned (.bool (decide (l = r))) ∧ Below w.heap.size w w' := by
  obtain ⟨a0, c0, rfl⟩ : ∃ a0 c0, v0 = .slice a0 l.length c0 := by
    rcases h0 with ⟨rfl, rfl⟩ | ⟨g, cap, rfl, _⟩
    · exact ⟨none, 0, rfl⟩
    · exact ⟨_, _, rfl⟩
  obtain ⟨a1, c1, rfl⟩ : ∃ a1 c1, v1 = .slice a1 r.length c1 := by
    rcases h1 with ⟨rfl, rfl⟩ | ⟨g, cap, rfl, _⟩
    · exact ⟨none, 0, rfl⟩
    · exact ⟨_, _, rfl⟩
  by_cases hn : l.length = r.length
  · by_cases hz : l.length = 0
    · obtain rfl : l = [] := List.eq_nil_of_length_eq_zero hz
      obtain rfl : r = [] := List.eq_nil_of_length_eq_zero (by omega)
      refine (equal_none a0 a1 c0 c1 w).mono ?_
      rintro e w' ⟨rfl, rfl⟩
      exact ⟨by simp, Below.refl _ _⟩
    · rcases h0 with ⟨_, rfl⟩ | ⟨g, cap, hv, _, hr⟩
      · exact absurd rfl hz
      · rcases h1 with ⟨_, rfl⟩ | ⟨g', cap', hv', _, hr'⟩
        · exact absurd hn hz
        · cases hv
          cases hv'
          have := equal_some g g' c0 c1 l.length l r w hl hr hr' rfl hn.symm
          rw [← hn]
          exact this
  · refine (equal_other a0 a1 l.length r.length c0 c1 w hn).mono ?_
    rintro e w' ⟨rfl, rfl⟩
    refine ⟨ret_bool ?_, Below.refl _ _⟩
    symm
    rw [decide_eq_false_iff_not]
    exact fun e => hn (congrArg List.length e)
end Go.Proofs.Qxb6604027a
