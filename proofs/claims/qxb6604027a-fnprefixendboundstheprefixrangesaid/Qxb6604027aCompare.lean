/- Over seat b6604027a: zzCompare (12), zzHasPrefix (13). -/
import Derived.Test.Qxb6604027aEqual
namespace Go.Proofs.Qxb6604027a
open Go.RowKit Plain

theorem ret_int {k : IntKind} {a b : Int} (h : a = b) : Ending.returned (.int k a) = .returned (.int k b) := by rw [h]

set_option maxHeartbeats 400000 in
theorem compare_bare (a0 a1 : Option Addr) (n0 n1 c0 c1 : Nat) (v : Int) (w : World) (m0 : n0 ≤ 1048576) (m1 : n1 ≤ 1048576) (h : n0 = 0 ∨ n1 = 0) (HV : Hid (v = if n0 < n1 then -1 else if n1 < n0 then 1 else 0)) :
    Calls Try.prog 12 #[.slice a0 n0 c0, .slice a1 n1 c1] w fun e w' => e = .returned (.int .i64 v) ∧ w' = w := by
  by_cases h1 : n1 < n0
  · obtain rfl : n1 = 0 := by omega
    clear h
    go_enter Try.func12, Try.ntmps12
    go_wp2
    refine wp_loop_rounds 1 ?_
    rw [rounds_succ]
    go_wp2
    go_ret
    exact ⟨ret_int (by rw [HV.out, if_neg (by omega), if_pos h1]), rfl⟩
  · obtain rfl : n0 = 0 := by omega
    clear h
    by_cases h2 : 0 < n1
    · go_enter Try.func12, Try.ntmps12
      go_wp2
      refine wp_loop_rounds 1 ?_
      rw [rounds_succ]
      go_wp2
      go_ret
      exact ⟨ret_int (by rw [HV.out, if_pos h2]), rfl⟩
    · obtain rfl : n1 = 0 := by omega
      go_enter Try.func12, Try.ntmps12
      go_wp2
      refine wp_loop_rounds 1 ?_
      rw [rounds_succ]
      go_wp2
      go_ret
      exact ⟨ret_int (by rw [HV.out]; rfl), rfl⟩

set_option maxHeartbeats 1000000 in
theorem compare_some (g0 g1 c0 c1 : Nat) (l r : List Int) (w : World) (m0 : l.length ≤ 1048576) (m1 : r.length ≤ 1048576) (h0 : Row w g0 l) (h1 : Row w g1 r) :
    Calls Try.prog 12 #[.slice (some ⟨g0, 0, none⟩) l.length c0, .slice (some ⟨g1, 0, none⟩) r.length c1] w fun e w' => e = .returned (.int .i64 (cmpL l r)) ∧ Below w.heap.size w w' := by
  have H0 : Hid (Row w g0 l) := h0
  have H1 : Hid (Row w g1 r) := h1
  clear h0 h1
  by_cases hrl : r.length < l.length
  · have hrl' : (r.length : Int) < (l.length : Int) := by omega
    go_enter Try.func12, Try.ntmps12
    go_wp2
    go_loopw [6] (fun i wr => ∃ k : Nat, k ≤ r.length ∧ i = .int .i64 k ∧ Hid (cmpL l r = cmpL (l.drop k) (r.drop k)) ∧ Below w.heap.size w wr) (fun i _ => r.length - (intOf i).toNat)
    case atStart => exact ⟨0, Nat.zero_le _, rfl, rfl, Below.refl _ _⟩
    case round =>
      obtain ⟨k, hk, rfl, HE, hb⟩ := hrel
      by_cases hlt : k < r.length
      · have hltr : k < r.length := by omega
        have hltl : k < l.length := by omega
        have hltr' : (k : Int) < (r.length : Int) := by omega
        have hltl' : (k : Int) < (l.length : Int) := by omega
        obtain ⟨x, hx⟩ : ∃ x, x = l.getD k 0 := ⟨_, rfl⟩
        obtain ⟨y, hy⟩ : ∃ y, y = r.getD k 0 := ⟨_, rfl⟩
        have hcx : wr.cell? ⟨g0, k, none⟩ = some (.int .u8 x) := by
          have h0 := H0.out.cell hltl
          rw [hb.cell (World.block_lt_of_cell? _ _ h0), h0, hx]
        have hcy : wr.cell? ⟨g1, k, none⟩ = some (.int .u8 y) := by
          have h0 := H1.out.cell hltr
          rw [hb.cell (World.block_lt_of_cell? _ _ h0), h0, hy]
        have HXY : Hid (x = l.getD k 0 ∧ y = r.getD k 0) := ⟨hx, hy⟩
        clear hx hy
        go_wp2
        go_quiet (fail)
        by_cases hxy : x < y
        · go_wp2
          go_ret
          exact ⟨ret_int (by rw [HE.out, cmp_lt l r k hltl hltr (by rw [← HXY.out.1, ← HXY.out.2]; exact hxy)]), below_drewN hb _⟩
        · go_wp2
          go_quiet (fail)
          go_wp2
          · have h2 : y < x := by assumption
            go_ret
            exact ⟨ret_int (by rw [HE.out, cmp_gt l r k hltl hltr (by rw [← HXY.out.1, ← HXY.out.2]; exact h2)]), below_drewN (below_drewN hb _) _⟩
          · have h2 : x ≤ y := by assumption
            go_roundw
            case rel => exact ⟨k + 1, by omega, by go_num, HE.out.trans (cmp_eq l r k hltl hltr (by rw [← HXY.out.1, ← HXY.out.2]; omega) (by rw [← HXY.out.1, ← HXY.out.2]; omega)), below_drewN hb _⟩
            case measure => simp [intOf]; omega
      · have hlt' : ¬ (k : Int) < (r.length : Int) := by omega
        go_wp2
        go_ret
        exact ⟨ret_int (by rw [HE.out, cmp_end l r k (by omega) (by omega) (by omega), if_neg (by omega), if_pos hrl]), hb⟩
  · have hrl' : ¬ (r.length : Int) < (l.length : Int) := by omega
    go_enter Try.func12, Try.ntmps12
    go_wp2
    go_loopw [6] (fun i wr => ∃ k : Nat, k ≤ l.length ∧ i = .int .i64 k ∧ Hid (cmpL l r = cmpL (l.drop k) (r.drop k)) ∧ Below w.heap.size w wr) (fun i _ => l.length - (intOf i).toNat)
    case atStart => exact ⟨0, Nat.zero_le _, rfl, rfl, Below.refl _ _⟩
    case round =>
      obtain ⟨k, hk, rfl, HE, hb⟩ := hrel
      by_cases hlt : k < l.length
      · have hltr : k < r.length := by omega
        have hltl : k < l.length := by omega
        have hltr' : (k : Int) < (r.length : Int) := by omega
        have hltl' : (k : Int) < (l.length : Int) := by omega
        obtain ⟨x, hx⟩ : ∃ x, x = l.getD k 0 := ⟨_, rfl⟩
        obtain ⟨y, hy⟩ : ∃ y, y = r.getD k 0 := ⟨_, rfl⟩
        have hcx : wr.cell? ⟨g0, k, none⟩ = some (.int .u8 x) := by
          have h0 := H0.out.cell hltl
          rw [hb.cell (World.block_lt_of_cell? _ _ h0), h0, hx]
        have hcy : wr.cell? ⟨g1, k, none⟩ = some (.int .u8 y) := by
          have h0 := H1.out.cell hltr
          rw [hb.cell (World.block_lt_of_cell? _ _ h0), h0, hy]
        have HXY : Hid (x = l.getD k 0 ∧ y = r.getD k 0) := ⟨hx, hy⟩
        clear hx hy
        go_wp2
        go_quiet (fail)
        by_cases hxy : x < y
        · go_wp2
          go_ret
          exact ⟨ret_int (by rw [HE.out, cmp_lt l r k hltl hltr (by rw [← HXY.out.1, ← HXY.out.2]; exact hxy)]), below_drewN hb _⟩
        · go_wp2
          go_quiet (fail)
          go_wp2
          · have h2 : y < x := by assumption
            go_ret
            exact ⟨ret_int (by rw [HE.out, cmp_gt l r k hltl hltr (by rw [← HXY.out.1, ← HXY.out.2]; exact h2)]), below_drewN (below_drewN hb _) _⟩
          · have h2 : x ≤ y := by assumption
            go_roundw
            case rel => exact ⟨k + 1, by omega, by go_num, HE.out.trans (cmp_eq l r k hltl hltr (by rw [← HXY.out.1, ← HXY.out.2]; omega) (by rw [← HXY.out.1, ← HXY.out.2]; omega)), below_drewN hb _⟩
            case measure => simp [intOf]; omega
      · have hlt' : ¬ (k : Int) < (l.length : Int) := by omega
        by_cases hll : l.length < r.length
        · have hll' : (l.length : Int) < (r.length : Int) := by omega
          go_wp2
          go_ret
          exact ⟨ret_int (by rw [HE.out, cmp_end l r k (by omega) (by omega) (by omega), if_pos hll]), hb⟩
        · have hll' : ¬ (l.length : Int) < (r.length : Int) := by omega
          go_wp2
          go_ret
          exact ⟨ret_int (by rw [HE.out, cmp_end l r k (by omega) (by omega) (by omega), if_neg hll, if_neg hrl]), hb⟩

theorem own_form {w : World} {v : Value} {l : List Int} (h : Own w v l) : ∃ a c, v = .slice a l.length c ∧ (l.length ≠ 0 → ∃ g, a = some ⟨g, 0, none⟩ ∧ l.length ≤ c ∧ Row w g l) := by
  rcases h with ⟨rfl, rfl⟩ | ⟨g, cap, rfl, h1, h2⟩
  · exact ⟨none, 0, rfl, fun h => absurd rfl h⟩
  · exact ⟨_, _, rfl, fun _ => ⟨g, rfl, h1, h2⟩⟩

/-- zzCompare on two slices of the call's own. -/
theorem compare_any {w : World} {v0 v1 : Value} {l r : List Int} (h0 : Own w v0 l) (h1 : Own w v1 r) (m0 : l.length ≤ 1048576) (m1 : r.length ≤ 1048576) :
    Calls Try.prog 12 #[v0, v1] w fun e w' => e = .returned (.int .i64 (cmpL l r)) ∧ Below w.heap.size w w' := by
  obtain ⟨a0, c0, rfl, k0⟩ := own_form h0
  obtain ⟨a1, c1, rfl, k1⟩ := own_form h1
  by_cases hz : l.length = 0 ∨ r.length = 0
  · refine (compare_bare a0 a1 l.length r.length c0 c1 (cmpL l r) w m0 m1 hz ?_).mono ?_
    · have := cmp_end l r 0 (by omega) (Nat.zero_le _) (Nat.zero_le _)
      exact (show _ = _ by simpa using this)
    · rintro e w' ⟨rfl, rfl⟩
      exact ⟨rfl, Below.refl _ _⟩
  · obtain ⟨g0, rfl, _, r0⟩ := k0 (by omega)
    obtain ⟨g1, rfl, _, r1⟩ := k1 (by omega)
    exact compare_some g0 g1 c0 c1 l r w m0 m1 r0 r1

theorem prefix_take (p s : List Int) : decide (s.take p.length = p) = p.isPrefixOf s := by
  rw [Bool.eq_iff_iff, decide_eq_true_iff, List.isPrefixOf_iff_prefix]
  constructor
  · intro e; rw [← e]; exact List.take_prefix _ _
  · intro e; exact (List.prefix_iff_eq_take.1 e).symm
theorem prefix_short (p s : List Int) (h : s.length < p.length) : false = p.isPrefixOf s := by
  symm; rw [Bool.eq_false_iff]; intro e
  have := (List.isPrefixOf_iff_prefix.1 e).length_le
  omega

set_option maxHeartbeats 400000 in
theorem hasPrefix_short (a0 a1 : Option Addr) (n0 n1 c0 c1 : Nat) (w : World) (h : n0 < n1) : Calls Try.prog 13 #[.slice a0 n0 c0, .slice a1 n1 c1] w fun e w' => e = .returned (.bool false) ∧ w' = w := by
  have h' : ¬ (n1 : Int) ≤ (n0 : Int) := by omega
  go_enter Try.func13, Try.ntmps13
  go_wp2
  go_ret
  exact ⟨rfl, rfl⟩

set_option maxHeartbeats 400000 in
theorem hasPrefix_nil (a1 : Option Addr) (c1 : Nat) (w : World) : Calls Try.prog 13 #[.slice none 0 0, .slice a1 0 c1] w fun e w' => e = .returned (.bool true) ∧ w' = w := by
  go_enter Try.func13, Try.ntmps13
  go_wp2_with (first | (go_at_call 10; refine (equal_none _ _ _ _ _).mono ?_; rintro e w' ⟨rfl, rfl⟩))
  go_ret
  exact ⟨rfl, rfl⟩

set_option maxHeartbeats 400000 in
theorem hasPrefix_row (g c0 : Nat) (v1 : Value) (a1 : Option Addr) (c1 : Nat) (s p : List Int) (w : World) (hv : v1 = .slice a1 p.length c1) (h0 : Row w g s) (h1 : Own w v1 p) (hc : s.length ≤ c0) (m1 : p.length ≤ 1048576) (hle : p.length ≤ s.length) :
    Calls Try.prog 13 #[.slice (some ⟨g, 0, none⟩) s.length c0, .slice a1 p.length c1] w fun e w' => e = .returned (.bool (p.isPrefixOf s)) ∧ Below w.heap.size w w' := by
  subst hv
  have hle' : (p.length : Int) ≤ (s.length : Int) := by omega
  have HT : Hid (Own w (.slice (some ⟨g, 0, none⟩) p.length c0) (s.take p.length)) := by
    have e : (s.take p.length).length = p.length := by simp; omega
    exact Or.inr ⟨g, c0, by rw [e], by omega, h0.take _⟩
  have H1 : Hid (Own w (.slice a1 p.length c1) p) := h1
  clear h0 h1
  go_enter Try.func13, Try.ntmps13
  go_wp2_with fail
  refine (equal_any HT.out H1.out (by simp; omega)).mono ?_
  rintro e w1 ⟨rfl, hb⟩
  have HP : Hid (decide (s.take p.length = p) = p.isPrefixOf s) := prefix_take p s
  rw [HP.out]
  go_wp2_with fail
  go_ret
  exact ⟨rfl, hb⟩

/-- zzHasPrefix on two slices of the call's own. -/
theorem hasPrefix_any {w : World} {v0 v1 : Value} {s p : List Int} (h0 : Own w v0 s) (h1 : Own w v1 p) (m1 : p.length ≤ 1048576) :
    Calls Try.prog 13 #[v0, v1] w fun e w' => e = .returned (.bool (p.isPrefixOf s)) ∧ Below w.heap.size w w' := by
  obtain ⟨a1, c1, hv1, _⟩ := own_form h1
  by_cases hle : p.length ≤ s.length
  · rcases h0 with ⟨rfl, rfl⟩ | ⟨g, c0, rfl, hc, hr⟩
    · obtain rfl : p = [] := List.eq_nil_of_length_eq_zero (by simpa using hle)
      subst hv1
      refine (hasPrefix_nil a1 c1 w).mono ?_
      rintro e w' ⟨rfl, rfl⟩
      exact ⟨rfl, Below.refl _ _⟩
    · have := hasPrefix_row g c0 v1 a1 c1 s p w hv1 hr h1 hc m1 hle
      rw [hv1]
      exact this
  · obtain ⟨a0, c0, rfl, _⟩ := own_form h0
    subst hv1
    refine (hasPrefix_short a0 a1 s.length p.length c0 c1 w (by omega)).mono ?_
    rintro e w' ⟨rfl, rfl⟩
    exact ⟨ret_bool (prefix_short p s (by omega)), Below.refl _ _⟩
end Go.Proofs.Qxb6604027a
