/- The walk of FnAppendSenderReadsBack (3). -/
import Derived.Test.Qxb6601029aDoorAppend
import Derived.Test.Qxb6601029aDoorParse
namespace Go.Proofs.Qxb6601029aDoor
open Go.RowKit Plain

theorem hasSpace_at (s : ByteArray) (w : World) (hs : s.size ≤ 1048576) : Calls Tryd.prog 6 #[.string s] w fun e w' => e = .returned (.bool (decide (32 ∈ strI s))) ∧ w = w' :=
  (hasSpace_any s w hs).mono fun _ _ h => ⟨h.1, h.2.symm⟩
theorem full_form {w : World} {v : Value} {l : List Int} (h : Full w v l) : ∃ ao, v = .slice ao l.length l.length ∧ (l.length ≠ 0 → ∃ g, ao = some ⟨g, 0, none⟩ ∧ Row w g l) := by
  rcases h with ⟨rfl, rfl⟩ | ⟨g, rfl, hr⟩
  · exact ⟨none, rfl, fun h => absurd rfl h⟩
  · exact ⟨_, rfl, fun _ => ⟨g, rfl, hr⟩⟩

theorem sent_get (l : List Int) (sv st : ByteArray) (n : Int) (k : Nat) (h : k < l.length) : (sent l sv st n).getD k 0 = l.getD k 0 := by
  simp only [sent, List.getD]; rw [List.getElem?_append_left h]

theorem sent_drop (l : List Int) (sv st : ByteArray) (n : Int) : (sent l sv st n).drop l.length = strI sv ++ (32 :: (strI st ++ (32 :: num n))) := by
  simp [sent]
theorem num_pos (n : Int) : 1 ≤ (num n).length := by
  by_cases h : n < 0
  · obtain ⟨u, rfl⟩ : ∃ u : Nat, n = -(u : Int) := ⟨n.natAbs, by omega⟩
    rw [num_neg u (by omega)]; simp
  · obtain ⟨u, rfl⟩ : ∃ u : Nat, n = u := ⟨n.toNat, by omega⟩
    rw [num_nonneg u]; exact D_pos u
theorem index_at (b off cap : Nat) (l : List Int) (F : Int) (f : Nat) (r : Int) (w : World) (hl : l.length ≤ 4000000) (hc : BytesAt w b off l) (hF : F = f) (hf : f ≤ l.length)
    (hr : (r = -1 ∧ ∀ j, f ≤ j → j < l.length → l.getD j 0 ≠ 32) ∨ (∃ k : Nat, r = k ∧ f ≤ k ∧ k < l.length ∧ l.getD k 0 = 32 ∧ ∀ j, f ≤ j → j < k → l.getD j 0 ≠ 32)) :
    Calls Tryd.prog 9 #[.slice (some ⟨b, off, none⟩) l.length cap, .int .i64 F] w fun e w' => e = .returned (.int .i64 r) ∧ w = w' := by
  subst hF
  exact (indexSpace_any b off cap l f r w hl hc hf hr).mono fun _ _ h => ⟨h.1, h.2.symm⟩

/-! ### Where the spaces stand -/
theorem not_space {l : List Int} (h : ¬ 32 ∈ l) {j : Nat} (hj : j < l.length) : l.getD j 0 ≠ 32 := fun e => h (by rw [← e]; exact mem_getD hj)
theorem get_left {a b : List Int} {j : Nat} (h : j < a.length) : (a ++ b).getD j 0 = a.getD j 0 := by simp only [List.getD]; rw [List.getElem?_append_left h]
theorem get_right {a b : List Int} {j : Nat} (h : a.length ≤ j) : (a ++ b).getD j 0 = b.getD (j - a.length) 0 := by simp only [List.getD]; rw [List.getElem?_append_right h]
theorem fields_v (sv st : ByteArray) (n : Int) (R : List Int) (hR : R = strI sv ++ (32 :: (strI st ++ (32 :: num n)))) : R.getD sv.size 0 = 32 := by
  rw [hR, get_right (by rw [strI_len]; omega), strI_len, Nat.sub_self]; rfl
theorem fields_v' (sv st : ByteArray) (n : Int) (R : List Int) (hR : R = strI sv ++ (32 :: (strI st ++ (32 :: num n)))) (hs : ¬ 32 ∈ strI sv) : ∀ j, 0 ≤ j → j < sv.size → R.getD j 0 ≠ 32 := by
  intro j _ hj
  rw [hR, get_left (by rw [strI_len]; exact hj)]
  exact not_space hs (by rw [strI_len]; exact hj)
theorem fields_t (sv st : ByteArray) (n : Int) (R : List Int) (hR : R = strI sv ++ (32 :: (strI st ++ (32 :: num n)))) : R.getD (sv.size + 1 + st.size) 0 = 32 := by
  rw [hR, get_right (by rw [strI_len]; omega), strI_len, show sv.size + 1 + st.size - sv.size = st.size + 1 from by omega]
  show (strI st ++ (32 :: num n)).getD st.size 0 = 32
  rw [get_right (by rw [strI_len]; omega), strI_len, Nat.sub_self]; rfl
theorem fields_t' (sv st : ByteArray) (n : Int) (R : List Int) (hR : R = strI sv ++ (32 :: (strI st ++ (32 :: num n)))) (hs : ¬ 32 ∈ strI st) : ∀ j, sv.size + 1 ≤ j → j < sv.size + 1 + st.size → R.getD j 0 ≠ 32 := by
  intro j h1 hj
  obtain ⟨i, rfl⟩ : ∃ i, j = sv.size + 1 + i := ⟨j - (sv.size + 1), by omega⟩
  rw [hR, get_right (by rw [strI_len]; omega), strI_len, show sv.size + 1 + i - sv.size = i + 1 from by omega]
  show (strI st ++ (32 :: num n)).getD i 0 ≠ 32
  rw [get_left (by rw [strI_len]; omega)]
  exact not_space hs (by rw [strI_len]; omega)
theorem fields_n (sv st : ByteArray) (n : Int) (R : List Int) (hR : R = strI sv ++ (32 :: (strI st ++ (32 :: num n)))) : ∀ j, sv.size + 1 + st.size + 1 ≤ j → j < R.length → R.getD j 0 ≠ 32 := by
  intro j h1 hj
  obtain ⟨i, rfl⟩ : ∃ i, j = sv.size + 1 + st.size + 1 + i := ⟨j - (sv.size + 1 + st.size + 1), by omega⟩
  have hi : i < (num n).length := by rw [hR] at hj; simp [strI_len] at hj; omega
  rw [hR, get_right (by rw [strI_len]; omega), strI_len, show sv.size + 1 + st.size + 1 + i - sv.size = (st.size + 1 + i) + 1 from by omega]
  show (strI st ++ (32 :: num n)).getD (st.size + 1 + i) 0 ≠ 32
  rw [get_right (by rw [strI_len]; omega), strI_len, show st.size + 1 + i - st.size = i + 1 from by omega]
  show (num n).getD i 0 ≠ 32
  exact num_noSpace n _ (mem_getD hi)
theorem part_v (sv st : ByteArray) (n : Int) (R : List Int) (hR : R = strI sv ++ (32 :: (strI st ++ (32 :: num n)))) : R.take sv.size = strI sv := by rw [hR, ← strI_len]; simp
theorem part_t (sv st : ByteArray) (n : Int) (R : List Int) (hR : R = strI sv ++ (32 :: (strI st ++ (32 :: num n)))) : (R.drop (sv.size + 1)).take st.size = strI st := by
  rw [hR, ← strI_len sv, ← strI_len st, ← List.drop_drop]; simp
theorem part_n (sv st : ByteArray) (n : Int) (R : List Int) (hR : R = strI sv ++ (32 :: (strI st ++ (32 :: num n)))) : R.drop (sv.size + 1 + st.size + 1) = num n := by
  have e : sv.size + 1 + st.size + 1 = (strI sv).length + (1 + ((strI st).length + 1)) := by rw [strI_len, strI_len]; omega
  rw [hR, e, ← List.drop_drop, List.drop_left, ← List.drop_drop]
  show List.drop ((strI st).length + 1) (strI st ++ (32 :: num n)) = num n
  rw [← List.drop_drop, List.drop_left]; rfl

set_option maxHeartbeats 1000000 in
theorem law_small {w : World} {a : Option Addr} {len cap : Nat} {zs : List Int} (h : RowIs w a len cap zs) (sv st : ByteArray) (n : Int) (hl : len ≤ 262144) (hv : sv.size ≤ 262144) (hst : st.size ≤ 262144) (h0 : -9223372036854775808 ≤ n) (h1 : n ≤ 9223372036854775807)
    (htab : Lib.TabBelow Tryd.prog w.heap.size w Tryd.powName .u64 Lib.pow10Tab) (hsv : ¬ 32 ∈ strI sv) (hss : ¬ 32 ∈ strI st) :
    Calls Tryd.prog 3 #[.slice a len cap, .string sv, .string st, .int .i64 n] w fun e w' => e = .returned (.bool true) ∧ Below w.heap.size w w' := by
  have HW : Hid (RowIs w a len cap zs) := h
  have HT : Hid (Lib.TabBelow Tryd.prog w.heap.size w Tryd.powName .u64 Lib.pow10Tab) := htab
  have hd1 : decide (32 ∈ strI sv) = false := decide_eq_false hsv
  have hd2 : decide (32 ∈ strI st) = false := decide_eq_false hss
  obtain ⟨l, hlz⟩ : ∃ l, l = zs.take len := ⟨_, rfl⟩
  have HLZ : Hid (l = zs.take len ∧ l.length = len) := ⟨hlz, by rw [hlz]; exact h.len.2⟩
  have hll : l.length ≤ 262144 := by rw [HLZ.out.2]; exact hl
  clear h htab hlz
  go_enter Tryd.func3, Tryd.ntmps3
  go_wp2_with (first | (go_at_call 5; go_in) | (go_at_call 6; refine (hasSpace_at _ _ (by omega)).mono ?_; rintro e w' ⟨rfl, rfl⟩))
  refine (copy_any HW.out (by omega)).mono ?_
  rintro e w1 ⟨v, rfl, hfull, hb1⟩
  rw [← HLZ.out.1] at hfull
  obtain ⟨ao, hvf, hrow⟩ := full_form hfull
  subst hvf
  have HF : Hid (Full w1 (.slice ao l.length l.length) l) := hfull
  have HRW : Hid (l.length ≠ 0 → ∃ g, ao = some ⟨g, 0, none⟩ ∧ Row w1 g l) := hrow
  clear hfull hrow
  go_wp2_with fail
  refine (sender_any HF.out sv st n hll hv hst h0 h1 (fun w' h' => HT.out w' (hb1.trans (h'.mono hb1.size)))).mono ?_
  rintro e w2 ⟨g, c, T, rfl, hTc, HTT, hrT, hb2⟩
  have HRT : Hid (Row w2 g T) := hrT
  have hTl : l.length + 2 ≤ T.length := by rw [HTT.out]; simp [sent]; omega
  have hbx : Below w.heap.size w w2 := hb1.trans (hb2.mono hb1.size)
  clear hrT
  go_wp2
  go_loopw [10] (fun i wr => ∃ k : Nat, k ≤ l.length ∧ i = .int .i64 k ∧ Below w2.heap.size w2 wr) (fun i _ => l.length - (intOf i).toNat)
  case atStart => exact ⟨0, Nat.zero_le _, rfl, Below.refl _ _⟩
  case round =>
    obtain ⟨k, hk, rfl, hb3⟩ := hrel
    by_cases hlt : k < l.length
    · obtain ⟨gb, hao, hrb⟩ := HRW.out (by omega)
      subst hao
      have hlt' : (k : Int) < (l.length : Int) := by omega
      have hltT : (k : Int) < (T.length : Int) := by omega
      obtain ⟨x, hx⟩ : ∃ x, x = l.getD k 0 := ⟨_, rfl⟩
      have hcx : wr.cell? ⟨gb, k, none⟩ = some (.int .u8 x) := by
        have h0 := (hrb.below hb2 hrb.lt).cell hlt
        rw [hb3.cell (World.block_lt_of_cell? _ _ h0), h0, hx]
      have hcy : wr.cell? ⟨g, k, none⟩ = some (.int .u8 x) := by
        have h0 := HRT.out.cell (j := k) (by omega)
        rw [hb3.cell (World.block_lt_of_cell? _ _ h0), h0, hx, HTT.out, sent_get l sv st n k hlt]
      clear hx hrb
      go_wp2
      go_quiet (fail)
      go_wp2
      go_roundw
      case rel => exact ⟨k + 1, by omega, by go_num, below_drewN hb3 _⟩
      case measure => simp [intOf]; omega
    · have hlt' : ¬ (k : Int) < (l.length : Int) := by omega
      have hlc : l.length < c := by omega
      obtain ⟨R, hR⟩ : ∃ R, R = T.drop l.length := ⟨_, rfl⟩
      have hRl : T.length - l.length = R.length := by rw [hR]; simp
      have HRS : Hid (R = strI sv ++ (32 :: (strI st ++ (32 :: num n)))) := by rw [hR, HTT.out]; exact sent_drop l sv st n
      have HB : Hid (BytesAt wr g l.length R) := by
        have := ((HRT.out.below hb3 HRT.out.lt).bytes).drop l.length
        rw [Nat.zero_add, ← hR] at this
        exact this
      have hlo : sv.size + st.size + 2 + (num n).length ≤ R.length := by rw [HRS.out]; simp [strI_len]; omega
      have hhi : R.length ≤ sv.size + st.size + 2 + (num n).length := by rw [HRS.out]; simp [strI_len]; omega
      have hnp := num_pos n
      have hnl := num_len n h0 h1
      obtain ⟨C, hC⟩ : ∃ C, C = c - l.length := ⟨_, rfl⟩
      have hRC : R.length ≤ C := by omega
      have hby : Below w.heap.size w wr := hbx.trans (hb3.mono hbx.size)
      clear hR
      go_wp2_with fail
      rw [← hC]
      clear hRl hC hTc hTl
      refine (index_at g l.length C R 0 0 sv.size _ (by omega) HB.out rfl (by omega) (Or.inr ⟨sv.size, rfl, by omega, by omega, fields_v sv st n R HRS.out, fields_v' sv st n R HRS.out hsv⟩)).mono ?_
      rintro e w' ⟨rfl, rfl⟩
      go_wp2_with fail
      refine (index_at g l.length C R _ (sv.size + 1) ((sv.size : Int) + 1 + st.size) _ (by omega) HB.out (by omega) (by omega) (Or.inr ⟨sv.size + 1 + st.size, by omega, by omega, by omega, fields_t sv st n R HRS.out, fields_t' sv st n R HRS.out hss⟩)).mono ?_
      rintro e w' ⟨rfl, rfl⟩
      go_wp2_with fail
      refine (index_at g l.length C R _ (sv.size + 1 + st.size + 1) (-1) _ (by omega) HB.out (by omega) (by omega) (Or.inl ⟨rfl, fields_n sv st n R HRS.out⟩)).mono ?_
      rintro e w' ⟨rfl, rfl⟩
      go_wp2_with fail
      refine (same_any g l.length C sv _ (by omega) (by have := HB.out.take sv.size; rwa [part_v sv st n R HRS.out] at this)).mono ?_
      rintro e w4 ⟨rfl, hb4⟩
      have HB4 : Hid (BytesAt w4 g l.length R) := HB.out.below hb4
      clear HB
      go_wp2_with fail
      refine (same_any g (l.length + (sv.size + 1)) _ st _ (by omega) (by have := (HB4.out.drop (sv.size + 1)).take st.size; rwa [part_t sv st n R HRS.out] at this)).mono ?_
      rintro e w5 ⟨rfl, hb5⟩
      have HB5 : Hid (BytesAt w5 g (l.length + (sv.size + 1 + st.size + 1)) (num n)) := by
        have := (HB4.out.below hb5).drop (sv.size + 1 + st.size + 1)
        rwa [part_n sv st n R HRS.out] at this
      clear HB4
      go_wp2_with fail
      rw [show R.length - (sv.size + 1 + st.size + 1) = (num n).length from by omega]
      refine (parse_any g _ _ n _ HB5.out h0 h1).mono ?_
      rintro e w6 ⟨rfl, rfl⟩
      have hbz : Below w.heap.size w w6 := (hby.trans (hb4.mono hby.size)).trans (hb5.mono (Nat.le_trans hby.size hb4.size))
      go_wp2_with fail
      go_ret
      exact ⟨ret_bool (by simp), hbz⟩

set_option maxHeartbeats 1000000 in
theorem law_space (a : Option Addr) (len cap : Nat) (sv st : ByteArray) (n : Int) (w : World) (hl : len ≤ 262144) (hv : sv.size ≤ 262144) (hst : st.size ≤ 262144) (h : 32 ∈ strI sv ∨ 32 ∈ strI st) :
    Calls Tryd.prog 3 #[.slice a len cap, .string sv, .string st, .int .i64 n] w fun e w' => e = .returned (.bool true) ∧ Below w.heap.size w w' := by
  by_cases hs : 32 ∈ strI sv
  · have hd1 : decide (32 ∈ strI sv) = true := decide_eq_true hs
    clear h
    go_enter Tryd.func3, Tryd.ntmps3
    go_wp2_with (first | (go_at_call 5; go_in) | (go_at_call 6; refine (hasSpace_at _ _ (by omega)).mono ?_; rintro e w' ⟨rfl, rfl⟩))
    go_ret
    exact ⟨rfl, Below.refl _ _⟩
  · have hd1 : decide (32 ∈ strI sv) = false := decide_eq_false hs
    have ht : 32 ∈ strI st := h.resolve_left hs
    have hd2 : decide (32 ∈ strI st) = true := decide_eq_true ht
    clear h
    go_enter Tryd.func3, Tryd.ntmps3
    go_wp2_with (first | (go_at_call 5; go_in) | (go_at_call 6; refine (hasSpace_at _ _ (by omega)).mono ?_; rintro e w' ⟨rfl, rfl⟩))
    go_ret
    exact ⟨rfl, Below.refl _ _⟩

set_option maxHeartbeats 1000000 in
theorem law_great (a : Option Addr) (len cap : Nat) (sv st : ByteArray) (n : Int) (w : World) (m0 : len ≤ maxLen) (m1 : sv.size ≤ maxLen) (m2 : st.size ≤ maxLen) (h : 262144 < len ∨ 262144 < sv.size ∨ 262144 < st.size) :
    Calls Tryd.prog 3 #[.slice a len cap, .string sv, .string st, .int .i64 n] w fun e w' => e = .returned (.bool true) ∧ Below w.heap.size w w' := by
  unfold maxLen at m0 m1 m2
  go_enter Tryd.func3, Tryd.ntmps3
  go_wp2_with (first | (go_at_call 5; go_in) | (go_at_call 6; exfalso; omega))
  all_goals
    go_ret
    exact ⟨rfl, Below.refl _ _⟩

theorem law_walk {w : World} {a : Option Addr} {len cap : Nat} {zs : List Int} (h : RowIs w a len cap zs) (sv st : ByteArray) (n : Int) (hv : sv.size ≤ maxLen) (hst : st.size ≤ maxLen) (h0 : -9223372036854775808 ≤ n) (h1 : n ≤ 9223372036854775807)
    (htab : Lib.TabBelow Tryd.prog w.heap.size w Tryd.powName .u64 Lib.pow10Tab) :
    Calls Tryd.prog 3 #[.slice a len cap, .string sv, .string st, .int .i64 n] w fun e w' => e = .returned (.bool true) ∧ Below w.heap.size w w' := by
  by_cases hg : 262144 < len ∨ 262144 < sv.size ∨ 262144 < st.size
  · exact law_great a len cap sv st n w h.len.1 hv hst hg
  · by_cases hs : 32 ∈ strI sv ∨ 32 ∈ strI st
    · exact law_space a len cap sv st n w (by omega) (by omega) (by omega) hs
    · exact law_small h sv st n (by omega) (by omega) (by omega) h0 h1 htab (fun e => hs (Or.inl e)) (fun e => hs (Or.inr e))
end Go.Proofs.Qxb6601029aDoor
