/- The walks of lastSlash (36), matchModel (15) and the law FnMatchAgreesWithAncestorWalk (3). -/
import Derived.Test.Qxb6600890aMatch
namespace Go.Proofs.Qxb6600890a
open Go.RowKit Plain

/-- What lastSlash answers: no slash and -1, or the last slash's place. -/
def LastIs (t : ByteArray) (j : Int) : Prop :=
  (j = -1 ∧ ∀ i (hi : i < t.toList.length), t.toList[i] ≠ 47) ∨ (∃ n : Nat, j = n ∧ ∃ hn : n < t.toList.length, t.toList[n] = 47 ∧ ∀ i (hi : i < t.toList.length), n < i → t.toList[i] ≠ 47)

theorem last_hit (t : ByteArray) (k : Nat) (h1 : 1 ≤ k) (hk : k ≤ t.size) (h47 : (((t[k - 1]'(by omega)).toNat : Int) == 47) = true) (H : ∀ i (hi : i < t.toList.length), k ≤ i → t.toList[i] ≠ 47) : LastIs t ((k : Int) - 1) := by
  refine Or.inr ⟨k - 1, by omega, by rw [len_eq]; omega, ?_, fun i hi h => H i hi (by omega)⟩
  rw [get_eq _ _ (by omega)]
  exact byte_eq _ (by simpa using h47)
theorem last_more (t : ByteArray) (k : Nat) (h1 : 1 ≤ k) (hk : k ≤ t.size) (h47 : (((t[k - 1]'(by omega)).toNat : Int) == 47) = false) (H : ∀ i (hi : i < t.toList.length), k ≤ i → t.toList[i] ≠ 47) :
    ∀ i (hi : i < t.toList.length), k - 1 ≤ i → t.toList[i] ≠ 47 := by
  intro i hi h
  rcases Nat.lt_or_ge i k with g | g
  · obtain rfl : i = k - 1 := by omega
    rw [get_eq _ _ (by omega)]
    exact byte_ne _ (by simpa using h47)
  · exact H i hi g

set_option maxHeartbeats 400000 in
theorem lastSlash_any (t : ByteArray) (w : World) (ht : t.size ≤ 300000) :
    Calls Try.prog 36 #[.string t] w fun e w' => ∃ j, e = .returned (.int .i64 j) ∧ LastIs t j ∧ w' = w := by
  go_enter Try.func36, Try.ntmps36
  go_wp2
  go_loop [3] (fun v => ∃ k : Nat, k ≤ t.size ∧ v = .int .i64 ((k : Int) - 1) ∧ Hid (∀ i (hi : i < t.toList.length), k ≤ i → t.toList[i] ≠ 47)) (fun v => (intOf v + 1).toNat)
  case atStart => exact ⟨t.size, Nat.le_refl _, rfl, fun i hi h => by rw [len_eq] at hi; omega⟩
  case round =>
    obtain ⟨k, hk, rfl, H⟩ := hrel
    go_wp2
    · have h1 : 1 ≤ (k : Int) := by assumption
      have h47 : (((t[k - 1]'(by omega)).toNat : Int) == 47) = true := by assumption
      go_ret
      exact ⟨_, rfl, last_hit t k (by omega) hk h47 H.out, rfl⟩
    · have h1 : 1 ≤ (k : Int) := by assumption
      have h47 : (((t[k - 1]'(by omega)).toNat : Int) == 47) = false := by assumption
      go_round
      case rel => exact ⟨k - 1, by omega, by rw [show ((k : Int) - 1 - 1) = ((k - 1 : Nat) : Int) - 1 from by omega], last_more t k (by omega) hk h47 H.out⟩
      case measure => simp [intOf]; omega
    · have h1 : (k : Int) < 1 := by assumption
      go_ret
      exact ⟨_, rfl, Or.inl ⟨rfl, fun i hi => H.out i hi (by omega)⟩, rfl⟩

def szOf : Value → Nat
  | .string t => t.size
  | _ => 0
theorem szOf_string (t : ByteArray) : szOf (.string t) = t.size := rfl

/-- The walk up, past the three first tests. -/
def RunUp (b s t : ByteArray) : Prop := belowB b.toList s.toList = belowB b.toList t.toList

theorem take_toList (t : ByteArray) (n : Nat) : (t.extract 0 n).toList = t.toList.take n := by
  rw [Lib.extract_toList, Lib.toList_data]; simp
theorem up_empty (b s t : ByteArray) (hz : t.size = 0) (H : RunUp b s t) : false = belowB b.toList s.toList := by
  rw [H, below_short]; rw [len_eq, len_eq]; omega
theorem up_none (b s t : ByteArray) (hn : ∀ (i : Nat) (hi : i < t.toList.length), t.toList[i] ≠ 47) (H : RunUp b s t) : false = belowB b.toList s.toList := by
  rw [H, below_none _ _ hn]
theorem up_hit (b s t : ByteArray) (n : Nat) (hn : n < t.toList.length) (h47 : t.toList[n] = 47) (he : ((t.extract 0 n).toList == b.toList) = true) (H : RunUp b s t) : true = belowB b.toList s.toList := by
  rw [take_toList] at he
  rw [H, below_hit _ _ n hn h47 he]
theorem up_more (b s t : ByteArray) (n : Nat) (hn : n < t.toList.length) (hl : ∀ (i : Nat) (hi : i < t.toList.length), n < i → t.toList[i] ≠ 47) (he : ((t.extract 0 n).toList == b.toList) = false) (H : RunUp b s t) :
    RunUp b s (t.extract 0 n) := by
  rw [take_toList] at he
  show _ = _
  rw [H, take_toList, below_up _ _ n hn hl he]

set_option maxHeartbeats 400000 in
theorem model_up (b s : ByteArray) (w : World) (hs : s.size ≤ 300000) (h0 : (s.toList == b.toList) = false) (h2 : (b.toList == [46]) = false) :
    Calls Try.prog 15 #[.string b, .bool true, .string s] w fun e w' => e = .returned (.bool (belowB b.toList s.toList)) ∧ w' = w := by
  go_enter Try.func15, Try.ntmps15
  go_wp2
  go_loop [7] (fun v => ∃ t : ByteArray, v = .string t ∧ t.size ≤ s.size ∧ Hid (RunUp b s t)) (fun v => szOf v)
  case atStart => exact ⟨s, rfl, Nat.le_refl _, rfl⟩
  case round =>
    obtain ⟨t, rfl, ht, H⟩ := hrel
    by_cases hz : t.size = 0
    · have hlt : ¬ (0 : Int) < (t.size : Int) := by omega
      go_wp2
      go_ret
      exact ⟨ret_bool (up_empty b s t hz H.out), rfl⟩
    · have hlt : (0 : Int) < (t.size : Int) := by omega
      go_wp2_with fail
      refine (lastSlash_any _ _ (by omega)).mono ?_
      rintro e w' ⟨j, rfl, hj, rfl⟩
      rcases hj with ⟨rfl, hn⟩ | ⟨n, rfl, hn, h47, hl⟩
      · have HN : Hid (∀ (i : Nat) (hi : i < t.toList.length), t.toList[i] ≠ 47) := hn
        clear hn
        go_wp2
        go_ret
        exact ⟨ret_bool (up_none b s t HN.out H.out), rfl⟩
      · have HN : Hid (t.toList[n] = 47) := h47
        have HL : Hid (∀ (i : Nat) (hi : i < t.toList.length), n < i → t.toList[i] ≠ 47) := hl
        clear h47 hl
        have hn' : n < t.size := by rw [← len_eq]; exact hn
        go_wp2
        · go_ret
          exact ⟨ret_bool (up_hit b s t n hn HN.out ‹_› H.out), rfl⟩
        · go_round
          case rel => exact ⟨_, rfl, by rw [ByteArray.size_extract]; omega, up_more b s t n hn HL.out ‹_› H.out⟩
          case measure => rw [szOf_string, szOf_string, ByteArray.size_extract]; omega

set_option maxHeartbeats 400000 in
theorem model_any (b s : ByteArray) (t : Bool) (w : World) (hs : s.size ≤ 300000) :
    Calls Try.prog 15 #[.string b, .bool t, .string s] w fun e w' => e = .returned (.bool (matchB b.toList s.toList t)) ∧ w' = w := by
  by_cases h0 : (s.toList == b.toList) = true
  · go_enter Try.func15, Try.ntmps15
    go_wp2
    go_ret
    exact ⟨ret_bool (match_same _ _ _ h0).symm, rfl⟩
  · have h0' : (s.toList == b.toList) = false := by simpa using h0
    clear h0
    rcases t with _ | _
    · go_enter Try.func15, Try.ntmps15
      go_wp2
      go_ret
      exact ⟨ret_bool (m_exact _ _ _ h0' rfl), rfl⟩
    · by_cases h2 : (b.toList == [46]) = true
      · go_enter Try.func15, Try.ntmps15
        go_wp2
        go_ret
        exact ⟨ret_bool (match_root _ _ _ rfl h2).symm, rfl⟩
      · have h2' : (b.toList == [46]) = false := by simpa using h2
        clear h2
        refine (model_up b s w hs h0' h2').mono ?_
        rintro e w' ⟨rfl, rfl⟩
        exact ⟨ret_bool (match_rest _ _ _ h0' rfl h2').symm, rfl⟩

set_option maxHeartbeats 400000 in
theorem walk3 (a0 : ByteArray) (a1 : Bool) (a2 : ByteArray) (w0 : a0.size ≤ maxLen) (w2 : a2.size ≤ maxLen) (w : World) :
    Calls Try.prog 3 #[.string a0, .bool a1, .string a2] w fun e w' => e = .returned (.bool true) ∧ Grown w w' := by
  unfold maxLen at w0 w2
  by_cases h : a0.size ≤ 65536 ∧ a2.size ≤ 65536
  · obtain ⟨h0, h2⟩ := h
    go_enter Try.func3, Try.ntmps3
    go_wp2_with (first | (go_at_call 13; refine (pattern_any _ _ _).mono ?_; rintro e w' ⟨rfl, rfl⟩) | (go_at_call 14; refine (match_any _ _ _ _ (by omega) (by omega)).mono ?_; rintro e w' ⟨rfl, rfl⟩) | (go_at_call 15; refine (model_any _ _ _ _ (by omega)).mono ?_; rintro e w' ⟨rfl, rfl⟩) | go_in)
    go_ret
    exact ⟨ret_bool (by simp), by repeat (first | exact Grown.refl _ | apply Grown.drew | apply Grown.alloc)⟩
  · have h' : 65536 < a0.size ∨ 65536 < a2.size := by omega
    clear h
    go_enter Try.func3, Try.ntmps3
    go_wp2_with (first | (go_at_call 13; exfalso; omega) | go_in)
    all_goals
      go_ret
      exact ⟨rfl, by repeat (first | exact Grown.refl _ | apply Grown.drew | apply Grown.alloc)⟩
end Go.Proofs.Qxb6600890a
