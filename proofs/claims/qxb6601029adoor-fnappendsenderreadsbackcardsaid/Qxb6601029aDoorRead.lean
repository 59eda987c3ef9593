/- Over seat b6601029aD: lwHasSpace (6), lwIndexSpace (9), lwSame (10). -/
import Derived.Test.Qxb6601029aDoorMem
import Derived.Deep.QuietTactic
import Derived.BigQuiet
namespace Go.Proofs.Qxb6601029aDoor
open Go.RowKit Plain

theorem ret_bool {a b : Bool} (h : a = b) : Ending.returned (.bool a) = .returned (.bool b) := by rw [h]
theorem ret_int {k : IntKind} {a b : Int} (h : a = b) : Ending.returned (.int k a) = .returned (.int k b) := by rw [h]

/-- A string's bytes as numbers. -/
def strI (s : ByteArray) : List Int := toI s.data.toList
theorem strI_len (s : ByteArray) : (strI s).length = s.size := by unfold strI; rw [toI_len]; exact Array.length_toList
theorem strI_get (s : ByteArray) (k : Nat) (h : k < s.size) : (strI s).getD k 0 = (s[k].toNat : Int) := by
  have h' : k < s.data.toList.length := by simpa using h
  have e : (toI s.data.toList)[k]? = some ((s.data.toList[k].toNat : Int)) := by simp only [toI, List.getElem?_map, List.getElem?_eq_getElem h', Option.map_some]
  simp only [strI, List.getD, e, Option.getD_some]
  rfl

/-- The bytes l lie at block b from place off on. -/
def BytesAt (w : World) (b off : Nat) (l : List Int) : Prop := ∀ j, j < l.length → w.cell? ⟨b, off + j, none⟩ = some (.int .u8 (l.getD j 0))
theorem BytesAt.below {w w' : World} {b off : Nat} {l : List Int} (h : BytesAt w b off l) (hb : Below w.heap.size w w') : BytesAt w' b off l := by
  intro j hj
  have h0 := h j hj
  rw [hb.cell (World.block_lt_of_cell? _ _ h0), h0]
theorem BytesAt.drop {w : World} {b off : Nat} {l : List Int} (h : BytesAt w b off l) (k : Nat) : BytesAt w b (off + k) (l.drop k) := by
  intro j hj
  have hj' : k + j < l.length := by simp at hj; omega
  have h0 := h (k + j) hj'
  rw [show off + k + j = off + (k + j) from by omega, h0]
  simp [List.getD]
theorem BytesAt.take {w : World} {b off : Nat} {l : List Int} (h : BytesAt w b off l) (k : Nat) : BytesAt w b off (l.take k) := by
  intro j hj
  have hj' : j < l.length ∧ j < k := by simp at hj; omega
  rw [h j hj'.1]
  simp [List.getD, hj'.2]
theorem Row.bytes {w : World} {g : Nat} {l : List Int} (h : Row w g l) : BytesAt w g 0 l := fun j hj => by rw [Nat.zero_add]; exact h.cell hj

theorem mem_getD {l : List Int} {k : Nat} (h : k < l.length) : l.getD k 0 ∈ l := by simp [List.getD, h]
theorem space_yes (s : ByteArray) (k : Nat) (h : k < s.size) (h1 : ((s[k].toNat : Int) == 32) = true) : true = decide (32 ∈ strI s) := by
  symm; rw [decide_eq_true_iff]
  have e : (strI s).getD k 0 = 32 := by rw [strI_get s k h]; simpa using h1
  rw [← e]; exact mem_getD (by rw [strI_len]; exact h)
theorem space_more (s : ByteArray) (k : Nat) (h : k < s.size) (h1 : ((s[k].toNat : Int) == 32) = false) (H : ∀ j, j < k → (strI s).getD j 0 ≠ 32) : ∀ j, j < k + 1 → (strI s).getD j 0 ≠ 32 := by
  intro j hj
  rcases Nat.lt_or_ge j k with g | g
  · exact H j g
  · obtain rfl : j = k := by omega
    rw [strI_get s j h]; simpa using h1
theorem space_no (s : ByteArray) (k : Nat) (h : s.size ≤ k) (H : ∀ j, j < k → (strI s).getD j 0 ≠ 32) : false = decide (32 ∈ strI s) := by
  symm; rw [decide_eq_false_iff_not]
  intro hm
  obtain ⟨j, hj, e⟩ := List.mem_iff_getElem.1 hm
  exact H j (by rw [strI_len] at hj; omega) (by simp [List.getD, hj, e])
theorem index_here {l : List Int} {f k : Nat} {r : Int} (hfk : f ≤ k) (hlt : k < l.length) (h1 : (l[k] == 32) = true) (H : ∀ j, f ≤ j → j < k → l.getD j 0 ≠ 32)
    (hr : (r = -1 ∧ ∀ j, f ≤ j → j < l.length → l.getD j 0 ≠ 32) ∨ (∃ k : Nat, r = k ∧ f ≤ k ∧ k < l.length ∧ l.getD k 0 = 32 ∧ ∀ j, f ≤ j → j < k → l.getD j 0 ≠ 32)) : (k : Int) = r := by
  have e : l.getD k 0 = 32 := by simpa [List.getD, hlt] using h1
  rcases hr with ⟨_, h2⟩ | ⟨k', rfl, h3, h4, h5, h6⟩
  · exact absurd e (h2 k hfk hlt)
  · rcases Nat.lt_trichotomy k k' with g | g | g
    · exact absurd e (h6 k hfk g)
    · rw [g]
    · exact absurd h5 (H k' h3 g)
theorem index_more {l : List Int} {f k : Nat} (hlt : k < l.length) (h1 : (l[k] == 32) = false) (H : ∀ j, f ≤ j → j < k → l.getD j 0 ≠ 32) : ∀ j, f ≤ j → j < k + 1 → l.getD j 0 ≠ 32 := by
  intro j h2 hj
  rcases Nat.lt_or_ge j k with g | g
  · exact H j h2 g
  · obtain rfl : j = k := by omega
    simpa [List.getD, hlt] using h1
theorem index_none {l : List Int} {f k : Nat} {r : Int} (hk : l.length ≤ k) (H : ∀ j, f ≤ j → j < k → l.getD j 0 ≠ 32)
    (hr : (r = -1 ∧ ∀ j, f ≤ j → j < l.length → l.getD j 0 ≠ 32) ∨ (∃ k : Nat, r = k ∧ f ≤ k ∧ k < l.length ∧ l.getD k 0 = 32 ∧ ∀ j, f ≤ j → j < k → l.getD j 0 ≠ 32)) : (-1 : Int) = r := by
  rcases hr with ⟨h, _⟩ | ⟨k', _, h3, h4, h5, _⟩
  · exact h.symm
  · exact absurd h5 (H k' h3 (by omega))

set_option maxHeartbeats 400000 in
theorem hasSpace_any (s : ByteArray) (w : World) (hs : s.size ≤ 1048576) : Calls Tryd.prog 6 #[.string s] w fun e w' => e = .returned (.bool (decide (32 ∈ strI s))) ∧ w' = w := by
  go_enter Tryd.func6, Tryd.ntmps6
  go_wp2
  go_loop [3] (fun v => ∃ k : Nat, k ≤ s.size ∧ v = .int .i64 k ∧ Hid (∀ j, j < k → (strI s).getD j 0 ≠ 32)) (fun v => s.size - (intOf v).toNat)
  case atStart => exact ⟨0, Nat.zero_le _, rfl, fun j hj => by omega⟩
  case round =>
    obtain ⟨k, hk, rfl, H⟩ := hrel
    by_cases hlt : k < s.size
    · go_wp2
      · have h1 : ((s[k].toNat : Int) == 32) = true := by assumption
        go_ret
        exact ⟨ret_bool (space_yes s k hlt h1), rfl⟩
      · have h1 : ((s[k].toNat : Int) == 32) = false := by assumption
        go_round
        case rel => exact ⟨k + 1, by omega, by go_num, space_more s k hlt h1 H.out⟩
        case measure => simp [intOf]; omega
    · go_wp2
      go_ret
      exact ⟨ret_bool (space_no s k (by omega) H.out), rfl⟩

set_option maxHeartbeats 400000 in
theorem indexSpace_any (b off cap : Nat) (l : List Int) (f : Nat) (r : Int) (w : World) (hl : l.length ≤ 4000000) (hc : BytesAt w b off l) (hf : f ≤ l.length)
    (hr : (r = -1 ∧ ∀ j, f ≤ j → j < l.length → l.getD j 0 ≠ 32) ∨ (∃ k : Nat, r = k ∧ f ≤ k ∧ k < l.length ∧ l.getD k 0 = 32 ∧ ∀ j, f ≤ j → j < k → l.getD j 0 ≠ 32)) :
    Calls Tryd.prog 9 #[.slice (some ⟨b, off, none⟩) l.length cap, .int .i64 f] w fun e w' => e = .returned (.int .i64 r) ∧ w' = w := by
  have HC : Hid (BytesAt w b off l) := hc
  have HR : Hid ((r = -1 ∧ ∀ j, f ≤ j → j < l.length → l.getD j 0 ≠ 32) ∨ (∃ k : Nat, r = k ∧ f ≤ k ∧ k < l.length ∧ l.getD k 0 = 32 ∧ ∀ j, f ≤ j → j < k → l.getD j 0 ≠ 32)) := hr
  clear hc hr
  go_enter Tryd.func9, Tryd.ntmps9
  go_wp2
  go_loop [5] (fun v => ∃ k : Nat, f ≤ k ∧ k ≤ l.length ∧ v = .int .i64 k ∧ Hid (∀ j, f ≤ j → j < k → l.getD j 0 ≠ 32)) (fun v => l.length - (intOf v).toNat)
  case atStart => exact ⟨f, Nat.le_refl _, hf, rfl, fun j h1 h2 => by omega⟩
  case round =>
    obtain ⟨k, hfk, hk, rfl, H⟩ := hrel
    by_cases hlt : k < l.length
    · have hcell := HC.out k hlt
      go_wp2
      · have h1 : (l[k] == 32) = true := by assumption
        go_ret
        exact ⟨ret_int (index_here hfk hlt h1 H.out HR.out), rfl⟩
      · have h1 : (l[k] == 32) = false := by assumption
        go_round
        case rel => exact ⟨k + 1, by omega, by omega, by go_num, index_more hlt h1 H.out⟩
        case measure => simp [intOf]; omega
    · go_wp2
      go_ret
      exact ⟨ret_int (index_none (by omega) H.out HR.out), rfl⟩

set_option maxHeartbeats 400000 in
theorem same_any (b off cap : Nat) (s : ByteArray) (w : World) (hs : s.size ≤ 1048576) (hc : BytesAt w b off (strI s)) :
    Calls Tryd.prog 10 #[.slice (some ⟨b, off, none⟩) s.size cap, .string s] w fun e w' => e = .returned (.bool true) ∧ Below w.heap.size w w' := by
  have HC : Hid (BytesAt w b off (strI s)) := hc
  clear hc
  go_enter Tryd.func10, Tryd.ntmps10
  go_wp2
  go_loopw [5] (fun v wr => ∃ k : Nat, k ≤ s.size ∧ v = .int .i64 k ∧ Below w.heap.size w wr) (fun v _ => s.size - (intOf v).toNat)
  case atStart => exact ⟨0, Nat.zero_le _, rfl, Below.refl _ _⟩
  case round =>
    obtain ⟨k, hk, rfl, hb⟩ := hrel
    by_cases hlt : k < s.size
    · have hlt' : (k : Int) < (s.size : Int) := by omega
      have hcell : wr.cell? ⟨b, off + k, none⟩ = some (.int .u8 (s[k].toNat : Int)) := by
        have h0 := HC.out k (by rw [strI_len]; exact hlt)
        rw [hb.cell (World.block_lt_of_cell? _ _ h0), h0, strI_get s k hlt]
      go_wp2
      go_quiet (fail)
      go_wp2
      go_roundw
      case rel => exact ⟨k + 1, by omega, by go_num, below_drewN hb _⟩
      case measure => simp [intOf]; omega
    · have hlt' : ¬ (k : Int) < (s.size : Int) := by omega
      go_wp2
      go_ret
      exact ⟨rfl, hb⟩
end Go.Proofs.Qxb6601029aDoor
