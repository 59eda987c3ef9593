/- The walk of FnMatchExactNamesOnlyBaseTreeWidensAndDescends (function 4): every road returns true. -/
import Derived.Test.Qxb6600890aMatch
namespace Go.Proofs.Qxb6600890a
open Go.RowKit Plain

theorem ext_toList (a c : ByteArray) : (a ++ ⟨#[47]⟩ ++ c).toList = a.toList ++ [47] ++ c.toList := by
  simp [Lib.toList_data]
theorem ext_size (a c : ByteArray) : (a ++ ⟨#[47]⟩ ++ c).size = a.size + 1 + c.size := by
  rw [ByteArray.size_append, ByteArray.size_append]; rfl

set_option maxHeartbeats 400000 in
theorem small4 (a0 a1 a2 : ByteArray) (h0 : a0.size ≤ 65536) (h1 : a1.size ≤ 65536) (h2 : a2.size ≤ 65536) (x y : Bool) (hx : (a1.toList == a0.toList) = x) (hx' : matchB a0.toList a1.toList false = x)
    (hy : matchB a0.toList a1.toList true = y) (hxy : x = true → y = true) (hz : y = true → matchB a0.toList (a1 ++ ⟨#[47]⟩ ++ a2).toList true = true) (w : World) :
    Calls Try.prog 4 #[.string a0, .string a1, .string a2] w fun e w' => e = .returned (.bool true) ∧ Grown w w' := by
  have hs := ext_size a1 a2
  have hs' : (a1 ++ ⟨#[47]⟩ ++ a2).size ≤ 300000 := by omega
  clear hs
  rcases x with _ | _
  · rcases y with _ | _
    · clear hxy hz
      go_enter Try.func4, Try.ntmps4
      go_wp2_with (first | (go_at_call 13; refine (pattern_any _ _ _).mono ?_; rintro e w' ⟨rfl, rfl⟩) | (go_at_call 14; refine (match_any _ _ _ _ (by omega) (by omega)).mono ?_; rintro e w' ⟨rfl, rfl⟩) | go_in)
      go_ret
      exact ⟨rfl, by repeat (first | exact Grown.refl _ | apply Grown.drew | apply Grown.alloc)⟩
    · have hz' := hz rfl
      clear hxy hz
      go_enter Try.func4, Try.ntmps4
      go_wp2_with (first | (go_at_call 13; refine (pattern_any _ _ _).mono ?_; rintro e w' ⟨rfl, rfl⟩) | (go_at_call 14; refine (match_any _ _ _ _ (by omega) (by omega)).mono ?_; rintro e w' ⟨rfl, rfl⟩) | go_in)
      go_ret
      exact ⟨rfl, by repeat (first | exact Grown.refl _ | apply Grown.drew | apply Grown.alloc)⟩
  · have hy' := hxy rfl
    subst hy'
    have hz' := hz rfl
    clear hxy hz
    go_enter Try.func4, Try.ntmps4
    go_wp2_with (first | (go_at_call 13; refine (pattern_any _ _ _).mono ?_; rintro e w' ⟨rfl, rfl⟩) | (go_at_call 14; refine (match_any _ _ _ _ (by omega) (by omega)).mono ?_; rintro e w' ⟨rfl, rfl⟩) | go_in)
    go_ret
    exact ⟨rfl, by repeat (first | exact Grown.refl _ | apply Grown.drew | apply Grown.alloc)⟩

set_option maxHeartbeats 400000 in
theorem great4 (a0 a1 a2 : ByteArray) (w0 : a0.size ≤ maxLen) (w1 : a1.size ≤ maxLen) (w2 : a2.size ≤ maxLen) (h : 65536 < a0.size ∨ 65536 < a1.size ∨ 65536 < a2.size) (w : World) :
    Calls Try.prog 4 #[.string a0, .string a1, .string a2] w fun e w' => e = .returned (.bool true) ∧ Grown w w' := by
  unfold maxLen at w0 w1 w2
  go_enter Try.func4, Try.ntmps4
  go_wp2_with (first | (go_at_call 13; exfalso; omega) | go_in)
  all_goals
    go_ret
    exact ⟨rfl, by repeat (first | exact Grown.refl _ | apply Grown.drew | apply Grown.alloc)⟩
theorem walk4 (a0 : ByteArray) (a1 : ByteArray) (a2 : ByteArray) (w0 : a0.size ≤ maxLen) (w1 : a1.size ≤ maxLen) (w2 : a2.size ≤ maxLen) (w : World) :
    Calls Try.prog 4 #[.string a0, .string a1, .string a2] w fun e w' => e = .returned (.bool true) ∧ Grown w w' := by
  by_cases h0 : a0.size ≤ 65536 ∧ a1.size ≤ 65536 ∧ a2.size ≤ 65536
  · obtain ⟨h0, h1, h2⟩ := h0
    refine small4 a0 a1 a2 h0 h1 h2 _ _ rfl (match_exact _ _) rfl (fun h => ?_) (fun h => ?_) w
    · exact match_same _ _ _ h
    · rw [ext_toList]; exact match_descends _ _ _ h
  · exact great4 a0 a1 a2 w0 w1 w2 (by omega) w
end Go.Proofs.Qxb6600890a
