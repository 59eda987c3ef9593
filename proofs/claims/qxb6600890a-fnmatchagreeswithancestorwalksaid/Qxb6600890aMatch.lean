/- Contracts over seat b6600890a's translation: the bounds test, ZZPattern, Pattern.Match (with strings.HasPrefix entered in place). -/
import Derived.Test.Qxb6600890aRows
import Derived.Test.Qxb6600890aPlain
import Derived.WalkKit
import Derived.WalkSpells
import Derived.WalkLawsBesides
namespace Go.Proofs.Qxb6600890a
open Go.RowKit Plain

theorem ret_bool {a b : Bool} (h : a = b) : Ending.returned (.bool a) = .returned (.bool b) := by rw [h]
theorem len_eq (s : ByteArray) : s.toList.length = s.size := by rw [Lib.toList_data, ← Lib.size_eq]
theorem get_eq (s : ByteArray) (i : Nat) (h : i < s.size) (h' : i < s.toList.length) : s.toList[i] = s[i] := by
  have e : s.toList = s.data.toList := Lib.toList_data s
  simp only [e]; rfl
theorem byte_eq (c : UInt8) (h : (c.toNat : Int) = 47) : c = 47 := by
  apply UInt8.toNat_inj.mp; show c.toNat = 47; omega
theorem byte_ne (c : UInt8) (h : ¬ (c.toNat : Int) = 47) : ¬ c = 47 := by
  intro e; subst e; exact h rfl

theorem m_hit (b s : ByteArray) (t : Bool) (h0 : (s.toList == b.toList) = false) (h1 : (!t) = false) (h2 : (b.toList == [46]) = false) (h3 : b.size < s.size) (h4 : ((s[b.size]).toNat : Int) = 47) :
    ((s.extract 0 b.size).toList == b.toList) = matchB b.toList s.toList t := by
  rw [match_rest _ _ _ h0 h1 h2, below_test _ _ (by simpa [len_eq] using h3)]
  · rw [Lib.extract_toList, len_eq, Lib.toList_data s]; simp
  · simp only [len_eq]; rw [get_eq _ _ h3]; exact byte_eq _ h4
theorem m_other (b s : ByteArray) (t : Bool) (h0 : (s.toList == b.toList) = false) (h1 : (!t) = false) (h2 : (b.toList == [46]) = false) (h3 : b.size < s.size) (h4 : ¬ ((s[b.size]).toNat : Int) = 47) :
    false = matchB b.toList s.toList t := by
  rw [match_rest _ _ _ h0 h1 h2, below_other _ _ (by simpa [len_eq] using h3)]
  simp only [len_eq]; rw [get_eq _ _ h3]; exact byte_ne _ h4
theorem m_short (b s : ByteArray) (t : Bool) (h0 : (s.toList == b.toList) = false) (h1 : (!t) = false) (h2 : (b.toList == [46]) = false) (h3 : ¬ b.size < s.size) :
    false = matchB b.toList s.toList t := by
  rw [match_rest _ _ _ h0 h1 h2, below_short _ _ (by simpa [len_eq] using h3)]
theorem m_exact (b s : ByteArray) (t : Bool) (h0 : (s.toList == b.toList) = false) (h1 : (!t) = true) : false = matchB b.toList s.toList t := by
  have : t = false := by simpa using h1
  subst this
  rw [match_exact, h0]

set_option maxHeartbeats 400000 in
theorem match_any (b s : ByteArray) (t : Bool) (w : World) (_hb : b.size ≤ 65536) (_hs : s.size ≤ 300000) :
    Calls Try.prog 14 #[.agg #[.string b, .bool t], .string s] w fun e w' => e = .returned (.bool (matchB b.toList s.toList t)) ∧ w' = w.alloc (.cells #[.string b, .bool t] 24) := by
  go_enter Try.func14, Try.ntmps14
  go_wp2
  · go_ret
    exact ⟨ret_bool (match_same _ _ _ ‹_›).symm, rfl⟩
  · go_ret
    exact ⟨ret_bool (m_exact _ _ _ ‹_› ‹_›), rfl⟩
  · go_ret
    exact ⟨ret_bool (match_root _ _ _ ‹_› ‹_›).symm, rfl⟩
  · go_ret
    exact ⟨ret_bool (m_hit _ _ _ ‹_› ‹_› ‹_› ‹_› ‹_›), rfl⟩
  · go_ret
    exact ⟨ret_bool (m_other _ _ _ ‹_› ‹_› ‹_› ‹_› ‹_›), rfl⟩
  · go_ret
    exact ⟨ret_bool (m_short _ _ _ ‹_› ‹_› ‹_› ‹_›), rfl⟩

theorem pattern_any (b : ByteArray) (t : Bool) (w : World) :
    Calls Try.prog 13 #[.string b, .bool t] w fun e w' => e = .returned (.agg #[.string b, .bool t]) ∧ w' = w.alloc (.cells #[.string b, .bool t] 24) := by
  go_enter Try.func13, Try.ntmps13
  go_wp2
  exact bodyPost_ret (v := .agg #[.string b, .bool t]) (by simp [results, Try.results13, go_sem]) rfl ⟨rfl, rfl⟩
end Go.Proofs.Qxb6600890a
