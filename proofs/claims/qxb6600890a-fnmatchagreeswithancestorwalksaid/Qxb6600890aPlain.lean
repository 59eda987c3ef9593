/- The plain side of seat b6600890a: what Pattern.Match, lastSlash and matchModel compute, on lists of bytes. No Go in sight. -/
import Derived.Lib.Strings
namespace Go.Proofs.Qxb6600890a.Plain

/-- 's lies strictly below b': b followed by a slash opens s. -/
def belowB (b s : List UInt8) : Bool := (b ++ [47]).isPrefixOf s
/-- What Pattern{b, t}.Match(s) answers. -/
def matchB (b s : List UInt8) (t : Bool) : Bool := (s == b) || (t && ((b == [46]) || belowB b s))

theorem belowB_iff (b s : List UInt8) : belowB b s = true ↔ (b ++ [47]) <+: s := by
  unfold belowB; exact List.isPrefixOf_iff_prefix

theorem below_of (b s : List UInt8) (h1 : b.length < s.length) (h2 : s[b.length] = 47) (h3 : s.take b.length = b) : belowB b s = true := by
  rw [belowB_iff]
  have e : s.take (b.length + 1) = b ++ [47] := by
    rw [List.take_succ_eq_append_getElem h1, h3, h2]
  rw [← e]
  exact List.take_prefix _ _

theorem of_below (b s : List UInt8) (h : belowB b s = true) : ∃ h1 : b.length < s.length, s[b.length] = 47 ∧ s.take b.length = b := by
  rw [belowB_iff] at h
  obtain ⟨r, rfl⟩ := h
  refine ⟨by simp, by simp, by simp⟩

/-! ### Pattern.Match -/
theorem match_same (b s : List UInt8) (t : Bool) (h : (s == b) = true) : matchB b s t = true := by simp [matchB, h]
theorem match_exact (b s : List UInt8) : matchB b s false = (s == b) := by simp [matchB]
theorem match_root (b s : List UInt8) (t : Bool) (h1 : (!t) = false) (h : (b == [46]) = true) : matchB b s t = true := by
  simp at h1; simp [matchB, h, h1]
theorem match_rest (b s : List UInt8) (t : Bool) (h0 : (s == b) = false) (h1 : (!t) = false) (h : (b == [46]) = false) : matchB b s t = belowB b s := by
  simp at h1; simp [matchB, h, h0, h1]
theorem below_test (b s : List UInt8) (h1 : b.length < s.length) (h2 : s[b.length] = 47) : belowB b s = (s.take b.length == b) := by
  rw [Bool.eq_iff_iff]
  constructor
  · intro h; obtain ⟨_, _, h3⟩ := of_below b s h; simp [h3]
  · intro h; exact below_of b s h1 h2 (by simpa using h)
theorem below_other (b s : List UInt8) (h1 : b.length < s.length) (h2 : ¬ s[b.length] = 47) : belowB b s = false := by
  rw [Bool.eq_false_iff]; intro h; obtain ⟨_, h3, _⟩ := of_below b s h; exact h2 h3
theorem below_short (b s : List UInt8) (h1 : ¬ b.length < s.length) : belowB b s = false := by
  rw [Bool.eq_false_iff]; intro h; obtain ⟨h3, _, _⟩ := of_below b s h; exact h1 h3

/-! ### The law on exact and tree patterns -/
theorem match_widens (b s : List UInt8) (h : matchB b s false = true) : matchB b s true = true := by
  rw [match_exact] at h; exact match_same _ _ _ h
theorem match_descends (b s e : List UInt8) (h : matchB b s true = true) : matchB b (s ++ [47] ++ e) true = true := by
  simp only [matchB, Bool.true_and, Bool.or_eq_true] at h ⊢
  rcases h with h | h | h
  · right; right
    have : s = b := by simpa using h
    subst this
    rw [belowB_iff]; exact List.prefix_append _ _
  · right; left; exact h
  · right; right
    rw [belowB_iff] at h ⊢
    rw [List.append_assoc]
    exact h.trans (List.prefix_append _ _)

/-! ### The walk up -/
theorem below_none (b t : List UInt8) (h : ∀ i (hi : i < t.length), t[i] ≠ 47) : belowB b t = false := by
  rw [Bool.eq_false_iff]; intro hb; obtain ⟨h1, h2, _⟩ := of_below b t hb; exact h _ h1 h2
theorem below_up (b t : List UInt8) (j : Nat) (hj : j < t.length) (hl : ∀ i (hi : i < t.length), j < i → t[i] ≠ 47) (hne : (t.take j == b) = false) :
    belowB b t = belowB b (t.take j) := by
  rw [Bool.eq_iff_iff]
  constructor
  · intro h
    obtain ⟨h1, h2, h3⟩ := of_below b t h
    have hle : b.length ≤ j := by
      rcases Nat.lt_or_ge j b.length with g | g
      · exact absurd h2 (hl _ h1 g)
      · exact g
    have hlt : b.length < j := by
      rcases Nat.lt_or_ge b.length j with g | g
      · exact g
      · have : b.length = j := by omega
        rw [this] at h3; simp [h3] at hne
    refine below_of b _ (by simp; omega) (by simp [h2]) ?_
    rw [List.take_take, Nat.min_eq_left (by omega), h3]
  · intro h
    rw [belowB_iff] at h ⊢
    exact h.trans (List.take_prefix _ _)
theorem below_hit (b t : List UInt8) (j : Nat) (hj : j < t.length) (h47 : t[j] = 47) (he : (t.take j == b) = true) : belowB b t = true := by
  have e : t.take j = b := by simpa using he
  have hbl : b.length = j := by rw [← e]; simp; omega
  exact below_of b t (by omega) (by simpa [hbl] using h47) (by rw [hbl, e])
end Go.Proofs.Qxb6600890a.Plain
