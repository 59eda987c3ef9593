/- The plain side of seat b6603971a: where a JSON string ends, on lists of numbers. No Go in sight. -/
import Derived.Lib.Strings
namespace Go.Proofs.Qxb6603971a.Plain

/-- The scan of stringEnd over what is left, p the place of its first byte: the place behind the closing quote. -/
def endAt : List Int → Nat → Option Nat
  | [], _ => none
  | [c], p => if c = 34 then some (p + 1) else none
  | c :: d :: r, p => if c = 34 then some (p + 1) else if c = 92 then endAt r (p + 2) else endAt (d :: r) (p + 1)

theorem endAt_quote (r : List Int) (p : Nat) : endAt (34 :: r) p = some (p + 1) := by
  cases r <;> simp [endAt]
theorem endAt_slash (d : Int) (r : List Int) (p : Nat) : endAt (92 :: d :: r) p = endAt r (p + 2) := by
  simp [endAt]
theorem endAt_plain (c : Int) (r : List Int) (p : Nat) (h1 : c ≠ 34) (h2 : c ≠ 92) : endAt (c :: r) p = endAt r (p + 1) := by
  cases r with
  | nil => simp [endAt, h1]
  | cons d r => simp [endAt, h1, h2]

/-! ### The scan at a place of a list -/
theorem drop_at (l : List Int) (p : Nat) (hp : p < l.length) : l.drop p = l.getD p 0 :: l.drop (p + 1) := by
  rw [List.drop_eq_getElem_cons hp]; simp [List.getD, hp]
theorem end_lt {l : List Int} {p q : Nat} (h : endAt (l.drop p) p = some q) : p < l.length := by
  rcases Nat.lt_or_ge p l.length with g | g
  · exact g
  · rw [List.drop_eq_nil_of_le g] at h; simp [endAt] at h
theorem end_quote {l : List Int} {p q : Nat} (h : endAt (l.drop p) p = some q) (hc : l.getD p 0 = 34) : q = p + 1 := by
  have hp := end_lt h
  rw [drop_at l p hp, hc, endAt_quote] at h
  simpa using h.symm
theorem end_plain {l : List Int} {p q : Nat} (h : endAt (l.drop p) p = some q) (h1 : l.getD p 0 ≠ 34) (h2 : l.getD p 0 ≠ 92) : endAt (l.drop (p + 1)) (p + 1) = some q := by
  have hp := end_lt h
  rwa [drop_at l p hp, endAt_plain _ _ _ h1 h2] at h
theorem end_slash {l : List Int} {p q : Nat} (h : endAt (l.drop p) p = some q) (h2 : l.getD p 0 = 92) : endAt (l.drop (p + 2)) (p + 2) = some q := by
  have hp := end_lt h
  rw [drop_at l p hp, h2] at h
  rcases Nat.lt_or_ge (p + 1) l.length with g | g
  · rwa [drop_at l (p + 1) g, endAt_slash] at h
  · rw [List.drop_eq_nil_of_le (by omega)] at h; simp [endAt] at h

/-! ### Runs of backslashes -/
/-- How many backslashes stand right before place t, counted no further back than place i. -/
def bs (l : List Int) (i : Nat) : Nat → Nat
  | 0 => 0
  | t + 1 => if l.getD (i + t) 0 = 92 then bs l i t + 1 else 0
theorem bs_hit (l : List Int) (i t : Nat) (h : l.getD (i + t) 0 = 92) : bs l i (t + 1) = bs l i t + 1 := by simp only [bs, if_pos h]
theorem bs_miss (l : List Int) (i t : Nat) (h : l.getD (i + t) 0 ≠ 92) : bs l i (t + 1) = 0 := by simp only [bs, if_neg h]
theorem bs_le (l : List Int) (i t : Nat) : bs l i t ≤ t := by
  induction t with
  | zero => simp [bs]
  | succ t ih => simp only [bs]; split <;> omega

/-- The first quote from place i on with an even run ahead of it ends the scan that begins at place i. -/
theorem end_first (l : List Int) (i T : Nat) (hT : i + T < l.length) (hq : l.getD (i + T) 0 = 34) (he : bs l i T % 2 = 0)
    (ho : ∀ t, t < T → l.getD (i + t) 0 = 34 → bs l i t % 2 = 1) :
    ∀ n s, T - s ≤ n → s ≤ T → bs l i s % 2 = 0 → endAt (l.drop (i + s)) (i + s) = some (i + T + 1) := by
  intro n
  induction n with
  | zero =>
    intro s h1 h2 h3
    obtain rfl : s = T := by omega
    rw [drop_at l _ hT, hq, endAt_quote]
  | succ n ih =>
    intro s h1 h2 h3
    by_cases h34 : l.getD (i + s) 0 = 34
    · have hs : s = T := by
        rcases Nat.lt_or_ge s T with g | g
        · have := ho s g h34; omega
        · omega
      subst hs
      rw [drop_at l _ hT, hq, endAt_quote]
    · have hs : s < T := by
        rcases Nat.lt_or_ge s T with g | g
        · exact g
        · obtain rfl : s = T := by omega
          exact absurd hq h34
      rw [drop_at l (i + s) (by omega)]
      by_cases h92 : l.getD (i + s) 0 = 92
      · have e1 := bs_hit l i s h92
        have hs1 : s + 1 < T := by
          rcases Nat.lt_or_ge (s + 1) T with g | g
          · exact g
          · obtain rfl : T = s + 1 := by omega
            omega
        have hlt : i + s + 1 < l.length := by omega
        rw [h92, drop_at l (i + s + 1) hlt, endAt_slash]
        have h4 : bs l i (s + 2) % 2 = 0 := by
          by_cases g : l.getD (i + (s + 1)) 0 = 92
          · have e2 : bs l i (s + 2) = bs l i (s + 1) + 1 := bs_hit l i (s + 1) g
            omega
          · have e2 : bs l i (s + 2) = 0 := bs_miss l i (s + 1) g
            omega
        exact ih (s + 2) (by omega) (by omega) h4
      · rw [endAt_plain _ _ _ h34 h92]
        exact ih (s + 1) (by omega) (by omega) (by rw [bs_miss l i s h92])
theorem end_first0 (l : List Int) (i T : Nat) (hT : i + T < l.length) (hq : l.getD (i + T) 0 = 34) (he : bs l i T % 2 = 0)
    (ho : ∀ t, t < T → l.getD (i + t) 0 = 34 → bs l i t % 2 = 1) : endAt (l.drop i) i = some (i + T + 1) :=
  end_first l i T hT hq he ho T 0 (by omega) (by omega) rfl

/-! ### Encoded strings -/
def hexD (x : Nat) : Int := if x % 16 < 10 then 48 + (x % 16 : Nat) else 87 + (x % 16 : Nat)
theorem hexD_ne (x : Nat) : hexD x ≠ 34 ∧ hexD x ≠ 92 := by
  unfold hexD; split <;> constructor <;> omega
/-- What mb1Quote writes for one byte. -/
def esc (c : Int) : List Int :=
  if c = 34 then [92, 34] else if c = 92 then [92, 92] else if c < 32 then [92, 117, 48, 48, hexD (c.toNat / 16), hexD c.toNat] else [c]
def quoted (s : List Int) : List Int := 34 :: (s.flatMap esc ++ [34])
theorem esc_len (c : Int) : (esc c).length ≤ 6 := by unfold esc; split; · simp
                                                     split; · simp
                                                     split <;> simp
theorem body_len (s : List Int) : (s.flatMap esc).length ≤ 6 * s.length := by
  induction s with
  | nil => simp
  | cons c s ih => have := esc_len c; simp only [List.flatMap_cons, List.length_append, List.length_cons]; omega
theorem quoted_len (s : List Int) : (quoted s).length = (s.flatMap esc).length + 2 := by simp [quoted]

theorem end_esc (c : Int) (r : List Int) (p : Nat) : endAt (esc c ++ r) p = endAt r (p + (esc c).length) := by
  unfold esc
  split
  · rw [List.cons_append, List.cons_append, endAt_slash]; rfl
  · rename_i h1
    split
    · rw [List.cons_append, List.cons_append, endAt_slash]; rfl
    · rename_i h2
      split
      · have a := hexD_ne (c.toNat / 16)
        have b := hexD_ne c.toNat
        simp only [List.cons_append, List.nil_append]
        rw [endAt_slash, endAt_plain _ _ _ (by omega) (by omega), endAt_plain _ _ _ (by omega) (by omega), endAt_plain _ _ _ a.1 a.2, endAt_plain _ _ _ b.1 b.2]
        rfl
      · rw [List.cons_append, endAt_plain _ _ _ h1 h2]; rfl
theorem end_body (s r : List Int) (p : Nat) : endAt (s.flatMap esc ++ (34 :: r)) p = some (p + (s.flatMap esc).length + 1) := by
  induction s generalizing p with
  | nil => simp [endAt_quote]
  | cons c s ih =>
    rw [List.flatMap_cons, List.append_assoc, end_esc, ih]
    simp only [List.length_append]
    congr 1; omega
theorem end_quoted (a s z : List Int) : endAt ((a ++ (quoted s ++ z)).drop (a.length + 1)) (a.length + 1) = some (a.length + (quoted s).length) := by
  have e : (a ++ (quoted s ++ z)).drop (a.length + 1) = s.flatMap esc ++ (34 :: z) := by
    rw [List.drop_append]; simp [quoted]
  rw [e, end_body, quoted_len]
  congr 1; omega
end Go.Proofs.Qxb6603971a.Plain
