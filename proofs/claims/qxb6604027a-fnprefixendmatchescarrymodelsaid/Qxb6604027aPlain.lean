/- The plain side of seat b6604027a: the first key after all that begin with given bytes, big-endian increment, lexicographic order, on lists of numbers. No Go in sight. -/
import Derived.Lib.Strings
namespace Go.Proofs.Qxb6604027a.Plain

/-- The first key after every key that begins with l: none where l is all 255. -/
def pe : List Int → Option (List Int)
  | [] => none
  | c :: r => match pe r with
    | some e => some (c :: e)
    | none => if c = 255 then none else some [c + 1]

theorem pe_all (l : List Int) (h : ∀ c ∈ l, c = 255) : pe l = none := by
  induction l with
  | nil => rfl
  | cons c r ih => simp only [pe, ih (fun x hx => h x (by simp [hx]))]; rw [if_pos (h c (by simp))]
theorem pe_at (a r : List Int) (c : Int) (hr : pe r = none) (hc : c ≠ 255) : pe (a ++ c :: r) = some (a ++ [c + 1]) := by
  induction a with
  | nil => simp [pe, hr, hc]
  | cons x a ih => simp [pe, ih]
theorem pe_lt (l e : List Int) (h : pe l = some e) : e ≠ [] ∧ e.length ≤ l.length := by
  induction l generalizing e with
  | nil => simp [pe] at h
  | cons c r ih =>
    simp only [pe] at h
    split at h
    · rename_i e' he
      cases h
      have := ih e' he
      exact ⟨by simp, by simp; exact this.2⟩
    · split at h
      · cases h
      · cases h; simp

/-! ### The scan from the end (prefixEnd) -/
theorem getD_drop (l : List Int) (t : Nat) (h : t < l.length) : l.drop t = l.getD t 0 :: l.drop (t + 1) := by
  rw [List.drop_eq_getElem_cons h]; simp [List.getD, h]
theorem pe_more (l : List Int) (t : Nat) (ht : t < l.length) (hc : l.getD t 0 = 255) (h : pe (l.drop (t + 1)) = none) : pe (l.drop t) = none := by
  rw [getD_drop l t ht, hc]; simp [pe, h]
theorem pe_here (l : List Int) (t : Nat) (ht : t < l.length) (hc : l.getD t 0 ≠ 255) (h : pe (l.drop (t + 1)) = none) : pe l = some (l.take t ++ [l.getD t 0 + 1]) := by
  have e : l = l.take t ++ l.getD t 0 :: l.drop (t + 1) := by rw [← getD_drop l t ht]; simp
  have := pe_at (l.take t) (l.drop (t + 1)) (l.getD t 0) h hc
  rwa [← e] at this

/-! ### Adding one with carry -/
def add1 : List Int → List Int × Int
  | [] => ([], 1)
  | c :: r => ((c + (add1 r).2) % 256 :: (add1 r).1, (c + (add1 r).2) / 256)
theorem add1_len (l : List Int) : (add1 l).1.length = l.length := by
  induction l with
  | nil => rfl
  | cons c r ih => simp [add1, ih]
theorem add1_spec (l : List Int) (hl : ∀ c ∈ l, 0 ≤ c ∧ c < 256) :
    ((add1 l).2 = 1 ∧ pe l = none ∧ (add1 l).1 = List.replicate l.length 0) ∨
    ((add1 l).2 = 0 ∧ ∃ e z, pe l = some e ∧ (add1 l).1 = e ++ List.replicate z 0 ∧ e ≠ [] ∧ e.getD (e.length - 1) 0 ≠ 0) := by
  induction l with
  | nil => exact Or.inl ⟨rfl, rfl, rfl⟩
  | cons c r ih =>
    have hc := hl c (by simp)
    rcases ih (fun x hx => hl x (by simp [hx])) with ⟨h1, h2, h3⟩ | ⟨h1, e, z, h2, h3, h4, h5⟩
    · by_cases h255 : c = 255
      · subst h255
        left
        refine ⟨by simp [add1, h1], by simp [pe, h2], by simp [add1, h1, h3, List.replicate_succ]⟩
      · right
        refine ⟨by simp only [add1, h1]; omega, [c + 1], r.length, by simp [pe, h2, h255], ?_, by simp, by simp; omega⟩
        simp only [add1, h1, h3, List.singleton_append, List.cons.injEq, and_true]
        omega
    · right
      refine ⟨by simp only [add1, h1]; omega, c :: e, z, by simp [pe, h2], ?_, by simp, ?_⟩
      · simp only [add1, h1, h3, List.cons_append, List.cons.injEq, and_true]
        omega
      · obtain ⟨x, y, rfl⟩ : ∃ x y, e = x :: y := by cases e with | nil => exact absurd rfl h4 | cons x y => exact ⟨x, y, rfl⟩
        simpa using h5
theorem add1_carry (l : List Int) (hl : ∀ c ∈ l, 0 ≤ c ∧ c < 256) : 0 ≤ (add1 l).2 ∧ (add1 l).2 ≤ 1 := by
  rcases add1_spec l hl with ⟨h, _⟩ | ⟨h, _⟩ <;> omega

/-! ### Lexicographic order -/
def cmpL : List Int → List Int → Int
  | [], [] => 0
  | [], _ :: _ => -1
  | _ :: _, [] => 1
  | a :: r, b :: s => if a < b then -1 else if b < a then 1 else cmpL r s
theorem cmpL_nil (l : List Int) : 0 ≤ cmpL l [] := by cases l <;> simp [cmpL]
theorem cmp_lt (l r : List Int) (i : Nat) (h1 : i < l.length) (h2 : i < r.length) (h : l.getD i 0 < r.getD i 0) : cmpL (l.drop i) (r.drop i) = -1 := by
  rw [getD_drop l i h1, getD_drop r i h2]; simp only [cmpL, if_pos h]
theorem cmp_gt (l r : List Int) (i : Nat) (h1 : i < l.length) (h2 : i < r.length) (h : r.getD i 0 < l.getD i 0) : cmpL (l.drop i) (r.drop i) = 1 := by
  rw [getD_drop l i h1, getD_drop r i h2]; simp only [cmpL]; rw [if_neg (by omega), if_pos h]
theorem cmp_eq (l r : List Int) (i : Nat) (h1 : i < l.length) (h2 : i < r.length) (h : ¬ l.getD i 0 < r.getD i 0) (h' : ¬ r.getD i 0 < l.getD i 0) : cmpL (l.drop i) (r.drop i) = cmpL (l.drop (i + 1)) (r.drop (i + 1)) := by
  rw [getD_drop l i h1, getD_drop r i h2]; simp only [cmpL]; rw [if_neg h, if_neg h']
theorem cmp_end (l r : List Int) (i : Nat) (h : l.length ≤ i ∨ r.length ≤ i) (h1 : i ≤ l.length) (h2 : i ≤ r.length) : cmpL (l.drop i) (r.drop i) = if l.length < r.length then -1 else if r.length < l.length then 1 else 0 := by
  rcases Nat.lt_or_ge i l.length with g | g
  · rw [getD_drop l i g, List.drop_eq_nil_of_le (by omega : r.length ≤ i), if_neg (by omega), if_pos (by omega)]; rfl
  · rw [List.drop_eq_nil_of_le g]
    rcases Nat.lt_or_ge i r.length with g' | g'
    · rw [getD_drop r i g', if_pos (by omega)]; rfl
    · rw [List.drop_eq_nil_of_le g', if_neg (by omega), if_neg (by omega)]; rfl

theorem cmp_cons_lt (a b : Int) (r s : List Int) (h : a < b) : cmpL (a :: r) (b :: s) = -1 := by simp only [cmpL, if_pos h]
theorem cmp_cons_gt (a b : Int) (r s : List Int) (h : b < a) : cmpL (a :: r) (b :: s) = 1 := by simp only [cmpL]; rw [if_neg (by omega), if_pos h]
theorem cmp_cons_eq (a : Int) (r s : List Int) : cmpL (a :: r) (a :: s) = cmpL r s := by simp [cmpL]

/-- A key begins with p exactly when p ≤ k and k lies below the end, where there is one. -/
theorem range (p k : List Int) (hp : ∀ c ∈ p, c ≤ 255) (hk : ∀ c ∈ k, c ≤ 255) :
    p.isPrefixOf k = (decide (0 ≤ cmpL k p) && (match pe p with | none => true | some e => decide (cmpL k e < 0))) := by
  induction p generalizing k with
  | nil => simp [pe, cmpL_nil]
  | cons c r ih =>
    cases k with
    | nil => simp [cmpL]
    | cons d s =>
      have IH := ih s (fun x hx => hp x (by simp [hx])) (fun x hx => hk x (by simp [hx]))
      have hd := hk d (by simp)
      by_cases h1 : d < c
      · have hne : (c == d) = false := by simp; omega
        simp [cmpL, h1, List.isPrefixOf, hne]
      · by_cases h2 : c < d
        · have hne : (c == d) = false := by simp; omega
          have e1 : cmpL (d :: s) (c :: r) = 1 := by simp only [cmpL]; rw [if_neg h1, if_pos h2]
          rw [e1]
          simp only [List.isPrefixOf, hne, Bool.false_and]
          have : (match pe (c :: r) with | none => true | some e => decide (cmpL (d :: s) e < 0)) = false := by
            simp only [pe]
            cases hpe : pe r with
            | some e => simp [cmp_cons_gt d c s e h2]
            | none =>
              have hc : c ≠ 255 := by omega
              simp only [if_neg hc]
              rcases Int.lt_or_eq_of_le (show c + 1 ≤ d by omega) with g | g
              · simp [cmp_cons_gt d (c + 1) s [] g]
              · rw [← g]
                have := cmpL_nil s
                simp [cmp_cons_eq]; omega
          rw [this]; simp
        · obtain rfl : c = d := by omega
          have e1 : cmpL (c :: s) (c :: r) = cmpL s r := by simp [cmpL]
          rw [e1]
          simp only [List.isPrefixOf, beq_self_eq_true, Bool.true_and, IH]
          congr 1
          simp only [pe]
          cases hpe : pe r with
          | some e => simp [cmpL]
          | none =>
            by_cases hc : c = 255
            · simp [hc]
            · simp [hc, cmp_cons_lt c (c + 1) s [] (by omega)]
end Go.Proofs.Qxb6604027a.Plain
