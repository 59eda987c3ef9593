/- The plain side of seat b6601029aD: decimal numerals read back, on lists of numbers. No Go in sight. -/
import Derived.Lib.ItoaNum
import Derived.Lib.ItoaMem
import Derived.Lib.ItoaLen
namespace Go.Proofs.Qxb6601029aDoor.Plain
open Go.Lib

/-- Bytes as numbers. -/
def toI (l : List UInt8) : List Int := l.map fun b => (b.toNat : Int)
theorem toI_len (l : List UInt8) : (toI l).length = l.length := by simp [toI]
theorem toI_append (l r : List UInt8) : toI (l ++ r) = toI l ++ toI r := by simp [toI]
/-- The number that a row of digits spells. -/
def valI (l : List Int) : Int := l.foldl (fun m c => m * 10 + (c - 48)) 0
theorem valI_snoc (l : List Int) (c : Int) : valI (l ++ [c]) = valI l * 10 + (c - 48) := by simp [valI]

def D (u : Nat) : List Int := toI (decDigits u)
theorem digit_val (k : Nat) (h : k < 10) : ((UInt8.ofNat (48 + k)).toNat : Int) = 48 + k := by
  have : (UInt8.ofNat (48 + k)).toNat = (48 + k) % 256 := by simp
  omega
theorem D_small (u : Nat) (h : u < 10) : D u = [48 + (u : Int)] := by
  unfold D; rw [decDigits, dif_pos h]; simp only [toI, List.map_cons, List.map_nil]; rw [digit_val u h]
theorem D_big (u : Nat) (h : ¬ u < 10) : D u = D (u / 10) ++ [48 + ((u % 10 : Nat) : Int)] := by
  have e : decDigits u = decDigits (u / 10) ++ [UInt8.ofNat (48 + u % 10)] := by rw [decDigits, dif_neg h]
  unfold D; rw [e, toI_append]
  congr 1
  simp only [toI, List.map_cons, List.map_nil]; rw [digit_val (u % 10) (by omega)]
theorem D_len (u : Nat) : (D u).length = nDigits u := by unfold D; rw [toI_len, decDigits_length]
theorem D_pos (u : Nat) : 1 ≤ (D u).length := by rw [D_len]; exact nDigits_pos u
theorem D_range (u : Nat) : ∀ c ∈ D u, 48 ≤ c ∧ c ≤ 57 := by
  induction u using Nat.strongRecOn with
  | _ u ih =>
    by_cases h : u < 10
    · rw [D_small u h]; intro c hc; simp at hc; omega
    · rw [D_big u h]; intro c hc
      rcases List.mem_append.1 hc with g | g
      · exact ih (u / 10) (by omega) c g
      · simp at g; omega
theorem D_val (u : Nat) : valI (D u) = u := by
  induction u using Nat.strongRecOn with
  | _ u ih =>
    by_cases h : u < 10
    · rw [D_small u h]; simp [valI]; omega
    · rw [D_big u h, valI_snoc, ih (u / 10) (by omega)]; omega
theorem D_head (u : Nat) (h : 1 < (D u).length) : (D u).getD 0 0 ≠ 48 := by
  induction u using Nat.strongRecOn with
  | _ u ih =>
    by_cases hs : u < 10
    · rw [D_small u hs] at h; simp at h
    · rw [D_big u hs]
      have hp := D_pos (u / 10)
      have e : (D (u / 10) ++ [48 + ((u % 10 : Nat) : Int)]).getD 0 0 = (D (u / 10)).getD 0 0 := by
        simp only [List.getD]; rw [List.getElem?_append_left (by omega)]
      rw [e]
      by_cases h1 : 1 < (D (u / 10)).length
      · exact ih (u / 10) (by omega) h1
      · by_cases h2 : u / 10 < 10
        · rw [D_small _ h2]; simp; omega
        · rw [D_len, nDigits_big h2] at h1; have := nDigits_pos (u / 10 / 10); omega
theorem pow19 : 10 ^ 19 = 10000000000000000000 := by decide
theorem nDigits_le : ∀ (k u : Nat), 1 ≤ k → u < 10 ^ k → nDigits u ≤ k
  | 0, _, h, _ => by omega
  | k + 1, u, _, h => by
    by_cases hs : u < 10
    · rw [nDigits_small hs]; omega
    · rw [nDigits_big hs]
      rw [Nat.pow_succ] at h
      have hk : 1 ≤ k := by
        rcases Nat.lt_or_ge 0 k with g | g
        · exact g
        · obtain rfl : k = 0 := by omega
          simp at h; omega
      have := nDigits_le k (u / 10) hk (by omega)
      omega
theorem D_le (u : Nat) (h : u < 10000000000000000000) : (D u).length ≤ 19 := by rw [D_len]; exact nDigits_le 19 u (by omega) (by rw [pow19]; exact h)

/-- The value of the first k digits stays below 10^k. -/
theorem val_take (l : List Int) (k : Nat) (h : k < l.length) : valI (l.take (k + 1)) = valI (l.take k) * 10 + (l.getD k 0 - 48) := by
  have e : l.take (k + 1) = l.take k ++ [l.getD k 0] := by
    rw [List.take_succ_eq_append_getElem h]; simp [List.getD, h]
  rw [e, valI_snoc]
theorem val_bounds (l : List Int) (hl : ∀ c ∈ l, 48 ≤ c ∧ c ≤ 57) : ∀ k, k ≤ l.length → 0 ≤ valI (l.take k) ∧ valI (l.take k) < 10 ^ k := by
  intro k
  induction k with
  | zero => intro _; simp [valI]
  | succ k ih =>
    intro hk
    have h := ih (by omega)
    have hc := hl (l.getD k 0) (by simp [List.getD, show k < l.length by omega])
    rw [val_take l k (by omega)]
    have e : (10 : Int) ^ (k + 1) = 10 ^ k * 10 := by rw [Int.pow_succ]
    rw [e]
    omega
theorem val_small (l : List Int) (hl : ∀ c ∈ l, 48 ≤ c ∧ c ≤ 57) (k : Nat) (hk : k ≤ l.length) (h18 : k ≤ 18) : 0 ≤ valI (l.take k) ∧ valI (l.take k) < 1000000000000000000 := by
  have h := val_bounds l hl k hk
  have hp : (10 : Int) ^ k ≤ 10 ^ 18 := by
    have : (10 : Nat) ^ k ≤ 10 ^ 18 := Nat.pow_le_pow_right (by decide) h18
    exact_mod_cast this
  have e : (10 : Int) ^ 18 = 1000000000000000000 := by decide
  omega

/-! ### The numeral with its sign -/
/-- strconv's numeral of n, as numbers. -/
def num (n : Int) : List Int := toI (itoa n)
theorem num_nonneg (u : Nat) : num (u : Int) = D u := by unfold num; rw [itoa_nonneg]; rfl
theorem num_neg (u : Nat) (h : 1 ≤ u) : num (-(u : Int)) = 45 :: D u := by unfold num; rw [itoa_neg u h]; rfl
theorem num_noSpace (n : Int) : ∀ c ∈ num n, c ≠ 32 := by
  by_cases h : n < 0
  · obtain ⟨u, rfl⟩ : ∃ u : Nat, n = -(u : Int) := ⟨n.natAbs, by omega⟩
    rw [num_neg u (by omega)]
    intro c hc
    rcases List.mem_cons.1 hc with g | g
    · omega
    · have := D_range u c g; omega
  · obtain ⟨u, rfl⟩ : ∃ u : Nat, n = u := ⟨n.toNat, by omega⟩
    rw [num_nonneg u]
    intro c hc
    have := D_range u c hc; omega
theorem num_len (n : Int) (h0 : -9223372036854775808 ≤ n) (h1 : n ≤ 9223372036854775807) : (num n).length ≤ 20 := by
  by_cases h : n < 0
  · obtain ⟨u, rfl⟩ : ∃ u : Nat, n = -(u : Int) := ⟨n.natAbs, by omega⟩
    rw [num_neg u (by omega)]
    have := D_le u (by omega)
    simp; omega
  · obtain ⟨u, rfl⟩ : ∃ u : Nat, n = u := ⟨n.toNat, by omega⟩
    rw [num_nonneg u]
    have := D_le u (by omega)
    omega
end Go.Proofs.Qxb6601029aDoor.Plain
