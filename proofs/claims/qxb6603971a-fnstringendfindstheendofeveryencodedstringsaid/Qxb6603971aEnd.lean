/- Contracts over seat b6603971a's translation: stringEnd (16), ZZstringEnd (8), mb1EvenRunQuote (7). -/
import Derived.Test.Qxb6603971aRows
import Derived.Test.Qxb6603971aPlain
import Derived.WalkKit
import Derived.WalkSpells
import Derived.WalkLawsBesides
namespace Go.Proofs.Qxb6603971a
open Go.RowKit Plain

theorem ret_int {k : IntKind} {a b : Int} (h : a = b) : Ending.returned (.int k a) = .returned (.int k b) := by rw [h]

/-- The bytes l lie at block b from place off on. -/
def BytesAt (w : World) (b off : Nat) (l : List Int) : Prop := ∀ j, j < l.length → w.cell? ⟨b, off + j, none⟩ = some (.int .u8 (l.getD j 0))

theorem getD_of {l : List Int} {p : Nat} {c : Int} (hp : p < l.length) (h : (l[p] == c) = true) : l.getD p 0 = c := by simp [List.getD, hp] at h ⊢; exact h
theorem getD_ne {l : List Int} {p : Nat} {c : Int} (hp : p < l.length) (h : (l[p] != c) = true) : l.getD p 0 ≠ c := by simp [List.getD, hp] at h ⊢; exact h
theorem getD_ne' {l : List Int} {p : Nat} {c : Int} (hp : p < l.length) (h : (l[p] == c) = false) : l.getD p 0 ≠ c := by simp [List.getD, hp] at h ⊢; exact h
theorem getD_of' {l : List Int} {p : Nat} {c : Int} (hp : p < l.length) (h : (l[p] != c) = false) : l.getD p 0 = c := by simp [List.getD, hp] at h ⊢; exact h

set_option maxHeartbeats 400000 in
theorem stringEnd_any (b off cap : Nat) (l : List Int) (i q : Nat) (w : World) (hl : l.length ≤ 4000000) (hi : i < l.length) (hc : BytesAt w b off l) (hq : endAt (l.drop (i + 1)) (i + 1) = some q) :
    Calls Try.prog 8 #[.slice (some ⟨b, off, none⟩) l.length cap, .int .i64 i] w fun e w' => e = .returned (.int .i64 q) ∧ w' = w := by
  have HQ : Hid (endAt (l.drop (i + 1)) (i + 1) = some q) := hq
  have HC : Hid (BytesAt w b off l) := hc
  clear hq hc
  go_enter Try.func8, Try.ntmps8
  go_wp2
  go_loop [1] (fun v => ∃ p : Nat, p ≤ l.length ∧ v = .int .i64 p ∧ Hid (endAt (l.drop p) p = some q)) (fun v => l.length - (intOf v).toNat)
  case atStart => exact ⟨i + 1, by omega, by go_num, HQ.out⟩
  case round =>
    obtain ⟨p, hp, rfl, H⟩ := hrel
    have hlt := end_lt H.out
    have hcell := HC.out p hlt
    go_wp2
    · have h1 : (l[p] != 34) = true := by assumption
      have h2 : (l[p] == 92) = true := by assumption
      have hn := end_slash H.out (getD_of hlt h2)
      have hn' := end_lt hn
      go_round
      case rel => exact ⟨p + 2, by omega, by go_num, hn⟩
      case measure => simp [intOf]; omega
    · have h1 : (l[p] != 34) = true := by assumption
      have h2 : (l[p] == 92) = false := by assumption
      have hn := end_plain H.out (getD_ne hlt h1) (getD_ne' hlt h2)
      go_round
      case rel => exact ⟨p + 1, by omega, by go_num, hn⟩
      case measure => simp [intOf]; omega
    · have h1 : (l[p] != 34) = false := by assumption
      have hn := end_quote H.out (getD_of' hlt h1)
      go_ret
      exact ⟨ret_int (by omega), rfl⟩

/-- What mb1EvenRunQuote answers: -1, or the place behind the first quote past i with an even run of backslashes ahead of it. -/
def FirstIs (l : List Int) (i : Nat) (v : Int) : Prop :=
  v = -1 ∨ ∃ T : Nat, v = (i + 1 + T + 1 : Nat) ∧ i + 1 + T < l.length ∧ l.getD (i + 1 + T) 0 = 34 ∧ bs l (i + 1) T % 2 = 0 ∧ ∀ t, t < T → l.getD (i + 1 + t) 0 = 34 → bs l (i + 1) t % 2 = 1

theorem first_more {l : List Int} {i T : Nat} (h : l.getD (i + 1 + T) 0 ≠ 34) (H : ∀ t, t < T → l.getD (i + 1 + t) 0 = 34 → bs l (i + 1) t % 2 = 1) :
    ∀ t, t < T + 1 → l.getD (i + 1 + t) 0 = 34 → bs l (i + 1) t % 2 = 1 := by
  intro t ht hq
  rcases Nat.lt_or_ge t T with g | g
  · exact H t g hq
  · obtain rfl : t = T := by omega
    exact absurd hq h

theorem run_out0 {l : List Int} {i T n : Nat} (h : n + bs l (i + 1) 0 = bs l (i + 1) T) : n = bs l (i + 1) T := by simpa [bs] using h
theorem run_out {l : List Int} {i T n t : Nat} (ht : 0 < t) (h2 : l.getD (i + t) 0 ≠ 92) (h : n + bs l (i + 1) t = bs l (i + 1) T) : n = bs l (i + 1) T := by
  obtain ⟨u, rfl⟩ : ∃ u, t = u + 1 := ⟨t - 1, by omega⟩
  have := bs_miss l (i + 1) u (by rwa [show i + 1 + u = i + (u + 1) from by omega])
  omega
theorem run_in {l : List Int} {i T n t : Nat} (ht : 0 < t) (h2 : l.getD (i + t) 0 = 92) (h : n + bs l (i + 1) t = bs l (i + 1) T) : n + 1 + bs l (i + 1) (t - 1) = bs l (i + 1) T ∧ n + 1 ≤ T := by
  obtain ⟨u, rfl⟩ : ∃ u, t = u + 1 := ⟨t - 1, by omega⟩
  have e := bs_hit l (i + 1) u (by rwa [show i + 1 + u = i + (u + 1) from by omega])
  have := bs_le l (i + 1) T
  have e2 : u + 1 - 1 = u := rfl
  rw [e2]
  omega
theorem first_here {l : List Int} {i T n : Nat} (hlt : i + 1 + T < l.length) (h34 : l.getD (i + 1 + T) 0 = 34) (he : n = bs l (i + 1) T) (h : (((n : Int) % 2) == 0) = true)
    (H : ∀ t, t < T → l.getD (i + 1 + t) 0 = 34 → bs l (i + 1) t % 2 = 1) : FirstIs l i ((i : Int) + 1 + T + 1) := by
  have h' : (n : Int) % 2 = 0 := by simpa using h
  exact Or.inr ⟨T, by omega, hlt, h34, by omega, H⟩
theorem first_odd {l : List Int} {i T n : Nat} (he : n = bs l (i + 1) T) (h : (((n : Int) % 2) == 0) = false)
    (H : ∀ t, t < T → l.getD (i + 1 + t) 0 = 34 → bs l (i + 1) t % 2 = 1) : ∀ t, t < T + 1 → l.getD (i + 1 + t) 0 = 34 → bs l (i + 1) t % 2 = 1 := by
  have h' : ¬ (n : Int) % 2 = 0 := by simpa using h
  intro t ht hq
  rcases Nat.lt_or_ge t T with g | g
  · exact H t g hq
  · obtain rfl : t = T := by omega
    omega

set_option maxHeartbeats 1000000 in
theorem evenRun_any (b off cap : Nat) (l : List Int) (i : Nat) (w : World) (hl : l.length ≤ 4000000) (hi : i < l.length) (hc : BytesAt w b off l) :
    Calls Try.prog 7 #[.slice (some ⟨b, off, none⟩) l.length cap, .int .i64 i] w fun e w' => ∃ v, e = .returned (.int .i64 v) ∧ FirstIs l i v ∧ w' = w := by
  have HC : Hid (BytesAt w b off l) := hc
  clear hc
  go_enter Try.func7, Try.ntmps7
  go_wp2
  go_loop [5] (fun v => ∃ T : Nat, i + 1 + T ≤ l.length ∧ v = .int .i64 ((i : Int) + 1 + T) ∧ Hid (∀ t, t < T → l.getD (i + 1 + t) 0 = 34 → bs l (i + 1) t % 2 = 1)) (fun v => l.length - (intOf v).toNat)
  case atStart => exact ⟨0, by omega, by go_num, fun t ht => by omega⟩
  case round =>
    obtain ⟨T, hT, rfl, H⟩ := hrel
    by_cases hlt : i + 1 + T < l.length
    · have hcell := HC.out (i + 1 + T) hlt
      have hlt' : (i : Int) + 1 + T < (l.length : Int) := by omega
      go_wp2
      · have h1 : (l[i + 1 + T] != 34) = true := by assumption
        go_round
        case rel => exact ⟨T + 1, by omega, by go_num, first_more (getD_ne hlt h1) H.out⟩
        case measure => simp [intOf]; omega
      · have h1 : (l[i + 1 + T] != 34) = false := by assumption
        have H34 : Hid (l.getD (i + 1 + T) 0 = 34) := getD_of' hlt h1
        go_loop [6, 7] (fun r k => ∃ t n : Nat, t ≤ T ∧ n ≤ T ∧ k = .int .i64 ((i : Int) + t) ∧ r = .int .i64 n ∧ Hid (n + bs l (i + 1) t = bs l (i + 1) T)) (fun _ k => (intOf k).toNat)
        case atStart => exact ⟨T, 0, Nat.le_refl _, by omega, by go_num, rfl, by simp [Hid]⟩
        case round =>
          obtain ⟨t, n, ht, hn, rfl, rfl, HR⟩ := hrel
          by_cases h0 : t = 0
          · subst h0
            have hk : ¬ (i : Int) < (i : Int) + ((0 : Nat) : Int) := by omega
            have HE : Hid (n = bs l (i + 1) T) := run_out0 HR.out
            go_wp2
            · have h2 : (((n : Int) % 2) == 0) = true := by assumption
              go_ret
              exact ⟨_, rfl, first_here hlt H34.out HE.out h2 H.out, rfl⟩
            · have h2 : (((n : Int) % 2) == 0) = false := by assumption
              go_round
              case rel => exact ⟨T + 1, by omega, by go_num, first_odd HE.out h2 H.out⟩
              case measure => simp [intOf]; omega
          · have hk : (i : Int) < (i : Int) + (t : Int) := by omega
            have hlt2 : i + t < l.length := by omega
            have hcell2 := HC.out (i + t) hlt2
            go_wp2
            · have h2 : (l[i + t] == 92) = true := by assumption
              have hr := run_in (by omega) (getD_of hlt2 h2) HR.out
              go_round
              case rel => exact ⟨t - 1, n + 1, by omega, hr.2, by rw [show ((i : Int) + t - 1) = (i : Int) + ((t - 1 : Nat) : Int) from by omega], by go_num, hr.1⟩
              case measure => simp [intOf]; omega
            · have h2 : (l[i + t] == 92) = false := by assumption
              have h3 : (((n : Int) % 2) == 0) = true := by assumption
              go_ret
              exact ⟨_, rfl, first_here hlt H34.out (run_out (by omega) (getD_ne' hlt2 h2) HR.out) h3 H.out, rfl⟩
            · have h2 : (l[i + t] == 92) = false := by assumption
              have h3 : (((n : Int) % 2) == 0) = false := by assumption
              go_round
              case rel => exact ⟨T + 1, by omega, by go_num, first_odd (run_out (by omega) (getD_ne' hlt2 h2) HR.out) h3 H.out⟩
              case measure => simp [intOf]; omega
    · have hlt' : ¬ (i : Int) + 1 + T < (l.length : Int) := by omega
      go_wp2
      go_ret
      exact ⟨_, rfl, Or.inl rfl, rfl⟩
end Go.Proofs.Qxb6603971a
