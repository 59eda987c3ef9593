/- Over seat b6601029aD: lwParseInt64 (11). -/
import Derived.Test.Qxb6601029aDoorRead
namespace Go.Proofs.Qxb6601029aDoor
open Go.RowKit Plain

theorem ret_pair {a b : Int} (h : a = b) : Ending.returned (.tuple #[.int .i64 a, .bool true]) = .returned (.tuple #[.int .i64 b, .bool true]) := by rw [h]

set_option maxHeartbeats 1000000 in
theorem parse_pos (b off cap : Nat) (l : List Int) (w : World) (hc : BytesAt w b off l) (h1 : 1 ≤ l.length) (h19 : l.length ≤ 19) (hd : ∀ c ∈ l, 48 ≤ c ∧ c ≤ 57) (hz : 1 < l.length → l.getD 0 0 ≠ 48) (m : Int) (hm : Hid (valI l = m)) (hm0 : 0 ≤ m) (hm1 : m ≤ 9223372036854775807) :
    Calls Tryd.prog 11 #[.slice (some ⟨b, off, none⟩) l.length cap] w fun e w' => e = .returned (.tuple #[.int .i64 m, .bool true]) ∧ w' = w := by
  have HC : Hid (BytesAt w b off l) := hc
  have HD : Hid (∀ c ∈ l, 48 ≤ c ∧ c ≤ 57) := hd
  obtain ⟨c0, hc0⟩ : ∃ c0, c0 = l.getD 0 0 := ⟨_, rfl⟩
  have hcell0 : w.cell? ⟨b, off, none⟩ = some (.int .u8 c0) := by have := hc 0 (by omega); rw [hc0]; simpa using this
  have hr0 : 48 ≤ c0 ∧ c0 ≤ 57 := by rw [hc0]; exact hd _ (mem_getD (by omega))
  obtain ⟨hr00, hr01⟩ := hr0
  have HZ : Hid (1 < l.length → c0 ≠ 48) := by rw [hc0]; exact hz
  clear hc hd hz hc0
  by_cases h48 : (c0 == 48) = true
  · have hl2 : ¬ (1 : Int) < (l.length : Int) := by
      intro h
      exact HZ.out (by omega) (by simpa using h48)
    clear HZ
    go_enter Tryd.func11, Tryd.ntmps11
    go_wp2
    clear hcell0
    go_loop [5, 7] (fun kv mv => ∃ k : Nat, k ≤ l.length ∧ kv = .int .i64 k ∧ mv = .int .u64 (valI (l.take k))) (fun kv _ => l.length - (intOf kv).toNat)
    case atStart => exact ⟨0, Nat.zero_le _, rfl, rfl⟩
    case round =>
      obtain ⟨k, hk, rfl, rfl⟩ := hrel
      by_cases hlt : k < l.length
      · obtain ⟨c, hcd⟩ : ∃ c, c = l.getD k 0 := ⟨_, rfl⟩
        have hcell : w.cell? ⟨b, off + k, none⟩ = some (.int .u8 c) := by rw [hcd]; exact HC.out k hlt
        have hcr : 48 ≤ c ∧ c ≤ 57 := by rw [hcd]; exact HD.out _ (mem_getD hlt)
        obtain ⟨hcr0, hcr1⟩ := hcr
        obtain ⟨q, hq⟩ : ∃ q, q = valI (l.take k) := ⟨_, rfl⟩
        have hqr : 0 ≤ q ∧ q < 1000000000000000000 := by rw [hq]; exact val_small l HD.out k (by omega) (by omega)
        obtain ⟨hq0, hq1⟩ := hqr
        have HV : Hid (valI (l.take (k + 1)) = q * 10 + (c - 48)) := by rw [hq, hcd]; exact val_take l k hlt
        rw [← hq]
        clear hq hcd
        go_wp2
        go_round
        case rel => exact ⟨k + 1, by omega, by go_num, by rw [HV.out]⟩
        case measure => simp [intOf]; omega
      · have hkl : k = l.length := by omega
        have HE : Hid (valI (l.take k) = m) := by rw [hkl, List.take_length]; exact hm
        clear hkl
        rw [HE.out]
        go_wp2
        go_ret2
        exact ⟨rfl, rfl⟩
  · have h48' : (c0 == 48) = false := by simpa using h48
    clear h48 HZ
    go_enter Tryd.func11, Tryd.ntmps11
    go_wp2
    clear hcell0
    go_loop [5, 7] (fun kv mv => ∃ k : Nat, k ≤ l.length ∧ kv = .int .i64 k ∧ mv = .int .u64 (valI (l.take k))) (fun kv _ => l.length - (intOf kv).toNat)
    case atStart => exact ⟨0, Nat.zero_le _, rfl, rfl⟩
    case round =>
      obtain ⟨k, hk, rfl, rfl⟩ := hrel
      by_cases hlt : k < l.length
      · obtain ⟨c, hcd⟩ : ∃ c, c = l.getD k 0 := ⟨_, rfl⟩
        have hcell : w.cell? ⟨b, off + k, none⟩ = some (.int .u8 c) := by rw [hcd]; exact HC.out k hlt
        have hcr : 48 ≤ c ∧ c ≤ 57 := by rw [hcd]; exact HD.out _ (mem_getD hlt)
        obtain ⟨hcr0, hcr1⟩ := hcr
        obtain ⟨q, hq⟩ : ∃ q, q = valI (l.take k) := ⟨_, rfl⟩
        have hqr : 0 ≤ q ∧ q < 1000000000000000000 := by rw [hq]; exact val_small l HD.out k (by omega) (by omega)
        obtain ⟨hq0, hq1⟩ := hqr
        have HV : Hid (valI (l.take (k + 1)) = q * 10 + (c - 48)) := by rw [hq, hcd]; exact val_take l k hlt
        rw [← hq]
        clear hq hcd
        go_wp2
        go_round
        case rel => exact ⟨k + 1, by omega, by go_num, by rw [HV.out]⟩
        case measure => simp [intOf]; omega
      · have hkl : k = l.length := by omega
        have HE : Hid (valI (l.take k) = m) := by rw [hkl, List.take_length]; exact hm
        clear hkl
        rw [HE.out]
        go_wp2
        go_ret2
        exact ⟨rfl, rfl⟩

set_option maxHeartbeats 1000000 in
theorem parse_neg (b off cap n : Nat) (l : List Int) (w : World) (hn : n = l.length + 1) (hc : BytesAt w b off (45 :: l)) (h1 : 1 ≤ l.length) (h19 : l.length ≤ 19) (hd : ∀ c ∈ l, 48 ≤ c ∧ c ≤ 57) (hz : 1 < l.length → l.getD 0 0 ≠ 48) (m : Int) (hm : Hid (valI l = m)) (hm0 : 1 ≤ m) (hm1 : m ≤ 9223372036854775808) :
    Calls Tryd.prog 11 #[.slice (some ⟨b, off, none⟩) n cap] w fun e w' => e = .returned (.tuple #[.int .i64 (-m), .bool true]) ∧ w' = w := by
  have HC : Hid (∀ k, k < l.length → w.cell? ⟨b, off + (1 + k), none⟩ = some (.int .u8 (l.getD k 0))) := fun k hk => by
    have := hc (1 + k) (by simp; omega)
    rw [this, show 1 + k = k + 1 from by omega]; simp [List.getD]
  have HD : Hid (∀ c ∈ l, 48 ≤ c ∧ c ≤ 57) := hd
  have hcell0 : w.cell? ⟨b, off, none⟩ = some (.int .u8 45) := by have := hc 0 (by simp); simpa using this
  obtain ⟨c0, hc0⟩ : ∃ c0, c0 = l.getD 0 0 := ⟨_, rfl⟩
  have hcell1 : w.cell? ⟨b, off + 1, none⟩ = some (.int .u8 c0) := by have := HC.out 0 (by omega); rw [hc0]; simpa using this
  have hr0 : 48 ≤ c0 ∧ c0 ≤ 57 := by rw [hc0]; exact hd _ (mem_getD (by omega))
  obtain ⟨hr00, hr01⟩ := hr0
  have HZ : Hid (1 < l.length → c0 ≠ 48) := by rw [hc0]; exact hz
  have hnlo : l.length + 1 ≤ n := by omega
  have hnhi : n ≤ l.length + 1 := by omega
  clear hc hd hz hc0 hn
  by_cases h48 : (c0 == 48) = true
  · have hl2 : ¬ (1 : Int) < (n : Int) - 1 := by
      intro h
      exact HZ.out (by omega) (by simpa using h48)
    clear HZ
    go_enter Tryd.func11, Tryd.ntmps11
    go_wp2
    clear hcell0 hcell1
    go_loop [5, 7] (fun kv mv => ∃ k : Nat, k ≤ l.length ∧ kv = .int .i64 (1 + (k : Int)) ∧ mv = .int .u64 (valI (l.take k))) (fun kv _ => 1 + l.length - (intOf kv).toNat)
    case atStart => exact ⟨0, Nat.zero_le _, rfl, rfl⟩
    case round =>
      obtain ⟨k, hk, rfl, rfl⟩ := hrel
      by_cases hlt : k < l.length
      · obtain ⟨c, hcd⟩ : ∃ c, c = l.getD k 0 := ⟨_, rfl⟩
        have hcell : w.cell? ⟨b, off + (1 + k), none⟩ = some (.int .u8 c) := by rw [hcd]; exact HC.out k hlt
        have hcr : 48 ≤ c ∧ c ≤ 57 := by rw [hcd]; exact HD.out _ (mem_getD hlt)
        obtain ⟨hcr0, hcr1⟩ := hcr
        obtain ⟨q, hq⟩ : ∃ q, q = valI (l.take k) := ⟨_, rfl⟩
        have hqr : 0 ≤ q ∧ q < 1000000000000000000 := by rw [hq]; exact val_small l HD.out k (by omega) (by omega)
        obtain ⟨hq0, hq1⟩ := hqr
        have HV : Hid (valI (l.take (k + 1)) = q * 10 + (c - 48)) := by rw [hq, hcd]; exact val_take l k hlt
        have hlt' : 1 + (k : Int) < (n : Int) := by omega
        rw [← hq]
        clear hq hcd
        go_wp2
        go_round
        case rel => exact ⟨k + 1, by omega, by go_num, by rw [HV.out]⟩
        case measure => simp [intOf]; omega
      · have hkl : k = l.length := by omega
        have HE : Hid (valI (l.take k) = m) := by rw [hkl, List.take_length]; exact hm
        have hlt' : ¬ 1 + (k : Int) < (n : Int) := by omega
        clear hkl
        rw [HE.out]
        have hmz : (m == 0) = false := by simp; omega
        go_wp2
        go_ret2
        exact ⟨ret_pair (by omega), rfl⟩
  · have h48' : (c0 == 48) = false := by simpa using h48
    clear h48 HZ
    go_enter Tryd.func11, Tryd.ntmps11
    go_wp2
    clear hcell0 hcell1
    go_loop [5, 7] (fun kv mv => ∃ k : Nat, k ≤ l.length ∧ kv = .int .i64 (1 + (k : Int)) ∧ mv = .int .u64 (valI (l.take k))) (fun kv _ => 1 + l.length - (intOf kv).toNat)
    case atStart => exact ⟨0, Nat.zero_le _, rfl, rfl⟩
    case round =>
      obtain ⟨k, hk, rfl, rfl⟩ := hrel
      by_cases hlt : k < l.length
      · obtain ⟨c, hcd⟩ : ∃ c, c = l.getD k 0 := ⟨_, rfl⟩
        have hcell : w.cell? ⟨b, off + (1 + k), none⟩ = some (.int .u8 c) := by rw [hcd]; exact HC.out k hlt
        have hcr : 48 ≤ c ∧ c ≤ 57 := by rw [hcd]; exact HD.out _ (mem_getD hlt)
        obtain ⟨hcr0, hcr1⟩ := hcr
        obtain ⟨q, hq⟩ : ∃ q, q = valI (l.take k) := ⟨_, rfl⟩
        have hqr : 0 ≤ q ∧ q < 1000000000000000000 := by rw [hq]; exact val_small l HD.out k (by omega) (by omega)
        obtain ⟨hq0, hq1⟩ := hqr
        have HV : Hid (valI (l.take (k + 1)) = q * 10 + (c - 48)) := by rw [hq, hcd]; exact val_take l k hlt
        have hlt' : 1 + (k : Int) < (n : Int) := by omega
        rw [← hq]
        clear hq hcd
        go_wp2
        go_round
        case rel => exact ⟨k + 1, by omega, by go_num, by rw [HV.out]⟩
        case measure => simp [intOf]; omega
      · have hkl : k = l.length := by omega
        have HE : Hid (valI (l.take k) = m) := by rw [hkl, List.take_length]; exact hm
        have hlt' : ¬ 1 + (k : Int) < (n : Int) := by omega
        clear hkl
        rw [HE.out]
        have hmz : (m == 0) = false := by simp; omega
        go_wp2
        go_ret2
        exact ⟨ret_pair (by omega), rfl⟩

/-- lwParseInt64 reads strconv's numeral of every int64 back. -/
theorem parse_any (b off cap : Nat) (n : Int) (w : World) (hc : BytesAt w b off (num n)) (h0 : -9223372036854775808 ≤ n) (h1 : n ≤ 9223372036854775807) :
    Calls Tryd.prog 11 #[.slice (some ⟨b, off, none⟩) (num n).length cap] w fun e w' => e = .returned (.tuple #[.int .i64 n, .bool true]) ∧ w' = w := by
  by_cases h : n < 0
  · obtain ⟨u, rfl⟩ : ∃ u : Nat, n = -(u : Int) := ⟨n.natAbs, by omega⟩
    rw [num_neg u (by omega)] at hc ⊢
    exact parse_neg b off cap _ (D u) w (by simp) hc (D_pos u) (D_le u (by omega)) (D_range u) (D_head u) u (D_val u) (by omega) (by omega)
  · obtain ⟨u, rfl⟩ : ∃ u : Nat, n = u := ⟨n.toNat, by omega⟩
    rw [num_nonneg u] at hc ⊢
    exact parse_pos b off cap (D u) w hc (D_pos u) (D_le u (by omega)) (D_range u) (D_head u) u (D_val u) (by omega) (by omega)
end Go.Proofs.Qxb6601029aDoor
