/- Over seat b6604027a: zzCarryModel (9). -/
import Derived.Test.Qxb6604027aPrefix
namespace Go.Proofs.Qxb6604027a
open Go.RowKit Plain

/-- The buffer after the bytes from place t on have been added up. -/
def added (l : List Int) (t : Nat) : List Int := l.take t ++ (add1 (l.drop t)).1
theorem added_len (l : List Int) (t : Nat) (h : t ≤ l.length) : (added l t).length = l.length := by
  simp [added, add1_len]; omega
theorem added_full (l : List Int) : added l l.length = l := by simp [added, add1]
theorem added_get (l : List Int) (u : Nat) (h : u < l.length) : (added l (u + 1)).getD u 0 = l.getD u 0 := by
  simp only [added, List.getD]
  rw [List.getElem?_append_left (by simp; omega), List.getElem?_take_of_lt (by omega)]
theorem add1_drop (l : List Int) (u : Nat) (h : u < l.length) : add1 (l.drop u) = ((l.getD u 0 + (add1 (l.drop (u + 1))).2) % 256 :: (add1 (l.drop (u + 1))).1, (l.getD u 0 + (add1 (l.drop (u + 1))).2) / 256) := by
  rw [getD_drop l u h]; rfl
theorem added_set (l : List Int) (u : Nat) (h : u < l.length) : (added l (u + 1)).set u ((l.getD u 0 + (add1 (l.drop (u + 1))).2) % 256) = added l u := by
  unfold added
  rw [add1_drop l u h, List.take_succ_eq_append_getElem h, List.append_assoc, List.set_append_right _ _ (by simp; omega)]
  have e2 : u - (l.take u).length = 0 := by simp; omega
  rw [e2]; rfl

theorem and255 (x : Int) (h0 : 0 ≤ x) (h1 : x < 512) : bits .and .i64 x 255 % 256 = x % 256 := by
  have h := bits_mask .i64 9 (by decide) (fun n h0 h1 => by
    have h2 : n < 512 := by simpa using h1
    rw [IntKind.wrap_i64]; omega) 8 (by decide) x h0 (by simpa using h1)
  have e : ((2 : Int) ^ 8 - 1) = 255 := by decide
  have e' : ((2 : Int) ^ 8) = 256 := by decide
  rw [e, e'] at h
  rw [h]; omega
theorem carry_step {wr : World} {G u : Nat} {l : List Int} {c q : Int} (h : Row wr G (added l (u + 1))) (hlt : u < l.length) (hc : c = l.getD u 0) (hq : q = (add1 (l.drop (u + 1))).2) (h0 : 0 ≤ c + q) (h1 : c + q < 512) : Row (wr.setCell ⟨G, u, none⟩ (.int .u8 (bits .and .i64 (c + q) 255 % 256))) G (added l u) := by
  rw [and255 _ h0 h1]
  have := h.set (j := u) (by rw [added_len l _ (by omega)]; omega) ((l.getD u 0 + (add1 (l.drop (u + 1))).2) % 256)
  rw [added_set l u hlt, ← hc, ← hq] at this
  exact this

theorem trim_more {m e : List Int} {z u : Nat} (hm : m = e ++ List.replicate z 0) (he : e.getD (e.length - 1) 0 ≠ 0) (hk : e.length ≤ u + 1) (h : (m[u]?.getD 0 == 0) = true) : e.length ≤ u := by
  rcases Nat.lt_or_ge u e.length with g | g
  · exfalso
    have e1 : u = e.length - 1 := by omega
    have h' : m[u]?.getD 0 = 0 := by simpa using h
    rw [hm, List.getElem?_append_left g, e1] at h'
    exact he h'
  · exact g
theorem trim_end {w1 : World} {G u : Nat} {l m e : List Int} {z : Nat} (hp : pe l = some e) (hm : m = e ++ List.replicate z 0) (hk : e.length ≤ u + 1) (h : (m[u]?.getD 0 == 0) = false) (hu : u + 1 ≤ l.length) (hz : e.length + z = l.length) (hr : Row w1 G m) :
    EndIs w1 (.slice (some ⟨G, 0, none⟩) (u + 1) l.length) (pe l) := by
  have h' : ¬ m[u]?.getD 0 = 0 := by simpa using h
  have hlen : e.length = u + 1 := by
    rcases Nat.lt_or_ge u e.length with g | g
    · omega
    · exfalso
      apply h'
      rw [hm, List.getElem?_append_right g, List.getElem?_replicate]
      split <;> rfl
  refine Or.inr ⟨e, G, l.length, hp, by rw [hlen], by omega, ?_⟩
  have := hr.take e.length
  rw [hm] at this
  simpa using this

set_option maxHeartbeats 1000000 in
theorem carry_some (g cap : Nat) (l : List Int) (w : World) (hl : l.length ≤ 1048576) (hr : Row w g l) (hx : ∀ c ∈ l, 0 ≤ c ∧ c < 256) :
    Calls Try.prog 9 #[.slice (some ⟨g, 0, none⟩) l.length cap] w fun e w' => ∃ v, e = .returned v ∧ EndIs w' v (pe l) ∧ Below w.heap.size w w' := by
  obtain ⟨i0, hin, hz0, hz1, hz2⟩ := info_parts Try.info5
  have HR : Hid (Row w g l) := hr
  have HX : Hid (∀ c ∈ l, 0 ≤ c ∧ c < 256) := hx
  clear hr hx
  go_enter Try.func9, Try.ntmps9
  go_wp2_with (at_make; refine wpList_make_full _ rfl (.tmp 10) (.tmp 10) 22 rfl w.heap.size 5 i0 (.int .u8 0) 1 Try.underlying22 hin hz0 hz1 .i64 .i64 _ _ l.length rfl rfl rfl rfl (by rw [hz2]; omega) (by unfold maxLen; omega) (Nat.le_refl _) ?_; intro w1 hown1 hgrow1)
  have HR1 : Hid (Row w1 w.heap.size (part l 0)) := by rw [part_zero]; exact made_row hown1
  have hb1 : Below w.heap.size w w1 := (Below.refl _ _).grown hgrow1 (Nat.le_refl _) (fun k h => by cases h)
  clear hown1 hgrow1
  go_loopw [4] (fun i wr => ∃ k : Nat, k ≤ l.length ∧ i = .int .i64 k ∧ Hid (Row wr w.heap.size (part l k)) ∧ Below w.heap.size w wr) (fun i _ => l.length - (intOf i).toNat)
  case atStart => exact ⟨0, Nat.zero_le _, rfl, HR1, hb1⟩
  case round =>
    clear HR1 hb1
    obtain ⟨k, hk, rfl, HRk, hb⟩ := hrel
    by_cases hlt : k < l.length
    · have hsrc : wr.cell? ⟨g, k, none⟩ = some (.int .u8 (l.getD k 0)) := by
        have h0 := HR.out.cell hlt
        rw [hb.cell (World.block_lt_of_cell? _ _ h0), h0]
      have hfr := HRk.out.frozen k
      have R := copy_step HRk.out hlt
      have hdst : wr.cell? ⟨w.heap.size, k, none⟩ = some (.int .u8 ((part l k).getD k 0)) := HRk.out.cell (by rw [part_len l k hk]; exact hlt)
      go_wp2
      go_roundw
      case rel => exact ⟨k + 1, by omega, by go_num, R, hb.setCell (Nat.le_refl _) _⟩
      case measure => simp [intOf]; omega
    · have hkl : k = l.length := by omega
      have HF : Hid (Row wr w.heap.size (added l l.length)) := by have := HRk.out; rw [hkl, part_full] at this; rw [added_full]; exact this
      clear hkl HRk
      obtain ⟨wo, rfl⟩ : ∃ wo : World, wo = wr := ⟨_, rfl⟩
      go_wp2
      go_loopw [5, 6] (fun cr i wr => ∃ t : Nat, t ≤ l.length ∧ i = .int .i64 ((t : Int) - 1) ∧ cr = .int .i64 (add1 (l.drop t)).2 ∧ Hid (Row wr w.heap.size (added l t)) ∧ Below w.heap.size w wr) (fun _ i _ => (intOf i + 1).toNat)
      case atStart => exact ⟨l.length, Nat.le_refl _, rfl, by simp [add1], HF, hb⟩
      case round =>
        clear HF hb hlt hk
        obtain ⟨t, ht, rfl, rfl, HRt, hb⟩ := hrel
        by_cases h0 : t = 0
        · subst h0
          have HA : Hid (Row wr w.heap.size (add1 l).1) := HRt.out
          clear HRt
          rcases add1_spec l HX.out with ⟨h1, h2, h3⟩ | ⟨h1, e, z, h2, h3, h4, h5⟩
          · rw [show (add1 (l.drop 0)).2 = 1 from h1]
            have HP : Hid (pe l = none) := h2
            clear h1 h2 h3
            go_wp2
            go_ret
            exact ⟨_, rfl, Or.inl ⟨HP.out, rfl⟩, hb⟩
          · rw [show (add1 (l.drop 0)).2 = 0 from h1]
            have HP : Hid (pe l = some e) := h2
            have HE : Hid (e ≠ [] ∧ e.getD (e.length - 1) 0 ≠ 0) := ⟨h4, h5⟩
            have HM : Hid ((add1 l).1 = e ++ List.replicate z 0) := h3
            have hez : e.length + z = l.length := by have := add1_len l; rw [h3] at this; simpa using this
            have he0 : 0 < e.length := by cases e with | nil => exact absurd rfl h4 | cons => simp
            have HEZ : Hid (e.length + z = l.length) := hez
            have hel : e.length ≤ l.length := by omega
            clear h1 h2 h3 h4 h5 hez
            go_wp2
            go_loop [8] (fun v => ∃ k : Nat, e.length ≤ k ∧ k ≤ l.length ∧ v = .int .i64 k) (fun v => (intOf v).toNat)
            case atStart => exact ⟨l.length, hel, Nat.le_refl _, rfl⟩
            case round =>
              obtain ⟨k, hk1, hk2, rfl⟩ := hrel
              obtain ⟨u, rfl⟩ : ∃ u, k = u + 1 := ⟨k - 1, by omega⟩
              have hcell : wr.cell? ⟨w.heap.size, u, none⟩ = some (.int .u8 ((add1 l).1.getD u 0)) := HA.out.cell (by rw [add1_len]; omega)
              go_wp2
              · have h1 : ((add1 l).1[u]?.getD 0 == 0) = true := by assumption
                have hu := trim_more HM.out HE.out.2 hk1 h1
                go_round
                case rel => exact ⟨u, hu, by omega, rfl⟩
                case measure => simp [intOf]
              · have h1 : ((add1 l).1[u]?.getD 0 == 0) = false := by assumption
                go_ret
                exact ⟨_, rfl, trim_end HP.out HM.out hk1 h1 hk2 HEZ.out HA.out, hb⟩
        · obtain ⟨u, rfl⟩ : ∃ u, t = u + 1 := ⟨t - 1, by omega⟩
          have hlt : u < l.length := by omega
          have hfr := HRt.out.frozen u
          obtain ⟨c, hc⟩ : ∃ c, c = l.getD u 0 := ⟨_, rfl⟩
          obtain ⟨q, hq⟩ : ∃ q, q = (add1 (l.drop (u + 1))).2 := ⟨_, rfl⟩
          have hcell : wr.cell? ⟨w.heap.size, u, none⟩ = some (.int .u8 c) := by rw [HRt.out.cell (by rw [added_len l _ ht]; omega), added_get l u hlt, hc]
          have hcr : 0 ≤ c ∧ c < 256 := by rw [hc]; exact HX.out _ (by simp [List.getD, hlt])
          have hqr : 0 ≤ q ∧ q ≤ 1 := by rw [hq]; exact add1_carry _ (fun x hx => HX.out x (List.mem_of_mem_drop hx))
          obtain ⟨hc0, hc1⟩ := hcr
          obtain ⟨hq0, hq1⟩ := hqr
          have HCq : Hid (c = l.getD u 0 ∧ q = (add1 (l.drop (u + 1))).2) := ⟨hc, hq⟩
          rw [← hq]
          clear hc hq
          go_wp2
          go_roundw
          case rel => exact ⟨u, by omega, rfl, by rw [add1_drop l u hlt, ← HCq.out.1, ← HCq.out.2], carry_step HRt.out hlt HCq.out.1 HCq.out.2 (by omega) (by omega), hb.setCell (Nat.le_refl _) _⟩
          case measure => simp [intOf]

set_option maxHeartbeats 400000 in
theorem carry_nil (w : World) : Calls Try.prog 9 #[.slice none 0 0] w fun e w' => e = .returned (.slice none 0 0) ∧ Below w.heap.size w w' := by
  obtain ⟨i0, hin, hz0, hz1, hz2⟩ := info_parts Try.info5
  go_enter Try.func9, Try.ntmps9
  go_wp2_with (at_make; refine wpList_make_full _ rfl (.tmp 10) (.tmp 10) 22 rfl w.heap.size 5 i0 (.int .u8 0) 1 Try.underlying22 hin hz0 hz1 .i64 .i64 _ _ 0 rfl rfl rfl rfl (by rw [hz2]; omega) (by unfold maxLen; omega) (Nat.le_refl _) ?_; intro w1 hown1 hgrow1)
  have hb1 : Below w.heap.size w w1 := (Below.refl _ _).grown hgrow1 (Nat.le_refl _) (fun k h => by cases h)
  clear hown1 hgrow1
  refine wp_loop_rounds 1 ?_
  rw [rounds_succ]
  go_wp2
  refine wp_loop_rounds 1 ?_
  rw [rounds_succ]
  go_wp2
  go_ret
  exact ⟨rfl, hb1⟩

/-- zzCarryModel on a slice of the call's own. -/
theorem carry_any {w : World} {v : Value} {l : List Int} (h : Own w v l) (hl : l.length ≤ 1048576) (hx : ∀ c ∈ l, 0 ≤ c ∧ c < 256) :
    Calls Try.prog 9 #[v] w fun e w' => ∃ v', e = .returned v' ∧ EndIs w' v' (pe l) ∧ Below w.heap.size w w' := by
  rcases h with ⟨rfl, rfl⟩ | ⟨g, cap, rfl, h1, h2⟩
  · refine (carry_nil w).mono ?_
    rintro e w' ⟨rfl, hb⟩
    exact ⟨_, rfl, Or.inl ⟨rfl, rfl⟩, hb⟩
  · exact carry_some g cap l w hl h2 hx
end Go.Proofs.Qxb6604027a
