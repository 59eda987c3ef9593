/- Contracts over seat b6603971a: mb1Hex (17), mb1Quote (10). -/
import Derived.Test.Qxb6603971aFirst
namespace Go.Proofs.Qxb6603971a
open Go.RowKit Plain

theorem hex_tab : ∀ k : Fin 16, ((({ data := #[48, 49, 50, 51, 52, 53, 54, 55, 56, 57, 97, 98, 99, 100, 101, 102] } : ByteArray)[k.val]'k.isLt).toNat : Int) = hexD k.val := by decide
theorem hexD_mod (n : Nat) : hexD (n % 16) = hexD n := by simp [hexD]
theorem hex_any (n : Nat) (hn : n < 256) (w : World) : Calls Try.prog 17 #[.int .u8 n] w fun e w' => e = .returned (.int .u8 (hexD n)) ∧ w' = w := by
  go_enter Try.func17, Try.ntmps17
  go_wp2
  go_ret
  exact ⟨ret_int (by rw [← hexD_mod n, ← hex_tab ⟨n % 16, by omega⟩]), rfl⟩

theorem hex_at (x : Int) (n : Nat) (hx : x = n) (hn : n < 256) (w : World) : Calls Try.prog 17 #[.int .u8 x] w fun e w' => e = .returned (.int .u8 (hexD n)) ∧ w = w' := by
  subst hx; exact (hex_any n hn w).mono fun _ _ h => ⟨h.1, h.2.symm⟩

/-- What stands in the buffer after k bytes of l. -/
def soFar (l : List Int) (k : Nat) : List Int := 34 :: (l.take k).flatMap esc
theorem soFar_len (l : List Int) (k : Nat) (h : k ≤ l.length) : (soFar l k).length ≤ 1 + 6 * k := by
  have := body_len (l.take k)
  simp only [soFar, List.length_cons]
  have e : (l.take k).length = k := by simp; omega
  omega
theorem soFar_succ (l : List Int) (k : Nat) (h : k < l.length) : soFar l (k + 1) = soFar l k ++ esc (l.getD k 0) := by
  have e : l.take (k + 1) = l.take k ++ [l.getD k 0] := by
    rw [List.take_succ_eq_append_getElem h]; simp [List.getD, h]
  simp [soFar, e]

/-- The cells of a new block. -/
theorem new_cells (w : World) (vs : List Value) (t : TypeId) : ∀ j u, vs[j]? = some u → (w.alloc (.cells vs.toArray t)).cell? (Addr.add ⟨w.heap.size, 0, none⟩ j) = some u := by
  intro j u hj
  have hh : (w.alloc (.cells vs.toArray t)).heap[w.heap.size]? = some (.cells vs.toArray t) := heap_alloc_new w _
  rw [Addr.add_lit]
  simp only [World.cell?, hh]
  simpa using hj
/-- The buffer at block g holds the bytes l, with room for cap. -/
def Buf (B : Nat) (w : World) (g cap : Nat) (l : List Int) : Prop := w.ownsRow B 5 1 (.slice (some ⟨g, 0, none⟩) l.length cap) l.length (l.map (Value.int .u8))
theorem Buf.mk0 {B : Nat} {w : World} {g cap : Nat} (h : w.ownsRow B 5 1 (.slice (some ⟨g, 0, none⟩) 0 cap) 0 []) : Buf B w g cap [] := h
theorem Buf.more {B : Nat} {w : World} {g cap m : Nat} {l r : List Int} (hm : r.length = m) (h : w.ownsRow B 5 1 (.slice (some ⟨g, 0, none⟩) (l.length + m) cap) (l.length + m) (l.map (Value.int .u8) ++ r.map (Value.int .u8))) : Buf B w g cap (l ++ r) := by
  unfold Buf; rw [List.length_append, hm, List.map_append]; exact h
theorem Buf.bytes {B : Nat} {w : World} {g cap : Nat} {l : List Int} (h : Buf B w g cap l) : BytesAt w g 0 l := by
  intro j hj
  obtain ⟨_, h | ⟨g', c, cur, hv, _, hh, _, _, hs, ht⟩⟩ := h
  · cases h.1
  · cases hv
    have e : cur.toList[j]? = some (Value.int .u8 (l.getD j 0)) := by
      have : (cur.toList.take (l.length * 1))[j]? = some (Value.int .u8 (l.getD j 0)) := by rw [ht]; simp [hj]
      rwa [List.getElem?_take_of_lt (by omega)] at this
    simp only [World.cell?, hh]
    simpa using e

theorem step_ok {w wr w2 : World} {l r : List Int} {k m cap : Nat} {c : Int} (hd : soFar l (k + 1) = soFar l k ++ esc c) (hr : esc c = r) (hm : r.length = m) (hb : Below w.heap.size w wr) {o : Obj}
    (hown : w2.ownsRow w.heap.size 5 1 (.slice (some ⟨w.heap.size, 0, none⟩) ((soFar l k).length + m) cap) ((soFar l k).length + m) ((soFar l k).map (Value.int .u8) ++ r.map (Value.int .u8))) (hgrow : (wr.alloc o).grownBy w2 (some w.heap.size)) :
    Value.slice (some ⟨w.heap.size, 0, none⟩) ((soFar l k).length + m) cap = .slice (some ⟨w.heap.size, 0, none⟩) (soFar l (k + 1)).length cap ∧ Hid (Buf w.heap.size w2 w.heap.size cap (soFar l (k + 1))) ∧ Below w.heap.size w w2 := by
  refine ⟨by rw [hd, hr, List.length_append, hm], ?_, (hb.alloc hb.size _).grown hgrow (by have := hb.size; simp; omega) (fun k h => by cases h; exact Nat.le_refl _)⟩
  rw [hd, hr]
  exact Buf.more hm hown

theorem esc_low (n : Nat) (h1 : ¬ (n : Int) = 34) (h2 : ¬ (n : Int) = 92) (h3 : (n : Int) < 32) : esc n = [92, 117, 48, 48, hexD (n / 16), hexD n] := by
  simp [esc, h1, h2, h3]
theorem quoted_eq (l : List Int) : Plain.quoted l = soFar l l.length ++ [34] := by simp [Plain.quoted, soFar]
theorem end_ok {w wr w2 : World} {l : List Int} {k cap : Nat} (hd : Plain.quoted l = soFar l k ++ [34]) (hb : Below w.heap.size w wr) {o : Obj}
    (hown : w2.ownsRow w.heap.size 5 1 (.slice (some ⟨w.heap.size, 0, none⟩) ((soFar l k).length + 1) cap) ((soFar l k).length + 1) ((soFar l k).map (Value.int .u8) ++ [.int .u8 34])) (hgrow : (wr.alloc o).grownBy w2 (some w.heap.size)) :
    Ending.returned (.slice (some ⟨w.heap.size, 0, none⟩) ((soFar l k).length + 1) cap) = .returned (.slice (some ⟨w.heap.size, 0, none⟩) (Plain.quoted l).length cap) ∧ BytesAt w2 w.heap.size 0 (Plain.quoted l) ∧ Below w.heap.size w w2 := by
  refine ⟨by rw [hd, List.length_append]; rfl, ?_, (hb.alloc hb.size _).grown hgrow (by have := hb.size; simp; omega) (fun k h => by cases h; exact Nat.le_refl _)⟩
  rw [hd]
  exact Buf.bytes (Buf.more (r := [34]) rfl hown)

set_option maxHeartbeats 1000000 in
theorem quote_some (b off cap : Nat) (l : List Int) (w : World) (hl : l.length ≤ 65536) (hc : BytesAt w b off l) (hr : ∀ n ∈ l, 0 ≤ n ∧ n < 256) :
    Calls Try.prog 10 #[.slice (some ⟨b, off, none⟩) l.length cap] w fun e w' => ∃ c, e = .returned (.slice (some ⟨w.heap.size, 0, none⟩) (Plain.quoted l).length c) ∧ BytesAt w' w.heap.size 0 (Plain.quoted l) ∧ Below w.heap.size w w' := by
  obtain ⟨i0, hin, hz0, hz1, hz2⟩ := info_parts Try.info5
  have HC : Hid (BytesAt w b off l) := hc
  have HR : Hid (∀ n ∈ l, 0 ≤ n ∧ n < 256) := hr
  clear hc hr
  go_enter Try.func10, Try.ntmps10
  go_wp2_with (first
    | (at_make; refine wpList_make_own _ rfl (.const (.int .i64 0)) (.tmp 9) 22 rfl w.heap.size 5 i0 (.int .u8 0) 1 Try.underlying22 hin hz0 hz1 .i64 .i64 _ (2 + 6 * l.length) rfl rfl (by omega) (by rw [hz2]; omega) (by unfold maxLen; omega) (Nat.le_refl _) ?_; intro w1 hown1 hgrow1)
    | (at_builtin; refine wpList_append_fits _ rfl (.tmp 11) (.tmp 12) 22 rfl w.heap.size 5 i0 1 Try.underlying22 hin hz1 w.heap.size 0 (2 + 6 * l.length) [] rfl (hown1.alloc _) ⟨w1.heap.size, 0, none⟩ 1 1 [.int .u8 34] rfl rfl (new_cells _ [.int .u8 34] _) (ints_oneCell .u8 [34]) (by omega) ?_; intro w2 hown2 hgrow2))
  have HB2 : Hid (Buf w.heap.size w2 w.heap.size (2 + 6 * l.length) (soFar l 0)) := Buf.more (l := []) (r := [34]) rfl hown2
  have hb2 : Below w.heap.size w w2 := (((Below.refl _ _).grown hgrow1 (Nat.le_refl _) (fun k h => by cases h)).alloc hgrow1.size _).grown hgrow2 (by have := hgrow1.size; simp; omega) (fun k h => by cases h; exact Nat.le_refl _)
  clear hown1 hgrow1 hown2 hgrow2
  go_loopw [3, 4] (fun v jv wr => ∃ k : Nat, k ≤ l.length ∧ jv = .int .i64 k ∧ v = .slice (some ⟨w.heap.size, 0, none⟩) (soFar l k).length (2 + 6 * l.length) ∧ Hid (Buf w.heap.size wr w.heap.size (2 + 6 * l.length) (soFar l k)) ∧ Below w.heap.size w wr) (fun _ jv _ => l.length - (intOf jv).toNat)
  case atStart => exact ⟨0, Nat.zero_le _, rfl, rfl, HB2, hb2⟩
  case round =>
    clear HB2 hb2
    obtain ⟨k, hk, rfl, rfl, HB, hb⟩ := hrel
    have hsl := soFar_len l k hk
    by_cases hlt : k < l.length
    · obtain ⟨c, hc⟩ : ∃ c, c = l.getD k 0 := ⟨_, rfl⟩
      have hcell : wr.cell? ⟨b, off + k, none⟩ = some (.int .u8 c) := by
        have h0 := HC.out k hlt
        rw [hb.cell (World.block_lt_of_cell? _ _ h0), h0, hc]
      have hrange : 0 ≤ c ∧ c < 256 := by
        have := HR.out (l.getD k 0) (by simp [List.getD, hlt])
        rw [hc]; exact this
      have HD : Hid (soFar l (k + 1) = soFar l k ++ esc c) := by rw [hc]; exact soFar_succ l k hlt
      obtain ⟨hr0, hr1⟩ := hrange
      clear hc
      by_cases h34 : c = 34
      · subst h34
        go_wp2_with (first | (at_builtin; refine wpList_append_fits _ rfl (.tmp 26) (.tmp 27) 22 rfl w.heap.size 5 i0 1 Try.underlying22 hin hz1 w.heap.size (soFar l k).length (2 + 6 * l.length) _ rfl (World.ownsRow.alloc HB.out _) ⟨wr.heap.size, 0, none⟩ 2 2 [.int .u8 92, .int .u8 34] rfl rfl (new_cells _ [.int .u8 92, .int .u8 34] _) (ints_oneCell .u8 [92, 34]) (by omega) ?_; intro w2 hown2 hgrow2))
        have R := step_ok HD.out (r := [92, 34]) (by simp [esc]) (m := 2) rfl hb hown2 hgrow2
        clear hown2 hgrow2
        go_wp2
        go_roundw
        case rel => exact ⟨k + 1, by omega, by go_num, R.1, R.2.1, R.2.2⟩
        case measure => simp [intOf]; omega
      · by_cases h92 : c = 92
        · subst h92
          go_wp2_with (first | (at_builtin; refine wpList_append_fits _ rfl (.tmp 31) (.tmp 32) 22 rfl w.heap.size 5 i0 1 Try.underlying22 hin hz1 w.heap.size (soFar l k).length (2 + 6 * l.length) _ rfl (World.ownsRow.alloc HB.out _) ⟨wr.heap.size, 0, none⟩ 2 2 [.int .u8 92, .int .u8 92] rfl rfl (new_cells _ [.int .u8 92, .int .u8 92] _) (ints_oneCell .u8 [92, 92]) (by omega) ?_; intro w2 hown2 hgrow2))
          have R := step_ok HD.out (r := [92, 92]) (by simp [esc]) (m := 2) rfl hb hown2 hgrow2
          clear hown2 hgrow2
          go_wp2
          go_roundw
          case rel => exact ⟨k + 1, by omega, by go_num, R.1, R.2.1, R.2.2⟩
          case measure => simp [intOf]; omega
        · have h34' : (c == 34) = false := by simpa using h34
          have h92' : (c == 92) = false := by simpa using h92
          by_cases h32 : c < 32
          · obtain ⟨n, rfl⟩ : ∃ n : Nat, c = n := ⟨c.toNat, by omega⟩
            go_wp2_with fail
            refine (hex_at _ (n / 16) (by omega) (by omega) _).mono ?_
            rintro e w' ⟨rfl, rfl⟩
            go_wp2_with fail
            refine (hex_at _ n rfl (by omega) _).mono ?_
            rintro e w' ⟨rfl, rfl⟩
            go_wp2_with (first | (at_builtin; refine wpList_append_fits _ rfl (.tmp 36) (.tmp 42) 22 rfl w.heap.size 5 i0 1 Try.underlying22 hin hz1 w.heap.size (soFar l k).length (2 + 6 * l.length) _ rfl (World.ownsRow.alloc HB.out _) ⟨wr.heap.size, 0, none⟩ 6 6 [.int .u8 92, .int .u8 117, .int .u8 48, .int .u8 48, .int .u8 (hexD (n / 16)), .int .u8 (hexD n)] rfl rfl (new_cells _ [.int .u8 92, .int .u8 117, .int .u8 48, .int .u8 48, .int .u8 (hexD (n / 16)), .int .u8 (hexD n)] _) (ints_oneCell .u8 [92, 117, 48, 48, (hexD (n / 16)), (hexD n)]) (by omega) ?_; intro w2 hown2 hgrow2))
            have R := step_ok HD.out (r := [92, 117, 48, 48, hexD (n / 16), hexD n]) (esc_low n h34 h92 h32) (m := 6) rfl hb hown2 hgrow2
            clear hown2 hgrow2
            go_wp2
            go_roundw
            case rel => exact ⟨k + 1, by omega, by go_num, R.1, R.2.1, R.2.2⟩
            case measure => simp [intOf]; omega
          · go_wp2_with (first | (at_builtin; refine wpList_append_fits _ rfl (.tmp 44) (.tmp 46) 22 rfl w.heap.size 5 i0 1 Try.underlying22 hin hz1 w.heap.size (soFar l k).length (2 + 6 * l.length) _ rfl (World.ownsRow.alloc HB.out _) ⟨wr.heap.size, 0, none⟩ 1 1 [.int .u8 c] rfl rfl (new_cells _ [.int .u8 c] _) (ints_oneCell .u8 [c]) (by omega) ?_; intro w2 hown2 hgrow2))
            have R := step_ok HD.out (r := [c]) (by simp [esc, h34, h92, h32]) (m := 1) rfl hb hown2 hgrow2
            clear hown2 hgrow2
            go_wp2
            go_roundw
            case rel => exact ⟨k + 1, by omega, by go_num, R.1, R.2.1, R.2.2⟩
            case measure => simp [intOf]; omega
    · have hkl : k = l.length := by omega
      have HE : Hid (Plain.quoted l = soFar l k ++ [34]) := by rw [hkl]; exact quoted_eq l
      clear hkl
      go_wp2_with (first | (at_builtin; refine wpList_append_fits _ rfl (.tmp 48) (.tmp 49) 22 rfl w.heap.size 5 i0 1 Try.underlying22 hin hz1 w.heap.size (soFar l k).length (2 + 6 * l.length) _ rfl (World.ownsRow.alloc HB.out _) ⟨wr.heap.size, 0, none⟩ 1 1 [.int .u8 34] rfl rfl (new_cells _ [.int .u8 34] _) (ints_oneCell .u8 [34]) (by omega) ?_; intro w2 hown2 hgrow2))
      go_ret
      exact ⟨_, end_ok HE.out hb hown2 hgrow2⟩

set_option maxHeartbeats 1000000 in
theorem quote_none (a : Option Addr) (cap : Nat) (w : World) :
    Calls Try.prog 10 #[.slice a 0 cap] w fun e w' => ∃ c, e = .returned (.slice (some ⟨w.heap.size, 0, none⟩) (Plain.quoted []).length c) ∧ BytesAt w' w.heap.size 0 (Plain.quoted []) ∧ Below w.heap.size w w' := by
  obtain ⟨i0, hin, hz0, hz1, hz2⟩ := info_parts Try.info5
  go_enter Try.func10, Try.ntmps10
  go_wp2_with (first
    | (at_make; refine wpList_make_own _ rfl (.const (.int .i64 0)) (.tmp 9) 22 rfl w.heap.size 5 i0 (.int .u8 0) 1 Try.underlying22 hin hz0 hz1 .i64 .i64 _ 2 rfl rfl (by omega) (by rw [hz2]; omega) (by unfold maxLen; omega) (Nat.le_refl _) ?_; intro w1 hown1 hgrow1)
    | (at_builtin; refine wpList_append_fits _ rfl (.tmp 11) (.tmp 12) 22 rfl w.heap.size 5 i0 1 Try.underlying22 hin hz1 w.heap.size 0 2 [] rfl (hown1.alloc _) ⟨w1.heap.size, 0, none⟩ 1 1 [.int .u8 34] rfl rfl (new_cells _ [.int .u8 34] _) (ints_oneCell .u8 [34]) (by omega) ?_; intro w2 hown2 hgrow2))
  have HB2 : Hid (Buf w.heap.size w2 w.heap.size 2 (soFar [] 0)) := Buf.more (l := []) (r := [34]) rfl hown2
  have hb2 : Below w.heap.size w w2 := (((Below.refl _ _).grown hgrow1 (Nat.le_refl _) (fun k h => by cases h)).alloc hgrow1.size _).grown hgrow2 (by have := hgrow1.size; simp; omega) (fun k h => by cases h; exact Nat.le_refl _)
  clear hown1 hgrow1 hown2 hgrow2
  refine wp_loop_rounds 1 ?_
  rw [rounds_succ]
  go_wp2_with (first | (at_builtin; refine wpList_append_fits _ rfl (.tmp 48) (.tmp 49) 22 rfl w.heap.size 5 i0 1 Try.underlying22 hin hz1 w.heap.size (soFar [] 0).length 2 _ rfl (World.ownsRow.alloc HB2.out _) ⟨w2.heap.size, 0, none⟩ 1 1 [.int .u8 34] rfl rfl (new_cells _ [.int .u8 34] _) (ints_oneCell .u8 [34]) (by decide) ?_; intro w3 hown3 hgrow3))
  go_ret
  exact ⟨_, end_ok (l := []) (k := 0) rfl hb2 hown3 hgrow3⟩
end Go.Proofs.Qxb6603971a
