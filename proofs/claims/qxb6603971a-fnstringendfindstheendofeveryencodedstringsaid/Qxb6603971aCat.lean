/- Over seat b6603971a: mb1Cat3 (11) and the walk of FnStringEndFindsTheEndOfEveryEncodedString (4). -/
import Derived.Test.Qxb6603971aQuote
namespace Go.Proofs.Qxb6603971a
open Go.RowKit Plain

/-- A slice of bytes that came in: nil and bare, or at an address where its bytes lie. -/
def Came (w : World) (a : Option Addr) (l : List Int) (cap : Nat) : Prop := (a = none → l.length = 0 ∧ cap = 0) ∧ ∀ ad, a = some ad → CameAt w ad l
theorem Came.below {B : Nat} {w w1 : World} {a : Option Addr} {l : List Int} {cap : Nat} (hB : w.heap.size ≤ B) (h : Came w a l cap) (hb : Below B w w1) : Came w1 a l cap :=
  ⟨h.1, fun ad e j hj => by
    have h0 := h.2 ad e j hj
    rw [hb.cell (Nat.lt_of_lt_of_le (World.block_lt_of_cell? _ _ h0) hB), h0]⟩
theorem Came.news {w : World} {a : Option Addr} {l : List Int} {cap : Nat} (h : Came w a l cap) : ∀ ad, a = some ad → ∀ j u, (l.map (Value.int .u8))[j]? = some u → w.cell? (ad.add j) = some u := by
  intro ad e j u hj
  have hjl : j < l.length := by
    have := (List.getElem?_eq_some_iff.1 hj).1
    simpa using this
  rw [h.2 ad e j hjl]
  simpa [hjl] using hj
theorem came_own {w : World} {g cap : Nat} {l : List Int} (h : BytesAt w g 0 l) : Came w (some ⟨g, 0, none⟩) l cap :=
  ⟨fun e => (by cases e), fun ad e j hj => by
    cases e
    rw [Addr.add_lit]
    exact h j hj⟩

theorem buf_sum {B : Nat} {w : World} {g cap : Nat} {l r : List Int} (h : Buf B w g cap (l ++ r)) : w.ownsRow B 5 1 (.slice (some ⟨g, 0, none⟩) (l.length + r.length) cap) (l.length + r.length) ((l ++ r).map (Value.int .u8)) := by
  unfold Buf at h; rw [List.length_append] at h; exact h
theorem cat_ok {w w3 w4 : World} {l0 l1 l2 : List Int} {cap : Nat} (hb : Below w.heap.size w w3)
    (hown : w4.ownsRow w.heap.size 5 1 (.slice (some ⟨w.heap.size, 0, none⟩) (l0.length + l1.length + l2.length) cap) (l0.length + l1.length + l2.length) ((l0 ++ l1).map (Value.int .u8) ++ l2.map (Value.int .u8))) (hgrow : w3.grownBy w4 (some w.heap.size)) :
    Ending.returned (.slice (some ⟨w.heap.size, 0, none⟩) (l0.length + l1.length + l2.length) cap) = .returned (.slice (some ⟨w.heap.size, 0, none⟩) (l0 ++ (l1 ++ l2)).length cap) ∧ BytesAt w4 w.heap.size 0 (l0 ++ (l1 ++ l2)) ∧ Below w.heap.size w w4 := by
  have e : l0.length + l1.length + l2.length = (l0 ++ (l1 ++ l2)).length := by simp; omega
  refine ⟨by rw [e], ?_, hb.grown hgrow (by have := hb.size; omega) (fun k h => by cases h; exact Nat.le_refl _)⟩
  have : Buf w.heap.size w4 w.heap.size cap ((l0 ++ l1) ++ l2) := Buf.more rfl (by rw [List.length_append]; exact hown)
  rw [List.append_assoc] at this
  exact this.bytes

set_option maxHeartbeats 1000000 in
theorem cat3_any (a0 a1 a2 : Option Addr) (c0 c1 c2 : Nat) (l0 l1 l2 : List Int) (w : World) (h0 : Came w a0 l0 c0) (h1 : Came w a1 l1 c1) (h2 : Came w a2 l2 c2) (s0 : l0.length ≤ 1048576) (s1 : l1.length ≤ 1048576) (s2 : l2.length ≤ 1048576) :
    Calls Try.prog 11 #[.slice a0 l0.length c0, .slice a1 l1.length c1, .slice a2 l2.length c2] w fun e w' => ∃ c, e = .returned (.slice (some ⟨w.heap.size, 0, none⟩) (l0 ++ (l1 ++ l2)).length c) ∧ BytesAt w' w.heap.size 0 (l0 ++ (l1 ++ l2)) ∧ Below w.heap.size w w' := by
  obtain ⟨i0, hin, hz0, hz1, hz2⟩ := info_parts Try.info5
  have H0 : Hid (Came w a0 l0 c0) := h0
  have H1 : Hid (Came w a1 l1 c1) := h1
  have H2 : Hid (Came w a2 l2 c2) := h2
  clear h0 h1 h2
  go_enter Try.func11, Try.ntmps11
  go_wp2_with (first
    | (at_make; refine wpList_make_own _ rfl (.const (.int .i64 0)) (.tmp 15) 22 rfl w.heap.size 5 i0 (.int .u8 0) 1 Try.underlying22 hin hz0 hz1 .i64 .i64 _ (l0.length + l1.length + l2.length) rfl rfl (by omega) (by rw [hz2]; omega) (by unfold maxLen; omega) (Nat.le_refl _) ?_; intro w1 hown1 hgrow1; have hb1 : Below w.heap.size w w1 := (Below.refl _ _).grown hgrow1 (Nat.le_refl _) (fun k h => by cases h); have HO1 : Hid (Buf w.heap.size w1 w.heap.size (l0.length + l1.length + l2.length) []) := hown1; clear hown1 hgrow1)
    | (at_builtin; refine wpList_append_fits_any _ rfl (.tmp 17) (.tmp 18) 22 rfl w.heap.size 5 i0 1 Try.underlying22 hin hz1 w.heap.size 0 (l0.length + l1.length + l2.length) [] rfl HO1.out a0 l0.length c0 (l0.map (Value.int .u8)) rfl (by simp) H0.out.1 (H0.out.below (Nat.le_refl _) hb1).news (ints_oneCell .u8 l0) (by omega) ?_; intro w2 hown2 hgrow2; have hb2 : Below w.heap.size w w2 := hb1.grown hgrow2 (by have := hb1.size; omega) (fun k h => by cases h; exact Nat.le_refl _); have HO2 : Hid (Buf w.heap.size w2 w.heap.size (l0.length + l1.length + l2.length) l0) := Buf.more (l := []) rfl hown2; clear hown2 hgrow2)
    | (at_builtin; refine wpList_append_fits_any _ rfl (.tmp 20) (.tmp 21) 22 rfl w.heap.size 5 i0 1 Try.underlying22 hin hz1 w.heap.size l0.length (l0.length + l1.length + l2.length) _ rfl HO2.out a1 l1.length c1 (l1.map (Value.int .u8)) rfl (by simp) H1.out.1 (H1.out.below (Nat.le_refl _) hb2).news (ints_oneCell .u8 l1) (by omega) ?_; intro w3 hown3 hgrow3; have hb3 : Below w.heap.size w w3 := hb2.grown hgrow3 (by have := hb2.size; omega) (fun k h => by cases h; exact Nat.le_refl _); have HO3 : Hid (Buf w.heap.size w3 w.heap.size (l0.length + l1.length + l2.length) (l0 ++ l1)) := Buf.more rfl hown3; clear hown3 hgrow3)
    | (at_builtin; refine wpList_append_fits_any _ rfl (.tmp 23) (.tmp 24) 22 rfl w.heap.size 5 i0 1 Try.underlying22 hin hz1 w.heap.size (l0.length + l1.length) (l0.length + l1.length + l2.length) ((l0 ++ l1).map (Value.int .u8)) rfl (buf_sum HO3.out) a2 l2.length c2 (l2.map (Value.int .u8)) rfl (by simp) H2.out.1 (H2.out.below (Nat.le_refl _) hb3).news (ints_oneCell .u8 l2) (by omega) ?_; intro w4 hown4 hgrow4))
  go_ret
  exact ⟨_, cat_ok hb3 hown4 hgrow4⟩

theorem cat3_some (a0 a1 a2 : Option Addr) (c0 c1 c2 : Nat) (l0 l1 l2 : List Int) (w : World) (h0 : Came w a0 l0 c0) (h1 : Came w a1 l1 c1) (h2 : Came w a2 l2 c2) (s0 : l0.length ≤ 1048576) (s1 : l1.length ≤ 1048576) (s2 : l2.length ≤ 1048576) :
    Calls Try.prog 11 #[.slice a0 l0.length c0, .slice a1 l1.length c1, .slice a2 l2.length c2] w fun e w' => ∃ c D, e = .returned (.slice (some ⟨w.heap.size, 0, none⟩) D.length c) ∧ Hid (D = l0 ++ (l1 ++ l2)) ∧ BytesAt w' w.heap.size 0 D ∧ Below w.heap.size w w' :=
  (cat3_any a0 a1 a2 c0 c1 c2 l0 l1 l2 w h0 h1 h2 s0 s1 s2).mono fun _ _ ⟨c, h1, h2, h3⟩ => ⟨c, _, h1, rfl, h2, h3⟩

set_option maxHeartbeats 1000000 in
theorem finds_small (a0 a1 a2 : Option Addr) (c0 c1 c2 : Nat) (l0 l1 l2 : List Int) (w : World) (h0 : Came w a0 l0 c0) (h2 : Came w a2 l2 c2) (s0 : l0.length ≤ 262144) (s1 : l1.length ≤ 65536) (s2 : l2.length ≤ 262144)
    (hq : Calls Try.prog 10 #[.slice a1 l1.length c1] w fun e w' => ∃ c, e = .returned (.slice (some ⟨w.heap.size, 0, none⟩) (Plain.quoted l1).length c) ∧ BytesAt w' w.heap.size 0 (Plain.quoted l1) ∧ Below w.heap.size w w') :
    Calls Try.prog 4 #[.slice a0 l0.length c0, .slice a1 l1.length c1, .slice a2 l2.length c2] w fun e w' => e = .returned (.bool true) ∧ Below w.heap.size w w' := by
  have H0 : Hid (Came w a0 l0 c0) := h0
  have H2 : Hid (Came w a2 l2 c2) := h2
  have HQ : Hid (Calls Try.prog 10 #[.slice a1 l1.length c1] w fun e w' => ∃ c, e = .returned (.slice (some ⟨w.heap.size, 0, none⟩) (Plain.quoted l1).length c) ∧ BytesAt w' w.heap.size 0 (Plain.quoted l1) ∧ Below w.heap.size w w') := hq
  have hql : (Plain.quoted l1).length ≤ 1048576 := by have := quoted_len l1; have := body_len l1; omega
  clear h0 h2 hq
  go_enter Try.func4, Try.ntmps4
  go_wp2_with (first | (go_at_call 9; go_in))
  refine HQ.out.mono ?_
  rintro e w1 ⟨c, rfl, hby, hb1⟩
  have HBY : Hid (BytesAt w1 w.heap.size 0 (Plain.quoted l1)) := hby
  clear hby
  go_wp2_with fail
  refine (cat3_some a0 _ a2 c0 _ c2 l0 (Plain.quoted l1) l2 _ (H0.out.below (Nat.le_refl _) hb1) (came_own HBY.out) (H2.out.below (Nat.le_refl _) hb1) (by omega) hql (by omega)).mono ?_
  rintro e w2 ⟨c', D, rfl, HD, hby, hb2⟩
  have HB2 : Hid (BytesAt w2 w1.heap.size 0 D) := hby
  have hDl : D.length ≤ 4000000 := by rw [HD.out]; simp; omega
  have hDi : l0.length < D.length := by rw [HD.out]; have := quoted_len l1; simp; omega
  have hb : Below w.heap.size w w2 := hb1.trans (hb2.mono hb1.size)
  clear hby
  go_wp2_with fail
  refine (stringEnd_any _ _ _ D l0.length (l0.length + (Plain.quoted l1).length) _ hDl hDi HB2.out (by rw [HD.out]; exact end_quoted l0 l1 l2)).mono ?_
  rintro e w3 ⟨rfl, rfl⟩
  go_wp2_with fail
  go_ret
  exact ⟨by simp, hb⟩

set_option maxHeartbeats 1000000 in
theorem finds_great (a0 a1 a2 : Option Addr) (n0 n1 n2 c0 c1 c2 : Nat) (w : World) (m0 : n0 ≤ maxLen) (m1 : n1 ≤ maxLen) (m2 : n2 ≤ maxLen) (h : 262144 < n0 ∨ 65536 < n1 ∨ 262144 < n2) :
    Calls Try.prog 4 #[.slice a0 n0 c0, .slice a1 n1 c1, .slice a2 n2 c2] w fun e w' => e = .returned (.bool true) ∧ Below w.heap.size w w' := by
  unfold maxLen at m0 m1 m2
  go_enter Try.func4, Try.ntmps4
  go_wp2_with (first | (go_at_call 9; go_in) | (go_at_call 10; exfalso; omega))
  all_goals
    go_ret
    exact ⟨rfl, Below.refl _ _⟩

/-- The shell's words on a slice of bytes that came in. -/
def RowIs (w : World) (a : Option Addr) (len cap : Nat) (zs : List Int) : Prop :=
  (a = none ∧ len = 0 ∧ cap = 0 ∧ zs = []) ∨ ∃ x, a = some x ∧ len ≤ cap ∧ cap ≤ maxLen ∧ zs.length = cap ∧ (∀ i, i < zs.length → w.cell? (x.add i) = some (.int .u8 (zs.getD i 0))) ∧ ∀ n ∈ zs, (Lit.int .u8 n).wf = true
theorem RowIs.len {w : World} {a : Option Addr} {len cap : Nat} {zs : List Int} (h : RowIs w a len cap zs) : len ≤ maxLen ∧ (zs.take len).length = len := by
  rcases h with ⟨_, rfl, rfl, rfl⟩ | ⟨x, _, h1, h2, h3, _⟩
  · simp
  · exact ⟨by omega, by simp; omega⟩
theorem RowIs.came {w : World} {a : Option Addr} {len cap : Nat} {zs : List Int} (h : RowIs w a len cap zs) : Came w a (zs.take len) cap := by
  rcases h with ⟨rfl, rfl, rfl, rfl⟩ | ⟨x, rfl, h1, h2, h3, h4, _⟩
  · exact ⟨fun _ => ⟨rfl, rfl⟩, fun ad e => by cases e⟩
  · refine ⟨fun e => (by cases e), fun ad e j hj => ?_⟩
    cases e
    have hj' : j < len := by simp at hj; omega
    rw [h4 j (by omega)]
    simp [hj']
theorem RowIs.range {w : World} {a : Option Addr} {len cap : Nat} {zs : List Int} (h : RowIs w a len cap zs) : ∀ n ∈ zs.take len, 0 ≤ n ∧ n < 256 := by
  rcases h with ⟨rfl, rfl, rfl, rfl⟩ | ⟨x, rfl, h1, h2, h3, h4, h5⟩
  · simp
  · intro n hn
    have h := h5 n (List.mem_of_mem_take hn)
    simp [Lit.wf, IntKind.min, IntKind.max, IntKind.signed, IntKind.bits] at h
    omega

theorem quote_row {w : World} {a : Option Addr} {len cap : Nat} {zs : List Int} (h : RowIs w a len cap zs) (hl : len ≤ 65536) :
    Calls Try.prog 10 #[.slice a (zs.take len).length cap] w fun e w' => ∃ c, e = .returned (.slice (some ⟨w.heap.size, 0, none⟩) (Plain.quoted (zs.take len)).length c) ∧ BytesAt w' w.heap.size 0 (Plain.quoted (zs.take len)) ∧ Below w.heap.size w w' := by
  have hlen := h.len.2
  have hcame := h.came
  have hrange := h.range
  generalize zs.take len = l at hlen hcame hrange
  subst hlen
  by_cases h0 : l.length = 0
  · obtain rfl : l = [] := List.eq_nil_of_length_eq_zero h0
    exact quote_none a cap w
  · cases a with
    | none => exact absurd (hcame.1 rfl).1 h0
    | some x =>
      have hc := hcame.2 x rfl
      obtain ⟨b, off, spot⟩ := x
      have hspot : spot = none := by simpa [Addr.add] using World.cell?_spot (hc 0 (by omega))
      subst hspot
      exact quote_some b off cap l w hl (fun j hj => by rw [← hc j hj, Addr.add_lit]) hrange

theorem finds_walk (a0 a1 a2 : Option Addr) (n0 n1 n2 c0 c1 c2 : Nat) (z0 z1 z2 : List Int) (w : World) (h0 : RowIs w a0 n0 c0 z0) (h1 : RowIs w a1 n1 c1 z1) (h2 : RowIs w a2 n2 c2 z2) :
    Calls Try.prog 4 #[.slice a0 n0 c0, .slice a1 n1 c1, .slice a2 n2 c2] w fun e w' => e = .returned (.bool true) ∧ Below w.heap.size w w' := by
  by_cases h : 262144 < n0 ∨ 65536 < n1 ∨ 262144 < n2
  · exact finds_great a0 a1 a2 n0 n1 n2 c0 c1 c2 w h0.len.1 h1.len.1 h2.len.1 h
  · have e0 := h0.len.2
    have e1 := h1.len.2
    have e2 := h2.len.2
    have := finds_small a0 a1 a2 c0 c1 c2 (z0.take n0) (z1.take n1) (z2.take n2) w h0.came h2.came (by omega) (by omega) (by omega) (quote_row h1 (by omega))
    rwa [e0, e1, e2] at this
end Go.Proofs.Qxb6603971a
