/- Over seat b6604027a: bytes.Clone (18), prefixEnd (16), ZZprefixEnd (8). -/
import Derived.Test.Qxb6604027aMem
namespace Go.Proofs.Qxb6604027a
open Go.RowKit Plain

theorem row_news {w : World} {g : Nat} {l : List Int} (h : Row w g l) (o : Obj) : ∀ j u, (l.map (Value.int .u8))[j]? = some u → (w.alloc o).cell? (Addr.add ⟨g, 0, none⟩ j) = some u := by
  intro j u hj
  have hjl : j < l.length := by
    have := (List.getElem?_eq_some_iff.1 hj).1
    simpa using this
  rw [Addr.add_lit, World.cell?_alloc_lt _ _ _ (by exact h.lt), Nat.zero_add, h.cell hjl]
  simpa [hjl] using hj
theorem grown_row {w1 : World} {B n : Nat} {v : Value} {l : List Int} (hown : w1.ownsRow B 5 1 v n (l.map (Value.int .u8))) (hv : v ≠ .slice none 0 0) : ∃ g c, v = .slice (some ⟨g, 0, none⟩) l.length c ∧ l.length ≤ c ∧ B ≤ g ∧ Row w1 g l := by
  obtain ⟨hl, h | ⟨g, cap, cur, rfl, hB, hh, hn, _, hs, ht⟩⟩ := hown
  · exact absurd h.1 hv
  · have e : n = l.length := by simpa using hl.symm
    subst e
    refine ⟨g, cap, rfl, hn, hB, cur.toList.drop l.length, ?_⟩
    have : l.map (Value.int .u8) ++ cur.toList.drop l.length = cur.toList := by
      rw [← ht]; simp
    rw [this, hh]

set_option maxHeartbeats 400000 in
theorem clone_some (g cap : Nat) (l : List Int) (w : World) (hl : l.length ≤ 1048576) (hr : Row w g l) :
    Calls Try.prog 18 #[.slice (some ⟨g, 0, none⟩) l.length cap] w fun e w' => ∃ g' c, e = .returned (.slice (some ⟨g', 0, none⟩) l.length c) ∧ l.length ≤ c ∧ w.heap.size ≤ g' ∧ Row w' g' l ∧ Below w.heap.size w w' := by
  obtain ⟨i0, hin, hz0, hz1, hz2⟩ := info_parts Try.info5
  have hne := fun wx => Lib.run_eql_slice_nil (P := Try.prog) wx 22 5 (some ⟨g, 0, none⟩) l.length cap 0 0 Try.underlying22
  have HR : Hid (Row w g l) := hr
  clear hr
  go_enter Try.func18, Try.ntmps18
  go_wp2_with (at_builtin; refine wpList_append_own _ rfl (.tmp 5) (.tmp 6) 22 rfl w.heap.size 5 i0 (.int .u8 0) 1 1 Try.underlying22 hin hz0 hz1 hz2 rfl (by decide) _ 0 [] rfl ?c0 ⟨g, 0, none⟩ l.length cap (l.map (Value.int .u8)) rfl (by simp) ?c1 (ints_oneCell .u8 l) (by unfold maxLen; omega) (by omega) ?c5 ?_)
  case c0 => exact World.ownsRow_made w #[] 0 (Nat.le_refl _) (by unfold maxLen; omega) rfl
  case c1 => exact row_news HR.out _
  case c5 => simp
  intro v' w1 hown hgrow hnil
  obtain ⟨g', c, hv, h1, h2, h3⟩ := grown_row hown hnil
  have hb : Below w.heap.size w w1 := ((Below.refl _ _).alloc (Nat.le_refl _) _).grown hgrow (by simp) (fun k h => by cases h; exact Nat.le_refl _)
  clear hown hgrow hnil
  have H3 : Hid (Row w1 g' l) := h3
  clear h3
  rw [hv]
  clear hv v'
  go_wp2
  go_ret
  exact ⟨_, _, rfl, h1, h2, H3.out, hb⟩

set_option maxHeartbeats 400000 in
theorem clone_nil (w : World) : Calls Try.prog 18 #[.slice none 0 0] w fun e w' => e = .returned (.slice none 0 0) ∧ w' = w := by
  have hne := fun wx => Lib.run_eql_slice_nil (P := Try.prog) wx 22 5 none 0 0 0 0 Try.underlying22
  go_enter Try.func18, Try.ntmps18
  go_wp2
  go_ret
  exact ⟨rfl, rfl⟩

set_option maxHeartbeats 400000 in
theorem prefix_nil (w : World) : Calls Try.prog 8 #[.slice none 0 0] w fun e w' => e = .returned (.slice none 0 0) ∧ w' = w := by
  go_enter Try.func8, Try.ntmps8
  go_wp2_with (first | (go_at_call 18; refine (clone_nil _).mono ?_; rintro e w' ⟨rfl, rfl⟩) | go_in)
  refine wp_loop_rounds 1 ?_
  rw [rounds_succ]
  go_wp2
  go_ret
  exact ⟨rfl, rfl⟩

/-- What prefixEnd hands back: nil where there is no end; else the end in memory of the call's own. -/
def EndIs (w : World) (v : Value) (o : Option (List Int)) : Prop := (o = none ∧ v = .slice none 0 0) ∨ ∃ e g cap, o = some e ∧ v = .slice (some ⟨g, 0, none⟩) e.length cap ∧ e.length ≤ cap ∧ Row w g e

theorem end_here {w1 : World} {g' c u : Nat} {l : List Int} (hlt : u < l.length) (h1 : (l[u] != 255) = true) (hx : ∀ c ∈ l, 0 ≤ c ∧ c < 256) (hp : pe (l.drop (u + 1)) = none) (hlc : l.length ≤ c) (h3 : Row w1 g' l) :
    EndIs (w1.setCell ⟨g', u, none⟩ (.int .u8 ((l[u] + 1) % 256))) (.slice (some ⟨g', 0, none⟩) (u + 1) c) (pe l) := by
  have hne : l[u] ≠ 255 := by simpa using h1
  have hr := hx l[u] (List.getElem_mem hlt)
  have eg : l.getD u 0 = l[u] := by simp [List.getD, hlt]
  have e := pe_here l u hlt (by rw [eg]; exact hne) hp
  have hlen : (l.take u ++ [l.getD u 0 + 1]).length = u + 1 := by simp; omega
  refine Or.inr ⟨_, g', c, e, by rw [hlen], by omega, ?_⟩
  have hs := (h3.set hlt (l.getD u 0 + 1)).take (u + 1)
  have e2 : (l.set u (l.getD u 0 + 1)).take (u + 1) = l.take u ++ [l.getD u 0 + 1] := by
    rw [List.take_succ_eq_append_getElem (by simpa using hlt), List.take_set_of_le (Nat.le_refl _)]
    simp
  rw [e2] at hs
  rw [show (l[u] + 1) % 256 = l.getD u 0 + 1 from by rw [eg]; omega]
  exact hs

set_option maxHeartbeats 400000 in
theorem prefix_some (g cap : Nat) (l : List Int) (w : World) (hl : l.length ≤ 1048576) (hr : Row w g l) (hx : ∀ c ∈ l, 0 ≤ c ∧ c < 256) :
    Calls Try.prog 8 #[.slice (some ⟨g, 0, none⟩) l.length cap] w fun e w' => ∃ v, e = .returned v ∧ EndIs w' v (pe l) ∧ Below w.heap.size w w' := by
  have HR : Hid (Row w g l) := hr
  have HX : Hid (∀ c ∈ l, 0 ≤ c ∧ c < 256) := hx
  clear hr hx
  go_enter Try.func8, Try.ntmps8
  go_wp2_with (first | (go_at_call 18; refine (clone_some g cap l _ hl HR.out).mono ?_; rintro e w1 ⟨g', c, rfl, hlc, hg, h3, hb⟩; have H3 : Hid (Row w1 g' l) := h3; clear h3) | go_in)
  go_loop [4] (fun v => ∃ t : Nat, t ≤ l.length ∧ v = .int .i64 ((t : Int) - 1) ∧ Hid (pe (l.drop t) = none)) (fun v => (intOf v + 1).toNat)
  case atStart => exact ⟨l.length, Nat.le_refl _, rfl, by simp [Hid, pe]⟩
  case round =>
    obtain ⟨t, ht, rfl, HP⟩ := hrel
    by_cases h0 : t = 0
    · subst h0
      go_wp2
      go_ret
      exact ⟨_, rfl, Or.inl ⟨HP.out, rfl⟩, hb⟩
    · obtain ⟨u, rfl⟩ : ∃ u, t = u + 1 := ⟨t - 1, by omega⟩
      have hlt : u < l.length := by omega
      have hcell := H3.out.cell hlt
      have hfr := H3.out.frozen u
      go_wp2
      · have h1 : (l[u] != 255) = true := by assumption
        go_ret
        exact ⟨_, rfl, end_here hlt h1 HX.out HP.out hlc H3.out, hb.setCell hg _⟩
      · have h1 : (l[u] != 255) = false := by assumption
        go_round
        case rel => exact ⟨u, by omega, rfl, pe_more l u hlt (by simpa [List.getD, hlt] using h1) HP.out⟩
        case measure => simp [intOf]

/-- ZZprefixEnd on a slice of the call's own. -/
theorem prefix_any {w : World} {v : Value} {l : List Int} (h : Own w v l) (hl : l.length ≤ 1048576) (hx : ∀ c ∈ l, 0 ≤ c ∧ c < 256) :
    Calls Try.prog 8 #[v] w fun e w' => ∃ v', e = .returned v' ∧ EndIs w' v' (pe l) ∧ Below w.heap.size w w' := by
  rcases h with ⟨rfl, rfl⟩ | ⟨g, cap, rfl, h1, h2⟩
  · refine (prefix_nil w).mono ?_
    rintro e w' ⟨rfl, rfl⟩
    exact ⟨_, rfl, Or.inl ⟨rfl, rfl⟩, Below.refl _ _⟩
  · exact prefix_some g cap l w hl h2 hx
end Go.Proofs.Qxb6604027a
