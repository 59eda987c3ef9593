/- The walk of FnPrefixEndBoundsThePrefixRange (4). -/
import Derived.Test.Qxb6604027aPrefix
import Derived.Test.Qxb6604027aCompare
namespace Go.Proofs.Qxb6604027a
open Go.RowKit Plain

theorem pe_small {l e : List Int} (h : pe l = some e) (hl : l.length ≤ 1048576) : e.length ≤ 1048576 := by
  have := (pe_lt l e h).2; omega

set_option maxHeartbeats 1000000 in
theorem bounds_small {w : World} {a0 a1 : Option Addr} {n0 n1 c0 c1 : Nat} {z0 z1 : List Int} (h0 : RowIs w a0 n0 c0 z0) (h1 : RowIs w a1 n1 c1 z1) (m0 : n0 ≤ 524288) (m1 : n1 ≤ 524288) :
    Calls Try.prog 4 #[.slice a0 n0 c0, .slice a1 n1 c1] w fun e w' => e = .returned (.bool true) ∧ Below w.heap.size w w' := by
  have HL : Hid ((z0.take n0).length ≤ 1048576 ∧ (z1.take n1).length ≤ 1048576) := ⟨by rw [h0.len.2]; omega, by rw [h1.len.2]; omega⟩
  have HX : Hid ((∀ c ∈ z0.take n0, 0 ≤ c ∧ c < 256) ∧ (∀ c ∈ z1.take n1, 0 ≤ c ∧ c < 256)) := ⟨h0.range, h1.range⟩
  have HW0 : Hid (RowIs w a0 n0 c0 z0) := h0
  have HW1 : Hid (RowIs w a1 n1 c1 z1) := h1
  clear h0 h1
  obtain ⟨p, hp⟩ : ∃ p, p = z0.take n0 := ⟨_, rfl⟩
  obtain ⟨q, hq⟩ : ∃ q, q = z1.take n1 := ⟨_, rfl⟩
  rw [← hp, ← hq] at HL HX
  have HP : Hid (p = z0.take n0 ∧ q = z1.take n1) := ⟨hp, hq⟩
  clear hp hq
  have HG : Hid (p.isPrefixOf q = (decide (0 ≤ cmpL q p) && (match pe p with | none => true | some e => decide (cmpL q e < 0)))) := range p q (fun c hc => by have := HX.out.1 c hc; omega) (fun c hc => by have := HX.out.2 c hc; omega)
  go_enter Try.func4, Try.ntmps4
  go_wp2_with (first | (go_at_call 11; go_in))
  refine (copy_any HW0.out (by omega)).mono ?_
  rintro e w1 ⟨v0, rfl, hv0, hb1⟩
  rw [← HP.out.1] at hv0
  have HV0 : Hid (Own w1 v0 p) := hv0
  clear hv0
  go_wp2_with fail
  refine (copy_any (HW1.out.below hb1) (by omega)).mono ?_
  rintro e w2 ⟨v1, rfl, hv1, hb2⟩
  rw [← HP.out.2] at hv1
  have HV1 : Hid (Own w2 v1 q) := hv1
  have HV02 : Hid (Own w2 v0 p) := HV0.out.below hb2
  clear hv1 HV0
  go_wp2_with fail
  refine (prefix_any HV02.out HL.out.1 HX.out.1).mono ?_
  rintro e w3 ⟨v2, rfl, he2, hb3⟩
  have HE : Hid (EndIs w3 v2 (pe p)) := he2
  have HV13 : Hid (Own w3 v1 q) := HV1.out.below hb3
  have HV03 : Hid (Own w3 v0 p) := HV02.out.below hb3
  have hb : Below w.heap.size w w3 := hb1.trans ((hb2.mono hb1.size).trans (hb3.mono (Nat.le_trans hb1.size hb2.size)))
  clear he2 HV1 HV02 hb1 hb2 hb3
  go_wp2_with fail
  refine (compare_any HV13.out HV03.out HL.out.2 HL.out.1).mono ?_
  rintro e w4 ⟨rfl, hb4⟩
  have HV14 : Hid (Own w4 v1 q) := HV13.out.below hb4
  have HV04 : Hid (Own w4 v0 p) := HV03.out.below hb4
  clear HV13 HV03
  have hnn := fun wx => Lib.run_eql_slice_nil (P := Try.prog) wx 22 5 none 0 0 0 0 Try.underlying22
  rcases HE.out with ⟨hn, rfl⟩ | ⟨e2, g2, c2, hp2, rfl, hc2, hr2⟩
  · have HG' : Hid (p.isPrefixOf q = decide (0 ≤ cmpL q p)) := by have := HG.out; rw [hn] at this; exact (show _ = _ by simpa using this)
    clear HG hn HE
    by_cases hc : 0 ≤ cmpL q p
    · have HB : Hid (p.isPrefixOf q = true) := by have := HG'.out; rw [decide_eq_true hc] at this; exact this
      clear HG'
      go_wp2_with fail
      refine (hasPrefix_any HV14.out HV04.out HL.out.1).mono ?_
      rintro e w5 ⟨rfl, hb5⟩
      rw [HB.out]
      go_wp2_with fail
      go_ret
      exact ⟨rfl, hb.trans ((hb4.mono hb.size).trans (hb5.mono (Nat.le_trans hb.size hb4.size)))⟩
    · have HB : Hid (p.isPrefixOf q = false) := by have := HG'.out; rw [decide_eq_false hc] at this; exact this
      clear HG'
      go_wp2_with fail
      refine (hasPrefix_any HV14.out HV04.out HL.out.1).mono ?_
      rintro e w5 ⟨rfl, hb5⟩
      rw [HB.out]
      go_wp2_with fail
      go_ret
      exact ⟨rfl, hb.trans ((hb4.mono hb.size).trans (hb5.mono (Nat.le_trans hb.size hb4.size)))⟩
  · have hs2 := fun wx => Lib.run_eql_slice_nil (P := Try.prog) wx 22 5 (some ⟨g2, 0, none⟩) e2.length c2 0 0 Try.underlying22
    have HG' : Hid (p.isPrefixOf q = (decide (0 ≤ cmpL q p) && decide (cmpL q e2 < 0))) := by have := HG.out; rw [hp2] at this; exact this
    have HO2 : Hid (Own w4 (.slice (some ⟨g2, 0, none⟩) e2.length c2) e2) := Or.inr ⟨g2, c2, rfl, hc2, hr2.below hb4 hr2.lt⟩
    have hes := pe_small hp2 HL.out.1
    clear HG hp2 hr2 HE
    by_cases hc : 0 ≤ cmpL q p
    · go_wp2_with fail
      refine (compare_any HV14.out HO2.out HL.out.2 hes).mono ?_
      rintro e w5 ⟨rfl, hb5⟩
      have HV15 : Hid (Own w5 v1 q) := HV14.out.below hb5
      have HV05 : Hid (Own w5 v0 p) := HV04.out.below hb5
      have hbx : Below w.heap.size w w5 := hb.trans ((hb4.mono hb.size).trans (hb5.mono (Nat.le_trans hb.size hb4.size)))
      by_cases hd : cmpL q e2 < 0
      · have HB : Hid (p.isPrefixOf q = true) := by have := HG'.out; rw [decide_eq_true hc, decide_eq_true hd] at this; exact this
        clear HG'
        go_wp2_with fail
        refine (hasPrefix_any HV15.out HV05.out HL.out.1).mono ?_
        rintro e w6 ⟨rfl, hb6⟩
        rw [HB.out]
        go_wp2_with fail
        go_ret
        exact ⟨rfl, hbx.trans (hb6.mono hbx.size)⟩
      · have HB : Hid (p.isPrefixOf q = false) := by have := HG'.out; rw [decide_eq_true hc, decide_eq_false hd] at this; exact this
        clear HG'
        go_wp2_with fail
        refine (hasPrefix_any HV15.out HV05.out HL.out.1).mono ?_
        rintro e w6 ⟨rfl, hb6⟩
        rw [HB.out]
        go_wp2_with fail
        go_ret
        exact ⟨ret_bool (by rw [decide_eq_false (by omega)]; rfl), hbx.trans (hb6.mono hbx.size)⟩
    · have HB : Hid (p.isPrefixOf q = false) := by have := HG'.out; rw [decide_eq_false hc] at this; exact (show _ = _ by simpa using this)
      clear HG'
      go_wp2_with fail
      refine (hasPrefix_any HV14.out HV04.out HL.out.1).mono ?_
      rintro e w5 ⟨rfl, hb5⟩
      rw [HB.out]
      go_wp2_with fail
      go_ret
      exact ⟨rfl, hb.trans ((hb4.mono hb.size).trans (hb5.mono (Nat.le_trans hb.size hb4.size)))⟩

set_option maxHeartbeats 400000 in
theorem bounds_great (a0 a1 : Option Addr) (n0 n1 c0 c1 : Nat) (w : World) (m0 : n0 ≤ maxLen) (m1 : n1 ≤ maxLen) (h : 524288 < n0 ∨ 524288 < n1) :
    Calls Try.prog 4 #[.slice a0 n0 c0, .slice a1 n1 c1] w fun e w' => e = .returned (.bool true) ∧ Below w.heap.size w w' := by
  unfold maxLen at m0 m1
  go_enter Try.func4, Try.ntmps4
  go_wp2_with (first | (go_at_call 11; go_in) | (go_at_call 7; exfalso; omega))
  all_goals
    go_ret
    exact ⟨rfl, Below.refl _ _⟩

theorem bounds_walk {w : World} {a0 a1 : Option Addr} {n0 n1 c0 c1 : Nat} {z0 z1 : List Int} (h0 : RowIs w a0 n0 c0 z0) (h1 : RowIs w a1 n1 c1 z1) :
    Calls Try.prog 4 #[.slice a0 n0 c0, .slice a1 n1 c1] w fun e w' => e = .returned (.bool true) ∧ Below w.heap.size w w' := by
  by_cases h : 524288 < n0 ∨ 524288 < n1
  · exact bounds_great a0 a1 n0 n1 c0 c1 w h0.len.1 h1.len.1 h
  · exact bounds_small h0 h1 (by omega) (by omega)
end Go.Proofs.Qxb6604027a
