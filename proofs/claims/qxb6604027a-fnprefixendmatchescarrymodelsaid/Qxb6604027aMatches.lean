/- The walk of FnPrefixEndMatchesCarryModel (3). -/
import Derived.Test.Qxb6604027aCarry
import Derived.Test.Qxb6604027aEqual
namespace Go.Proofs.Qxb6604027a
open Go.RowKit Plain

theorem pe_small {l e : List Int} (h : pe l = some e) (hl : l.length ≤ 1048576) : e.length ≤ 1048576 := by
  have := (pe_lt l e h).2; omega

set_option maxHeartbeats 1000000 in
theorem matches_small {w : World} {a : Option Addr} {len cap : Nat} {zs : List Int} (h : RowIs w a len cap zs) (hl : len ≤ 1048576) :
    Calls Try.prog 3 #[.slice a len cap] w fun e w' => e = .returned (.bool true) ∧ Below w.heap.size w w' := by
  have hlen := h.len.2
  have hx := h.range
  have HW : Hid (RowIs w a len cap zs) := h
  clear h
  have HXL : Hid ((∀ c ∈ zs.take len, 0 ≤ c ∧ c < 256) ∧ (zs.take len).length ≤ 1048576) := ⟨hx, by omega⟩
  clear hx hlen
  go_enter Try.func3, Try.ntmps3
  go_wp2_with (first | (go_at_call 6; go_in))
  refine (copy_any HW.out hl).mono ?_
  rintro e w1 ⟨v, rfl, hv, hb1⟩
  have HV : Hid (Own w1 v (zs.take len)) := hv
  clear hv
  go_wp2_with fail
  refine (prefix_any HV.out HXL.out.2 HXL.out.1).mono ?_
  rintro e w2 ⟨v2, rfl, he2, hb2⟩
  have HE2 : Hid (EndIs w2 v2 (pe (zs.take len))) := he2
  clear he2
  go_wp2_with fail
  refine (carry_any (HV.out.below hb2) HXL.out.2 HXL.out.1).mono ?_
  rintro e w3 ⟨v3, rfl, he3, hb3⟩
  have hb : Below w.heap.size w w3 := hb1.trans ((hb2.mono hb1.size).trans (hb3.mono (Nat.le_trans hb1.size hb2.size)))
  have hnn := fun wx => Lib.run_eql_slice_nil (P := Try.prog) wx 22 5 none 0 0 0 0 Try.underlying22
  rcases HE2.out with ⟨hn, rfl⟩ | ⟨e2, g2, c2, hp2, rfl, hc2, hr2⟩
  · rcases he3 with ⟨_, rfl⟩ | ⟨e3, g3, c3, hp3, _⟩
    · have HO : Hid (Own w3 (.slice none 0 0) []) := Or.inl ⟨rfl, rfl⟩
      clear hn HE2
      go_wp2_with fail
      refine (equal_any HO.out HO.out (by simp)).mono ?_
      rintro e w4 ⟨rfl, hb4⟩
      go_wp2_with fail
      go_ret
      exact ⟨by simp, hb.trans (hb4.mono hb.size)⟩
    · rw [hn] at hp3; cases hp3
  · rcases he3 with ⟨hn, _⟩ | ⟨e3, g3, c3, hp3, rfl, hc3, hr3⟩
    · rw [hn] at hp2; cases hp2
    · have ee : e3 = e2 := by rw [hp3] at hp2; exact Option.some.inj hp2
      subst ee
      have hs2 := fun wx => Lib.run_eql_slice_nil (P := Try.prog) wx 22 5 (some ⟨g2, 0, none⟩) e3.length c2 0 0 Try.underlying22
      have hs3 := fun wx => Lib.run_eql_slice_nil (P := Try.prog) wx 22 5 (some ⟨g3, 0, none⟩) e3.length c3 0 0 Try.underlying22
      have HO2 : Hid (Own w3 (.slice (some ⟨g2, 0, none⟩) e3.length c2) e3) := Or.inr ⟨g2, c2, rfl, hc2, hr2.below hb3 hr2.lt⟩
      have HO3 : Hid (Own w3 (.slice (some ⟨g3, 0, none⟩) e3.length c3) e3) := Or.inr ⟨g3, c3, rfl, hc3, hr3⟩
      have hes := pe_small hp3 HXL.out.2
      clear hp2 hp3 hr2 hr3 HE2
      go_wp2_with fail
      refine (equal_any HO2.out HO3.out hes).mono ?_
      rintro e w4 ⟨rfl, hb4⟩
      go_wp2_with fail
      go_ret
      exact ⟨by simp, hb.trans (hb4.mono hb.size)⟩

set_option maxHeartbeats 400000 in
theorem matches_great (a : Option Addr) (len cap : Nat) (w : World) (hm : len ≤ maxLen) (h : 1048576 < len) :
    Calls Try.prog 3 #[.slice a len cap] w fun e w' => e = .returned (.bool true) ∧ Below w.heap.size w w' := by
  unfold maxLen at hm
  go_enter Try.func3, Try.ntmps3
  go_wp2_with (first | (go_at_call 6; go_in))
  go_ret
  exact ⟨rfl, Below.refl _ _⟩

theorem matches_walk {w : World} {a : Option Addr} {len cap : Nat} {zs : List Int} (h : RowIs w a len cap zs) :
    Calls Try.prog 3 #[.slice a len cap] w fun e w' => e = .returned (.bool true) ∧ Below w.heap.size w w' := by
  by_cases hl : len ≤ 1048576
  · exact matches_small h hl
  · exact matches_great a len cap w h.len.1 (by omega)
end Go.Proofs.Qxb6604027a
