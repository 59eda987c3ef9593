/- The walk of FnLayoutFieldsFlagStep (3), over a contract of ZZLayoutFields (4; layout.fields, 5, is entered in place). -/
import Derived.Test.Qxb6601029aRows
import Derived.WalkKit
import Derived.WalkSpells
namespace Go.Proofs.Qxb6601029a
open Go.RowKit

/-- How many fields a layout with these three flags has. -/
def fld (a b c : Bool) : Int := 3 + a.toNat + b.toNat + c.toNat
theorem fld_lo (a b c : Bool) : 3 ≤ fld a b c := by unfold fld; omega
theorem fld_hi (a b c : Bool) : fld a b c ≤ 6 := by
  unfold fld; have := a.toNat_le; have := b.toNat_le; have := c.toNat_le; omega
theorem fld_a (b c : Bool) : fld true b c = fld false b c + 1 := by simp [fld]; omega
theorem fld_b (a c : Bool) : fld a true c = fld a false c + 1 := by simp [fld]; omega
theorem fld_c (a b : Bool) : fld a b true = fld a b false + 1 := by simp [fld]

set_option maxHeartbeats 1600000 in
theorem fields_any (a b c d : Bool) (w : World) :
    Calls Try.prog 4 #[.bool a, .bool b, .bool c, .bool d] w fun e w' => e = .returned (.int .i64 (fld a b c)) ∧ w' = w.alloc (.cells #[.bool a, .bool b, .bool c, .bool d] 25) := by
  rcases a with _ | _ <;> rcases b with _ | _ <;> rcases c with _ | _
  all_goals
    go_enter Try.func4, Try.ntmps4
    go_wp2
    go_ret
    exact ⟨rfl, rfl⟩

set_option maxHeartbeats 400000 in
theorem walk3 (a0 : Bool) (a1 : Bool) (a2 : Bool) (a3 : Bool) (w : World) :
    Calls Try.prog 3 #[.bool a0, .bool a1, .bool a2, .bool a3] w fun e w' => e = .returned (.bool true) ∧ Grown w w' := by
  have l0 := fld_lo a0 a1 a2
  have u0 := fld_hi a0 a1 a2
  have l1 := fld_lo false a1 a2
  have u1 := fld_hi false a1 a2
  have l2 := fld_lo a0 false a2
  have u2 := fld_hi a0 false a2
  have l3 := fld_lo a0 a1 false
  have u3 := fld_hi a0 a1 false
  have e1 : (fld true a1 a2 != fld false a1 a2 + 1) = false := by rw [fld_a]; simp
  have e2 : (fld a0 true a2 != fld a0 false a2 + 1) = false := by rw [fld_b]; simp
  have e3 : (fld a0 a1 true != fld a0 a1 false + 1) = false := by rw [fld_c]; simp
  go_enter Try.func3, Try.ntmps3
  go_wp2_with (go_at_call 4; refine (fields_any _ _ _ _ _).mono ?_; rintro e w' ⟨rfl, rfl⟩)
  go_ret
  exact ⟨rfl, by repeat (first | exact Grown.refl _ | apply Grown.drew | apply Grown.alloc)⟩
end Go.Proofs.Qxb6601029a
