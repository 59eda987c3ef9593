/- The walk of FnStringEndIsTheFirstQuoteAfterAnEvenRunOfBackslashes (3). -/
import Derived.Test.Qxb6603971aEnd
import Derived.Laws.CopyOwn
namespace Go.Proofs.Qxb6603971a
open Go.RowKit Plain

theorem Try.info5 : (Try.prog.info? 5).map (fun i => (i.zero, i.size, i.bytes)) = some (some (.int .u8 0), 1, 1) := by kernel_rfl
theorem Try.size5 : (Try.prog.info? 5).map (·.size) = some 1 := by kernel_rfl

theorem made_heap {w1 : World} {B g n : Nat} {xs : List Value} (h : w1.ownsRow B 5 1 (.slice (some ⟨g, 0, none⟩) n n) n xs) : ∃ cur : List Value, w1.heap[g]? = some (.cells cur.toArray 5 (0, 0)) ∧ cur.length = n := by
  obtain ⟨_, h | ⟨g', cap, cur, hv, _, hh, _, _, hs, _⟩⟩ := h
  · cases h.1
  · cases hv
    exact ⟨cur.toList, by simpa using hh, by simpa using hs⟩
theorem bytes_of_row {w2 : World} {g : Nat} {cur : List Value} {l : List Int} (h : w2.heap[g]? = some (.cells (splice cur 0 (l.map (Value.int .u8))).toArray 5 (0, 0))) : BytesAt w2 g 0 l := by
  intro j hj
  have e : (l.map (Value.int .u8) ++ cur.drop l.length)[j]? = some (Value.int .u8 l[j]) := by
    rw [List.getElem?_append_left (by simpa using hj)]; simp [hj]
  simp [World.cell?, h, splice, hj, e]
/-- The cells of a slice that came in, at whatever address. -/
def CameAt (w : World) (x : Addr) (l : List Int) : Prop := ∀ j, j < l.length → w.cell? (x.add j) = some (.int .u8 (l.getD j 0))
theorem src_of {w w1 : World} {x : Addr} {l : List Int} (hb : Below w.heap.size w w1) (hc : CameAt w x l) : ∀ j v, (l.map (Value.int .u8))[j]? = some v → w1.cell? (x.add j) = some v := by
  intro j v hj
  have hjl : j < l.length := by
    have := (List.getElem?_eq_some_iff.1 hj).1
    simpa using this
  have h0 := hc j hjl
  rw [hb.cell (World.block_lt_of_cell? _ _ h0), h0]
  simpa [hjl] using hj
theorem one_cells (l : List Int) : ∀ v ∈ l.map (Value.int .u8), v.oneCell' = true := by
  intro v hv; simp at hv; obtain ⟨a, _, rfl⟩ := hv; rfl

theorem first_end {l : List Int} {i : Nat} {v : Int} (h : ∃ T : Nat, v = (i + 1 + T + 1 : Nat) ∧ i + 1 + T < l.length ∧ l.getD (i + 1 + T) 0 = 34 ∧ bs l (i + 1) T % 2 = 0 ∧ ∀ t, t < T → l.getD (i + 1 + t) 0 = 34 → bs l (i + 1) t % 2 = 1) :
    ∃ q : Nat, v = q ∧ endAt (l.drop (i + 1)) (i + 1) = some q := by
  obtain ⟨T, rfl, h1, h2, h3, h4⟩ := h
  exact ⟨_, rfl, end_first0 l (i + 1) T h1 h2 h3 h4⟩

set_option maxHeartbeats 400000 in
theorem first_main (x : Addr) (cap : Nat) (l : List Int) (i : Nat) (w : World) (hcell : CameAt w x l) (hlen : l.length ≤ 1048576) (hi : i < l.length) :
    Calls Try.prog 3 #[.slice (some x) l.length cap, .int .i64 i] w fun e w' => e = .returned (.bool true) ∧ Below w.heap.size w w' := by
  obtain ⟨i0, hin, hz0, hz1, hz2⟩ := info_parts Try.info5
  have hne := fun wx => run_neq_slice_nil_any (P := Try.prog) wx 22 5 (some x) l.length cap 0 0 Try.underlying22
  have HC : Hid (CameAt w x l) := hcell
  clear hcell
  go_enter Try.func3, Try.ntmps3
  go_wp2_with (first
    | (at_make; refine wpList_make_full _ rfl (.tmp 25) (.tmp 25) 22 rfl w.heap.size 5 i0 (.int .u8 0) 1 Try.underlying22 hin hz0 hz1 .i64 .i64 _ _ l.length rfl rfl rfl rfl (by rw [hz2]; omega) (by unfold maxLen; omega) (Nat.le_refl _) ?_; intro w1 hown1 hgrow1; obtain ⟨cur, hcur, hcl⟩ := made_heap hown1; have HCur : Hid (w1.heap[w.heap.size]? = some (.cells cur.toArray 5 (0, 0))) := hcur; have HCl : Hid (cur.length = l.length) := hcl; have hb1 : Below w.heap.size w w1 := (Below.refl _ _).grown hgrow1 (Nat.le_refl _) (fun k h => by cases h); clear hcur hcl hown1 hgrow1)
    | (refine wpList_copy_splice rfl (.tmp 27) (.tmp 28) 22 22 rfl 5 Try.underlying22 Try.size5 _ _ _ _ _ _ rfl rfl w.heap.size 0 cur 5 HCur.out (l.map (Value.int .u8)) (by simp) (fun _ => ⟨rfl, x, rfl, src_of hb1 HC.out⟩) (by simp [HCl.out]) (one_cells _) w.heap.size w hb1 (Nat.le_refl _) ?_; intro w2 HR hb2; have HB : Hid (BytesAt w2 w.heap.size 0 l) := bytes_of_row HR.out; clear HR)
    | (go_at_call 6; go_in))
  refine (evenRun_any _ _ _ _ _ _ (by omega) hi HB.out).mono ?_
  rintro e w' ⟨v, rfl, hv, rfl⟩
  rcases hv with rfl | hv
  · go_wp2_with fail
    go_ret
    exact ⟨rfl, hb2⟩
  · obtain ⟨q, rfl, hq⟩ := first_end hv
    have HQ : Hid (endAt (l.drop (i + 1)) (i + 1) = some q) := hq
    clear hq hv
    go_wp2_with fail
    refine (stringEnd_any _ _ _ _ _ q _ (by omega) hi HB.out HQ.out).mono ?_
    rintro e w' ⟨rfl, rfl⟩
    go_wp2_with fail
    go_ret
    exact ⟨by simp, hb2⟩

set_option maxHeartbeats 400000 in
theorem first_other (a : Option Addr) (len cap : Nat) (i : Int) (w : World) (hm : len ≤ maxLen) (h : 1048576 < len ∨ i < 0 ∨ (len : Int) ≤ i) :
    Calls Try.prog 3 #[.slice a len cap, .int .i64 i] w fun e w' => e = .returned (.bool true) ∧ Below w.heap.size w w' := by
  unfold maxLen at hm
  by_cases h1 : 1048576 < len
  · clear h
    go_enter Try.func3, Try.ntmps3
    go_wp2_with (go_at_call 6; go_in)
    go_ret
    exact ⟨rfl, Below.refl _ _⟩
  · by_cases h2 : i < 0
    · clear h
      go_enter Try.func3, Try.ntmps3
      go_wp2_with (go_at_call 6; go_in)
      go_ret
      exact ⟨rfl, Below.refl _ _⟩
    · have h3 : (len : Int) ≤ i := by omega
      clear h
      go_enter Try.func3, Try.ntmps3
      go_wp2_with (go_at_call 6; go_in)
      go_ret
      exact ⟨rfl, Below.refl _ _⟩

/-- What the row's step tells the walk of a slice of bytes that came in (the shell's own words). -/
theorem first_walk (a0 : Option Addr) (len0 cap0 : Nat) (z0 : List Int) (a1 : Int) (w : World)
    (w0 : (a0 = none ∧ len0 = 0 ∧ cap0 = 0 ∧ z0 = []) ∨ ∃ x, a0 = some x ∧ len0 ≤ cap0 ∧ cap0 ≤ maxLen ∧ z0.length = cap0 ∧ (∀ i, i < z0.length → w.cell? (x.add i) = some (.int .u8 (z0.getD i 0))) ∧ ∀ n ∈ z0, (Lit.int .u8 n).wf = true) :
    Calls Try.prog 3 #[.slice a0 len0 cap0, .int .i64 a1] w fun e w' => e = .returned (.bool true) ∧ Below w.heap.size w w' := by
  rcases w0 with ⟨rfl, rfl, rfl, rfl⟩ | ⟨x, rfl, h1, h2, h3, h4, _⟩
  · exact first_other none 0 0 a1 w (by simp) (by omega)
  · by_cases h : 1048576 < len0 ∨ a1 < 0 ∨ (len0 : Int) ≤ a1
    · exact first_other (some x) len0 cap0 a1 w (Nat.le_trans h1 h2) h
    · obtain ⟨i, rfl⟩ : ∃ i : Nat, a1 = i := ⟨a1.toNat, by omega⟩
      have hl : (z0.take len0).length = len0 := by simp; omega
      have hc : CameAt w x (z0.take len0) := by
        intro j hj
        rw [hl] at hj
        rw [h4 j (by omega)]
        simp [hj]
      have := first_main x cap0 (z0.take len0) i w hc (by omega) (by omega)
      rwa [hl] at this
end Go.Proofs.Qxb6603971a
