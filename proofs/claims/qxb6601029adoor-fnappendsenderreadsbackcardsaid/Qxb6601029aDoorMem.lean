/- Over seat b6601029aD: rows of bytes in memory of the call's own, and lwCloneBytes (7). -/
import Derived.Test.Qxb6601029aDoorRows
import Derived.Test.Qxb6601029aDoorPlain
import Derived.WalkKit
import Derived.WalkSpells
import Derived.WalkLawsBesides
namespace Go.Proofs.Qxb6601029aDoor
open Go.RowKit Plain

theorem Tryd.info5 : (Tryd.prog.info? 5).map (fun i => (i.zero, i.size, i.bytes)) = some (some (.int .u8 0), 1, 1) := by kernel_rfl

/-- Block g opens with the bytes m. -/
def Row (w : World) (g : Nat) (m : List Int) : Prop := ∃ tail : List Value, w.heap[g]? = some (.cells (m.map (Value.int .u8) ++ tail).toArray 5 (0, 0))
theorem Row.cell {w : World} {g : Nat} {m : List Int} (h : Row w g m) {j : Nat} (hj : j < m.length) : w.cell? ⟨g, j, none⟩ = some (.int .u8 (m.getD j 0)) := by
  obtain ⟨tail, h⟩ := h
  have e : (m.map (Value.int .u8) ++ tail)[j]? = some (Value.int .u8 (m.getD j 0)) := by
    rw [List.getElem?_append_left (by simpa using hj)]; simp [hj]
  simp only [World.cell?, h]
  simpa using e
theorem Row.frozen {w : World} {g : Nat} {m : List Int} (h : Row w g m) (j : Nat) : w.frozen? ⟨g, j, none⟩ = false := by
  obtain ⟨tail, h⟩ := h
  simp [World.frozen?, h]
theorem Row.lt {w : World} {g : Nat} {m : List Int} (h : Row w g m) : g < w.heap.size := by
  obtain ⟨tail, h⟩ := h
  exact (Array.getElem?_eq_some_iff.1 h).1
theorem Row.below {B : Nat} {w w' : World} {g : Nat} {m : List Int} (h : Row w g m) (hb : Below B w w') (hg : g < B) : Row w' g m := by
  obtain ⟨tail, h⟩ := h
  exact ⟨tail, by rw [hb.block g hg, h]⟩
theorem Row.take {w : World} {g : Nat} {m : List Int} (h : Row w g m) (k : Nat) : Row w g (m.take k) := by
  obtain ⟨tail, h⟩ := h
  refine ⟨(m.drop k).map (Value.int .u8) ++ tail, ?_⟩
  rw [h, ← List.append_assoc, ← List.map_append, List.take_append_drop]
theorem Row.set {w : World} {g : Nat} {m : List Int} (h : Row w g m) {j : Nat} (hj : j < m.length) (v : Int) : Row (w.setCell ⟨g, j, none⟩ (.int .u8 v)) g (m.set j v) := by
  obtain ⟨tail, h⟩ := h
  refine ⟨tail, ?_⟩
  have hlt : g < w.heap.size := (Array.getElem?_eq_some_iff.1 h).1
  have hv : w.heap[g] = _ := (Array.getElem?_eq_some_iff.1 h).2
  simp only [World.setCell, Array.getElem?_modify, if_true]
  rw [h]
  simp [List.map_set, hj]

set_option maxHeartbeats 400000 in
theorem copy_nil (w : World) : Calls Tryd.prog 7 #[.slice none 0 0] w fun e w' => e = .returned (.slice none 0 0) ∧ w' = w := by
  have hne := fun wx => Lib.run_eql_slice_nil (P := Tryd.prog) wx 22 5 none 0 0 0 0 Tryd.underlying22
  go_enter Tryd.func7, Tryd.ntmps7
  go_wp2
  go_ret
  exact ⟨rfl, rfl⟩

/-- What a copy holds after k bytes. -/
def part (l : List Int) (k : Nat) : List Int := l.take k ++ List.replicate (l.length - k) 0
theorem part_len (l : List Int) (k : Nat) (h : k ≤ l.length) : (part l k).length = l.length := by simp [part]; omega
theorem part_zero (l : List Int) : part l 0 = List.replicate l.length 0 := by simp [part]
theorem part_full (l : List Int) : part l l.length = l := by simp [part]
theorem part_set (l : List Int) (k : Nat) (h : k < l.length) : (part l k).set k (l.getD k 0) = part l (k + 1) := by
  unfold part
  have e1 : l.length - k = (l.length - (k + 1)) + 1 := by omega
  rw [e1, List.replicate_succ, List.set_append_right _ _ (by simp; omega)]
  have e2 : k - (l.take k).length = 0 := by simp; omega
  rw [e2, List.set_cons_zero, List.take_succ_eq_append_getElem h, List.append_assoc]
  simp [List.getD, h]
theorem made_row {w1 : World} {B g n : Nat} (h : w1.ownsRow B 5 1 (.slice (some ⟨g, 0, none⟩) n n) n (madeCells (Value.int .u8 0).cells (n * 1)).toList) : Row w1 g (List.replicate n 0) := by
  obtain ⟨_, h | ⟨g', cap, cur, hv, _, hh, _, _, hs, ht⟩⟩ := h
  · cases h.1
  · cases hv
    refine ⟨[], ?_⟩
    have e : cur = ((List.replicate n (0 : Int)).map (Value.int .u8)).toArray := by
      apply Array.toList_inj.1
      have e1 : cur.toList.take (n * 1) = cur.toList := List.take_of_length_le (by simp [hs])
      rw [← e1, ht]
      simp only [madeCells, Value.cells]
      apply List.ext_getElem (by simp)
      intro i h1 h2
      simp [Nat.mod_one]
    rw [hh, e]; simp

theorem copy_step {wr : World} {g k : Nat} {l : List Int} (h : Row wr g (part l k)) (hlt : k < l.length) : Row (wr.setCell ⟨g, k, none⟩ (.int .u8 l[k])) g (part l (k + 1)) := by
  have := h.set (j := k) (by rw [part_len l k (by omega)]; exact hlt) (l.getD k 0)
  rw [part_set l k hlt] at this
  simpa [List.getD, hlt] using this

set_option maxHeartbeats 400000 in
theorem copy_some (b off cap : Nat) (l : List Int) (w : World) (hl : l.length ≤ 1048576) (hc : ∀ j, j < l.length → w.cell? ⟨b, off + j, none⟩ = some (.int .u8 (l.getD j 0))) (hpos : 0 < l.length) :
    Calls Tryd.prog 7 #[.slice (some ⟨b, off, none⟩) l.length cap] w fun e w' => e = .returned (.slice (some ⟨w.heap.size, 0, none⟩) l.length l.length) ∧ Row w' w.heap.size l ∧ Below w.heap.size w w' := by
  obtain ⟨i0, hin, hz0, hz1, hz2⟩ := info_parts Tryd.info5
  have hne := fun wx => Lib.run_eql_slice_nil (P := Tryd.prog) wx 22 5 (some ⟨b, off, none⟩) l.length cap 0 0 Tryd.underlying22
  have HC : Hid (∀ j, j < l.length → w.cell? ⟨b, off + j, none⟩ = some (.int .u8 (l.getD j 0))) := hc
  clear hc
  go_enter Tryd.func7, Tryd.ntmps7
  go_wp2_with (at_make; refine wpList_make_full _ rfl (.tmp 8) (.tmp 8) 22 rfl w.heap.size 5 i0 (.int .u8 0) 1 Tryd.underlying22 hin hz0 hz1 .i64 .i64 _ _ l.length rfl rfl rfl rfl (by rw [hz2]; omega) (by unfold maxLen; omega) (Nat.le_refl _) ?_; intro w1 hown1 hgrow1)
  have HR1 : Hid (Row w1 w.heap.size (part l 0)) := by rw [part_zero]; exact made_row hown1
  have hb1 : Below w.heap.size w w1 := (Below.refl _ _).grown hgrow1 (Nat.le_refl _) (fun k h => by cases h)
  clear hown1 hgrow1
  go_loopw [4] (fun i wr => ∃ k : Nat, k ≤ l.length ∧ i = .int .i64 k ∧ Hid (Row wr w.heap.size (part l k)) ∧ Below w.heap.size w wr) (fun i _ => l.length - (intOf i).toNat)
  case atStart => exact ⟨0, Nat.zero_le _, rfl, HR1, hb1⟩
  case round =>
    clear HR1 hb1
    obtain ⟨k, hk, rfl, HR, hb⟩ := hrel
    by_cases hlt : k < l.length
    · have hsrc : wr.cell? ⟨b, off + k, none⟩ = some (.int .u8 (l.getD k 0)) := by
        have h0 := HC.out k hlt
        rw [hb.cell (World.block_lt_of_cell? _ _ h0), h0]
      have hfr := HR.out.frozen k
      have R := copy_step HR.out hlt
      have hdst : wr.cell? ⟨w.heap.size, k, none⟩ = some (.int .u8 ((part l k).getD k 0)) := HR.out.cell (by rw [part_len l k hk]; exact hlt)
      go_wp2
      go_roundw
      case rel => exact ⟨k + 1, by omega, by go_num, R, hb.setCell (Nat.le_refl _) _⟩
      case measure => simp [intOf]; omega
    · have hkl : k = l.length := by omega
      have HF : Hid (Row wr w.heap.size l) := by have := HR.out; rw [hkl, part_full] at this; exact this
      clear hkl
      go_wp2
      go_ret
      exact ⟨rfl, HF.out, hb⟩

set_option maxHeartbeats 400000 in
theorem copy_empty (x : Addr) (cap : Nat) (w : World) :
    Calls Tryd.prog 7 #[.slice (some x) 0 cap] w fun e w' => e = .returned (.slice (some ⟨w.heap.size, 0, none⟩) 0 0) ∧ Row w' w.heap.size [] ∧ Below w.heap.size w w' := by
  obtain ⟨i0, hin, hz0, hz1, hz2⟩ := info_parts Tryd.info5
  have hne := fun wx => Lib.run_eql_slice_nil (P := Tryd.prog) wx 22 5 (some x) 0 cap 0 0 Tryd.underlying22
  go_enter Tryd.func7, Tryd.ntmps7
  go_wp2_with (at_make; refine wpList_make_full _ rfl (.tmp 8) (.tmp 8) 22 rfl w.heap.size 5 i0 (.int .u8 0) 1 Tryd.underlying22 hin hz0 hz1 .i64 .i64 _ _ 0 rfl rfl rfl rfl (by rw [hz2]; omega) (by unfold maxLen; omega) (Nat.le_refl _) ?_; intro w1 hown1 hgrow1)
  have HR1 : Hid (Row w1 w.heap.size []) := made_row hown1
  have hb1 : Below w.heap.size w w1 := (Below.refl _ _).grown hgrow1 (Nat.le_refl _) (fun k h => by cases h)
  clear hown1 hgrow1
  refine wp_loop_rounds 1 ?_
  rw [rounds_succ]
  go_wp2
  go_ret
  exact ⟨rfl, HR1.out, hb1⟩

/-- A slice value of the call's own that holds the bytes l and has no spare room: nil (and l empty), or at the head of a row. -/
def Full (w : World) (v : Value) (l : List Int) : Prop := (v = .slice none 0 0 ∧ l = []) ∨ ∃ g, v = .slice (some ⟨g, 0, none⟩) l.length l.length ∧ Row w g l
theorem Full.below {w w' : World} {v : Value} {l : List Int} (h : Full w v l) (hb : Below w.heap.size w w') : Full w' v l := by
  rcases h with h | ⟨g, h1, h3⟩
  · exact Or.inl h
  · exact Or.inr ⟨g, h1, h3.below hb h3.lt⟩

/-- The shell's words on a slice of bytes that came in. -/
def RowIs (w : World) (a : Option Addr) (len cap : Nat) (zs : List Int) : Prop :=
  (a = none ∧ len = 0 ∧ cap = 0 ∧ zs = []) ∨ ∃ x, a = some x ∧ len ≤ cap ∧ cap ≤ maxLen ∧ zs.length = cap ∧ (∀ i, i < zs.length → w.cell? (x.add i) = some (.int .u8 (zs.getD i 0))) ∧ ∀ n ∈ zs, (Lit.int .u8 n).wf = true
theorem RowIs.len {w : World} {a : Option Addr} {len cap : Nat} {zs : List Int} (h : RowIs w a len cap zs) : len ≤ maxLen ∧ (zs.take len).length = len := by
  rcases h with ⟨_, rfl, rfl, rfl⟩ | ⟨x, _, h1, h2, h3, _⟩
  · simp
  · exact ⟨by omega, by simp; omega⟩
theorem RowIs.range {w : World} {a : Option Addr} {len cap : Nat} {zs : List Int} (h : RowIs w a len cap zs) : ∀ n ∈ zs.take len, 0 ≤ n ∧ n < 256 := by
  rcases h with ⟨rfl, rfl, rfl, rfl⟩ | ⟨x, rfl, h1, h2, h3, h4, h5⟩
  · simp
  · intro n hn
    have h := h5 n (List.mem_of_mem_take hn)
    simp [Lit.wf, IntKind.min, IntKind.max, IntKind.signed, IntKind.bits] at h
    omega
theorem RowIs.below {w w' : World} {a : Option Addr} {len cap : Nat} {zs : List Int} (h : RowIs w a len cap zs) (hb : Below w.heap.size w w') : RowIs w' a len cap zs := by
  rcases h with h | ⟨x, h0, h1, h2, h3, h4, h5⟩
  · exact Or.inl h
  · exact Or.inr ⟨x, h0, h1, h2, h3, fun i hi => by rw [hb.cell (World.block_lt_of_cell? _ _ (h4 i hi)), h4 i hi], h5⟩

/-- lwCloneBytes, whatever slice of bytes came in: a copy of the call's own; nil stays nil. -/
theorem copy_any {w : World} {a : Option Addr} {len cap : Nat} {zs : List Int} (h : RowIs w a len cap zs) (hl : len ≤ 1048576) :
    Calls Tryd.prog 7 #[.slice a len cap] w fun e w' => ∃ v, e = .returned v ∧ Full w' v (zs.take len) ∧ Below w.heap.size w w' := by
  have hlen := h.len.2
  rcases h with ⟨rfl, rfl, rfl, rfl⟩ | ⟨x, rfl, h1, h2, h3, h4, h5⟩
  · refine (copy_nil w).mono ?_
    rintro e w' ⟨rfl, rfl⟩
    exact ⟨_, rfl, Or.inl ⟨rfl, rfl⟩, Below.refl _ _⟩
  · have hc : ∀ j, j < (zs.take len).length → w.cell? (x.add j) = some (.int .u8 ((zs.take len).getD j 0)) := by
      intro j hj
      rw [hlen] at hj
      rw [h4 j (by omega)]
      simp [hj]
    generalize zs.take len = l at hlen hc
    subst hlen
    by_cases h0 : l.length = 0
    · obtain rfl : l = [] := List.eq_nil_of_length_eq_zero h0
      refine (copy_empty x cap w).mono ?_
      rintro e w' ⟨rfl, hr, hb⟩
      exact ⟨_, rfl, Or.inr ⟨_, rfl, hr⟩, hb⟩
    · obtain ⟨b, off, spot⟩ := x
      have hspot : spot = none := by simpa [Addr.add] using World.cell?_spot (hc 0 (by omega))
      subst hspot
      refine (copy_some b off cap l w hl (fun j hj => by rw [← hc j hj, Addr.add_lit]) (by omega)).mono ?_
      rintro e w' ⟨rfl, hr, hb⟩
      exact ⟨_, rfl, Or.inr ⟨_, rfl, hr⟩, hb⟩
end Go.Proofs.Qxb6601029aDoor
