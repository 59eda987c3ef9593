/- Over seat b6601029aD: append from whatever source onto a full slice or onto a row of the call's own; appendSender (14), ZZAppendSender (8). -/
import Derived.Test.Qxb6601029aDoorRead
import Derived.Test.Qxb6601029aDoorShelf
import Derived.Deep.AppendSrc
import Derived.Deep.Upon
namespace Go.Proofs.Qxb6601029aDoor
open Go.RowKit Plain

section
variable {P : Program} (w : World)

theorem run_room_src (t tx ty e : TypeId) (i : TypeInfo) (ht : P.underlying t = some (.slice e)) (hi : P.info? e = some i) (g sLen sCap : Nat) (cur : Array Value) (hg : w.heap[g]? = some (.cells cur e (0, 0)))
    (x : Value) (m : Nat) (news : List Value) (hs : Src P i.size tx x m news w) (hroom : sLen + m ≤ sCap) (hfit : sLen * i.size + news.length ≤ cur.size) :
    (Builtin.append_ #[t, tx] ty #[.slice (some ⟨g, 0, none⟩) sLen sCap, x]).run P w =
      .ok (.slice (some ⟨g, 0, none⟩) (sLen + m) sCap) (w.setRow g (cur.toList.take (sLen * i.size) ++ news ++ cur.toList.drop (sLen * i.size + news.length)).toArray) := by
  have hst := run_storeCells_at P g (sLen * i.size) e news 0 cur w hg (by simpa using hfit) hs.one
  simp only [Nat.add_zero] at hst
  rcases hs.kind with ⟨e', hk⟩ | hk <;> simp [Builtin.append_, run_underlying ht, run_underlying hk, sizeOf, typeInfo, hi, hs.len, hroom, hs.cells, Addr.add_lit, hst]

/-- What a grown row owns. -/
theorem grown_owns (e : TypeId) (i : TypeInfo) (z : Value) (base n m old : Nat) (xs news : List Value) (_hsize : i.size = 1) (hzs : z.cells.size = 1) (hxs : xs.length = n) (hnews : news.length = m) (h63 : n + m ≤ maxLen) (hbase : base ≤ w.heap.size) :
    (w.drew.alloc (.cells ((xs ++ news).toArray ++ Builtin.zeroCells z.cells (grownCap w (n + m) old e - (n + m))) e)).ownsRow base e 1 (.slice (some ⟨w.heap.size, 0, none⟩) (n + m) (grownCap w (n + m) old e)) (n + m) (xs ++ news) ∧
    w.grownBy (w.drew.alloc (.cells ((xs ++ news).toArray ++ Builtin.zeroCells z.cells (grownCap w (n + m) old e - (n + m))) e)) none := by
  have hge := grownCap_ge w (n + m) old e
  have hcm : grownCap w (n + m) old e ≤ maxLen := grownCap_le_maxLen w (n + m) old e h63
  have hlen : (xs ++ news).length = (n + m) * 1 := by simp [hxs, hnews]
  refine ⟨⟨hlen, .inr ⟨w.heap.size, _, _, rfl, hbase, heap_alloc_new w.drew _, hge, hcm, ?_, ?_⟩⟩, ⟨rfl, rfl, rfl, by simp, fun k hk _ => Below.heap_alloc w.drew _ k hk⟩⟩
  · simp only [Array.size_append, List.size_toArray, size_zeroCells, hzs, hlen]
    omega
  · rw [← hlen, Array.toList_append]
    exact List.take_left

/-- append onto a row of the call's own (or nil), out of whatever source. -/
theorem append_next (base : Nat) (t tx e : TypeId) (i : TypeInfo) (z : Value) (ht : P.underlying t = some (.slice e)) (hi : P.info? e = some i) (hz : i.zero = some z) (hsize : i.size = 1) (hby : i.bytes = 1) (hzs : z.cells.size = 1)
    (v : Value) (n : Nat) (xs : List Value) (hown : w.ownsRow base e 1 v n xs) (x : Value) (m : Nat) (news : List Value) (hs : Src P 1 tx x m news w) (hpos : 0 < n) (h63 : n + m ≤ 140737488355328) (hbase : base ≤ w.heap.size) :
    ∃ v' w', (∀ ty, (Builtin.append_ #[t, tx] ty #[v, x]).run P w = .ok v' w') ∧ w'.ownsRow base e 1 v' (n + m) (xs ++ news) ∧ Below base w w' := by
  have hnl : news.length = m := by simpa using hs.newsLen
  have hxl : xs.length = n := by simpa using hown.1
  have hml : n + m ≤ maxLen := by unfold maxLen; omega
  have hs' : Src P i.size tx x m news w := by rw [hsize]; exact hs
  rcases hown.2 with ⟨rfl, rfl⟩ | ⟨g, cap, cur, rfl, hbg, hg, hnc, hcm, hcs, htake⟩
  · exact absurd hpos (by omega)
  · by_cases hroom : n + m ≤ cap
    · have hr := fun ty => run_room_src (P := P) w t tx ty e i ht hi g n cap cur hg x m news hs' hroom (by rw [hsize, hnl, hcs]; omega)
      refine ⟨_, _, hr, ⟨by simp [hxl, hnl], .inr ⟨g, cap, _, rfl, hbg, setRow_heap w g cur _ e _ hg, hroom, hcm, ?_, ?_⟩⟩, ?_⟩
      · simp only [List.size_toArray, List.length_append, List.length_take, List.length_drop, Array.length_toList, hsize, hnl, hcs]
        omega
      · rw [hsize, htake]
        have : (xs ++ news).length = (n + m) * 1 := by simp [hxl, hnl]
        rw [← this]
        exact List.take_left
      · exact ⟨rfl, rfl, rfl, by simp [World.setRow], fun k hk => setRow_other w g k _ (by omega)⟩
    · have holds : ∀ j u, xs[j]? = some u → w.drew.cell? ((⟨g, 0, none⟩ : Addr).add j) = some u := hown.cells (g := g) rfl
      have hold := run_firstCells_some (P := P) w.drew i.size n ⟨g, 0, none⟩ n cap xs (by rw [hsize, hxl]; omega) holds
      have hr := fun ty => run_append_grow_src (P := P) w t tx ty e i z ht hi hz (some ⟨g, 0, none⟩) n cap xs hold x m news hs' (by omega) (by omega) (growslice_fits (by omega) (by rw [hby]; omega))
      have hgr := grown_owns w e i z base n m cap xs news hsize hzs hxl hnl hml hbase
      exact ⟨_, _, hr, hgr.1, (Below.refl _ _).grown hgr.2 hbase (fun k h => by cases h)⟩

/-- append onto a slice without spare room, of something that is not empty: a new row; nothing that was there turns. -/
theorem append_first (t tx e : TypeId) (i : TypeInfo) (z : Value) (ht : P.underlying t = some (.slice e)) (hi : P.info? e = some i) (hz : i.zero = some z) (hsize : i.size = 1) (hby : i.bytes = 1) (hzs : z.cells.size = 1)
    (ao : Option Addr) (n : Nat) (xs : List Value) (hxl : xs.length = n) (hn : ao = none → n = 0) (holds : ∀ ad, ao = some ad → ∀ j u, xs[j]? = some u → w.cell? (ad.add j) = some u)
    (x : Value) (m : Nat) (news : List Value) (hs : Src P 1 tx x m news w) (hpos : 0 < m) (h63 : n + m ≤ 140737488355328) :
    ∃ v' w', (∀ ty, (Builtin.append_ #[t, tx] ty #[.slice ao n n, x]).run P w = .ok v' w') ∧ w'.ownsRow w.heap.size e 1 v' (n + m) (xs ++ news) ∧ Below w.heap.size w w' := by
  have hnl : news.length = m := by simpa using hs.newsLen
  have hml : n + m ≤ maxLen := by unfold maxLen; omega
  have hs' : Src P i.size tx x m news w := by rw [hsize]; exact hs
  have hold : (Builtin.firstCells i.size n (.slice ao n n)).run P w.drew = .ok xs.toArray w.drew := by
    cases ao with
    | none =>
      obtain rfl : n = 0 := hn rfl
      obtain rfl : xs = [] := List.eq_nil_of_length_eq_zero hxl
      exact run_firstCells_none w.drew i.size 0 0 0
    | some ad => exact run_firstCells_some (P := P) w.drew i.size n ad n n xs (by rw [hsize, hxl]; omega) (holds ad rfl)
  have hr := fun ty => run_append_grow_src (P := P) w t tx ty e i z ht hi hz ao n n xs hold x m news hs' (by omega) (by omega) (growslice_fits (by omega) (by rw [hby]; omega))
  have hgr := grown_owns w e i z w.heap.size n m n xs news hsize hzs hxl hnl hml (Nat.le_refl _)
  exact ⟨_, _, hr, hgr.1, (Below.refl _ _).grown hgr.2 (Nat.le_refl _) (fun k h => by cases h)⟩

/-- An append whose run is known, for the walk. -/
theorem wpList_append_run {ops : Array Oper} {rest : List Oper} {o : Oper} {a : Act} {Q : Exit → Act → World → Prop} (hgd : o.guard = none) (s x : Operand) (t tx : TypeId)
    (ho : o.op = .call { callee := .builtin .append, args := #[s, x], argTypes := #[t, tx] }) (v xv v' : Value) (w' : World) (hs : a.eval s = v) (hx : a.eval x = xv)
    (hrun : ∀ ty, (Builtin.append_ #[t, tx] ty #[v, xv]).run P w = .ok v' w') (h : wpList P ops Q rest (a.put o.dst v') w') : wpList P ops Q (o :: rest) a w := by
  refine wpList_plain hgd fun K hK' => ?_
  have hr := hrun o.type
  unfold Oper.wp
  simp [execOp, ho, resolve, invoke, builtin, hs, hx, hr, Result.andThen]
  exact hK' _ _ h
end

/-- The new cell of a one-element literal. -/
theorem one_src (w : World) : Src Tryd.prog 1 22 (.slice (some ⟨w.heap.size, 0, none⟩) 1 1) 1 [.int .u8 32] (w.alloc (.cells #[.int .u8 32] 5)) :=
  Src.ofSlice _ Tryd.underlying22 ⟨w.heap.size, 0, none⟩ 1 1 [.int .u8 32] rfl (by
    intro j u hj
    match j, hj with
    | 0, hj => simp at hj; subst hj; simp [Addr.add]) (by intro u hu; simp at hu; subst hu; rfl)
theorem byteCells_eq (s : ByteArray) : byteCells s = (strI s).map (Value.int .u8) := by simp [byteCells, strI, toI]
theorem numCells_eq (n : Int) : Lib.byteCells (Lib.itoa n) = (num n).map (Value.int .u8) := by simp [Lib.byteCells, num, toI]

/-- What appendSender lays behind l. -/
def sent (l : List Int) (sv st : ByteArray) (n : Int) : List Int := l ++ (strI sv ++ (32 :: (strI st ++ (32 :: num n))))

/-- The value and the world behind the whole chain. -/
theorem end_row {w' : World} {B N : Nat} {v : Value} {T : List Int} (hown : w'.ownsRow B 5 1 v N (T.map (Value.int .u8))) (hpos : 0 < N) : ∃ g c, v = .slice (some ⟨g, 0, none⟩) T.length c ∧ T.length ≤ c ∧ B ≤ g ∧ Row w' g T := by
  obtain ⟨hl, h | ⟨g, cap, cur, rfl, hB, hh, hn, _, hs, ht⟩⟩ := hown
  · exact absurd hpos (by omega)
  · have e : N = T.length := by simpa using hl.symm
    subst e
    refine ⟨g, cap, rfl, hn, hB, cur.toList.drop T.length, ?_⟩
    have : T.map (Value.int .u8) ++ cur.toList.drop T.length = cur.toList := by
      rw [← ht]; simp
    rw [this, hh]

theorem sent_cells (l : List Int) (sv st : ByteArray) (n : Int) : l.map (Value.int .u8) ++ byteCells sv ++ [Value.int .u8 32] ++ byteCells st ++ [Value.int .u8 32] ++ Lib.byteCells (Lib.itoa n) = (sent l sv st n).map (Value.int .u8) := by
  simp [sent, byteCells_eq, numCells_eq]
theorem sent_cells0 (l : List Int) (sv st : ByteArray) (n : Int) (h : sv.size = 0) : l.map (Value.int .u8) ++ [Value.int .u8 32] ++ byteCells st ++ [Value.int .u8 32] ++ Lib.byteCells (Lib.itoa n) = (sent l sv st n).map (Value.int .u8) := by
  have e : strI sv = [] := List.eq_nil_of_length_eq_zero (by rw [strI_len]; exact h)
  simp [sent, byteCells_eq, numCells_eq, e]

set_option maxHeartbeats 1000000 in
/-- ZZAppendSender where the version is not empty: the state behind it is known. -/
theorem sender_some (w : World) (v : Value) (l : List Int) (sv st : ByteArray) (n : Int) (hl : l.length ≤ 262144) (hv : sv.size ≤ 262144) (hst : st.size ≤ 262144) (h0 : -9223372036854775808 ≤ n) (h1 : n ≤ 9223372036854775807) (hpos : 0 < sv.size)
    (ao : Option Addr) (hvv : v = .slice ao l.length l.length) (hn : ao = none → l.length = 0) (holds : ∀ ad, ao = some ad → ∀ j u, (l.map (Value.int .u8))[j]? = some u → w.cell? (ad.add j) = some u)
    (htab : Lib.TabBelow Tryd.prog w.heap.size w Tryd.powName .u64 Lib.pow10Tab) :
    Calls Tryd.prog 8 #[v, .string sv, .string st, .int .i64 n] w fun e w' => ∃ g c T, e = .returned (.slice (some ⟨g, 0, none⟩) T.length c) ∧ T.length ≤ c ∧ Hid (T = sent l sv st n) ∧ Row w' g T ∧ Below w.heap.size w w' := by
  subst hvv
  obtain ⟨i0, hin, hz0, hz1, hz2⟩ := info_parts Tryd.info5
  obtain ⟨v1, w1, hrun1, hown1, hb1⟩ := append_first (P := Tryd.prog) w 22 27 5 i0 (.int .u8 0) Tryd.underlying22 hin hz0 hz1 hz2 rfl ao l.length (l.map (Value.int .u8)) (by simp) hn holds (.string sv) sv.size (byteCells sv) (Src.ofString w Tryd.underlying27 sv) hpos (by omega)
  have hs1 := hb1.size
  obtain ⟨v2, w2, hrun2, hown2, hb2⟩ := append_next (P := Tryd.prog) (w1.alloc (.cells #[.int .u8 32] 5)) w.heap.size 22 22 5 i0 (.int .u8 0) Tryd.underlying22 hin hz0 hz1 hz2 rfl v1 _ _ (hown1.alloc _) _ 1 [.int .u8 32] (one_src w1) (by omega) (by omega) (by simp; omega)
  have hs2 := hb2.size
  have hs2' : w.heap.size ≤ w2.heap.size := by simp at hs2; omega
  obtain ⟨v3, w3, hrun3, hown3, hb3⟩ := append_next (P := Tryd.prog) w2 w.heap.size 22 28 5 i0 (.int .u8 0) Tryd.underlying22 hin hz0 hz1 hz2 rfl v2 _ _ hown2 (.string st) st.size (byteCells st) (Src.ofString w2 Tryd.underlying28 st) (by omega) (by omega) hs2'
  have hs3 := hb3.size
  obtain ⟨v4, w4, hrun4, hown4, hb4⟩ := append_next (P := Tryd.prog) (w3.alloc (.cells #[.int .u8 32] 5)) w.heap.size 22 22 5 i0 (.int .u8 0) Tryd.underlying22 hin hz0 hz1 hz2 rfl v3 _ _ (hown3.alloc _) _ 1 [.int .u8 32] (one_src w3) (by omega) (by omega) (by simp; omega)
  have hs4 := hb4.size
  have hs4' : w.heap.size ≤ w4.heap.size := by simp at hs4; omega
  have hbw : Below w.heap.size w w4 := (((((hb1.alloc hs1 _).trans hb2).trans hb3).alloc (by omega) _).trans hb4)
  have H1 : Hid (∀ ty, (Builtin.append_ #[22, 27] ty #[.slice ao l.length l.length, .string sv]).run Tryd.prog w = .ok v1 w1) := hrun1
  have H2 : Hid (∀ ty, (Builtin.append_ #[22, 22] ty #[v1, .slice (some ⟨w1.heap.size, 0, none⟩) 1 1]).run Tryd.prog (w1.alloc (.cells #[.int .u8 32] 5)) = .ok v2 w2) := hrun2
  have H3 : Hid (∀ ty, (Builtin.append_ #[22, 28] ty #[v2, .string st]).run Tryd.prog w2 = .ok v3 w3) := hrun3
  have H4 : Hid (∀ ty, (Builtin.append_ #[22, 22] ty #[v3, .slice (some ⟨w3.heap.size, 0, none⟩) 1 1]).run Tryd.prog (w3.alloc (.cells #[.int .u8 32] 5)) = .ok v4 w4) := hrun4
  have HO : Hid (w4.ownsRow w.heap.size 5 1 v4 (l.length + sv.size + 1 + st.size + 1) (l.map (Value.int .u8) ++ byteCells sv ++ [.int .u8 32] ++ byteCells st ++ [.int .u8 32])) := hown4
  have HT : Hid (Lib.TabBelow Tryd.prog w.heap.size w4 Tryd.powName .u64 Lib.pow10Tab) := htab.on hbw
  clear hrun1 hrun2 hrun3 hrun4 hown1 hown2 hown3 hown4 hb1 hb2 hb3 hb4 hs1 hs2 hs3 hs4 hs2' htab holds
  go_enter Tryd.func8, Tryd.ntmps8
  go_wp2_with (first
    | (at_builtin; refine wpList_append_run _ rfl (.tmp 9) (.tmp 10) 22 27 rfl _ _ v1 w1 rfl rfl H1.out ?_)
    | (at_builtin; refine wpList_append_run _ rfl (.tmp 12) (.tmp 13) 22 22 rfl _ _ v2 w2 rfl rfl H2.out ?_)
    | (at_builtin; refine wpList_append_run _ rfl (.tmp 15) (.tmp 16) 22 28 rfl _ _ v3 w3 rfl rfl H3.out ?_)
    | (at_builtin; refine wpList_append_run _ rfl (.tmp 18) (.tmp 19) 22 22 rfl _ _ v4 w4 rfl rfl H4.out ?_)
    | (go_at_call 14; go_in))
  refine (Tryd.strconv_AppendInt_10 w.heap.size _ n h0 h1 v4 _ w4 HO.out hs4' (by omega) HT.out).mono ?_
  rintro e w5 ⟨v5, rfl, hown5, hb5, _⟩
  rw [sent_cells l sv st n] at hown5
  obtain ⟨g, c, hv5, hc, _, hr5⟩ := end_row hown5 (by omega)
  have HR : Hid (Row w5 g (sent l sv st n)) := hr5
  obtain ⟨T, hT⟩ : ∃ T, T = sent l sv st n := ⟨_, rfl⟩
  rw [← hT] at hv5 hc HR
  have HH : Hid (T = sent l sv st n) := hT
  clear hT hr5 hown5 HO HT H1 H2 H3 H4
  rw [hv5]
  clear hv5
  go_wp2
  go_ret
  exact ⟨_, _, T, rfl, hc, HH, HR.out, hbw.trans hb5⟩

set_option maxHeartbeats 1000000 in
/-- ZZAppendSender where the version is empty. -/
theorem sender_none (w : World) (v : Value) (l : List Int) (sv st : ByteArray) (n : Int) (hl : l.length ≤ 262144) (_hv : sv.size ≤ 262144) (hst : st.size ≤ 262144) (h0 : -9223372036854775808 ≤ n) (h1 : n ≤ 9223372036854775807) (hz : sv.size = 0)
    (ao : Option Addr) (hvv : v = .slice ao l.length l.length) (hn : ao = none → l.length = 0) (holds : ∀ ad, ao = some ad → ∀ j u, (l.map (Value.int .u8))[j]? = some u → w.cell? (ad.add j) = some u)
    (htab : Lib.TabBelow Tryd.prog w.heap.size w Tryd.powName .u64 Lib.pow10Tab) :
    Calls Tryd.prog 8 #[v, .string sv, .string st, .int .i64 n] w fun e w' => ∃ g c T, e = .returned (.slice (some ⟨g, 0, none⟩) T.length c) ∧ T.length ≤ c ∧ Hid (T = sent l sv st n) ∧ Row w' g T ∧ Below w.heap.size w w' := by
  subst hvv
  obtain ⟨i0, hin, hz0, hz1, hz2⟩ := info_parts Tryd.info5
  have hrun1 : ∀ ty, (Builtin.append_ #[22, 27] ty #[.slice ao l.length l.length, .string sv]).run Tryd.prog w = .ok (.slice ao l.length l.length) w := fun ty =>
    run_append_nothing (P := Tryd.prog) w 22 27 ty 5 i0 Tryd.underlying22 hin ao l.length l.length (Nat.le_refl _) (.string sv) (by
      have h := Src.ofString (P := Tryd.prog) w Tryd.underlying27 sv
      have e : byteCells sv = [] := List.eq_nil_of_length_eq_zero (by rw [byteCells_length]; exact hz)
      rw [hz, e] at h
      rw [hz1]; exact h)
  obtain ⟨v2, w2, hrun2, hown2, hb2⟩ := append_first (P := Tryd.prog) (w.alloc (.cells #[.int .u8 32] 5)) 22 22 5 i0 (.int .u8 0) Tryd.underlying22 hin hz0 hz1 hz2 rfl ao l.length (l.map (Value.int .u8)) (by simp) hn (fun ad e j u hj => by have h := holds ad e j u hj; rw [World.cell?_alloc_lt _ _ _ (World.block_lt_of_cell? _ _ h)]; exact h) _ 1 [.int .u8 32] (one_src w) (by omega) (by omega)
  have hs2 := hb2.size
  obtain ⟨B, hB⟩ : ∃ B, B = w.heap.size + 1 := ⟨_, rfl⟩
  rw [World.size_alloc, ← hB] at hs2 hown2 hb2
  have hBw : w.heap.size ≤ B := by omega
  obtain ⟨v3, w3, hrun3, hown3, hb3⟩ := append_next (P := Tryd.prog) w2 B 22 28 5 i0 (.int .u8 0) Tryd.underlying22 hin hz0 hz1 hz2 rfl v2 _ _ hown2 (.string st) st.size (byteCells st) (Src.ofString w2 Tryd.underlying28 st) (by omega) (by omega) hs2
  have hs3 := hb3.size
  obtain ⟨v4, w4, hrun4, hown4, hb4⟩ := append_next (P := Tryd.prog) (w3.alloc (.cells #[.int .u8 32] 5)) B 22 22 5 i0 (.int .u8 0) Tryd.underlying22 hin hz0 hz1 hz2 rfl v3 _ _ (hown3.alloc _) _ 1 [.int .u8 32] (one_src w3) (by omega) (by omega) (by simp; omega)
  have hs4 := hb4.size
  have hs4' : B ≤ w4.heap.size := by simp at hs4; omega
  have hbw : Below w.heap.size w w4 := (((((Below.refl w.heap.size w).alloc (Nat.le_refl _) _).trans (hb2.mono hBw)).trans (hb3.mono hBw)).alloc (by omega) _).trans (hb4.mono hBw)
  have H1 : Hid (∀ ty, (Builtin.append_ #[22, 27] ty #[.slice ao l.length l.length, .string sv]).run Tryd.prog w = .ok (.slice ao l.length l.length) w) := hrun1
  have H2 : Hid (∀ ty, (Builtin.append_ #[22, 22] ty #[.slice ao l.length l.length, .slice (some ⟨w.heap.size, 0, none⟩) 1 1]).run Tryd.prog (w.alloc (.cells #[.int .u8 32] 5)) = .ok v2 w2) := hrun2
  have H3 : Hid (∀ ty, (Builtin.append_ #[22, 28] ty #[v2, .string st]).run Tryd.prog w2 = .ok v3 w3) := hrun3
  have H4 : Hid (∀ ty, (Builtin.append_ #[22, 22] ty #[v3, .slice (some ⟨w3.heap.size, 0, none⟩) 1 1]).run Tryd.prog (w3.alloc (.cells #[.int .u8 32] 5)) = .ok v4 w4) := hrun4
  have HO : Hid (w4.ownsRow B 5 1 v4 (l.length + 1 + st.size + 1) (l.map (Value.int .u8) ++ [.int .u8 32] ++ byteCells st ++ [.int .u8 32])) := hown4
  have HT : Hid (Lib.TabBelow Tryd.prog B w4 Tryd.powName .u64 Lib.pow10Tab) := fun w' h' => htab w' (hbw.trans (h'.mono hBw))
  have HS0 : Hid (sv.size = 0) := hz
  clear hrun1 hrun2 hrun3 hrun4 hown2 hown3 hown4 hb2 hb3 hb4 hs2 hs3 hs4 htab holds hz hB
  go_enter Tryd.func8, Tryd.ntmps8
  go_wp2_with (first
    | (at_builtin; refine wpList_append_run _ rfl (.tmp 9) (.tmp 10) 22 27 rfl _ _ (.slice ao l.length l.length) w rfl rfl H1.out ?_)
    | (at_builtin; refine wpList_append_run _ rfl (.tmp 12) (.tmp 13) 22 22 rfl _ _ v2 w2 rfl rfl H2.out ?_)
    | (at_builtin; refine wpList_append_run _ rfl (.tmp 15) (.tmp 16) 22 28 rfl _ _ v3 w3 rfl rfl H3.out ?_)
    | (at_builtin; refine wpList_append_run _ rfl (.tmp 18) (.tmp 19) 22 22 rfl _ _ v4 w4 rfl rfl H4.out ?_)
    | (go_at_call 14; go_in))
  refine (Tryd.strconv_AppendInt_10 B _ n h0 h1 v4 _ w4 HO.out hs4' (by omega) HT.out).mono ?_
  rintro e w5 ⟨v5, rfl, hown5, hb5, _⟩
  rw [sent_cells0 l sv st n HS0.out] at hown5
  obtain ⟨g, c, hv5, hc, _, hr5⟩ := end_row hown5 (by omega)
  have HR : Hid (Row w5 g (sent l sv st n)) := hr5
  obtain ⟨T, hT⟩ : ∃ T, T = sent l sv st n := ⟨_, rfl⟩
  rw [← hT] at hv5 hc HR
  have HH : Hid (T = sent l sv st n) := hT
  clear hT hr5 hown5 HO HT H1 H2 H3 H4
  rw [hv5]
  clear hv5
  go_wp2
  go_ret
  exact ⟨_, _, T, rfl, hc, HH, HR.out, hbw.trans (hb5.mono hBw)⟩

/-- ZZAppendSender on a slice of the call's own without spare room. -/
theorem sender_any {w : World} {v : Value} {l : List Int} (h : Full w v l) (sv st : ByteArray) (n : Int) (hl : l.length ≤ 262144) (hv : sv.size ≤ 262144) (hst : st.size ≤ 262144) (h0 : -9223372036854775808 ≤ n) (h1 : n ≤ 9223372036854775807)
    (htab : Lib.TabBelow Tryd.prog w.heap.size w Tryd.powName .u64 Lib.pow10Tab) :
    Calls Tryd.prog 8 #[v, .string sv, .string st, .int .i64 n] w fun e w' => ∃ g c T, e = .returned (.slice (some ⟨g, 0, none⟩) T.length c) ∧ T.length ≤ c ∧ Hid (T = sent l sv st n) ∧ Row w' g T ∧ Below w.heap.size w w' := by
  obtain ⟨ao, hvv, hn, holds⟩ : ∃ ao, v = .slice ao l.length l.length ∧ (ao = none → l.length = 0) ∧ (∀ ad, ao = some ad → ∀ j u, (l.map (Value.int .u8))[j]? = some u → w.cell? (ad.add j) = some u) := by
    rcases h with ⟨rfl, rfl⟩ | ⟨g, rfl, hr⟩
    · exact ⟨none, rfl, fun _ => rfl, fun ad e => by cases e⟩
    · refine ⟨_, rfl, fun e => (by cases e), fun ad e j u hj => ?_⟩
      cases e
      have hjl : j < l.length := by
        have := (List.getElem?_eq_some_iff.1 hj).1
        simpa using this
      rw [Addr.add_lit, Nat.zero_add, hr.cell hjl]
      simpa [hjl] using hj
  by_cases hz : sv.size = 0
  · exact sender_none w v l sv st n hl hv hst h0 h1 hz ao hvv hn holds htab
  · exact sender_some w v l sv st n hl hv hst h0 h1 (by omega) ao hvv hn holds htab
end Go.Proofs.Qxb6601029aDoor
