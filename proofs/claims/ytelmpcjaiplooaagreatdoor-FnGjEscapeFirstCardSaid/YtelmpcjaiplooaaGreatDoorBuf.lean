/- A row of bytes of the call's own that may bear the mark of a conversion: append to it, read it as a string. -/
import Derived.Test.YtelmpcjaiplooaaGreatDoorProg
import Derived.Test.YtelmpcjaiplooaaGreatDoorWWords
import Derived.Lib.BufferWrite
import Derived.Lib.SlBuf
import Derived.Lib.Hide
set_option linter.unusedSimpArgs false
set_option linter.unusedVariables false
namespace Go.Proofs.YtelmpcjaiplooaaGreatDoor
open Go.RowKit Go.Proofs.YtelmpcjaiplooaaGreatDoorW.PrintWords

theorem info5 : (Tryz.prog.info? 5).map (fun i => (i.zero, i.size, i.bytes)) = some (some (.int .u8 0), 1, 1) := by kernel_rfl

/-- The mark lies behind the row's end (or there is none). -/
def Marked (cur : Array Value) (m : Nat × Nat) : Prop := m = (0, 0) ∨ cur.size ≤ m.1

theorem run_storeCells_marked {P : Program} (g o : Nat) (t : TypeId) (m : Nat × Nat) : ∀ (vs : List Value) (i : Nat) (cur : Array Value) (w : World), w.heap[g]? = some (.cells cur t m) → Marked cur m → o + i + vs.length ≤ cur.size → (∀ v ∈ vs, v.oneCell' = true) →
    (storeCells ⟨g, o, none⟩ vs i).run P w = .ok () (w.setRow g (cur.toList.take (o + i) ++ vs ++ cur.toList.drop (o + i + vs.length)).toArray)
  | [], i, cur, w, hg, _, _, _ => by
    simp only [storeCells, List.append_nil, List.length_nil, Nat.add_zero, List.take_append_drop, Array.toArray_toList]
    rw [setRow_self w g cur t m hg]
    rfl
  | v :: rest, i, cur, w, hg, hm, hl, h1 => by
    have hi : o + i < cur.size := by simp at hl; omega
    have hadd : (⟨g, o, none⟩ : Addr).add i = ⟨g, o + i, none⟩ := by unfold Addr.add; split <;> simp_all
    have hcell : w.cell? ⟨g, o + i, none⟩ = some cur[o + i] := by simp [World.cell?, hg, hi]
    have hfro : w.frozen? ⟨g, o + i, none⟩ = false := by
      rcases hm with rfl | hm
      · simp [World.frozen?, hg]
      · simp [World.frozen?, hg]; intro h; omega
    have hst : (store ((⟨g, o, none⟩ : Addr).add i) v).run P w = .ok () (w.setRow g (cur.setIfInBounds (o + i) v)) := by
      rw [hadd, run_store P w _ v _ (h1 v (by simp)), hcell]
      simp [hfro, setCell_eq_setRow w g (o + i) cur t m v hg]
    have ih := run_storeCells_marked (P := P) g o t m rest (i + 1) (cur.setIfInBounds (o + i) v) (w.setRow g (cur.setIfInBounds (o + i) v)) (setRow_heap w g cur _ t _ hg) (by simpa [Marked] using hm) (by simp at hl ⊢; omega) (fun x hx => h1 x (by simp [hx]))
    simp only [storeCells, Sem.run_bind, hst, Result.andThen_ok, ih, setRow_setRow]
    congr 3
    have e := list_seg_step cur.toList (o + i) v rest (by simp at hl ⊢; omega)
    simpa [Array.toList_setIfInBounds, Nat.add_assoc] using e

theorem run_append_marked {P : Program} (w : World) (t ty e : TypeId) (i : TypeInfo) (ht : P.underlying t = some (.slice e)) (hi : P.info? e = some i)
    (g sLen sCap : Nat) (cur : Array Value) (mk : Nat × Nat) (hg : w.heap[g]? = some (.cells cur e mk)) (hmk : Marked cur mk)
    (a : Addr) (m c : Nat) (news : List Value) (hl : news.length = m * i.size) (hnews : ∀ j u, news[j]? = some u → w.cell? (a.add j) = some u) (h1 : ∀ u ∈ news, u.oneCell' = true)
    (hroom : sLen + m ≤ sCap) (hfit : sLen * i.size + news.length ≤ cur.size) :
    (Builtin.append_ #[t, t] ty #[.slice (some ⟨g, 0, none⟩) sLen sCap, .slice (some a) m c]).run P w =
      .ok (.slice (some ⟨g, 0, none⟩) (sLen + m) sCap) (w.setRow g (cur.toList.take (sLen * i.size) ++ news ++ cur.toList.drop (sLen * i.size + news.length)).toArray) := by
  have hf := run_firstCells_some (P := P) w i.size m a m c news hl hnews
  have hst := run_storeCells_marked (P := P) g (sLen * i.size) e mk news 0 cur w hg hmk (by simpa using hfit) h1
  simp only [Nat.add_zero] at hst
  simp [Builtin.append_, run_underlying ht, sizeOf, typeInfo, hi, Builtin.lenOf, hroom, hf, Addr.add_lit, hst]

/-- A row of bytes of the call's own, marked or not. -/
def OwnB (w : World) (base : Nat) (v : Value) (xs : List Int) : Prop :=
  ∃ g cap cur m, v = .slice (some ⟨g, 0, none⟩) xs.length cap ∧ base ≤ g ∧ w.heap[g]? = some (.cells cur 5 m) ∧ Marked cur m ∧ xs.length ≤ cap ∧ cap ≤ maxLen ∧ cur.size = cap ∧ cur.toList.take xs.length = nums .u8 xs

theorem OwnB.move {w w1 : World} {base : Nat} {v : Value} {xs : List Int} (h : OwnB w base v xs) (hm : ∀ k, base ≤ k → k < w.heap.size → w1.heap[k]? = w.heap[k]?) : OwnB w1 base v xs := by
  obtain ⟨g, cap, cur, m, rfl, hb, hg, hmk, h1, h2, h3, h4⟩ := h
  exact ⟨g, cap, cur, m, rfl, hb, (hm g hb (Array.getElem?_eq_some_iff.1 hg).1).trans hg, hmk, h1, h2, h3, h4⟩
theorem OwnB.below {w w1 : World} {base : Nat} {v : Value} {xs : List Int} (h : OwnB w base v xs) (hb : Below w.heap.size w w1) : OwnB w1 base v xs :=
  h.move fun k _ hk => hb.block k hk
theorem OwnB.of_row {w : World} {base g cap : Nat} {xs : List Int} (h : w.ownsRow base 5 1 (.slice (some ⟨g, 0, none⟩) xs.length cap) xs.length (nums .u8 xs)) : OwnB w base (.slice (some ⟨g, 0, none⟩) xs.length cap) xs := by
  rcases h.2 with ⟨h1, _⟩ | ⟨g', cap', cur, he, hb, hh, h1, h2, h3, h4⟩
  · cases h1
  · cases he
    exact ⟨g, cap, cur, (0, 0), rfl, hb, hh, .inl rfl, h1, h2, by simpa using h3, by simpa using h4⟩

theorem OwnB.append {P : Program} {ops : Array Oper} {rest : List Oper} {o : Oper} {a : Act} {Q : Exit → Act → World → Prop} {w0 W : World} (base : Nat) (hgd : o.guard = none) (s x : Operand) (t : TypeId)
    (ho : o.op = .call { callee := .builtin .append, args := #[s, x], argTypes := #[t, t] })
    (ht : P.underlying t = some (.slice 5)) (hinfo : (P.info? 5).map (fun i => (i.zero, i.size, i.bytes)) = some (some (.int .u8 0), 1, 1))
    (v : Value) (xs : List Int) (y : Int)
    (HO : OwnB W base v xs) (HB : Below base w0 W) (hbase : base ≤ W.heap.size) (hl : xs.length + 1 ≤ 140737488355328) (hs : a.eval s = v) (hx : a.eval x = .slice (some ⟨W.heap.size, 0, none⟩) 1 1)
    (h : ∀ v1 w1, OwnB w1 base v1 (xs ++ [y]) → Below base w0 w1 → base ≤ w1.heap.size → wpList P ops Q rest (a.put o.dst v1) w1) :
    wpList P ops Q (o :: rest) a (W.alloc (.cells #[.int .u8 y] 5)) := by
  obtain ⟨i0, hi, hzz⟩ := Option.map_eq_some_iff.1 hinfo
  simp only [Prod.mk.injEq] at hzz
  obtain ⟨hz0, hz1, hz2⟩ := hzz
  obtain ⟨g, cap, cur, m, rfl, hb, hg, hmk, h1, h2, h3, h4⟩ := HO
  have hglt : g < W.heap.size := (Array.getElem?_eq_some_iff.1 hg).1
  have hg' : (W.alloc (.cells #[.int .u8 y] 5)).heap[g]? = some (.cells cur 5 m) := (heap_alloc_old W _ hglt).trans hg
  have hnews : ∀ j u, [Value.int .u8 y][j]? = some u → (W.alloc (.cells #[.int .u8 y] 5)).cell? ((⟨W.heap.size, 0, none⟩ : Addr).add j) = some u :=
    World.news_of_block (cs := #[Value.int .u8 y]) (t := 5) (fr := (0, 0)) (heap_alloc_new W _)
  refine wpList_plain hgd fun K hK => ?_
  by_cases hroom : xs.length + 1 ≤ cap
  · have hr := run_append_marked (P := P) (W.alloc (.cells #[.int .u8 y] 5)) t o.type 5 i0 ht hi g xs.length cap cur m hg' hmk ⟨W.heap.size, 0, none⟩ 1 1 [.int .u8 y] (by simp [hz1]) hnews (by simp [Value.oneCell']) hroom (by simp [hz1, h3]; omega)
    simp only [hz1, Nat.mul_one] at hr
    unfold Oper.wp execOp
    simp only [ho, resolve, invoke, builtin, Sem.run_bind, Sem.run_pure, Result.andThen_ok, List.map_toArray, List.map_cons, List.map_nil, hs, hx, hr]
    refine hK _ _ (h _ _ ⟨g, cap, _, m, by simp, hb, setRow_heap _ g cur _ 5 _ hg', ?_, by simpa using hroom, h2, ?_, ?_⟩ ?_ (by simp [World.setRow]; omega))
    · rcases hmk with hmk | hmk
      · exact .inl hmk
      · refine .inr ?_
        simp only [List.size_toArray, List.length_append, List.length_take, List.length_drop, Array.length_toList, List.length_singleton]
        omega
    · simp only [List.size_toArray, List.length_append, List.length_take, List.length_drop, Array.length_toList, List.length_singleton]
      omega
    · rw [h4, nums_append]
      have hl : (xs ++ [y]).length = (nums .u8 xs ++ [Value.int .u8 y]).length := by simp [nums]
      rw [hl]
      exact List.take_left
    · exact ⟨HB.os, HB.tape, HB.output, by have := HB.size; simp [World.setRow]; omega, fun k hk => by
        rw [setRow_other _ g k _ (by omega), heap_alloc_old W _ (show k < W.heap.size by omega)]
        exact HB.block k hk⟩
  · have holds : ∀ j u, (nums .u8 xs)[j]? = some u → (W.alloc (.cells #[.int .u8 y] 5)).cell? ((⟨g, 0, none⟩ : Addr).add j) = some u := by
      intro j u hj
      rw [add_plain]
      have hjl : j < xs.length := by
        have := (List.getElem?_eq_some_iff.1 hj).1
        simpa [nums] using this
      rw [← h4, List.getElem?_take_of_lt hjl] at hj
      simp only [World.cell?, hg', Array.getElem?_toList] at hj ⊢
      simpa using hj
    have hr := run_append_grow (P := P) (W.alloc (.cells #[.int .u8 y] 5)) t o.type 5 i0 (.int .u8 0) ht hi hz0 ⟨g, 0, none⟩ xs.length cap (nums .u8 xs) (by simp [nums, hz1]) holds ⟨W.heap.size, 0, none⟩ 1 1 [.int .u8 y] (by simp [hz1]) hnews (by omega) (by omega) (growslice_fits (by omega) (by rw [hz2]; omega))
    have hge := grownCap_ge (W.alloc (.cells #[.int .u8 y] 5)) (xs.length + 1) cap 5
    have hcm : grownCap (W.alloc (.cells #[.int .u8 y] 5)) (xs.length + 1) cap 5 ≤ maxLen := grownCap_le_maxLen _ _ _ _ (by simp only [maxLen]; omega)
    unfold Oper.wp execOp
    simp only [ho, resolve, invoke, builtin, Sem.run_bind, Sem.run_pure, Result.andThen_ok, List.map_toArray, List.map_cons, List.map_nil, hs, hx, hr]
    refine hK _ _ (h _ _ ⟨_, _, _, (0, 0), by simp, by simp; omega, heap_alloc_new _ _, .inl rfl, by simpa using hge, hcm, ?_, ?_⟩ ?_ (by simp; omega))
    · simp only [Array.size_append, List.size_toArray, size_zeroCells, Value.cells, nums_length, List.length_singleton]
      simp
      omega
    · simp only [Array.toList_append, List.append_assoc]
      rw [← List.append_assoc]
      have hl : (xs ++ [y]).length = (nums .u8 xs ++ [Value.int .u8 y]).length := by simp [nums]
      rw [hl, nums_append]
      exact List.take_left
    · exact ((HB.alloc hbase _).drew).alloc (by simp; omega) _

theorem OwnB.string {P : Program} {w : World} {base : Nat} {src dst e : TypeId} {v : Value} {xs : List Int} (hs : P.underlying src = some (.slice e)) (he : P.underlying e = some (.int .u8)) (hd : P.underlying dst = some .string)
    (h : OwnB w base v xs) : (convert src dst v).run P w = .ok (.string (strOfNums xs)) w := by
  obtain ⟨g, cap, cur, m, rfl, hb, hg, hmk, h1, h2, h3, h4⟩ := h
  refine run_convert_bytes_arg w src e hs he g 0 xs.length cap xs rfl (fun i hi => ?_) dst hd
  have : (nums .u8 xs)[i]? = some (.int .u8 (xs.getD i 0)) := by simp [nums, List.getElem?_eq_getElem hi, List.getD_eq_getElem?_getD]
  rw [← h4, List.getElem?_take_of_lt hi] at this
  simp only [World.cell?, hg, Array.getElem?_toList] at this ⊢
  simpa using this

theorem OwnB.of_bytes (W : World) (base : Nat) (s : ByteArray) (hb : base ≤ W.heap.size) (hs : s.size ≤ 140737488355328) :
    OwnB (Lib.bytesWorld W 5 s) base (.slice (some ⟨W.heap.size, 0, none⟩) s.size (grownCap W s.size 0 5)) (bytesOf s) := by
  have hge := grownCap_ge W s.size 0 5
  have hcm : grownCap W s.size 0 5 ≤ maxLen := grownCap_le_maxLen W _ _ _ (by simp only [maxLen]; omega)
  have hsz : (Lib.bytesCells W 5 s).size = grownCap W s.size 0 5 := by
    simp [Lib.bytesCells]
    have : s.data.size = s.size := rfl
    omega
  refine ⟨_, _, _, _, by rw [bytesOf_length], hb, Lib.bytesWorld_at_new W 5 s, .inr (Nat.le_refl _), by rw [bytesOf_length]; exact hge, hcm, hsz, ?_⟩
  rw [bytesOf_length]
  simp only [Lib.bytesCells, Array.toList_append]
  rw [List.take_append_of_le_length (by simp), List.take_of_length_le (by simp)]
  simp [nums, bytesOf]

theorem bytesOf_take (s : ByteArray) (k : Nat) : bytesOf (s.extract 0 k) = (bytesOf s).take k := by
  simp [bytesOf, ByteArray.data_extract]

/-- copy(v, t): v has just been made; its first bytes are t's then. -/
theorem wpList_copy_made {P : Program} {ops : Array Oper} {rest : List Oper} {o : Oper} {a : Act} {Q : Exit → Act → World → Prop} {w0 W : World} (base : Nat) (hgd : o.guard = none) (d s : Operand) (dT sT : TypeId)
    (ho : o.op = .call { callee := .builtin .copy, args := #[d, s], argTypes := #[dT, sT] })
    (ht : P.underlying dT = some (.slice 5)) (hinfo : (P.info? 5).map (fun i => (i.zero, i.size, i.bytes)) = some (some (.int .u8 0), 1, 1))
    (m n : Nat) (t : ByteArray) (hn : t.size = n) (hnm : n ≤ m) (hm : m ≤ 140737488355328) (hd : a.eval d = .slice (some ⟨W.heap.size, 0, none⟩) m m) (hs : a.eval s = .string t)
    (HB : Below base w0 W) (hbase : base ≤ W.heap.size)
    (h : ∀ w1, OwnB w1 base (.slice (some ⟨W.heap.size, 0, none⟩) n m) (bytesOf t) → Below base w0 w1 → base ≤ w1.heap.size → wpList P ops Q rest (a.put o.dst (goInt t.size)) w1) :
    wpList P ops Q (o :: rest) a (W.alloc (.cells (madeCells #[.int .u8 0] m) 5)) := by
  subst hn
  have hsz : (madeCells #[Value.int .u8 0] m).size = m := by simp [size_madeCells]
  have hg : (W.alloc (.cells (madeCells #[.int .u8 0] m) 5)).heap[W.heap.size]? = some (.cells (madeCells #[.int .u8 0] m) 5 (0, 0)) := heap_alloc_new W _
  have hr := Lib.run_copy_row_string (P := P) (W.alloc (.cells (madeCells #[.int .u8 0] m) 5)) dT sT o.type 5 W.heap.size 0 m m t (madeCells #[.int .u8 0] m) 5 ht (by
    obtain ⟨i0, hi, hzz⟩ := Option.map_eq_some_iff.1 hinfo
    simp only [Prod.mk.injEq] at hzz
    rw [hi]; simp [hzz.2.1]) hg hnm (by omega)
  refine Lib.wpList_copy_run _ hgd d s dT sT ho _ _ hd hs hr (h _ ⟨W.heap.size, m, _, (0, 0), by rw [bytesOf_length], hbase, setRow_heap _ _ _ _ 5 _ hg, .inl rfl, by rw [bytesOf_length]; exact hnm, by simp only [maxLen]; omega, ?_, ?_⟩ ?_ (by simp [World.setRow]; omega))
  · have hbl : (Lib.byteCells t.data.toList).length = t.size := by simp [Lib.byteCells, data_length]
    simp only [List.size_toArray, List.length_append, List.length_take, List.length_drop, Array.length_toList, hbl, hsz]
    omega
  · rw [bytesOf_length]
    have hbl : (Lib.byteCells t.data.toList).length = t.size := by simp [Lib.byteCells, data_length]
    simp only [List.take_zero, List.nil_append]
    rw [List.take_append_of_le_length (by omega), List.take_of_length_le (by omega)]
    simp [Lib.byteCells, nums, bytesOf]
  · exact ⟨HB.os, HB.tape, HB.output, by have := HB.size; simp [World.setRow]; omega, fun k hk => by
        rw [setRow_other _ _ k _ (by omega), heap_alloc_old W _ (show k < W.heap.size by omega)]
        exact HB.block k hk⟩

/-- []byte(t): a row of bytes of the call's own. -/
theorem wpList_conv_bytes {P : Program} {ops : Array Oper} {rest : List Oper} {o : Oper} {a : Act} {Q : Exit → Act → World → Prop} {w0 W : World} (base : Nat) (hgd : o.guard = none) (x : Operand) (src dst : TypeId) {u : TypeDesc}
    (ho : o.op = .convert src dst x) (hs : P.underlying src = some u) (hd : P.underlying dst = some (.slice 5)) (he : P.underlying 5 = some (.int .u8))
    (t : ByteArray) (ht : t.size ≤ 140737488355328) (HB : Below base w0 W) (hbase : base ≤ W.heap.size) (hx : a.eval x = .string t)
    (h : ∀ v1 w1, OwnB w1 base v1 (bytesOf t) → Below base w0 w1 → base ≤ w1.heap.size → wpList P ops Q rest (a.put o.dst v1) w1) :
    wpList P ops Q (o :: rest) a W := by
  refine wpList_plain hgd fun K hK => ?_
  have hr := print_bytes (P := P) src dst 5 hs hd he t W
  unfold Oper.wp execOp
  simp only [ho, Sem.run_bind, Sem.run_pure, Result.andThen_ok, hx, hr]
  refine hK _ _ (h _ _ (OwnB.of_bytes W base t hbase ht) (bytes_below HB hbase 5 t) (by rw [Lib.bytesWorld_size]; omega))
end Go.Proofs.YtelmpcjaiplooaaGreatDoor
