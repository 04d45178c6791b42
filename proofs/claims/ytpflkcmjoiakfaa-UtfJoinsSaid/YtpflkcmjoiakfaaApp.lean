/- Appends onto a row of bytes whose frozen stretch lies ahead of what is written, or behind the row's end (what a conversion of a string leaves): cells, and a string's bytes. -/
import Derived.Test.YtpflkcmjoiakfaaHandUtfBack
import Derived.Lib.FrozenHead2
set_option linter.unusedVariables false
namespace Go.Proofs.Ytpflkcmjoiakfaa.App
open Go.RowKit Go.Lib

theorem storeCells_G (P : Program) (g o : Nat) (t : TypeId) (fz : Nat × Nat) : ∀ (vs : List Value) (i : Nat) (cur : Array Value) (w : World), w.heap[g]? = some (.cells cur t fz) → (fz.2 ≤ o + i ∨ o + i + vs.length ≤ fz.1) → o + i + vs.length ≤ cur.size → (∀ v ∈ vs, v.oneCell' = true) →
    (storeCells ⟨g, o, none⟩ vs i).run P w = .ok () (w.setRow g (cur.toList.take (o + i) ++ vs ++ cur.toList.drop (o + i + vs.length)).toArray)
  | [], i, cur, w, hg, _, _, _ => by
    simp only [storeCells, List.append_nil, List.length_nil, Nat.add_zero, List.take_append_drop, Array.toArray_toList]
    rw [setRow_self w g cur t fz hg]
    rfl
  | v :: rest, i, cur, w, hg, hfz, hl, h1 => by
    have hi : o + i < cur.size := by simp at hl; omega
    have hadd : (⟨g, o, none⟩ : Addr).add i = ⟨g, o + i, none⟩ := by unfold Addr.add; split <;> simp_all
    have hcell : w.cell? ⟨g, o + i, none⟩ = some cur[o + i] := by simp [World.cell?, hg, hi]
    have hfro : w.frozen? ⟨g, o + i, none⟩ = false := by
      obtain ⟨lo, hi'⟩ := fz
      simp only [World.frozen?, hg, Bool.and_eq_false_iff, decide_eq_false_iff_not]
      simp only [List.length_cons] at hfz
      omega
    have hst : (store ((⟨g, o, none⟩ : Addr).add i) v).run P w = .ok () (w.setRow g (cur.setIfInBounds (o + i) v)) := by
      rw [hadd, run_store P w _ v _ (h1 v (by simp)), hcell]
      simp [hfro, setCell_eq_setRow w g (o + i) cur t fz v hg]
    have ih := storeCells_G P g o t fz rest (i + 1) (cur.setIfInBounds (o + i) v) (w.setRow g (cur.setIfInBounds (o + i) v)) (setRow_heap w g cur _ t _ hg) (by simp only [List.length_cons] at hfz; omega) (by simp at hl ⊢; omega) (fun x hx => h1 x (by simp [hx]))
    simp only [storeCells, Sem.run_bind, hst, Result.andThen_ok, ih, setRow_setRow]
    congr 3
    have e := list_seg_step cur.toList (o + i) v rest (by simp at hl ⊢; omega)
    simpa [Array.toList_setIfInBounds, Nat.add_assoc] using e

/-- A slice of n bytes over the head of a row of its own. -/
def Row (w : World) (base : Nat) (e : TypeId) (v : Value) (n : Nat) (xs : List Value) : Prop :=
  xs.length = n ∧ ∃ g cap cur fz, v = .slice (some ⟨g, 0, none⟩) n cap ∧ base ≤ g ∧ w.heap[g]? = some (.cells cur e fz) ∧ (fz.2 ≤ n ∨ cap ≤ fz.1) ∧ n ≤ cap ∧ cap ≤ maxLen ∧ cap ≤ cur.size ∧ cur.toList.take n = xs

theorem Row.cells {w : World} {base : Nat} {e : TypeId} {n : Nat} {xs : List Value} {g cap : Nat} (h : Row w base e (.slice (some ⟨g, 0, none⟩) n cap) n xs) : ∀ j u, xs[j]? = some u → w.cell? ((⟨g, 0, none⟩ : Addr).add j) = some u := by
  intro j u hu
  obtain ⟨_, g', cap', cur, fz, e1, _, hgg, _, _, _, _, htake⟩ := h
  simp only [Value.slice.injEq, Option.some.injEq, Addr.mk.injEq] at e1
  obtain ⟨⟨rfl, _⟩, _, _⟩ := e1
  have hadd : (⟨g, 0, none⟩ : Addr).add j = ⟨g, j, none⟩ := by unfold Addr.add; split <;> simp_all
  rw [hadd, cell_of_row w g j cur e fz hgg]
  rw [← htake, List.getElem?_take] at hu
  split at hu
  · simpa using hu
  · cases hu

theorem Row.below {w w' : World} {base : Nat} {e : TypeId} {v : Value} {n : Nat} {xs : List Value} (h : Row w base e v n xs) (hb : Below w.heap.size w w') : Row w' base e v n xs := by
  obtain ⟨h1, g, cap, cur, fz, rfl, hbg, hg, rest⟩ := h
  exact ⟨h1, g, cap, cur, fz, rfl, hbg, (hb.block g (Array.getElem?_eq_some_iff.1 hg).1).trans hg, rest⟩

section
variable {P : Program} (w : World)

theorem run_append_G (base : Nat) (t ty e : TypeId) (i : TypeInfo) (z : Value) (ht : P.underlying t = some (.slice e)) (hi : P.info? e = some i) (hz : i.zero = some z) (hsize : i.size = 1) (hby : i.bytes = 1) (hzs : z.cells.size = 1)
    (v : Value) (n : Nat) (xs : List Value) (hown : Row w base e v n xs)
    (a : Addr) (m c : Nat) (news : List Value) (hl : news.length = m) (hnews : ∀ j u, news[j]? = some u → w.cell? (a.add j) = some u) (h1 : ∀ u ∈ news, u.oneCell' = true) (hbytes : n + m ≤ 140737488355328) (hbase : base ≤ w.heap.size) :
    ∃ v' w', (Builtin.append_ #[t, t] ty #[v, .slice (some a) m c]).run P w = .ok v' w' ∧ Row w' base e v' (n + m) (xs ++ news) ∧ Below base w w' := by
  obtain ⟨hxl, g, cap, cur, fz, rfl, hbg, hg, hfz, hnc, hcm, hcs, htake⟩ := hown
  have hlen : (xs ++ news).length = n + m := by rw [List.length_append, hxl, hl]
  by_cases hroom : n + m ≤ cap
  · have hf := run_firstCells_some (P := P) w i.size m a m c news (by rw [hsize, Nat.mul_one]; exact hl) hnews
    have hst := storeCells_G P g n e fz news 0 cur w hg (by rw [Nat.add_zero, hl]; omega) (by rw [Nat.add_zero, hl]; omega) h1
    simp only [Nat.add_zero, hl] at hst
    rw [hsize] at hf
    refine ⟨_, _, by simp [Builtin.append_, run_underlying ht, sizeOf, typeInfo, hi, hsize, Builtin.lenOf, hroom, hf, Addr.add_lit, hst]; rfl, ⟨hlen, g, cap, _, fz, rfl, hbg, setRow_heap w g cur _ e _ hg, by omega, hroom, hcm, ?_, ?_⟩, rfl, rfl, rfl, by simp, fun k hk => setRow_other w g k _ (by omega)⟩
    · simp only [List.size_toArray, List.length_append, List.length_take, List.length_drop, Array.length_toList, hl]
      omega
    · rw [htake, ← hlen, ← List.append_assoc]
      exact List.take_left
  · have holds : ∀ j u, xs[j]? = some u → w.cell? ((⟨g, 0, none⟩ : Addr).add j) = some u := Row.cells ⟨hxl, g, cap, cur, fz, rfl, hbg, hg, hfz, hnc, hcm, hcs, htake⟩
    have hr := run_append_grow (P := P) w t ty e i z ht hi hz ⟨g, 0, none⟩ n cap xs (by rw [hsize, Nat.mul_one]; exact hxl) holds a m c news (by rw [hsize, Nat.mul_one]; exact hl) hnews (by omega) (by omega) (growslice_fits (by omega) (by rw [hby]; omega))
    have hge := grownCap_ge w (n + m) cap e
    have hcm2 : grownCap w (n + m) cap e ≤ maxLen := grownCap_le_maxLen w (n + m) cap e (by unfold maxLen; omega)
    refine ⟨_, _, hr, ⟨hlen, w.heap.size, _, _, (0, 0), rfl, hbase, heap_alloc_new w.drew _, Or.inl (Nat.zero_le _), hge, hcm2, ?_, ?_⟩, rfl, rfl, rfl, by simp, fun k hk => heap_alloc_old w.drew _ (by simpa using Nat.lt_of_lt_of_le hk hbase)⟩
    · simp only [Array.size_append, List.size_toArray, size_zeroCells, hzs, hxl, hl]
      omega
    · simp only [Array.toList_append, List.append_assoc]
      rw [← List.append_assoc, ← hlen]
      exact List.take_left

theorem run_append_Gs (base : Nat) (t u ty e : TypeId) (i : TypeInfo) (ht : P.underlying t = some (.slice e)) (hu : P.underlying u = some .string) (hi : P.info? e = some i) (hz : i.zero = some (.int .u8 0)) (hsize : i.size = 1) (hby : i.bytes = 1)
    (v : Value) (n : Nat) (xs : List Value) (hown : Row w base e v n xs) (s : ByteArray) (hbytes : n + s.size ≤ 140737488355328) (hbase : base ≤ w.heap.size) :
    ∃ v' w', (Builtin.append_ #[t, u] ty #[v, .string s]).run P w = .ok v' w' ∧ Row w' base e v' (n + s.size) (xs ++ strCells s) ∧ Below base w w' := by
  obtain ⟨hxl, g, cap, cur, fz, rfl, hbg, hg, hfz, hnc, hcm, hcs, htake⟩ := hown
  have hlen : (xs ++ strCells s).length = n + s.size := by rw [List.length_append, hxl, strCells_length]
  by_cases hroom : n + s.size ≤ cap
  · have hf := run_firstCells_string (P := P) w 1 s
    have hst := storeCells_G P g n e fz (strCells s) 0 cur w hg (by rw [Nat.add_zero, strCells_length]; omega) (by rw [Nat.add_zero, strCells_length]; omega) (strCells_oneCell s)
    simp only [Nat.add_zero, strCells_length] at hst
    refine ⟨_, _, by simp [Builtin.append_, run_underlying ht, run_underlying hu, sizeOf, typeInfo, hi, hsize, Builtin.lenOf, hroom, hf, Addr.add_lit, hst]; rfl, ⟨hlen, g, cap, _, fz, rfl, hbg, setRow_heap w g cur _ e _ hg, by omega, hroom, hcm, ?_, ?_⟩, rfl, rfl, rfl, by simp, fun k hk => setRow_other w g k _ (by omega)⟩
    · simp only [List.size_toArray, List.length_append, List.length_take, List.length_drop, Array.length_toList, strCells_length]
      omega
    · rw [htake, ← hlen, ← List.append_assoc]
      exact List.take_left
  · have holds : ∀ j u, xs[j]? = some u → w.cell? ((⟨g, 0, none⟩ : Addr).add j) = some u := Row.cells ⟨hxl, g, cap, cur, fz, rfl, hbg, hg, hfz, hnc, hcm, hcs, htake⟩
    have hr := run_append_grow_string (P := P) w t u ty e i (.int .u8 0) ht hu hi hz ⟨g, 0, none⟩ n cap xs (by rw [hsize, Nat.mul_one]; exact hxl) holds s (by omega) (by omega) (by rw [hby]; exact growslice_fits (by omega) (by omega))
    have hge := grownCap_ge w (n + s.size) cap e
    have hcm2 : grownCap w (n + s.size) cap e ≤ maxLen := grownCap_le_maxLen w (n + s.size) cap e (by unfold maxLen; omega)
    refine ⟨_, _, hr, ⟨hlen, w.heap.size, _, _, (0, 0), rfl, hbase, heap_alloc_new w.drew _, Or.inl (Nat.zero_le _), hge, hcm2, ?_, ?_⟩, rfl, rfl, rfl, by simp, fun k hk => heap_alloc_old w.drew _ (by simpa using Nat.lt_of_lt_of_le hk hbase)⟩
    · have hz1 : (Value.int IntKind.u8 0).cells.size = 1 := rfl
      simp only [Array.size_append, List.size_toArray, size_zeroCells, hz1, hxl, strCells_length]
      omega
    · simp only [Array.toList_append, List.append_assoc]
      rw [← List.append_assoc, ← hlen]
      exact List.take_left

theorem wp_append_G {ops : Array Oper} {rest : List Oper} {o : Oper} {a : Act} {Q : Exit → Act → World → Prop} (hgd : o.guard = none) (s x : Operand) (t : TypeId)
    (ho : o.op = .call { callee := .builtin .append, args := #[s, x], argTypes := #[t, t] })
    (base : Nat) (e : TypeId) (i : TypeInfo) (z : Value) (ht : P.underlying t = some (.slice e)) (hi : P.info? e = some i) (hz : i.zero = some z) (hsize : i.size = 1) (hby : i.bytes = 1) (hzs : z.cells.size = 1)
    (v : Value) (n : Nat) (xs : List Value) (hs : a.eval s = v) (hown : Row w base e v n xs)
    (ad : Addr) (m c : Nat) (news : List Value) (hx : a.eval x = .slice (some ad) m c) (hl : news.length = m) (hnews : ∀ j u, news[j]? = some u → w.cell? (ad.add j) = some u) (h1 : ∀ u ∈ news, u.oneCell' = true) (hbytes : n + m ≤ 140737488355328) (hbase : base ≤ w.heap.size)
    (h : ∀ v' w', Row w' base e v' (n + m) (xs ++ news) → Below base w w' → wpList P ops Q rest (a.put o.dst v') w') : wpList P ops Q (o :: rest) a w := by
  refine wpList_plain hgd fun K hK => ?_
  obtain ⟨v', w', hr, h2, h3⟩ := run_append_G (P := P) w base t o.type e i z ht hi hz hsize hby hzs v n xs hown ad m c news hl hnews h1 hbytes hbase
  unfold Oper.wp execOp
  simp only [ho, resolve, invoke, builtin, Sem.run_bind, Sem.run_pure, Result.andThen_ok, List.map_toArray, List.map_cons, List.map_nil, hs, hx, hr]
  exact hK _ _ (h v' w' h2 h3)

theorem wp_append_Gs {ops : Array Oper} {rest : List Oper} {o : Oper} {a : Act} {Q : Exit → Act → World → Prop} (hgd : o.guard = none) (sl x : Operand) (t u : TypeId)
    (ho : o.op = .call { callee := .builtin .append, args := #[sl, x], argTypes := #[t, u] })
    (base : Nat) (e : TypeId) (i : TypeInfo) (ht : P.underlying t = some (.slice e)) (hu : P.underlying u = some .string) (hi : P.info? e = some i) (hz : i.zero = some (.int .u8 0)) (hsize : i.size = 1) (hby : i.bytes = 1)
    (v : Value) (n : Nat) (xs : List Value) (hs : a.eval sl = v) (hown : Row w base e v n xs) (s : ByteArray) (hx : a.eval x = .string s) (hbytes : n + s.size ≤ 140737488355328) (hbase : base ≤ w.heap.size)
    (h : ∀ v' w', Row w' base e v' (n + s.size) (xs ++ strCells s) → Below base w w' → wpList P ops Q rest (a.put o.dst v') w') : wpList P ops Q (o :: rest) a w := by
  refine wpList_plain hgd fun K hK => ?_
  obtain ⟨v', w', hr, h2, h3⟩ := run_append_Gs (P := P) w base t u o.type e i ht hu hi hz hsize hby v n xs hown s hbytes hbase
  unfold Oper.wp execOp
  simp only [ho, resolve, invoke, builtin, Sem.run_bind, Sem.run_pure, Result.andThen_ok, List.map_toArray, List.map_cons, List.map_nil, hs, hx, hr]
  exact hK _ _ (h v' w' h2 h3)
end
end Go.Proofs.Ytpflkcmjoiakfaa.App
