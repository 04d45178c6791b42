/- strings.Builder's methods Len, WriteByte and Write, at a builder that lies at the head of a block of cells of whatever type. -/
import Derived.Test.YtaejicolhliecaaBuf
set_option linter.unusedVariables false
namespace Go.Proofs.Ytaejicolhliecaa.Buf
open Go.RowKit Go.Lib

/-- Where a walk is to stand. -/
structure Stop (p : Prop) : Prop where
  out : p

section
variable {P : Program} (w : World)

/-- An append of a slice's cells onto an owned row, its head frozen or not: where the new row lies. -/
theorem run_append_cells (t ty e : TypeId) (i : TypeInfo) (ht : P.underlying t = some (.slice e)) (hi : P.info? e = some i) (hz : i.zero = some (.int .u8 0)) (hsize : i.size = 1) (hby : i.bytes = 1)
    (v : Value) (n : Nat) (xs : List Value) (hown : w.ownsRowF 0 e 1 v n xs) (a : Addr) (m c : Nat) (news : List Value) (hl : news.length = m) (hnews : ∀ j u, news[j]? = some u → w.cell? (a.add j) = some u) (h1 : ∀ u ∈ news, u.oneCell' = true) (hbytes : n + m ≤ 140737488355328) :
    ∃ v' w', (Builtin.append_ #[t, t] ty #[v, .slice (some a) m c]).run P w = .ok v' w' ∧ w'.ownsRowF 0 e 1 v' (n + m) (xs ++ news) ∧ w.grownBy w' v.ownBlock ∧ (∀ k, v'.ownBlock = some k → v.ownBlock = some k ∨ w.heap.size ≤ k) := by
  have h63 : n + m ≤ maxLen := by unfold maxLen; omega
  rcases hown.2 with ⟨rfl, rfl⟩ | ⟨g, cap, cur, fz, rfl, hbg, hg, hfz, hnc, hcm, hcs, htake⟩
  · obtain ⟨v', w', r1, r2, r3, r4⟩ := run_append_own (P := P) w w.heap.size t ty e i (.int .u8 0) 1 1 ht hi hz hsize hby rfl (by omega) (.slice none 0 0) 0 xs ⟨hown.1, .inl ⟨rfl, rfl⟩⟩ a m c news (by simpa using hl) hnews h1 h63 (by omega) (Nat.le_refl _)
    refine ⟨v', w', r1, ?_, r3, fun k hk => Or.inr (r2.lt k hk).1⟩
    have h2' := World.ownsRowF_of r2
    refine ⟨h2'.1, ?_⟩
    rcases h2'.2 with hn | ⟨g, cap, cur, fz, hv, hb, rest⟩
    · exact .inl hn
    · exact .inr ⟨g, cap, cur, fz, hv, Nat.zero_le _, rest⟩
  · have hxl : xs.length = n := by simpa using hown.1
    have hlen : (xs ++ news).length = (n + m) * 1 := by rw [List.length_append, hxl, hl, Nat.mul_one]
    by_cases hroom : n + m ≤ cap
    · have hcs' : cur.size = cap := by simpa using hcs
      have hr := run_append_roomF (P := P) w t ty e i ht hi g n cap cur fz hg (by rw [hsize]; exact hfz) a m c news (by rw [hsize]; simpa using hl) hnews h1 hroom (by rw [hsize]; omega)
      refine ⟨_, _, hr, ⟨hlen, .inr ⟨g, cap, _, fz, rfl, hbg, setRow_heap w g cur _ e _ hg, by omega, hroom, hcm, ?_, ?_⟩⟩, ⟨rfl, rfl, rfl, by simp, fun k _ hk => setRow_other w g k _ (fun e => hk (by simp [Value.ownBlock, e]))⟩, fun k hk => Or.inl hk⟩
      · simp only [List.size_toArray, List.length_append, List.length_take, List.length_drop, Array.length_toList, hsize]
        omega
      · rw [hsize, htake, ← hlen]
        exact List.take_left
    · have holds : ∀ j u, xs[j]? = some u → w.cell? ((⟨g, 0, none⟩ : Addr).add j) = some u := hown.cells (g := g) rfl
      have hr := run_append_grow (P := P) w t ty e i (.int .u8 0) ht hi hz ⟨g, 0, none⟩ n cap xs (by rw [hsize]; simpa using hxl) holds a m c news (by rw [hsize]; simpa using hl) hnews (by omega) (by omega) (growslice_fits (by omega) (by rw [hby]; omega))
      have hge := grownCap_ge w (n + m) cap e
      have hcm2 : grownCap w (n + m) cap e ≤ maxLen := grownCap_le_maxLen w (n + m) cap e h63
      refine ⟨_, _, hr, ⟨hlen, .inr ⟨w.heap.size, _, _, (0, 0), rfl, Nat.zero_le _, heap_alloc_new w.drew _, Nat.zero_le _, hge, hcm2, ?_, ?_⟩⟩, ⟨rfl, rfl, rfl, by simp, fun k hk _ => heap_alloc_old w.drew _ hk⟩, fun k hk => Or.inr ?_⟩
      · have hz1 : (Value.int IntKind.u8 0).cells.size = 1 := rfl
        simp only [Array.size_append, List.size_toArray, size_zeroCells, hz1, hxl, hl]
        omega
      · simp only [Array.toList_append, List.append_assoc]
        rw [← List.append_assoc, ← hlen]
        exact List.take_left
      · simp [Value.ownBlock] at hk
        omega

theorem wp_append_cells {ops : Array Oper} {rest : List Oper} {o : Oper} {a : Act} {Q : Exit → Act → World → Prop} (hgd : o.guard = none) (sl x : Operand) (t : TypeId)
    (ho : o.op = .call { callee := .builtin .append, args := #[sl, x], argTypes := #[t, t] })
    (e : TypeId) (i : TypeInfo) (ht : P.underlying t = some (.slice e)) (hi : P.info? e = some i) (hz : i.zero = some (.int .u8 0)) (hsize : i.size = 1) (hby : i.bytes = 1)
    (v : Value) (n : Nat) (xs : List Value) (hs : a.eval sl = v) (hown : w.ownsRowF 0 e 1 v n xs) (ad : Addr) (m c : Nat) (news : List Value) (hx : a.eval x = .slice (some ad) m c) (hl : news.length = m) (hnews : ∀ j u, news[j]? = some u → w.cell? (ad.add j) = some u) (h1 : ∀ u ∈ news, u.oneCell' = true) (hbytes : n + m ≤ 140737488355328)
    (h : ∀ v' w', w'.ownsRowF 0 e 1 v' (n + m) (xs ++ news) → w.grownBy w' v.ownBlock → (∀ k, v'.ownBlock = some k → v.ownBlock = some k ∨ w.heap.size ≤ k) → wpList P ops Q rest (a.put o.dst v') w') : wpList P ops Q (o :: rest) a w := by
  refine wpList_plain hgd fun K hK => ?_
  obtain ⟨v', w', hr, h2, h3, h4⟩ := run_append_cells (P := P) w t o.type e i ht hi hz hsize hby v n xs hown ad m c news hl hnews h1 hbytes
  unfold Oper.wp execOp
  simp only [ho, resolve, invoke, builtin, Sem.run_bind, Sem.run_pure, Result.andThen_ok, List.map_toArray, List.map_cons, List.map_nil, hs, hx, hr]
  exact hK _ _ (h v' w' h2 h3 h4)

theorem own_slice {v : Value} {n : Nat} {xs : List Value} {e : TypeId} (h : w.ownsRowF 0 e 1 v n xs) : ∃ ao cap, v = .slice ao n cap := by
  rcases h.2 with ⟨hv, hn⟩ | ⟨g, cap, cur, fz, hv, _⟩
  · subst hn
    exact ⟨_, _, hv⟩
  · exact ⟨_, _, hv⟩
end

section
variable {T : TypeId} {b : Nat} {cs : Array Value} {w : World}

set_option maxHeartbeats 1000000 in
set_option maxRecDepth 100000 in
theorem len_at {v : Value} {bs : List Value} (hb : w.heap[b]? = some (.cells cs T (0, 0))) (hv : cs[1]? = some v) (hown : w.ownsRowF 0 5 1 v bs.length bs) :
    Calls Try.prog 48 #[.pointer (some ⟨b, 0, none⟩)] w fun e w' => e = .returned (.int .i64 bs.length) ∧ w' = w := by
  obtain ⟨ao, cap, rfl⟩ := own_slice w hown
  have c1 : w.cell? ⟨b, 1, none⟩ = some (.slice ao bs.length cap) := by rw [Lib.cell_of_heap hb]; exact hv
  clear hb hv hown
  go_enter Try.func48, Try.ntmps48
  go_wp2
  go_ret
  exact ⟨rfl, rfl⟩

theorem news_one {W : World} {a : Nat} {u : Value} {T : TypeId} (h : W.heap[a]? = some (.cells #[u] T (0, 0))) : ∀ j x, ([u] : List Value)[j]? = some x → W.cell? ((⟨a, 0, none⟩ : Addr).add j) = some x := by
  intro j x hx
  have hj : j = 0 := by
    rcases j with _ | j
    · rfl
    · simp at hx
  subst hj
  have hadd : (⟨a, 0, none⟩ : Addr).add 0 = ⟨a, 0, none⟩ := by unfold Addr.add; split <;> simp_all
  rw [hadd, Lib.cell_of_heap h]
  simpa using hx
theorem one_cell (c : Int) : ∀ u ∈ ([.int .u8 c] : List Value), u.oneCell' = true := by
  intro u hu
  simp only [List.mem_singleton] at hu
  subst hu
  rfl

set_option maxHeartbeats 2000000 in
set_option maxRecDepth 100000 in
theorem writeByte_at {v : Value} {bs : List Value} (h : At w T b cs v) (hown : w.ownsRowF 0 5 1 v bs.length bs) (hne : v.ownBlock ≠ some b) (hT : T ≠ 5) (c : Int) (hlen : bs.length + 1 ≤ 140737488355328) :
    Calls Try.prog 52 #[.pointer (some ⟨b, 0, none⟩), .int .u8 c] w fun e w' => e = .returned .nilIface ∧
      ∃ v', w'.heap[b]? = some (.cells ((cs.setIfInBounds 0 (.pointer (some ⟨b, 0, none⟩))).setIfInBounds 1 v') T (0, 0)) ∧ w'.ownsRowF 0 5 1 v' (bs.length + 1) (bs ++ [.int .u8 c]) ∧ (∀ k, v'.ownBlock = some k → v.ownBlock = some k ∨ w.heap.size ≤ k) ∧ v'.ownBlock ≠ some b ∧ Kp (fun k => k = b ∨ v.ownBlock = some k) w w' := by
  obtain ⟨i0, hi, hz0, hz1, hz2⟩ := info_parts infoByte
  have HA := Lib.hid h
  clear h
  have HT := Lib.hid hT
  clear hT
  go_enter Try.func52, Try.ntmps52
  go_wp2_with (go_at_call 61; refine (copyCheck_at HA.out).mono ?_)
  rintro e w1 ⟨rfl, hb1, hk1⟩
  have hbuf : (cs.setIfInBounds 0 (.pointer (some ⟨b, 0, none⟩)))[1]? = some v := by
    rw [Array.getElem?_setIfInBounds]
    simpa using HA.out.buf
  have hown1 : (w1.alloc (.cells #[.int .u8 c] 5)).ownsRowF 0 5 1 v bs.length bs := (ownsF_kp hown hk1 (fun k hk e => hne (e ▸ hk))).alloc _
  have c1 : w1.cell? ⟨b, 1, none⟩ = some v := by rw [Lib.cell_of_heap hb1]; exact hbuf
  have HB1 := Lib.hid hb1
  have HBUF := Lib.hid hbuf
  have HO1 := Lib.hid hown1
  have HN := Lib.hid (news_one (heap_alloc_new w1 (.cells #[.int .u8 c] 5)))
  have hone := one_cell c
  clear hb1 hbuf hown1
  go_wp2_with (at_builtin; refine Stop.out (?_ : Stop _))
  refine Stop.mk ?_
  refine wp_append_cells _ rfl _ _ 36 rfl 5 i0 Try.underlying36 hi hz0 hz1 hz2 _ _ _ ?hv HO1.out _ 1 1 [.int .u8 c] ?hx rfl HN.out hone hlen ?_
  case hv => rfl
  case hx => rfl
  intro v' w2 hown' hgrow hat
  have hb2 : w2.heap[b]? = some (.cells (cs.setIfInBounds 0 (.pointer (some ⟨b, 0, none⟩))) T (0, 0)) := by
    rw [hgrow.block b (by have := lt_of_heap HB1.out; simp; omega) (fun e => hne e.symm), Lib.alloc_old _ _ _ (lt_of_heap HB1.out)]
    exact HB1.out
  have d1 : w2.cell? ⟨b, 1, none⟩ = some v := by rw [Lib.cell_of_heap hb2]; exact HBUF.out
  have f1 : w2.frozen? ⟨b, 1, none⟩ = false := Lib.frozen_of_heap hb2 1
  have hne' : v'.ownBlock ≠ some b := Lib.ownBlock_neF hown' hb2 HT.out
  have HB2 := Lib.hid hb2
  clear hb2
  obtain ⟨ao, cap, rfl⟩ := own_slice w2 hown'
  have hk1a : Kp (fun k => k = b) w (w1.alloc (.cells #[.int .u8 c] 5)) := hk1.alloc _
  have hkk : Kp (fun k => k = b ∨ v.ownBlock = some k) w w2 := (hk1a.mono (fun k _ e => Or.inl e)).grown hgrow (fun k hk => Or.inl (Or.inr hk))
  have hnew : ∀ k, (Value.slice ao (bs.length + 1) cap).ownBlock = some k → v.ownBlock = some k ∨ w.heap.size ≤ k := by
    intro k hk
    rcases hat k hk with h | h
    · exact Or.inl h
    · exact Or.inr (Nat.le_trans hk1a.size h)
  clear hat
  go_wp2
  go_ret
  refine ⟨rfl, Value.slice ao (bs.length + 1) cap, heap_setCell_self HB2.out _, ?_, hnew, hne', hkk.setCell (p := ⟨b, 1, none⟩) (Or.inl rfl) _⟩
  exact ownsF_kp hown' (Kp.setCell (F := fun k => k = b) (p := ⟨b, 1, none⟩) (Kp.refl _ w2) rfl _) (fun k hk e => hne' (e ▸ hk))

set_option maxHeartbeats 2000000 in
set_option maxRecDepth 100000 in
/-- (*strings.Builder).Write of a row's bytes, that lies elsewhere. -/
theorem write_at {v : Value} {bs : List Value} (h : At w T b cs v) (hown : w.ownsRowF 0 5 1 v bs.length bs) (hne : v.ownBlock ≠ some b) (hT : T ≠ 5) {g n cap : Nat} {xs : List Value} (hp : ∀ j u, xs[j]? = some u → w.cell? ((⟨g, 0, none⟩ : Addr).add j) = some u) (hl : xs.length = n) (h1 : ∀ u ∈ xs, u.oneCell' = true) (hg : g < w.heap.size) (hgb : g ≠ b) (hlen : bs.length + n ≤ 140737488355328) :
    Calls Try.prog 51 #[.pointer (some ⟨b, 0, none⟩), .slice (some ⟨g, 0, none⟩) n cap] w fun e w' => e = .returned (.tuple #[.int .i64 n, .nilIface]) ∧
      ∃ v', w'.heap[b]? = some (.cells ((cs.setIfInBounds 0 (.pointer (some ⟨b, 0, none⟩))).setIfInBounds 1 v') T (0, 0)) ∧ w'.ownsRowF 0 5 1 v' (bs.length + n) (bs ++ xs) ∧ (∀ k, v'.ownBlock = some k → v.ownBlock = some k ∨ w.heap.size ≤ k) ∧ v'.ownBlock ≠ some b ∧ Kp (fun k => k = b ∨ v.ownBlock = some k) w w' := by
  obtain ⟨i0, hi, hz0, hz1, hz2⟩ := info_parts infoByte
  have HA := Lib.hid h
  clear h
  have HT := Lib.hid hT
  clear hT
  have HP := Lib.hid hp
  clear hp
  go_enter Try.func51, Try.ntmps51
  go_wp2_with (go_at_call 61; refine (copyCheck_at HA.out).mono ?_)
  rintro e w1 ⟨rfl, hb1, hk1⟩
  have hbuf : (cs.setIfInBounds 0 (.pointer (some ⟨b, 0, none⟩)))[1]? = some v := by
    rw [Array.getElem?_setIfInBounds]
    simpa using HA.out.buf
  have hown1 : w1.ownsRowF 0 5 1 v bs.length bs := ownsF_kp hown hk1 (fun k hk e => hne (e ▸ hk))
  have c1 : w1.cell? ⟨b, 1, none⟩ = some v := by rw [Lib.cell_of_heap hb1]; exact hbuf
  have hp1 : ∀ j u, xs[j]? = some u → w1.cell? ((⟨g, 0, none⟩ : Addr).add j) = some u := by
    intro j u hu
    have hadd : ∀ j, (⟨g, 0, none⟩ : Addr).add j = ⟨g, j, none⟩ := by intro j; unfold Addr.add; split <;> simp_all
    have := HP.out j u hu
    rw [hadd] at this ⊢
    simp only [World.cell?] at this ⊢
    rw [hk1.block g hg hgb]
    exact this
  have HB1 := Lib.hid hb1
  have HBUF := Lib.hid hbuf
  have HO1 := Lib.hid hown1
  have HP1 := Lib.hid hp1
  clear hb1 hbuf hown1 hp1
  go_wp2_with (at_builtin; refine Stop.out (?_ : Stop _))
  refine Stop.mk ?_
  refine wp_append_cells _ rfl _ _ 36 rfl 5 i0 Try.underlying36 hi hz0 hz1 hz2 _ _ _ ?hv HO1.out _ n cap xs ?hx hl HP1.out h1 hlen ?_
  case hv => rfl
  case hx => rfl
  intro v' w2 hown' hgrow hat
  have hb2 : w2.heap[b]? = some (.cells (cs.setIfInBounds 0 (.pointer (some ⟨b, 0, none⟩))) T (0, 0)) := by
    rw [hgrow.block b (lt_of_heap HB1.out) (fun e => hne e.symm)]
    exact HB1.out
  have d1 : w2.cell? ⟨b, 1, none⟩ = some v := by rw [Lib.cell_of_heap hb2]; exact HBUF.out
  have f1 : w2.frozen? ⟨b, 1, none⟩ = false := Lib.frozen_of_heap hb2 1
  have hne' : v'.ownBlock ≠ some b := Lib.ownBlock_neF hown' hb2 HT.out
  have HB2 := Lib.hid hb2
  clear hb2
  obtain ⟨ao, cap', rfl⟩ := own_slice w2 hown'
  have hkk : Kp (fun k => k = b ∨ v.ownBlock = some k) w w2 := (hk1.mono (fun k _ e => Or.inl e)).grown hgrow (fun k hk => Or.inl (Or.inr hk))
  have hnew : ∀ k, (Value.slice ao (bs.length + n) cap').ownBlock = some k → v.ownBlock = some k ∨ w.heap.size ≤ k := by
    intro k hk
    rcases hat k hk with h | h
    · exact Or.inl h
    · exact Or.inr (Nat.le_trans hk1.size h)
  clear hat
  go_wp2
  go_ret2
  refine ⟨rfl, Value.slice ao (bs.length + n) cap', heap_setCell_self HB2.out _, ?_, hnew, hne', hkk.setCell (p := ⟨b, 1, none⟩) (Or.inl rfl) _⟩
  exact ownsF_kp hown' (Kp.setCell (F := fun k => k = b) (p := ⟨b, 1, none⟩) (Kp.refl _ w2) rfl _) (fun k hk e => hne' (e ▸ hk))

theorem run_append_none {P : Program} (w : World) (t ty e : TypeId) (i : TypeInfo) (ht : P.underlying t = some (.slice e)) (hi : P.info? e = some i) (ao : Option Addr) (n cap : Nat) (hc : n ≤ cap) :
    (Builtin.append_ #[t, t] ty #[.slice ao n cap, .slice none 0 0]).run P w = .ok (.slice ao n cap) w := by
  cases ao <;> simp [Builtin.append_, run_underlying ht, sizeOf, typeInfo, hi, Builtin.lenOf, hc, Builtin.firstCells, storeCells]
theorem wp_append_none {P : Program} (w : World) {ops : Array Oper} {rest : List Oper} {o : Oper} {a : Act} {Q : Exit → Act → World → Prop} (hgd : o.guard = none) (sl x : Operand) (t : TypeId)
    (ho : o.op = .call { callee := .builtin .append, args := #[sl, x], argTypes := #[t, t] })
    (e : TypeId) (i : TypeInfo) (ht : P.underlying t = some (.slice e)) (hi : P.info? e = some i) (ao : Option Addr) (n cap : Nat) (hs : a.eval sl = .slice ao n cap) (hx : a.eval x = .slice none 0 0) (hc : n ≤ cap)
    (h : wpList P ops Q rest (a.put o.dst (.slice ao n cap)) w) : wpList P ops Q (o :: rest) a w := by
  refine wpList_plain hgd fun K hK => ?_
  have hr := run_append_none (P := P) w t o.type e i ht hi ao n cap hc
  unfold Oper.wp execOp
  simp only [ho, resolve, invoke, builtin, Sem.run_bind, Sem.run_pure, Result.andThen_ok, List.map_toArray, List.map_cons, List.map_nil, hs, hx, hr]
  exact hK _ _ h

theorem own_slice' {w : World} {v : Value} {n : Nat} {xs : List Value} {e : TypeId} (h : w.ownsRowF 0 e 1 v n xs) : ∃ ao cap, v = .slice ao n cap ∧ n ≤ cap := by
  rcases h.2 with ⟨hv, hn⟩ | ⟨g, cap, cur, fz, hv, _, _, _, hc, _⟩
  · subst hn
    exact ⟨_, _, hv, Nat.le_refl _⟩
  · exact ⟨_, _, hv, hc⟩

set_option maxHeartbeats 2000000 in
set_option maxRecDepth 100000 in
/-- (*strings.Builder).Write of nothing. -/
theorem write_none_at {v : Value} {bs : List Value} (h : At w T b cs v) (hown : w.ownsRowF 0 5 1 v bs.length bs) (hne : v.ownBlock ≠ some b) (hT : T ≠ 5) :
    Calls Try.prog 51 #[.pointer (some ⟨b, 0, none⟩), .slice none 0 0] w fun e w' => e = .returned (.tuple #[.int .i64 0, .nilIface]) ∧
      ∃ v', w'.heap[b]? = some (.cells ((cs.setIfInBounds 0 (.pointer (some ⟨b, 0, none⟩))).setIfInBounds 1 v') T (0, 0)) ∧ w'.ownsRowF 0 5 1 v' bs.length bs ∧ (∀ k, v'.ownBlock = some k → v.ownBlock = some k ∨ w.heap.size ≤ k) ∧ v'.ownBlock ≠ some b ∧ Kp (fun k => k = b ∨ v.ownBlock = some k) w w' := by
  obtain ⟨i0, hi, hz0, hz1, hz2⟩ := info_parts infoByte
  obtain ⟨ao, cap, rfl, hcap⟩ := own_slice' hown
  have HA := Lib.hid h
  clear h
  have HT := Lib.hid hT
  clear hT
  go_enter Try.func51, Try.ntmps51
  go_wp2_with (go_at_call 61; refine (copyCheck_at HA.out).mono ?_)
  rintro e w1 ⟨rfl, hb1, hk1⟩
  have hbuf : (cs.setIfInBounds 0 (.pointer (some ⟨b, 0, none⟩)))[1]? = some (.slice ao bs.length cap) := by
    rw [Array.getElem?_setIfInBounds]
    simpa using HA.out.buf
  have hown1 : w1.ownsRowF 0 5 1 (.slice ao bs.length cap) bs.length bs := ownsF_kp hown hk1 (fun k hk e => hne (e ▸ hk))
  have c1 : w1.cell? ⟨b, 1, none⟩ = some (.slice ao bs.length cap) := by rw [Lib.cell_of_heap hb1]; exact hbuf
  have f1 : w1.frozen? ⟨b, 1, none⟩ = false := Lib.frozen_of_heap hb1 1
  have HB1 := Lib.hid hb1
  have HO1 := Lib.hid hown1
  clear hb1 hown1
  go_wp2_with (at_builtin; refine Stop.out (?_ : Stop _))
  refine Stop.mk ?_
  refine wp_append_none _ rfl _ _ 36 rfl 5 i0 Try.underlying36 hi ao bs.length cap ?hv ?hx hcap ?_
  case hv => rfl
  case hx => rfl
  go_wp2
  go_ret2
  refine ⟨rfl, .slice ao bs.length cap, heap_setCell_self HB1.out _, ?_, fun k hk => Or.inl hk, hne, (hk1.mono (fun k _ e => Or.inl e)).setCell (p := ⟨b, 1, none⟩) (Or.inl rfl) _⟩
  exact ownsF_kp HO1.out (Kp.setCell (F := fun k => k = b) (p := ⟨b, 1, none⟩) (Kp.refl _ w1) rfl _) (fun k hk e => hne (e ▸ hk))
end
end Go.Proofs.Ytaejicolhliecaa.Buf
