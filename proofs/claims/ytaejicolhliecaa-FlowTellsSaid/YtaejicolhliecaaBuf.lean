/- strings.Builder's methods, at a builder that lies at the head of a block of cells of whatever type (a variable of its own, or a struct's first field): each method's contract, with the block's other cells and all other blocks as they were. -/
import Derived.Test.YtaejicolhliecaaProg
import Derived.Lib.Builder
import Derived.Lib.AppendStr
import Derived.Lib.UnsafeStr
import Derived.Lib.FrozenHead
import Derived.Lib.FrozenHead2
import Derived.Lib.BufferWrite
import Derived.Lib.Hide
import Derived.WalkKit
import Derived.OwnWalk
import Derived.Below
import Derived.Deep.Draws
import Derived.RegionTactic
import Derived.ChangeAlike
import Derived.Laws.Externs
import Derived.Laws.IdiomCopy
import Derived.KernelRfl
import Derived.RowKit3
set_option linter.unusedVariables false
namespace Go.Proofs.Ytaejicolhliecaa.Buf
open Go.RowKit Go.Lib

/-- Behind a call that writes into the blocks of F alone, and makes new ones. -/
structure Kp (F : Nat → Prop) (w w' : World) : Prop where
  os : w'.os = w.os
  tape : w'.tape = w.tape
  output : w'.output = w.output
  size : w.heap.size ≤ w'.heap.size
  block : ∀ k, k < w.heap.size → ¬ F k → w'.heap[k]? = w.heap[k]?

theorem Kp.refl (F : Nat → Prop) (w : World) : Kp F w w := ⟨rfl, rfl, rfl, Nat.le_refl _, fun _ _ _ => rfl⟩
theorem Kp.mono {F G : Nat → Prop} {w w' : World} (h : Kp F w w') (hi : ∀ k, k < w.heap.size → F k → G k) : Kp G w w' := ⟨h.os, h.tape, h.output, h.size, fun k hk hn => h.block k hk (fun hf => hn (hi k hk hf))⟩
theorem Kp.trans {F G : Nat → Prop} {w w1 w2 : World} (h : Kp F w w1) (k : Kp G w1 w2) (hi : ∀ b, b < w.heap.size → G b → F b) : Kp F w w2 :=
  ⟨k.os.trans h.os, k.tape.trans h.tape, k.output.trans h.output, Nat.le_trans h.size k.size, fun b hb hn => (k.block b (Nat.lt_of_lt_of_le hb h.size) (fun hg => hn (hi b hb hg))).trans (h.block b hb hn)⟩
theorem Kp.setCell {F : Nat → Prop} {w w' : World} (h : Kp F w w') {p : Addr} (hp : F p.block) (v : Value) : Kp F w (w'.setCell p v) :=
  ⟨h.os, h.tape, h.output, by simpa [World.setCell] using h.size, fun k hk hn => (Below.heap_setCell _ _ _ _ (fun e => hn (by first | (rw [e]; exact hp) | (rw [← e]; exact hp)))).trans (h.block k hk hn)⟩
theorem Kp.grown {F : Nat → Prop} {w w1 w2 : World} {row : Option Nat} (h : Kp F w w1) (hg : w1.grownBy w2 row) (hr : ∀ k, row = some k → F k ∨ w.heap.size ≤ k) : Kp F w w2 :=
  ⟨hg.os.trans h.os, hg.tape.trans h.tape, hg.output.trans h.output, Nat.le_trans h.size hg.size, fun k hk hn => (hg.block k (Nat.lt_of_lt_of_le hk h.size) (fun e => (hr k e.symm).elim hn (fun hle => absurd hk (by omega)))).trans (h.block k hk hn)⟩
theorem Kp.alloc {F : Nat → Prop} {w w' : World} (h : Kp F w w') (o : Obj) : Kp F w (w'.alloc o) :=
  ⟨h.os, h.tape, h.output, by simp; have := h.size; omega, fun k hk hn => (Lib.alloc_old w' o k (Nat.lt_of_lt_of_le hk h.size)).trans (h.block k hk hn)⟩
theorem Kp.drew {F : Nat → Prop} {w w' : World} (h : Kp F w w') : Kp F w w'.drew := ⟨h.os, h.tape, h.output, h.size, h.block⟩
theorem Kp.drewN {F : Nat → Prop} {w w' : World} (h : Kp F w w') (n : Nat) : Kp F w (w'.drewN n) := ⟨h.os, h.tape, h.output, h.size, h.block⟩
theorem Kp.below {F : Nat → Prop} {w w' : World} (h : Kp F w w') {B : Nat} (hB : B ≤ w.heap.size) (hf : ∀ k, k < B → ¬ F k) : Below B w w' :=
  ⟨h.os, h.tape, h.output, h.size, fun k hk => h.block k (Nat.lt_of_lt_of_le hk hB) (hf k hk)⟩
theorem Kp.of_below {w w' : World} (h : Below w.heap.size w w') (F : Nat → Prop) : Kp F w w' := ⟨h.os, h.tape, h.output, h.size, fun k hk _ => h.block k hk⟩

/-- An owned row over what leaves its block alone. -/
theorem ownsF_kp {F : Nat → Prop} {w w' : World} {base : Nat} {e : TypeId} {v : Value} {n : Nat} {xs : List Value} (h : w.ownsRowF base e 1 v n xs) (hk : Kp F w w') (hv : ∀ k, v.ownBlock = some k → ¬ F k) : w'.ownsRowF base e 1 v n xs := by
  refine ⟨h.1, ?_⟩
  rcases h.2 with hn | ⟨g, cap, cur, fz, rfl, hb, hgg, rest⟩
  · exact .inl hn
  · refine .inr ⟨g, cap, cur, fz, rfl, hb, ?_, rest⟩
    rw [hk.block g (Array.getElem?_eq_some_iff.1 hgg).1 (hv g rfl)]
    exact hgg

theorem lt_of_heap {w : World} {b : Nat} {o : Obj} (h : w.heap[b]? = some o) : b < w.heap.size := (Array.getElem?_eq_some_iff.1 h).1

theorem set_same {cs : Array Value} {i : Nat} {v : Value} (h : cs[i]? = some v) : cs.setIfInBounds i v = cs := by
  apply Array.ext_getElem?
  intro j
  rw [Array.getElem?_setIfInBounds]
  split
  · rename_i e
    subst e
    have hl := (Array.getElem?_eq_some_iff.1 h).1
    rw [if_pos (by simpa using hl)]
    exact h.symm
  · rfl

theorem heap_setCell_self {w : World} {b j : Nat} {cs : Array Value} {T : TypeId} {fr : Nat × Nat} (hb : w.heap[b]? = some (.cells cs T fr)) (v : Value) : (w.setCell ⟨b, j, none⟩ v).heap[b]? = some (.cells (cs.setIfInBounds j v) T fr) := by
  simp [World.setCell, Array.getElem?_modify, hb]

section
variable {P : Program} (w : World)

/-- An append of a string's bytes onto an owned row, its head frozen or not: where the new row lies. -/
theorem run_append_str (t u ty e : TypeId) (i : TypeInfo) (ht : P.underlying t = some (.slice e)) (hu : P.underlying u = some .string) (hi : P.info? e = some i) (hz : i.zero = some (.int .u8 0)) (hsize : i.size = 1) (hby : i.bytes = 1)
    (v : Value) (n : Nat) (xs : List Value) (hown : w.ownsRowF 0 e 1 v n xs) (s : ByteArray) (hbytes : n + s.size ≤ 140737488355328) :
    ∃ v' w', (Builtin.append_ #[t, u] ty #[v, .string s]).run P w = .ok v' w' ∧ w'.ownsRowF 0 e 1 v' (n + s.size) (xs ++ strCells s) ∧ w.grownBy w' v.ownBlock ∧ (∀ k, v'.ownBlock = some k → v.ownBlock = some k ∨ w.heap.size ≤ k) := by
  have h63 : n + s.size ≤ maxLen := by unfold maxLen; omega
  rcases hown.2 with ⟨rfl, rfl⟩ | ⟨g, cap, cur, fz, rfl, hbg, hg, hfz, hnc, hcm, hcs, htake⟩
  · obtain ⟨v', w', h1, h2, h3, h4⟩ := run_append_own_string (P := P) w w.heap.size t u ty e i ht hu hi hz hsize hby (.slice none 0 0) 0 xs ⟨hown.1, .inl ⟨rfl, rfl⟩⟩ s h63 hbytes (Nat.le_refl _)
    refine ⟨v', w', h1, ?_, h3, fun k hk => Or.inr (h2.lt k hk).1⟩
    have h2' := World.ownsRowF_of h2
    refine ⟨h2'.1, ?_⟩
    rcases h2'.2 with hn | ⟨g, cap, cur, fz, hv, hb, rest⟩
    · exact .inl hn
    · exact .inr ⟨g, cap, cur, fz, hv, Nat.zero_le _, rest⟩
  · have hsmall : n + s.size ≤ 9223372036854775807 := by omega
    have hxl : xs.length = n := by simpa using hown.1
    have hlen : (xs ++ strCells s).length = (n + s.size) * 1 := by rw [List.length_append, hxl, strCells_length, Nat.mul_one]
    by_cases hroom : n + s.size ≤ cap
    · have hcs' : cur.size = cap := by simpa using hcs
      have hr := run_append_room_stringF (P := P) w t u ty e i ht hu hi hsize g n cap cur fz hg (by simpa using hfz) s hroom (by omega)
      refine ⟨_, _, hr, ⟨hlen, .inr ⟨g, cap, _, fz, rfl, hbg, setRow_heap w g cur _ e _ hg, by omega, hroom, hcm, ?_, ?_⟩⟩, ⟨rfl, rfl, rfl, by simp, fun k _ hk => setRow_other w g k _ (fun e => hk (by simp [Value.ownBlock, e]))⟩, fun k hk => Or.inl hk⟩
      · simp only [List.size_toArray, List.length_append, List.length_take, List.length_drop, Array.length_toList, strCells_length]
        omega
      · have ht' : cur.toList.take n = xs := by simpa using htake
        rw [ht', ← hlen]
        exact List.take_left
    · have holds : ∀ j u, xs[j]? = some u → w.cell? ((⟨g, 0, none⟩ : Addr).add j) = some u := hown.cells (g := g) rfl
      have hr := run_append_grow_string (P := P) w t u ty e i (.int .u8 0) ht hu hi hz ⟨g, 0, none⟩ n cap xs (by rw [hsize]; simpa using hxl) holds s (by omega) (by omega) (by rw [hby]; exact growslice_fits (by omega) (by omega))
      have hge := grownCap_ge w (n + s.size) cap e
      have hcm2 : grownCap w (n + s.size) cap e ≤ maxLen := grownCap_le_maxLen w (n + s.size) cap e h63
      refine ⟨_, _, hr, ⟨hlen, .inr ⟨w.heap.size, _, _, (0, 0), rfl, Nat.zero_le _, heap_alloc_new w.drew _, Nat.zero_le _, hge, hcm2, ?_, ?_⟩⟩, ⟨rfl, rfl, rfl, by simp, fun k hk _ => heap_alloc_old w.drew _ hk⟩, fun k hk => Or.inr ?_⟩
      · have hz1 : (Value.int IntKind.u8 0).cells.size = 1 := rfl
        simp only [Array.size_append, List.size_toArray, size_zeroCells, hz1, hxl, strCells_length]
        omega
      · simp only [Array.toList_append, List.append_assoc]
        rw [← List.append_assoc, ← hlen]
        exact List.take_left
      · simp [Value.ownBlock] at hk
        omega

theorem wp_append_str {ops : Array Oper} {rest : List Oper} {o : Oper} {a : Act} {Q : Exit → Act → World → Prop} (hgd : o.guard = none) (sl x : Operand) (t u : TypeId)
    (ho : o.op = .call { callee := .builtin .append, args := #[sl, x], argTypes := #[t, u] })
    (e : TypeId) (i : TypeInfo) (ht : P.underlying t = some (.slice e)) (hu : P.underlying u = some .string) (hi : P.info? e = some i) (hz : i.zero = some (.int .u8 0)) (hsize : i.size = 1) (hby : i.bytes = 1)
    (v : Value) (n : Nat) (xs : List Value) (hs : a.eval sl = v) (hown : w.ownsRowF 0 e 1 v n xs) (s : ByteArray) (hx : a.eval x = .string s) (hbytes : n + s.size ≤ 140737488355328)
    (h : ∀ v' w', w'.ownsRowF 0 e 1 v' (n + s.size) (xs ++ strCells s) → w.grownBy w' v.ownBlock → (∀ k, v'.ownBlock = some k → v.ownBlock = some k ∨ w.heap.size ≤ k) → wpList P ops Q rest (a.put o.dst v') w') : wpList P ops Q (o :: rest) a w := by
  refine wpList_plain hgd fun K hK => ?_
  obtain ⟨v', w', hr, h2, h3, h4⟩ := run_append_str (P := P) w t u o.type e i ht hu hi hz hsize hby v n xs hown s hbytes
  unfold Oper.wp execOp
  simp only [ho, resolve, invoke, builtin, Sem.run_bind, Sem.run_pure, Result.andThen_ok, List.map_toArray, List.map_cons, List.map_nil, hs, hx, hr]
  exact hK _ _ (h v' w' h2 h3 h4)
end

theorem infoByte : (Try.prog.info? 5).map (fun i => (i.zero, i.size, i.bytes)) = some (some (.int .u8 0), 1, 1) := by kernel_rfl
theorem sizeBuilder : (Try.prog.info? 60).map (·.size) = some 2 := by kernel_rfl

section
variable {T : TypeId} {b : Nat} {cs : Array Value} {w : World}

set_option maxHeartbeats 1000000 in
set_option maxRecDepth 100000 in
theorem copyCheck_used (h0 : w.cell? ⟨b, 0, none⟩ = some (.pointer (some ⟨b, 0, none⟩))) :
    Calls Try.prog 61 #[.pointer (some ⟨b, 0, none⟩)] w fun e w' => e = .returned (.tuple #[]) ∧ w' = w := by
  obtain ⟨j, hj, _⟩ := Option.map_eq_some_iff.1 sizeBuilder
  go_enter Try.func61, Try.ntmps61
  go_wp2
  rw [Lib.run_neq_ptr_same w _ Try.underlying58 hj]
  go_wp2
  go_end0
  exact ⟨rfl, rfl⟩

set_option maxHeartbeats 1000000 in
set_option maxRecDepth 100000 in
theorem copyCheck_fresh {n : Nat} (h0 : w.cell? ⟨b, 0, none⟩ = some (.pointer none)) (hsh : w.shape? b = some (T, n)) (hn : 0 < n) (hl : liesAt Try.prog Try.prog.depth T (n / Try.prog.cellsOf T) 0 60 1 = true) (hfz : w.frozen? ⟨b, 0, none⟩ = false) :
    Calls Try.prog 61 #[.pointer (some ⟨b, 0, none⟩)] w fun e w' => e = .returned (.tuple #[]) ∧ w' = w.setCell ⟨b, 0, none⟩ (.pointer (some ⟨b, 0, none⟩)) := by
  obtain ⟨j, hj, hjs⟩ := Option.map_eq_some_iff.1 sizeBuilder
  have HL := Lib.hid hl
  clear hl
  go_enter Try.func61, Try.ntmps61
  go_wp2
  rw [Lib.run_to_unsafe w ⟨b, 0, none⟩ Try.underlying58 Try.underlying98 hj (by rw [hjs]; decide) hsh hn]
  simp only [Result.andThen]
  rw [Oper.upon_value]
  go_wp2
  rw [run_callFunc_extern Try.func69 (by kernel_rfl) (by kernel_rfl) (by kernel_rfl) (e := Extern.AbiNoEscape.same) (by kernel_rfl)]
  rw [Lib.run_noEscape]
  simp only [Result.andThen]
  rw [Oper.upon_value]
  go_wp2
  rw [Lib.run_from_unsafe w ⟨b, 0, none⟩ Try.underlying98 Try.underlying58 hj hsh HL.out]
  simp only [Result.andThen]
  rw [Oper.upon_value]
  go_wp2
  go_end0
  exact ⟨rfl, rfl⟩

/-- A builder at the head of block b: its two cells, the place of its own address, and what lies there. -/
structure At (w : World) (T : TypeId) (b : Nat) (cs : Array Value) (v : Value) : Prop where
  heap : w.heap[b]? = some (.cells cs T (0, 0))
  addr : cs[0]? = some (.pointer none) ∨ cs[0]? = some (.pointer (some ⟨b, 0, none⟩))
  buf : cs[1]? = some v
  lies : liesAt Try.prog Try.prog.depth T (cs.size / Try.prog.cellsOf T) 0 60 1 = true

theorem copyCheck_at {v : Value} (h : At w T b cs v) :
    Calls Try.prog 61 #[.pointer (some ⟨b, 0, none⟩)] w fun e w' => e = .returned (.tuple #[]) ∧ w'.heap[b]? = some (.cells (cs.setIfInBounds 0 (.pointer (some ⟨b, 0, none⟩))) T (0, 0)) ∧ Kp (fun k => k = b) w w' := by
  have hsz : 0 < cs.size := by
    have := (Array.getElem?_eq_some_iff.1 h.buf).1
    omega
  rcases h.addr with h0 | h0
  · refine (copyCheck_fresh (T := T) (n := cs.size) (by rw [Lib.cell_of_heap h.heap]; exact h0) (by simp [World.shape?, h.heap]) hsz h.lies (Lib.frozen_of_heap h.heap 0)).mono ?_
    rintro e w' ⟨rfl, rfl⟩
    exact ⟨rfl, heap_setCell_self h.heap _, Kp.setCell (F := fun k => k = b) (p := ⟨b, 0, none⟩) (Kp.refl _ w) rfl _⟩
  · refine (copyCheck_used (by rw [Lib.cell_of_heap h.heap]; exact h0)).mono ?_
    rintro e w' ⟨rfl, rfl⟩
    refine ⟨rfl, ?_, Kp.refl _ _⟩
    rw [set_same h0]
    exact h.heap

set_option maxHeartbeats 2000000 in
set_option maxRecDepth 100000 in
theorem writeString_at {v : Value} {bs : List Value} (h : At w T b cs v) (hown : w.ownsRowF 0 5 1 v bs.length bs) (hne : v.ownBlock ≠ some b) (hT : T ≠ 5) (s : ByteArray) (hlen : bs.length + s.size ≤ 140737488355328) :
    Calls Try.prog 49 #[.pointer (some ⟨b, 0, none⟩), .string s] w fun e w' => e = .returned (.tuple #[.int .i64 s.size, .nilIface]) ∧
      ∃ v', w'.heap[b]? = some (.cells ((cs.setIfInBounds 0 (.pointer (some ⟨b, 0, none⟩))).setIfInBounds 1 v') T (0, 0)) ∧ w'.ownsRowF 0 5 1 v' (bs.length + s.size) (bs ++ strCells s) ∧ (∀ k, v'.ownBlock = some k → v.ownBlock = some k ∨ w.heap.size ≤ k) ∧ v'.ownBlock ≠ some b ∧ Kp (fun k => k = b ∨ v.ownBlock = some k) w w' := by
  obtain ⟨i0, hi, hz0, hz1, hz2⟩ := info_parts infoByte
  have HA := Lib.hid h
  clear h
  have HT := Lib.hid hT
  clear hT
  go_enter Try.func49, Try.ntmps49
  go_wp2_with (go_at_call 61; refine (copyCheck_at HA.out).mono ?_)
  rintro e w1 ⟨rfl, hb1, hk1⟩
  have hbuf : (cs.setIfInBounds 0 (.pointer (some ⟨b, 0, none⟩)))[1]? = some v := by
    rw [Array.getElem?_setIfInBounds]
    simpa using HA.out.buf
  have hown1 : w1.ownsRowF 0 5 1 v bs.length bs := ownsF_kp hown hk1 (fun k hk e => hne (e ▸ hk))
  have c1 : w1.cell? ⟨b, 1, none⟩ = some v := by rw [Lib.cell_of_heap hb1]; exact hbuf
  have HB1 := Lib.hid hb1
  have HBUF := Lib.hid hbuf
  clear hb1 hbuf
  go_wp2_with (at_builtin; refine wp_append_str _ rfl _ _ 36 9 rfl 5 i0 Try.underlying36 Try.underlying9 hi hz0 hz1 hz2 _ _ _ rfl hown1 s rfl hlen ?_)
  intro v' w2 hown' hgrow hat
  have hb2 : w2.heap[b]? = some (.cells (cs.setIfInBounds 0 (.pointer (some ⟨b, 0, none⟩))) T (0, 0)) := by
    rw [hgrow.block b (lt_of_heap HB1.out) (fun e => hne e.symm)]
    exact HB1.out
  have d1 : w2.cell? ⟨b, 1, none⟩ = some v := by rw [Lib.cell_of_heap hb2]; exact HBUF.out
  have f1 : w2.frozen? ⟨b, 1, none⟩ = false := Lib.frozen_of_heap hb2 1
  have hne' : v'.ownBlock ≠ some b := Lib.ownBlock_neF hown' hb2 HT.out
  have HB2 := Lib.hid hb2
  clear hb2
  obtain ⟨ao, n', cap, rfl⟩ : ∃ ao n' cap, v' = .slice ao n' cap := by
    rcases hown'.2 with ⟨hv, _⟩ | ⟨g, cap, cur, fz, hv, _⟩
    · exact ⟨_, _, _, hv⟩
    · exact ⟨_, _, _, hv⟩
  have hkk : Kp (fun k => k = b ∨ v.ownBlock = some k) w w2 := (hk1.mono (fun k _ e => Or.inl e)).grown hgrow (fun k hk => Or.inl (Or.inr hk))
  have hnew : ∀ k, (Value.slice ao n' cap).ownBlock = some k → v.ownBlock = some k ∨ w.heap.size ≤ k := by
    intro k hk
    rcases hat k hk with h | h
    · exact Or.inl h
    · exact Or.inr (Nat.le_trans hk1.size h)
  go_wp2
  go_ret2
  refine ⟨rfl, Value.slice ao n' cap, heap_setCell_self HB2.out _, ?_, hnew, hne', hkk.setCell (p := ⟨b, 1, none⟩) (Or.inl rfl) _⟩
  exact ownsF_kp hown' (Kp.setCell (F := fun k => k = b) (p := ⟨b, 1, none⟩) (Kp.refl _ w2) rfl _) (fun k hk e => hne' (e ▸ hk))
/-- What 'String()' leaves of a row: its head frozen. -/
theorem froze_own {g cap : Nat} {l : List UInt8} {e : TypeId} (h : w.ownsRowF 0 e 1 (.slice (some ⟨g, 0, none⟩) l.length cap) l.length (byteCells l)) : (w.freeze ⟨g, 0, none⟩ l.length).ownsRowF 0 e 1 (.slice (some ⟨g, 0, none⟩) l.length cap) l.length (byteCells l) := by
  unfold World.freeze
  split
  · exact h
  · rename_i hn0
    refine ⟨h.1, ?_⟩
    rcases h.2 with ⟨hv, _⟩ | ⟨g', cap', cur, fz, hv, hbg, hg, hfz, rest⟩
    · cases hv
    · injection hv with ha _ hcap
      injection ha with ha
      injection ha with hgg _ _
      subst hgg
      subst hcap
      obtain ⟨lo, hi⟩ := fz
      refine .inr ⟨g, _, cur, (if lo == hi then (0, 0 + l.length) else (min lo 0, max hi (0 + l.length))), rfl, hbg, ?_, ?_, rest⟩
      · simp [Array.getElem?_modify, hg]
      · simp only at hfz
        split <;> simp <;> omega

theorem Kp.freeze {F : Nat → Prop} {w w' : World} (h : Kp F w w') {p : Addr} (hp : F p.block) (n : Nat) : Kp F w (w'.freeze p n) := by
  unfold World.freeze
  split
  · exact h
  · exact ⟨h.os, h.tape, h.output, by simpa using h.size, fun k hk hn => by
      simp only [Array.getElem?_modify]
      rw [if_neg (fun e => hn (by first | (rw [e]; exact hp) | (rw [← e]; exact hp)))]
      exact h.block k hk hn⟩

set_option maxHeartbeats 1000000 in
set_option maxRecDepth 100000 in
theorem string_some {v : Value} {l : List UInt8} (hb : w.heap[b]? = some (.cells cs T (0, 0))) (hv : cs[1]? = some v) (hown : w.ownsRowF 0 5 1 v l.length (byteCells l)) (hne : v.ownBlock ≠ some b) (h0 : l ≠ []) :
    Calls Try.prog 33 #[.pointer (some ⟨b, 0, none⟩)] w fun e w' => e = .returned (.string ⟨l.toArray⟩) ∧ w'.heap[b]? = some (.cells cs T (0, 0)) ∧ w'.ownsRowF 0 5 1 v l.length (byteCells l) ∧ Kp (fun k => v.ownBlock = some k) w w' := by
  have hl0 : l.length ≠ 0 := by simpa using h0
  obtain ⟨g, cap, cur, fz, rfl, hbg, hg, hfz, hnc, hcm, hcs, htake⟩ : ∃ g cap cur fz, v = .slice (some ⟨g, 0, none⟩) l.length cap ∧ 0 ≤ g ∧ w.heap[g]? = some (.cells cur 5 fz) ∧ fz.2 ≤ l.length * 1 ∧ l.length ≤ cap ∧ cap ≤ maxLen ∧ cur.size = cap * 1 ∧ cur.toList.take (l.length * 1) = byteCells l := by
    rcases hown.2 with ⟨_, hz⟩ | ⟨g, cap, cur, fz, hv, r⟩
    · exact absurd hz hl0
    · exact ⟨g, cap, cur, fz, hv, r⟩
  have c1 : w.drew.cell? ⟨b, 1, none⟩ = some (.slice (some ⟨g, 0, none⟩) l.length cap) := by
    have : w.drew.heap[b]? = some (.cells cs T (0, 0)) := hb
    rw [Lib.cell_of_heap this]; exact hv
  have hSD : (Builtin.unsafeSliceData_ #[36] 76 #[.slice (some ⟨g, 0, none⟩) l.length cap]).run Try.prog w.drew = .ok (.pointer (some ⟨g, 0, none⟩)) w.drew :=
    Lib.run_unsafeSliceData_row _ _ _ _ _ _ (by omega)
  have hUS : (Builtin.unsafeString_ #[76, 3] 9 #[.pointer (some ⟨g, 0, none⟩), .int .i64 l.length]).run Try.prog w.drew = .ok (.string ⟨l.toArray⟩) (w.drew.freeze ⟨g, 0, none⟩ l.length) := by
    refine Lib.run_unsafeString_row w.drew 76 3 9 5 Try.underlying76 (by kernel_rfl) g cur.size (by have hg' : w.drew.heap[g]? = some (.cells cur 5 fz) := hg; simp [World.shape?, hg']) l h0 (by omega) (by unfold maxLen at hcm; omega) ?_
    intro j x hx
    have := hown.cells (g := g) rfl j (.int .u8 x.toNat) (by simp [Lib.byteCells, hx])
    exact this
  have hgb : g ≠ b := fun e => hne (by simp [Value.ownBlock, e])
  have hk : Kp (fun k => (Value.slice (some ⟨g, 0, none⟩) l.length cap).ownBlock = some k) w (w.drew.freeze ⟨g, 0, none⟩ l.length) := Kp.freeze (F := fun k => (Value.slice (some ⟨g, 0, none⟩) l.length cap).ownBlock = some k) (p := ⟨g, 0, none⟩) (Kp.drew (Kp.refl _ w)) rfl _
  have hb' : (w.drew.freeze ⟨g, 0, none⟩ l.length).heap[b]? = some (.cells cs T (0, 0)) := by
    rw [hk.block b (lt_of_heap hb) (fun e => hne e)]
    exact hb
  have ho' := froze_own (w := w.drew) (g := g) (cap := cap) (l := l) (e := 5) hown
  have HB' := Lib.hid hb'
  have HO' := Lib.hid ho'
  have HK' := Lib.hid hk
  clear hb' ho' hk hown hg htake hcs hb hv hnc hcm
  go_enter Try.func33, Try.ntmps33
  go_wp2
  go_region
  all_goals (go_wp2; go_ret; exact ⟨rfl, HB'.out, HO'.out, HK'.out⟩)

set_option maxHeartbeats 1000000 in
set_option maxRecDepth 100000 in
theorem string_none (hb : w.heap[b]? = some (.cells cs T (0, 0))) (hv : cs[1]? = some (.slice none 0 0)) :
    Calls Try.prog 33 #[.pointer (some ⟨b, 0, none⟩)] w fun e w' => e = .returned (.string ⟨#[]⟩) ∧ w' = w.drew := by
  have c1 : w.drew.cell? ⟨b, 1, none⟩ = some (.slice none 0 0) := by
    have : w.drew.heap[b]? = some (.cells cs T (0, 0)) := hb
    rw [Lib.cell_of_heap this]; exact hv
  have hSD : (Builtin.unsafeSliceData_ #[36] 76 #[.slice none 0 0]).run Try.prog w.drew = .ok (.pointer none) w.drew := rfl
  have hUS : ∀ (W : World) (q : Option Addr), (Builtin.unsafeString_ #[76, 3] 9 #[.pointer q, .int .i64 0]).run Try.prog W = .ok (.string .empty) W := fun W q => Lib.run_unsafeString_none W _ _ _ q
  clear hb hv
  go_enter Try.func33, Try.ntmps33
  go_wp2
  go_region
  all_goals (go_wp2; go_ret; exact ⟨rfl, rfl⟩)

set_option maxHeartbeats 1000000 in
set_option maxRecDepth 100000 in
theorem string_room {g cap : Nat} (hc0 : cap ≠ 0) (hb : w.heap[b]? = some (.cells cs T (0, 0))) (hv : cs[1]? = some (.slice (some ⟨g, 0, none⟩) 0 cap)) :
    Calls Try.prog 33 #[.pointer (some ⟨b, 0, none⟩)] w fun e w' => e = .returned (.string ⟨#[]⟩) ∧ w' = w.drew := by
  have c1 : w.drew.cell? ⟨b, 1, none⟩ = some (.slice (some ⟨g, 0, none⟩) 0 cap) := by
    have : w.drew.heap[b]? = some (.cells cs T (0, 0)) := hb
    rw [Lib.cell_of_heap this]; exact hv
  have hSD : (Builtin.unsafeSliceData_ #[36] 76 #[.slice (some ⟨g, 0, none⟩) 0 cap]).run Try.prog w.drew = .ok (.pointer (some ⟨g, 0, none⟩)) w.drew := Lib.run_unsafeSliceData_row _ _ _ _ _ _ hc0
  have hUS : ∀ (W : World) (q : Option Addr), (Builtin.unsafeString_ #[76, 3] 9 #[.pointer q, .int .i64 0]).run Try.prog W = .ok (.string .empty) W := fun W q => Lib.run_unsafeString_none W _ _ _ q
  clear hb hv hc0
  go_enter Try.func33, Try.ntmps33
  go_wp2
  go_region
  all_goals (go_wp2; go_ret; exact ⟨rfl, rfl⟩)

set_option maxHeartbeats 1000000 in
set_option maxRecDepth 100000 in
theorem string_noroom {g : Nat} {cur : Array Value} {fz : Nat × Nat} (hb : w.heap[b]? = some (.cells cs T (0, 0))) (hv : cs[1]? = some (.slice (some ⟨g, 0, none⟩) 0 0)) (hg : w.heap[g]? = some (.cells cur 5 fz)) :
    Calls Try.prog 33 #[.pointer (some ⟨b, 0, none⟩)] w fun e w' => e = .returned (.string ⟨#[]⟩) ∧ Kp (fun _ => False) w w' := by
  have hlt : b < w.heap.size := lt_of_heap hb
  have c1 : w.drew.cell? ⟨b, 1, none⟩ = some (.slice (some ⟨g, 0, none⟩) 0 0) := by
    have : w.drew.heap[b]? = some (.cells cs T (0, 0)) := hb
    rw [Lib.cell_of_heap this]; exact hv
  have hSD : (Builtin.unsafeSliceData_ #[36] 76 #[.slice (some ⟨g, 0, none⟩) 0 0]).run Try.prog w.drew = .ok (.pointer (some ⟨w.drew.heap.size, 0, none⟩)) (w.drew.alloc (.view ⟨g, 0, none⟩ 5)) :=
    Lib.run_unsafeSliceData_zero w.drew _ _ 5 Try.underlying76 ⟨g, 0, none⟩ 0 (5, cur.size) (by have hg' : w.drew.heap[g]? = some (.cells cur 5 fz) := hg; simp [World.shape?, hg'])
  have c2 : (w.drew.alloc (.view ⟨g, 0, none⟩ 5)).cell? ⟨b, 1, none⟩ = some (.slice (some ⟨g, 0, none⟩) 0 0) := by
    have : (w.drew.alloc (.view ⟨g, 0, none⟩ 5)).heap[b]? = _ := (Lib.alloc_old w.drew _ b hlt).trans hb
    rw [Lib.cell_of_heap this]; exact hv
  have c3 : (w.alloc (.view ⟨g, 0, none⟩ 5)).drew.cell? ⟨b, 1, none⟩ = some (.slice (some ⟨g, 0, none⟩) 0 0) := c2
  have c0 : w.cell? ⟨b, 1, none⟩ = some (.slice (some ⟨g, 0, none⟩) 0 0) := c1
  have hUS : ∀ (W : World) (q : Option Addr), (Builtin.unsafeString_ #[76, 3] 9 #[.pointer q, .int .i64 0]).run Try.prog W = .ok (.string .empty) W := fun W q => Lib.run_unsafeString_none W _ _ _ q
  clear hb hv hg
  go_enter Try.func33, Try.ntmps33
  go_wp2
  go_region
  all_goals (go_wp2; go_ret; exact ⟨rfl, (Kp.drew (Kp.refl _ w)).alloc _⟩)

/-- (*strings.Builder).String, whatever it holds. -/
theorem string_at {v : Value} {l : List UInt8} (hb : w.heap[b]? = some (.cells cs T (0, 0))) (hv : cs[1]? = some v) (hown : w.ownsRowF 0 5 1 v l.length (byteCells l)) (hne : v.ownBlock ≠ some b) :
    Calls Try.prog 33 #[.pointer (some ⟨b, 0, none⟩)] w fun e w' => e = .returned (.string ⟨l.toArray⟩) ∧ w'.heap[b]? = some (.cells cs T (0, 0)) ∧ w'.ownsRowF 0 5 1 v l.length (byteCells l) ∧ Kp (fun k => v.ownBlock = some k) w w' := by
  cases l with
  | cons x r => exact string_some hb hv hown hne (by simp)
  | nil =>
    have hown' := hown
    rcases hown.2 with ⟨rfl, _⟩ | ⟨g, cap, cur, fz, rfl, hbg, hg, _, _, _, _, _⟩
    · refine (string_none hb hv).mono ?_
      rintro e w' ⟨rfl, rfl⟩
      exact ⟨rfl, hb, hown', (Kp.refl _ w).drew⟩
    · by_cases hc0 : cap = 0
      · subst hc0
        refine (string_noroom hb hv hg).mono ?_
        rintro e w' ⟨rfl, hk⟩
        exact ⟨rfl, (hk.block b (lt_of_heap hb) (fun h => h)).trans hb, ownsF_kp hown' hk (fun _ _ h => h), hk.mono (fun _ _ h => h.elim)⟩
      · refine (string_room hc0 hb hv).mono ?_
        rintro e w' ⟨rfl, rfl⟩
        exact ⟨rfl, hb, hown', (Kp.refl _ w).drew⟩
end
end Go.Proofs.Ytaejicolhliecaa.Buf
