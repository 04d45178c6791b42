/- Several texts of this claim, laid together into one file. -/
import Derived.Shelf.Small.Strs
import Derived.Shelf.Strings.Search1
import Derived.Shelf.Strings.Repeat
import Derived.Test.YtaejicolhliecaaProg
import Derived.Lib.Builder
import Derived.Lib.AppendStr
import Derived.Lib.UnsafeStr
import Derived.Lib.FrozenHead
import Derived.Lib.FrozenHead2
import Derived.Lib.BufferWrite
import Derived.Lib.Hide
import Derived.WalkKit
import Derived.OwnWalk
import Derived.Below
import Derived.Deep.Draws
import Derived.RegionTactic
import Derived.ChangeAlike
import Derived.Laws.Externs
import Derived.Laws.IdiomCopy
import Derived.KernelRfl
import Derived.RowKit3
import Derived.Deep.RegionWith
import Derived.LoopTactic
import Derived.Deep.LoopGhost
set_option linter.unusedSimpArgs false
set_option linter.unusedVariables false
/- The library's contracts that these laws use, as the shelf's plain mode lays them at this program. -/
namespace Go.Proofs
open Go.Shelf
def Try.lays137_ren : Go.Shelf.Ren := ⟨fun | 137 => 47 | 217 => 60 | 266 => 68 | n => n, fun | 9 => 9 | 5 => 5 | 3 => 3 | n => n, fun | n => n⟩
theorem Try.lays137 : Go.Proofs.Lays.n137 Try.prog Try.lays137_ren := {
  mixed := by kernel_rfl
  f137 := Try.func47.trans (congrArg some (by kernel_rfl))
  f217 := Try.func60.trans (congrArg some (by kernel_rfl))
  f266 := Try.func68.trans (congrArg some (by kernel_rfl))
  t3 := Try.underlying3
  a3 := Try.isAgg3
  z3 := Try.sizeOf3
  v3 := Try.zeroValue3
  t5 := Try.underlying5
  a5 := Try.isAgg5
  z5 := Try.sizeOf5
  v5 := Try.zeroValue5
  t9 := Try.underlying9
  a9 := Try.isAgg9
  z9 := Try.sizeOf9
  v9 := Try.zeroValue9 }
open Go.RowKit in
/-- strings.IndexByte: "IndexByte returns the index of the first instance of c in s, or -1 if c is not present in s.": IT RETURNS 'Lib.indexByte s c'; the world is as it was. (LAID: no walk: one application.) -/
theorem Try.strings_IndexByte (s : ByteArray) (c : Int) (w : World) :
    Calls Try.prog 47 #[.string s, .int .u8 c] w fun e w' => e = .returned (.int .i64 (Lib.indexByte s.data.toList c.toNat.toUInt8)) ∧ w' = w := Any.strings_IndexByte Try.lays137 s c w
def Try.lays105_ren : Go.Shelf.Ren := ⟨fun | 105 => 50 | 212 => 62 | 99 => 63 | 165 => 64 | 166 => 49 | 170 => 48 | 169 => 33 | 263 => 70 | 264 => 71 | 206 => 72 | 240 => 61 | 241 => 73 | 276 => 69 | 277 => 74 | n => n, fun | 9 => 9 | 3 => 3 | 4 => 4 | 20 => 20 | 0 => 0 | 46 => 92 | 109 => 93 | 5 => 5 | 72 => 60 | 76 => 81 | 51 => 100 | 146 => 101 | 53 => 103 | 148 => 104 | 70 => 58 | 37 => 36 | 75 => 80 | 127 => 76 | 164 => 98 | 80 => 34 | n => n, fun | n => n⟩
theorem Try.lays105 : Go.Proofs.Lays.n105 Try.prog Try.lays105_ren := {
  mixed := by kernel_rfl
  f99 := Try.func63.trans (congrArg some (by kernel_rfl))
  f105 := Try.func50.trans (congrArg some (by kernel_rfl))
  f165 := Try.func64.trans (congrArg some (by kernel_rfl))
  f166 := Try.func49.trans (congrArg some (by kernel_rfl))
  f169 := Try.func33.trans (congrArg some (by kernel_rfl))
  f170 := Try.func48.trans (congrArg some (by kernel_rfl))
  f206 := Try.func72.trans (congrArg some (by kernel_rfl))
  f212 := Try.func62.trans (congrArg some (by kernel_rfl))
  f240 := Try.func61.trans (congrArg some (by kernel_rfl))
  f241 := Try.func73.trans (congrArg some (by kernel_rfl))
  f263 := Try.func70.trans (congrArg some (by kernel_rfl))
  f264 := Try.func71.trans (congrArg some (by kernel_rfl))
  f276 := Try.func69.trans (congrArg some (by kernel_rfl))
  f277 := Try.func74.trans (congrArg some (by kernel_rfl))
  t0 := Try.underlying0
  a0 := Try.isAgg0
  z0 := Try.sizeOf0
  v0 := Try.zeroValue0
  t3 := Try.underlying3
  a3 := Try.isAgg3
  z3 := Try.sizeOf3
  v3 := Try.zeroValue3
  t4 := Try.underlying4
  a4 := Try.isAgg4
  z4 := Try.sizeOf4
  v4 := Try.zeroValue4
  t5 := Try.underlying5
  a5 := Try.isAgg5
  z5 := Try.sizeOf5
  v5 := Try.zeroValue5
  t9 := Try.underlying9
  a9 := Try.isAgg9
  z9 := Try.sizeOf9
  v9 := Try.zeroValue9
  t20 := Try.underlying20
  a20 := Try.isAgg20
  z20 := Try.sizeOf20
  v20 := Try.zeroValue20
  t37 := Try.underlying36
  a37 := Try.isAgg36
  z37 := Try.sizeOf36
  v37 := Try.zeroValue36
  t46 := Try.underlying92
  a46 := Try.isAgg92
  z46 := Try.sizeOf92
  v46 := Try.zeroValue92
  t51 := Try.underlying100
  a51 := Try.isAgg100
  z51 := Try.sizeOf100
  v51 := Try.zeroValue100
  t53 := Try.underlying103
  a53 := Try.isAgg103
  z53 := Try.sizeOf103
  v53 := Try.zeroValue103
  t70 := Try.underlying58
  a70 := Try.isAgg58
  z70 := Try.sizeOf58
  v70 := Try.zeroValue58
  t72 := Try.underlying60
  a72 := Try.isAgg60
  z72 := Try.sizeOf60
  v72 := Try.zeroValue60
  t75 := Try.underlying80
  a75 := Try.isAgg80
  z75 := Try.sizeOf80
  v75 := Try.zeroValue80
  t76 := Try.underlying81
  a76 := Try.isAgg81
  z76 := Try.sizeOf81
  v76 := Try.zeroValue81
  t109 := Try.underlying93
  a109 := Try.isAgg93
  z109 := Try.sizeOf93
  v109 := Try.zeroValue93
  t127 := Try.underlying76
  a127 := Try.isAgg76
  z127 := Try.sizeOf76
  v127 := Try.zeroValue76
  t146 := Try.underlying101
  a146 := Try.isAgg101
  z146 := Try.sizeOf101
  v146 := Try.zeroValue101
  t148 := Try.underlying104
  a148 := Try.isAgg104
  z148 := Try.sizeOf104
  v148 := Try.zeroValue104
  t164 := Try.underlying98
  a164 := Try.isAgg98
  z164 := Try.sizeOf98
  v164 := Try.zeroValue98 }
theorem Try.Builder_Extra_105 : Builder.Extra Try.prog Try.lays105_ren := {
  sizeBuilder := by kernel_rfl
  liesBuilder := by kernel_rfl
  t5 := Try.underlying5
  a5 := Try.isAgg5
  z5 := Try.sizeOf5
  v5 := Try.zeroValue5
  infoByte := by kernel_rfl
  cellsByte := by kernel_rfl
  sizeByte := by kernel_rfl
  neB5 := by decide }
open Go.RowKit Go.Lib in
/-- THE MAIN CASE: at least two copies of a string that is not empty. (LAID: no walk: one application.) -/
theorem Try.strings_Repeat_main (s : ByteArray) (c : Nat) (w : World) (hc2 : 2 ≤ c) (hc : c ≤ 9223372036854775807) (hlen : s.size * c ≤ 140737488355328) (h0 : 0 < s.size) :
    Calls Try.prog 50 #[.string s, .int .i64 c] w fun e w' => e = .returned (.string ⟨(Lib.repeatL s.data.toList c).toArray⟩) ∧ Below w.heap.size w w' := Any.strings_Repeat_main Try.lays105 Try.Builder_Extra_105 s c w hc2 hc hlen h0
open Go.RowKit Go.Lib in
theorem Try.strings_Repeat_zero (s : ByteArray) (w : World) :
    Calls Try.prog 50 #[.string s, .int .i64 0] w fun e w' => e = .returned (.string ⟨#[]⟩) ∧ w' = w := Any.strings_Repeat_zero Try.lays105 s w
open Go.RowKit Go.Lib in
theorem Try.strings_Repeat_one (s : ByteArray) (w : World) :
    Calls Try.prog 50 #[.string s, .int .i64 1] w fun e w' => e = .returned (.string s) ∧ w' = w := Any.strings_Repeat_one Try.lays105 s w
open Go.RowKit Go.Lib in
/-- Copies of the empty string. (LAID: no walk: one application.) -/
theorem Try.strings_Repeat_empty (s : ByteArray) (c : Nat) (w : World) (hc2 : 2 ≤ c) (hc : c ≤ 9223372036854775807) (h0 : s.size = 0) :
    Calls Try.prog 50 #[.string s, .int .i64 c] w fun e w' => e = .returned (.string ⟨#[]⟩) ∧ w' = w := Any.strings_Repeat_empty Try.lays105 s c w hc2 hc h0
open Go.RowKit Go.Lib in
/-- count < 0: "It panics if count is negative". (LAID: no walk: one application.) -/
theorem Try.strings_Repeat_negative (s : ByteArray) (c : Int) (w : World) (hc : c < 0) :
    Calls Try.prog 50 #[.string s, .int .i64 c] w fun e w' => e = .panicked [{ v := repeatPanic Try.lays105_ren "strings: negative Repeat count", recovered := false }] ∧ w' = w := Any.strings_Repeat_negative Try.lays105 s c w hc
open Go.RowKit Go.Lib in
/-- len(s) * count is no int: ".. or if the result of (len(s) * count) overflows". (LAID: no walk: one application.) -/
theorem Try.strings_Repeat_overflow (s : ByteArray) (c : Nat) (w : World) (hc : c ≤ 9223372036854775807) (hs : s.size ≤ 9223372036854775807) (hbig : 9223372036854775807 < s.size * c) :
    Calls Try.prog 50 #[.string s, .int .i64 c] w fun e w' => e = .panicked [{ v := repeatPanic Try.lays105_ren "strings: Repeat output length overflow", recovered := false }] ∧ w' = w := Any.strings_Repeat_overflow Try.lays105 s c w hc hs hbig
open Go.RowKit Go.Lib in
/-- **strings.Repeat: count ≥ 0, the result within one allocation: count copies of s.** (LAID: no walk: one application.) -/
theorem Try.strings_Repeat (s : ByteArray) (c : Nat) (w : World) (hc : c ≤ 9223372036854775807) (hlen : s.size * c ≤ 140737488355328) :
    Calls Try.prog 50 #[.string s, .int .i64 c] w fun e w' => e = .returned (.string ⟨(Lib.repeatL s.data.toList c).toArray⟩) ∧ Below w.heap.size w w' := Any.strings_Repeat Try.lays105 Try.Builder_Extra_105 s c w hc hlen
end Go.Proofs

/- strings.Builder's methods, at a builder that lies at the head of a block of cells of whatever type (a variable of its own, or a struct's first field): each method's contract, with the block's other cells and all other blocks as they were. -/
set_option linter.unusedVariables false
namespace Go.Proofs.Ytaejicolhliecaa.Buf
open Go.RowKit Go.Lib

/-- Behind a call that writes into the blocks of F alone, and makes new ones. -/
structure Kp (F : Nat → Prop) (w w' : World) : Prop where
  os : w'.os = w.os
  tape : w'.tape = w.tape
  output : w'.output = w.output
  size : w.heap.size ≤ w'.heap.size
  block : ∀ k, k < w.heap.size → ¬ F k → w'.heap[k]? = w.heap[k]?

theorem Kp.refl (F : Nat → Prop) (w : World) : Kp F w w := ⟨rfl, rfl, rfl, Nat.le_refl _, fun _ _ _ => rfl⟩
theorem Kp.mono {F G : Nat → Prop} {w w' : World} (h : Kp F w w') (hi : ∀ k, k < w.heap.size → F k → G k) : Kp G w w' := ⟨h.os, h.tape, h.output, h.size, fun k hk hn => h.block k hk (fun hf => hn (hi k hk hf))⟩
theorem Kp.trans {F G : Nat → Prop} {w w1 w2 : World} (h : Kp F w w1) (k : Kp G w1 w2) (hi : ∀ b, b < w.heap.size → G b → F b) : Kp F w w2 :=
  ⟨k.os.trans h.os, k.tape.trans h.tape, k.output.trans h.output, Nat.le_trans h.size k.size, fun b hb hn => (k.block b (Nat.lt_of_lt_of_le hb h.size) (fun hg => hn (hi b hb hg))).trans (h.block b hb hn)⟩
theorem Kp.setCell {F : Nat → Prop} {w w' : World} (h : Kp F w w') {p : Addr} (hp : F p.block) (v : Value) : Kp F w (w'.setCell p v) :=
  ⟨h.os, h.tape, h.output, by simpa [World.setCell] using h.size, fun k hk hn => (Below.heap_setCell _ _ _ _ (fun e => hn (by first | (rw [e]; exact hp) | (rw [← e]; exact hp)))).trans (h.block k hk hn)⟩
theorem Kp.grown {F : Nat → Prop} {w w1 w2 : World} {row : Option Nat} (h : Kp F w w1) (hg : w1.grownBy w2 row) (hr : ∀ k, row = some k → F k ∨ w.heap.size ≤ k) : Kp F w w2 :=
  ⟨hg.os.trans h.os, hg.tape.trans h.tape, hg.output.trans h.output, Nat.le_trans h.size hg.size, fun k hk hn => (hg.block k (Nat.lt_of_lt_of_le hk h.size) (fun e => (hr k e.symm).elim hn (fun hle => absurd hk (by omega)))).trans (h.block k hk hn)⟩
theorem Kp.alloc {F : Nat → Prop} {w w' : World} (h : Kp F w w') (o : Obj) : Kp F w (w'.alloc o) :=
  ⟨h.os, h.tape, h.output, by simp; have := h.size; omega, fun k hk hn => (Lib.alloc_old w' o k (Nat.lt_of_lt_of_le hk h.size)).trans (h.block k hk hn)⟩
theorem Kp.drew {F : Nat → Prop} {w w' : World} (h : Kp F w w') : Kp F w w'.drew := ⟨h.os, h.tape, h.output, h.size, h.block⟩
theorem Kp.drewN {F : Nat → Prop} {w w' : World} (h : Kp F w w') (n : Nat) : Kp F w (w'.drewN n) := ⟨h.os, h.tape, h.output, h.size, h.block⟩
theorem Kp.below {F : Nat → Prop} {w w' : World} (h : Kp F w w') {B : Nat} (hB : B ≤ w.heap.size) (hf : ∀ k, k < B → ¬ F k) : Below B w w' :=
  ⟨h.os, h.tape, h.output, h.size, fun k hk => h.block k (Nat.lt_of_lt_of_le hk hB) (hf k hk)⟩
theorem Kp.of_below {w w' : World} (h : Below w.heap.size w w') (F : Nat → Prop) : Kp F w w' := ⟨h.os, h.tape, h.output, h.size, fun k hk _ => h.block k hk⟩

/-- An owned row over what leaves its block alone. -/
theorem ownsF_kp {F : Nat → Prop} {w w' : World} {base : Nat} {e : TypeId} {v : Value} {n : Nat} {xs : List Value} (h : w.ownsRowF base e 1 v n xs) (hk : Kp F w w') (hv : ∀ k, v.ownBlock = some k → ¬ F k) : w'.ownsRowF base e 1 v n xs := by
  refine ⟨h.1, ?_⟩
  rcases h.2 with hn | ⟨g, cap, cur, fz, rfl, hb, hgg, rest⟩
  · exact .inl hn
  · refine .inr ⟨g, cap, cur, fz, rfl, hb, ?_, rest⟩
    rw [hk.block g (Array.getElem?_eq_some_iff.1 hgg).1 (hv g rfl)]
    exact hgg

theorem lt_of_heap {w : World} {b : Nat} {o : Obj} (h : w.heap[b]? = some o) : b < w.heap.size := (Array.getElem?_eq_some_iff.1 h).1

theorem set_same {cs : Array Value} {i : Nat} {v : Value} (h : cs[i]? = some v) : cs.setIfInBounds i v = cs := by
  apply Array.ext_getElem?
  intro j
  rw [Array.getElem?_setIfInBounds]
  split
  · rename_i e
    subst e
    have hl := (Array.getElem?_eq_some_iff.1 h).1
    rw [if_pos (by simpa using hl)]
    exact h.symm
  · rfl

theorem heap_setCell_self {w : World} {b j : Nat} {cs : Array Value} {T : TypeId} {fr : Nat × Nat} (hb : w.heap[b]? = some (.cells cs T fr)) (v : Value) : (w.setCell ⟨b, j, none⟩ v).heap[b]? = some (.cells (cs.setIfInBounds j v) T fr) := by
  simp [World.setCell, Array.getElem?_modify, hb]

section
variable {P : Program} (w : World)

/-- An append of a string's bytes onto an owned row, its head frozen or not: where the new row lies. -/
theorem run_append_str (t u ty e : TypeId) (i : TypeInfo) (ht : P.underlying t = some (.slice e)) (hu : P.underlying u = some .string) (hi : P.info? e = some i) (hz : i.zero = some (.int .u8 0)) (hsize : i.size = 1) (hby : i.bytes = 1)
    (v : Value) (n : Nat) (xs : List Value) (hown : w.ownsRowF 0 e 1 v n xs) (s : ByteArray) (hbytes : n + s.size ≤ 140737488355328) :
    ∃ v' w', (Builtin.append_ #[t, u] ty #[v, .string s]).run P w = .ok v' w' ∧ w'.ownsRowF 0 e 1 v' (n + s.size) (xs ++ strCells s) ∧ w.grownBy w' v.ownBlock ∧ (∀ k, v'.ownBlock = some k → v.ownBlock = some k ∨ w.heap.size ≤ k) := by
  have h63 : n + s.size ≤ maxLen := by unfold maxLen; omega
  rcases hown.2 with ⟨rfl, rfl⟩ | ⟨g, cap, cur, fz, rfl, hbg, hg, hfz, hnc, hcm, hcs, htake⟩
  · obtain ⟨v', w', h1, h2, h3, h4⟩ := run_append_own_string (P := P) w w.heap.size t u ty e i ht hu hi hz hsize hby (.slice none 0 0) 0 xs ⟨hown.1, .inl ⟨rfl, rfl⟩⟩ s h63 hbytes (Nat.le_refl _)
    refine ⟨v', w', h1, ?_, h3, fun k hk => Or.inr (h2.lt k hk).1⟩
    have h2' := World.ownsRowF_of h2
    refine ⟨h2'.1, ?_⟩
    rcases h2'.2 with hn | ⟨g, cap, cur, fz, hv, hb, rest⟩
    · exact .inl hn
    · exact .inr ⟨g, cap, cur, fz, hv, Nat.zero_le _, rest⟩
  · have hsmall : n + s.size ≤ 9223372036854775807 := by omega
    have hxl : xs.length = n := by simpa using hown.1
    have hlen : (xs ++ strCells s).length = (n + s.size) * 1 := by rw [List.length_append, hxl, strCells_length, Nat.mul_one]
    by_cases hroom : n + s.size ≤ cap
    · have hcs' : cur.size = cap := by simpa using hcs
      have hr := run_append_room_stringF (P := P) w t u ty e i ht hu hi hsize g n cap cur fz hg (by simpa using hfz) s hroom (by omega)
      refine ⟨_, _, hr, ⟨hlen, .inr ⟨g, cap, _, fz, rfl, hbg, setRow_heap w g cur _ e _ hg, by omega, hroom, hcm, ?_, ?_⟩⟩, ⟨rfl, rfl, rfl, by simp, fun k _ hk => setRow_other w g k _ (fun e => hk (by simp [Value.ownBlock, e]))⟩, fun k hk => Or.inl hk⟩
      · simp only [List.size_toArray, List.length_append, List.length_take, List.length_drop, Array.length_toList, strCells_length]
        omega
      · have ht' : cur.toList.take n = xs := by simpa using htake
        rw [ht', ← hlen]
        exact List.take_left
    · have holds : ∀ j u, xs[j]? = some u → w.cell? ((⟨g, 0, none⟩ : Addr).add j) = some u := hown.cells (g := g) rfl
      have hr := run_append_grow_string (P := P) w t u ty e i (.int .u8 0) ht hu hi hz ⟨g, 0, none⟩ n cap xs (by rw [hsize]; simpa using hxl) holds s (by omega) (by omega) (by rw [hby]; exact growslice_fits (by omega) (by omega))
      have hge := grownCap_ge w (n + s.size) cap e
      have hcm2 : grownCap w (n + s.size) cap e ≤ maxLen := grownCap_le_maxLen w (n + s.size) cap e h63
      refine ⟨_, _, hr, ⟨hlen, .inr ⟨w.heap.size, _, _, (0, 0), rfl, Nat.zero_le _, heap_alloc_new w.drew _, Nat.zero_le _, hge, hcm2, ?_, ?_⟩⟩, ⟨rfl, rfl, rfl, by simp, fun k hk _ => heap_alloc_old w.drew _ hk⟩, fun k hk => Or.inr ?_⟩
      · have hz1 : (Value.int IntKind.u8 0).cells.size = 1 := rfl
        simp only [Array.size_append, List.size_toArray, size_zeroCells, hz1, hxl, strCells_length]
        omega
      · simp only [Array.toList_append, List.append_assoc]
        rw [← List.append_assoc, ← hlen]
        exact List.take_left
      · simp [Value.ownBlock] at hk
        omega

theorem wp_append_str {ops : Array Oper} {rest : List Oper} {o : Oper} {a : Act} {Q : Exit → Act → World → Prop} (hgd : o.guard = none) (sl x : Operand) (t u : TypeId)
    (ho : o.op = .call { callee := .builtin .append, args := #[sl, x], argTypes := #[t, u] })
    (e : TypeId) (i : TypeInfo) (ht : P.underlying t = some (.slice e)) (hu : P.underlying u = some .string) (hi : P.info? e = some i) (hz : i.zero = some (.int .u8 0)) (hsize : i.size = 1) (hby : i.bytes = 1)
    (v : Value) (n : Nat) (xs : List Value) (hs : a.eval sl = v) (hown : w.ownsRowF 0 e 1 v n xs) (s : ByteArray) (hx : a.eval x = .string s) (hbytes : n + s.size ≤ 140737488355328)
    (h : ∀ v' w', w'.ownsRowF 0 e 1 v' (n + s.size) (xs ++ strCells s) → w.grownBy w' v.ownBlock → (∀ k, v'.ownBlock = some k → v.ownBlock = some k ∨ w.heap.size ≤ k) → wpList P ops Q rest (a.put o.dst v') w') : wpList P ops Q (o :: rest) a w := by
  refine wpList_plain hgd fun K hK => ?_
  obtain ⟨v', w', hr, h2, h3, h4⟩ := run_append_str (P := P) w t u o.type e i ht hu hi hz hsize hby v n xs hown s hbytes
  unfold Oper.wp execOp
  simp only [ho, resolve, invoke, builtin, Sem.run_bind, Sem.run_pure, Result.andThen_ok, List.map_toArray, List.map_cons, List.map_nil, hs, hx, hr]
  exact hK _ _ (h v' w' h2 h3 h4)
end

theorem infoByte : (Try.prog.info? 5).map (fun i => (i.zero, i.size, i.bytes)) = some (some (.int .u8 0), 1, 1) := by kernel_rfl
theorem sizeBuilder : (Try.prog.info? 60).map (·.size) = some 2 := by kernel_rfl

section
variable {T : TypeId} {b : Nat} {cs : Array Value} {w : World}

set_option maxHeartbeats 1000000 in
set_option maxRecDepth 100000 in
theorem copyCheck_used (h0 : w.cell? ⟨b, 0, none⟩ = some (.pointer (some ⟨b, 0, none⟩))) :
    Calls Try.prog 61 #[.pointer (some ⟨b, 0, none⟩)] w fun e w' => e = .returned (.tuple #[]) ∧ w' = w := by
  obtain ⟨j, hj, _⟩ := Option.map_eq_some_iff.1 sizeBuilder
  go_enter Try.func61, Try.ntmps61
  go_wp2
  rw [Lib.run_neq_ptr_same w _ Try.underlying58 hj]
  go_wp2
  go_end0
  exact ⟨rfl, rfl⟩

set_option maxHeartbeats 1000000 in
set_option maxRecDepth 100000 in
theorem copyCheck_fresh {n : Nat} (h0 : w.cell? ⟨b, 0, none⟩ = some (.pointer none)) (hsh : w.shape? b = some (T, n)) (hn : 0 < n) (hl : liesAt Try.prog Try.prog.depth T (n / Try.prog.cellsOf T) 0 60 1 = true) (hfz : w.frozen? ⟨b, 0, none⟩ = false) :
    Calls Try.prog 61 #[.pointer (some ⟨b, 0, none⟩)] w fun e w' => e = .returned (.tuple #[]) ∧ w' = w.setCell ⟨b, 0, none⟩ (.pointer (some ⟨b, 0, none⟩)) := by
  obtain ⟨j, hj, hjs⟩ := Option.map_eq_some_iff.1 sizeBuilder
  have HL := Lib.hid hl
  clear hl
  go_enter Try.func61, Try.ntmps61
  go_wp2
  rw [Lib.run_to_unsafe w ⟨b, 0, none⟩ Try.underlying58 Try.underlying98 hj (by rw [hjs]; decide) hsh hn]
  simp only [Result.andThen]
  rw [Oper.upon_value]
  go_wp2
  rw [run_callFunc_extern Try.func69 (by kernel_rfl) (by kernel_rfl) (by kernel_rfl) (e := Extern.AbiNoEscape.same) (by kernel_rfl)]
  rw [Lib.run_noEscape]
  simp only [Result.andThen]
  rw [Oper.upon_value]
  go_wp2
  rw [Lib.run_from_unsafe w ⟨b, 0, none⟩ Try.underlying98 Try.underlying58 hj hsh HL.out]
  simp only [Result.andThen]
  rw [Oper.upon_value]
  go_wp2
  go_end0
  exact ⟨rfl, rfl⟩

/-- A builder at the head of block b: its two cells, the place of its own address, and what lies there. -/
structure At (w : World) (T : TypeId) (b : Nat) (cs : Array Value) (v : Value) : Prop where
  heap : w.heap[b]? = some (.cells cs T (0, 0))
  addr : cs[0]? = some (.pointer none) ∨ cs[0]? = some (.pointer (some ⟨b, 0, none⟩))
  buf : cs[1]? = some v
  lies : liesAt Try.prog Try.prog.depth T (cs.size / Try.prog.cellsOf T) 0 60 1 = true

theorem copyCheck_at {v : Value} (h : At w T b cs v) :
    Calls Try.prog 61 #[.pointer (some ⟨b, 0, none⟩)] w fun e w' => e = .returned (.tuple #[]) ∧ w'.heap[b]? = some (.cells (cs.setIfInBounds 0 (.pointer (some ⟨b, 0, none⟩))) T (0, 0)) ∧ Kp (fun k => k = b) w w' := by
  have hsz : 0 < cs.size := by
    have := (Array.getElem?_eq_some_iff.1 h.buf).1
    omega
  rcases h.addr with h0 | h0
  · refine (copyCheck_fresh (T := T) (n := cs.size) (by rw [Lib.cell_of_heap h.heap]; exact h0) (by simp [World.shape?, h.heap]) hsz h.lies (Lib.frozen_of_heap h.heap 0)).mono ?_
    rintro e w' ⟨rfl, rfl⟩
    exact ⟨rfl, heap_setCell_self h.heap _, Kp.setCell (F := fun k => k = b) (p := ⟨b, 0, none⟩) (Kp.refl _ w) rfl _⟩
  · refine (copyCheck_used (by rw [Lib.cell_of_heap h.heap]; exact h0)).mono ?_
    rintro e w' ⟨rfl, rfl⟩
    refine ⟨rfl, ?_, Kp.refl _ _⟩
    rw [set_same h0]
    exact h.heap

set_option maxHeartbeats 2000000 in
set_option maxRecDepth 100000 in
theorem writeString_at {v : Value} {bs : List Value} (h : At w T b cs v) (hown : w.ownsRowF 0 5 1 v bs.length bs) (hne : v.ownBlock ≠ some b) (hT : T ≠ 5) (s : ByteArray) (hlen : bs.length + s.size ≤ 140737488355328) :
    Calls Try.prog 49 #[.pointer (some ⟨b, 0, none⟩), .string s] w fun e w' => e = .returned (.tuple #[.int .i64 s.size, .nilIface]) ∧
      ∃ v', w'.heap[b]? = some (.cells ((cs.setIfInBounds 0 (.pointer (some ⟨b, 0, none⟩))).setIfInBounds 1 v') T (0, 0)) ∧ w'.ownsRowF 0 5 1 v' (bs.length + s.size) (bs ++ strCells s) ∧ (∀ k, v'.ownBlock = some k → v.ownBlock = some k ∨ w.heap.size ≤ k) ∧ v'.ownBlock ≠ some b ∧ Kp (fun k => k = b ∨ v.ownBlock = some k) w w' := by
  obtain ⟨i0, hi, hz0, hz1, hz2⟩ := info_parts infoByte
  have HA := Lib.hid h
  clear h
  have HT := Lib.hid hT
  clear hT
  go_enter Try.func49, Try.ntmps49
  go_wp2_with (go_at_call 61; refine (copyCheck_at HA.out).mono ?_)
  rintro e w1 ⟨rfl, hb1, hk1⟩
  have hbuf : (cs.setIfInBounds 0 (.pointer (some ⟨b, 0, none⟩)))[1]? = some v := by
    rw [Array.getElem?_setIfInBounds]
    simpa using HA.out.buf
  have hown1 : w1.ownsRowF 0 5 1 v bs.length bs := ownsF_kp hown hk1 (fun k hk e => hne (e ▸ hk))
  have c1 : w1.cell? ⟨b, 1, none⟩ = some v := by rw [Lib.cell_of_heap hb1]; exact hbuf
  have HB1 := Lib.hid hb1
  have HBUF := Lib.hid hbuf
  clear hb1 hbuf
  go_wp2_with (at_builtin; refine wp_append_str _ rfl _ _ 36 9 rfl 5 i0 Try.underlying36 Try.underlying9 hi hz0 hz1 hz2 _ _ _ rfl hown1 s rfl hlen ?_)
  intro v' w2 hown' hgrow hat
  have hb2 : w2.heap[b]? = some (.cells (cs.setIfInBounds 0 (.pointer (some ⟨b, 0, none⟩))) T (0, 0)) := by
    rw [hgrow.block b (lt_of_heap HB1.out) (fun e => hne e.symm)]
    exact HB1.out
  have d1 : w2.cell? ⟨b, 1, none⟩ = some v := by rw [Lib.cell_of_heap hb2]; exact HBUF.out
  have f1 : w2.frozen? ⟨b, 1, none⟩ = false := Lib.frozen_of_heap hb2 1
  have hne' : v'.ownBlock ≠ some b := Lib.ownBlock_neF hown' hb2 HT.out
  have HB2 := Lib.hid hb2
  clear hb2
  obtain ⟨ao, n', cap, rfl⟩ : ∃ ao n' cap, v' = .slice ao n' cap := by
    rcases hown'.2 with ⟨hv, _⟩ | ⟨g, cap, cur, fz, hv, _⟩
    · exact ⟨_, _, _, hv⟩
    · exact ⟨_, _, _, hv⟩
  have hkk : Kp (fun k => k = b ∨ v.ownBlock = some k) w w2 := (hk1.mono (fun k _ e => Or.inl e)).grown hgrow (fun k hk => Or.inl (Or.inr hk))
  have hnew : ∀ k, (Value.slice ao n' cap).ownBlock = some k → v.ownBlock = some k ∨ w.heap.size ≤ k := by
    intro k hk
    rcases hat k hk with h | h
    · exact Or.inl h
    · exact Or.inr (Nat.le_trans hk1.size h)
  go_wp2
  go_ret2
  refine ⟨rfl, Value.slice ao n' cap, heap_setCell_self HB2.out _, ?_, hnew, hne', hkk.setCell (p := ⟨b, 1, none⟩) (Or.inl rfl) _⟩
  exact ownsF_kp hown' (Kp.setCell (F := fun k => k = b) (p := ⟨b, 1, none⟩) (Kp.refl _ w2) rfl _) (fun k hk e => hne' (e ▸ hk))
/-- What 'String()' leaves of a row: its head frozen. -/
theorem froze_own {g cap : Nat} {l : List UInt8} {e : TypeId} (h : w.ownsRowF 0 e 1 (.slice (some ⟨g, 0, none⟩) l.length cap) l.length (byteCells l)) : (w.freeze ⟨g, 0, none⟩ l.length).ownsRowF 0 e 1 (.slice (some ⟨g, 0, none⟩) l.length cap) l.length (byteCells l) := by
  unfold World.freeze
  split
  · exact h
  · rename_i hn0
    refine ⟨h.1, ?_⟩
    rcases h.2 with ⟨hv, _⟩ | ⟨g', cap', cur, fz, hv, hbg, hg, hfz, rest⟩
    · cases hv
    · injection hv with ha _ hcap
      injection ha with ha
      injection ha with hgg _ _
      subst hgg
      subst hcap
      obtain ⟨lo, hi⟩ := fz
      refine .inr ⟨g, _, cur, (if lo == hi then (0, 0 + l.length) else (min lo 0, max hi (0 + l.length))), rfl, hbg, ?_, ?_, rest⟩
      · simp [Array.getElem?_modify, hg]
      · simp only at hfz
        split <;> simp <;> omega

theorem Kp.freeze {F : Nat → Prop} {w w' : World} (h : Kp F w w') {p : Addr} (hp : F p.block) (n : Nat) : Kp F w (w'.freeze p n) := by
  unfold World.freeze
  split
  · exact h
  · exact ⟨h.os, h.tape, h.output, by simpa using h.size, fun k hk hn => by
      simp only [Array.getElem?_modify]
      rw [if_neg (fun e => hn (by first | (rw [e]; exact hp) | (rw [← e]; exact hp)))]
      exact h.block k hk hn⟩

set_option maxHeartbeats 1000000 in
set_option maxRecDepth 100000 in
theorem string_some {v : Value} {l : List UInt8} (hb : w.heap[b]? = some (.cells cs T (0, 0))) (hv : cs[1]? = some v) (hown : w.ownsRowF 0 5 1 v l.length (byteCells l)) (hne : v.ownBlock ≠ some b) (h0 : l ≠ []) :
    Calls Try.prog 33 #[.pointer (some ⟨b, 0, none⟩)] w fun e w' => e = .returned (.string ⟨l.toArray⟩) ∧ w'.heap[b]? = some (.cells cs T (0, 0)) ∧ w'.ownsRowF 0 5 1 v l.length (byteCells l) ∧ Kp (fun k => v.ownBlock = some k) w w' := by
  have hl0 : l.length ≠ 0 := by simpa using h0
  obtain ⟨g, cap, cur, fz, rfl, hbg, hg, hfz, hnc, hcm, hcs, htake⟩ : ∃ g cap cur fz, v = .slice (some ⟨g, 0, none⟩) l.length cap ∧ 0 ≤ g ∧ w.heap[g]? = some (.cells cur 5 fz) ∧ fz.2 ≤ l.length * 1 ∧ l.length ≤ cap ∧ cap ≤ maxLen ∧ cur.size = cap * 1 ∧ cur.toList.take (l.length * 1) = byteCells l := by
    rcases hown.2 with ⟨_, hz⟩ | ⟨g, cap, cur, fz, hv, r⟩
    · exact absurd hz hl0
    · exact ⟨g, cap, cur, fz, hv, r⟩
  have c1 : w.drew.cell? ⟨b, 1, none⟩ = some (.slice (some ⟨g, 0, none⟩) l.length cap) := by
    have : w.drew.heap[b]? = some (.cells cs T (0, 0)) := hb
    rw [Lib.cell_of_heap this]; exact hv
  have hSD : (Builtin.unsafeSliceData_ #[36] 76 #[.slice (some ⟨g, 0, none⟩) l.length cap]).run Try.prog w.drew = .ok (.pointer (some ⟨g, 0, none⟩)) w.drew :=
    Lib.run_unsafeSliceData_row _ _ _ _ _ _ (by omega)
  have hUS : (Builtin.unsafeString_ #[76, 3] 9 #[.pointer (some ⟨g, 0, none⟩), .int .i64 l.length]).run Try.prog w.drew = .ok (.string ⟨l.toArray⟩) (w.drew.freeze ⟨g, 0, none⟩ l.length) := by
    refine Lib.run_unsafeString_row w.drew 76 3 9 5 Try.underlying76 (by kernel_rfl) g cur.size (by have hg' : w.drew.heap[g]? = some (.cells cur 5 fz) := hg; simp [World.shape?, hg']) l h0 (by omega) (by unfold maxLen at hcm; omega) ?_
    intro j x hx
    have := hown.cells (g := g) rfl j (.int .u8 x.toNat) (by simp [Lib.byteCells, hx])
    exact this
  have hgb : g ≠ b := fun e => hne (by simp [Value.ownBlock, e])
  have hk : Kp (fun k => (Value.slice (some ⟨g, 0, none⟩) l.length cap).ownBlock = some k) w (w.drew.freeze ⟨g, 0, none⟩ l.length) := Kp.freeze (F := fun k => (Value.slice (some ⟨g, 0, none⟩) l.length cap).ownBlock = some k) (p := ⟨g, 0, none⟩) (Kp.drew (Kp.refl _ w)) rfl _
  have hb' : (w.drew.freeze ⟨g, 0, none⟩ l.length).heap[b]? = some (.cells cs T (0, 0)) := by
    rw [hk.block b (lt_of_heap hb) (fun e => hne e)]
    exact hb
  have ho' := froze_own (w := w.drew) (g := g) (cap := cap) (l := l) (e := 5) hown
  have HB' := Lib.hid hb'
  have HO' := Lib.hid ho'
  have HK' := Lib.hid hk
  clear hb' ho' hk hown hg htake hcs hb hv hnc hcm
  go_enter Try.func33, Try.ntmps33
  go_wp2
  go_region
  all_goals (go_wp2; go_ret; exact ⟨rfl, HB'.out, HO'.out, HK'.out⟩)

set_option maxHeartbeats 1000000 in
set_option maxRecDepth 100000 in
theorem string_none (hb : w.heap[b]? = some (.cells cs T (0, 0))) (hv : cs[1]? = some (.slice none 0 0)) :
    Calls Try.prog 33 #[.pointer (some ⟨b, 0, none⟩)] w fun e w' => e = .returned (.string ⟨#[]⟩) ∧ w' = w.drew := by
  have c1 : w.drew.cell? ⟨b, 1, none⟩ = some (.slice none 0 0) := by
    have : w.drew.heap[b]? = some (.cells cs T (0, 0)) := hb
    rw [Lib.cell_of_heap this]; exact hv
  have hSD : (Builtin.unsafeSliceData_ #[36] 76 #[.slice none 0 0]).run Try.prog w.drew = .ok (.pointer none) w.drew := rfl
  have hUS : ∀ (W : World) (q : Option Addr), (Builtin.unsafeString_ #[76, 3] 9 #[.pointer q, .int .i64 0]).run Try.prog W = .ok (.string .empty) W := fun W q => Lib.run_unsafeString_none W _ _ _ q
  clear hb hv
  go_enter Try.func33, Try.ntmps33
  go_wp2
  go_region
  all_goals (go_wp2; go_ret; exact ⟨rfl, rfl⟩)

set_option maxHeartbeats 1000000 in
set_option maxRecDepth 100000 in
theorem string_room {g cap : Nat} (hc0 : cap ≠ 0) (hb : w.heap[b]? = some (.cells cs T (0, 0))) (hv : cs[1]? = some (.slice (some ⟨g, 0, none⟩) 0 cap)) :
    Calls Try.prog 33 #[.pointer (some ⟨b, 0, none⟩)] w fun e w' => e = .returned (.string ⟨#[]⟩) ∧ w' = w.drew := by
  have c1 : w.drew.cell? ⟨b, 1, none⟩ = some (.slice (some ⟨g, 0, none⟩) 0 cap) := by
    have : w.drew.heap[b]? = some (.cells cs T (0, 0)) := hb
    rw [Lib.cell_of_heap this]; exact hv
  have hSD : (Builtin.unsafeSliceData_ #[36] 76 #[.slice (some ⟨g, 0, none⟩) 0 cap]).run Try.prog w.drew = .ok (.pointer (some ⟨g, 0, none⟩)) w.drew := Lib.run_unsafeSliceData_row _ _ _ _ _ _ hc0
  have hUS : ∀ (W : World) (q : Option Addr), (Builtin.unsafeString_ #[76, 3] 9 #[.pointer q, .int .i64 0]).run Try.prog W = .ok (.string .empty) W := fun W q => Lib.run_unsafeString_none W _ _ _ q
  clear hb hv hc0
  go_enter Try.func33, Try.ntmps33
  go_wp2
  go_region
  all_goals (go_wp2; go_ret; exact ⟨rfl, rfl⟩)

set_option maxHeartbeats 1000000 in
set_option maxRecDepth 100000 in
theorem string_noroom {g : Nat} {cur : Array Value} {fz : Nat × Nat} (hb : w.heap[b]? = some (.cells cs T (0, 0))) (hv : cs[1]? = some (.slice (some ⟨g, 0, none⟩) 0 0)) (hg : w.heap[g]? = some (.cells cur 5 fz)) :
    Calls Try.prog 33 #[.pointer (some ⟨b, 0, none⟩)] w fun e w' => e = .returned (.string ⟨#[]⟩) ∧ Kp (fun _ => False) w w' := by
  have hlt : b < w.heap.size := lt_of_heap hb
  have c1 : w.drew.cell? ⟨b, 1, none⟩ = some (.slice (some ⟨g, 0, none⟩) 0 0) := by
    have : w.drew.heap[b]? = some (.cells cs T (0, 0)) := hb
    rw [Lib.cell_of_heap this]; exact hv
  have hSD : (Builtin.unsafeSliceData_ #[36] 76 #[.slice (some ⟨g, 0, none⟩) 0 0]).run Try.prog w.drew = .ok (.pointer (some ⟨w.drew.heap.size, 0, none⟩)) (w.drew.alloc (.view ⟨g, 0, none⟩ 5)) :=
    Lib.run_unsafeSliceData_zero w.drew _ _ 5 Try.underlying76 ⟨g, 0, none⟩ 0 (5, cur.size) (by have hg' : w.drew.heap[g]? = some (.cells cur 5 fz) := hg; simp [World.shape?, hg'])
  have c2 : (w.drew.alloc (.view ⟨g, 0, none⟩ 5)).cell? ⟨b, 1, none⟩ = some (.slice (some ⟨g, 0, none⟩) 0 0) := by
    have : (w.drew.alloc (.view ⟨g, 0, none⟩ 5)).heap[b]? = _ := (Lib.alloc_old w.drew _ b hlt).trans hb
    rw [Lib.cell_of_heap this]; exact hv
  have c3 : (w.alloc (.view ⟨g, 0, none⟩ 5)).drew.cell? ⟨b, 1, none⟩ = some (.slice (some ⟨g, 0, none⟩) 0 0) := c2
  have c0 : w.cell? ⟨b, 1, none⟩ = some (.slice (some ⟨g, 0, none⟩) 0 0) := c1
  have hUS : ∀ (W : World) (q : Option Addr), (Builtin.unsafeString_ #[76, 3] 9 #[.pointer q, .int .i64 0]).run Try.prog W = .ok (.string .empty) W := fun W q => Lib.run_unsafeString_none W _ _ _ q
  clear hb hv hg
  go_enter Try.func33, Try.ntmps33
  go_wp2
  go_region
  all_goals (go_wp2; go_ret; exact ⟨rfl, (Kp.drew (Kp.refl _ w)).alloc _⟩)

/-- (*strings.Builder).String, whatever it holds. -/
theorem string_at {v : Value} {l : List UInt8} (hb : w.heap[b]? = some (.cells cs T (0, 0))) (hv : cs[1]? = some v) (hown : w.ownsRowF 0 5 1 v l.length (byteCells l)) (hne : v.ownBlock ≠ some b) :
    Calls Try.prog 33 #[.pointer (some ⟨b, 0, none⟩)] w fun e w' => e = .returned (.string ⟨l.toArray⟩) ∧ w'.heap[b]? = some (.cells cs T (0, 0)) ∧ w'.ownsRowF 0 5 1 v l.length (byteCells l) ∧ Kp (fun k => v.ownBlock = some k) w w' := by
  cases l with
  | cons x r => exact string_some hb hv hown hne (by simp)
  | nil =>
    have hown' := hown
    rcases hown.2 with ⟨rfl, _⟩ | ⟨g, cap, cur, fz, rfl, hbg, hg, _, _, _, _, _⟩
    · refine (string_none hb hv).mono ?_
      rintro e w' ⟨rfl, rfl⟩
      exact ⟨rfl, hb, hown', (Kp.refl _ w).drew⟩
    · by_cases hc0 : cap = 0
      · subst hc0
        refine (string_noroom hb hv hg).mono ?_
        rintro e w' ⟨rfl, hk⟩
        exact ⟨rfl, (hk.block b (lt_of_heap hb) (fun h => h)).trans hb, ownsF_kp hown' hk (fun _ _ h => h), hk.mono (fun _ _ h => h.elim)⟩
      · refine (string_room hc0 hb hv).mono ?_
        rintro e w' ⟨rfl, rfl⟩
        exact ⟨rfl, hb, hown', (Kp.refl _ w).drew⟩
end
end Go.Proofs.Ytaejicolhliecaa.Buf

/- strings.Builder's methods Len, WriteByte and Write, at a builder that lies at the head of a block of cells of whatever type. -/
set_option linter.unusedVariables false
namespace Go.Proofs.Ytaejicolhliecaa.Buf
open Go.RowKit Go.Lib

/-- Where a walk is to stand. -/
structure Stop (p : Prop) : Prop where
  out : p

section
variable {P : Program} (w : World)

/-- An append of a slice's cells onto an owned row, its head frozen or not: where the new row lies. -/
theorem run_append_cells (t ty e : TypeId) (i : TypeInfo) (ht : P.underlying t = some (.slice e)) (hi : P.info? e = some i) (hz : i.zero = some (.int .u8 0)) (hsize : i.size = 1) (hby : i.bytes = 1)
    (v : Value) (n : Nat) (xs : List Value) (hown : w.ownsRowF 0 e 1 v n xs) (a : Addr) (m c : Nat) (news : List Value) (hl : news.length = m) (hnews : ∀ j u, news[j]? = some u → w.cell? (a.add j) = some u) (h1 : ∀ u ∈ news, u.oneCell' = true) (hbytes : n + m ≤ 140737488355328) :
    ∃ v' w', (Builtin.append_ #[t, t] ty #[v, .slice (some a) m c]).run P w = .ok v' w' ∧ w'.ownsRowF 0 e 1 v' (n + m) (xs ++ news) ∧ w.grownBy w' v.ownBlock ∧ (∀ k, v'.ownBlock = some k → v.ownBlock = some k ∨ w.heap.size ≤ k) := by
  have h63 : n + m ≤ maxLen := by unfold maxLen; omega
  rcases hown.2 with ⟨rfl, rfl⟩ | ⟨g, cap, cur, fz, rfl, hbg, hg, hfz, hnc, hcm, hcs, htake⟩
  · obtain ⟨v', w', r1, r2, r3, r4⟩ := run_append_own (P := P) w w.heap.size t ty e i (.int .u8 0) 1 1 ht hi hz hsize hby rfl (by omega) (.slice none 0 0) 0 xs ⟨hown.1, .inl ⟨rfl, rfl⟩⟩ a m c news (by simpa using hl) hnews h1 h63 (by omega) (Nat.le_refl _)
    refine ⟨v', w', r1, ?_, r3, fun k hk => Or.inr (r2.lt k hk).1⟩
    have h2' := World.ownsRowF_of r2
    refine ⟨h2'.1, ?_⟩
    rcases h2'.2 with hn | ⟨g, cap, cur, fz, hv, hb, rest⟩
    · exact .inl hn
    · exact .inr ⟨g, cap, cur, fz, hv, Nat.zero_le _, rest⟩
  · have hxl : xs.length = n := by simpa using hown.1
    have hlen : (xs ++ news).length = (n + m) * 1 := by rw [List.length_append, hxl, hl, Nat.mul_one]
    by_cases hroom : n + m ≤ cap
    · have hcs' : cur.size = cap := by simpa using hcs
      have hr := run_append_roomF (P := P) w t ty e i ht hi g n cap cur fz hg (by rw [hsize]; exact hfz) a m c news (by rw [hsize]; simpa using hl) hnews h1 hroom (by rw [hsize]; omega)
      refine ⟨_, _, hr, ⟨hlen, .inr ⟨g, cap, _, fz, rfl, hbg, setRow_heap w g cur _ e _ hg, by omega, hroom, hcm, ?_, ?_⟩⟩, ⟨rfl, rfl, rfl, by simp, fun k _ hk => setRow_other w g k _ (fun e => hk (by simp [Value.ownBlock, e]))⟩, fun k hk => Or.inl hk⟩
      · simp only [List.size_toArray, List.length_append, List.length_take, List.length_drop, Array.length_toList, hsize]
        omega
      · rw [hsize, htake, ← hlen]
        exact List.take_left
    · have holds : ∀ j u, xs[j]? = some u → w.cell? ((⟨g, 0, none⟩ : Addr).add j) = some u := hown.cells (g := g) rfl
      have hr := run_append_grow (P := P) w t ty e i (.int .u8 0) ht hi hz ⟨g, 0, none⟩ n cap xs (by rw [hsize]; simpa using hxl) holds a m c news (by rw [hsize]; simpa using hl) hnews (by omega) (by omega) (growslice_fits (by omega) (by rw [hby]; omega))
      have hge := grownCap_ge w (n + m) cap e
      have hcm2 : grownCap w (n + m) cap e ≤ maxLen := grownCap_le_maxLen w (n + m) cap e h63
      refine ⟨_, _, hr, ⟨hlen, .inr ⟨w.heap.size, _, _, (0, 0), rfl, Nat.zero_le _, heap_alloc_new w.drew _, Nat.zero_le _, hge, hcm2, ?_, ?_⟩⟩, ⟨rfl, rfl, rfl, by simp, fun k hk _ => heap_alloc_old w.drew _ hk⟩, fun k hk => Or.inr ?_⟩
      · have hz1 : (Value.int IntKind.u8 0).cells.size = 1 := rfl
        simp only [Array.size_append, List.size_toArray, size_zeroCells, hz1, hxl, hl]
        omega
      · simp only [Array.toList_append, List.append_assoc]
        rw [← List.append_assoc, ← hlen]
        exact List.take_left
      · simp [Value.ownBlock] at hk
        omega

theorem wp_append_cells {ops : Array Oper} {rest : List Oper} {o : Oper} {a : Act} {Q : Exit → Act → World → Prop} (hgd : o.guard = none) (sl x : Operand) (t : TypeId)
    (ho : o.op = .call { callee := .builtin .append, args := #[sl, x], argTypes := #[t, t] })
    (e : TypeId) (i : TypeInfo) (ht : P.underlying t = some (.slice e)) (hi : P.info? e = some i) (hz : i.zero = some (.int .u8 0)) (hsize : i.size = 1) (hby : i.bytes = 1)
    (v : Value) (n : Nat) (xs : List Value) (hs : a.eval sl = v) (hown : w.ownsRowF 0 e 1 v n xs) (ad : Addr) (m c : Nat) (news : List Value) (hx : a.eval x = .slice (some ad) m c) (hl : news.length = m) (hnews : ∀ j u, news[j]? = some u → w.cell? (ad.add j) = some u) (h1 : ∀ u ∈ news, u.oneCell' = true) (hbytes : n + m ≤ 140737488355328)
    (h : ∀ v' w', w'.ownsRowF 0 e 1 v' (n + m) (xs ++ news) → w.grownBy w' v.ownBlock → (∀ k, v'.ownBlock = some k → v.ownBlock = some k ∨ w.heap.size ≤ k) → wpList P ops Q rest (a.put o.dst v') w') : wpList P ops Q (o :: rest) a w := by
  refine wpList_plain hgd fun K hK => ?_
  obtain ⟨v', w', hr, h2, h3, h4⟩ := run_append_cells (P := P) w t o.type e i ht hi hz hsize hby v n xs hown ad m c news hl hnews h1 hbytes
  unfold Oper.wp execOp
  simp only [ho, resolve, invoke, builtin, Sem.run_bind, Sem.run_pure, Result.andThen_ok, List.map_toArray, List.map_cons, List.map_nil, hs, hx, hr]
  exact hK _ _ (h v' w' h2 h3 h4)

theorem own_slice {v : Value} {n : Nat} {xs : List Value} {e : TypeId} (h : w.ownsRowF 0 e 1 v n xs) : ∃ ao cap, v = .slice ao n cap := by
  rcases h.2 with ⟨hv, hn⟩ | ⟨g, cap, cur, fz, hv, _⟩
  · subst hn
    exact ⟨_, _, hv⟩
  · exact ⟨_, _, hv⟩
end

section
variable {T : TypeId} {b : Nat} {cs : Array Value} {w : World}

set_option maxHeartbeats 1000000 in
set_option maxRecDepth 100000 in
theorem len_at {v : Value} {bs : List Value} (hb : w.heap[b]? = some (.cells cs T (0, 0))) (hv : cs[1]? = some v) (hown : w.ownsRowF 0 5 1 v bs.length bs) :
    Calls Try.prog 48 #[.pointer (some ⟨b, 0, none⟩)] w fun e w' => e = .returned (.int .i64 bs.length) ∧ w' = w := by
  obtain ⟨ao, cap, rfl⟩ := own_slice w hown
  have c1 : w.cell? ⟨b, 1, none⟩ = some (.slice ao bs.length cap) := by rw [Lib.cell_of_heap hb]; exact hv
  clear hb hv hown
  go_enter Try.func48, Try.ntmps48
  go_wp2
  go_ret
  exact ⟨rfl, rfl⟩

theorem news_one {W : World} {a : Nat} {u : Value} {T : TypeId} (h : W.heap[a]? = some (.cells #[u] T (0, 0))) : ∀ j x, ([u] : List Value)[j]? = some x → W.cell? ((⟨a, 0, none⟩ : Addr).add j) = some x := by
  intro j x hx
  have hj : j = 0 := by
    rcases j with _ | j
    · rfl
    · simp at hx
  subst hj
  have hadd : (⟨a, 0, none⟩ : Addr).add 0 = ⟨a, 0, none⟩ := by unfold Addr.add; split <;> simp_all
  rw [hadd, Lib.cell_of_heap h]
  simpa using hx
theorem one_cell (c : Int) : ∀ u ∈ ([.int .u8 c] : List Value), u.oneCell' = true := by
  intro u hu
  simp only [List.mem_singleton] at hu
  subst hu
  rfl

set_option maxHeartbeats 2000000 in
set_option maxRecDepth 100000 in
theorem writeByte_at {v : Value} {bs : List Value} (h : At w T b cs v) (hown : w.ownsRowF 0 5 1 v bs.length bs) (hne : v.ownBlock ≠ some b) (hT : T ≠ 5) (c : Int) (hlen : bs.length + 1 ≤ 140737488355328) :
    Calls Try.prog 52 #[.pointer (some ⟨b, 0, none⟩), .int .u8 c] w fun e w' => e = .returned .nilIface ∧
      ∃ v', w'.heap[b]? = some (.cells ((cs.setIfInBounds 0 (.pointer (some ⟨b, 0, none⟩))).setIfInBounds 1 v') T (0, 0)) ∧ w'.ownsRowF 0 5 1 v' (bs.length + 1) (bs ++ [.int .u8 c]) ∧ (∀ k, v'.ownBlock = some k → v.ownBlock = some k ∨ w.heap.size ≤ k) ∧ v'.ownBlock ≠ some b ∧ Kp (fun k => k = b ∨ v.ownBlock = some k) w w' := by
  obtain ⟨i0, hi, hz0, hz1, hz2⟩ := info_parts infoByte
  have HA := Lib.hid h
  clear h
  have HT := Lib.hid hT
  clear hT
  go_enter Try.func52, Try.ntmps52
  go_wp2_with (go_at_call 61; refine (copyCheck_at HA.out).mono ?_)
  rintro e w1 ⟨rfl, hb1, hk1⟩
  have hbuf : (cs.setIfInBounds 0 (.pointer (some ⟨b, 0, none⟩)))[1]? = some v := by
    rw [Array.getElem?_setIfInBounds]
    simpa using HA.out.buf
  have hown1 : (w1.alloc (.cells #[.int .u8 c] 5)).ownsRowF 0 5 1 v bs.length bs := (ownsF_kp hown hk1 (fun k hk e => hne (e ▸ hk))).alloc _
  have c1 : w1.cell? ⟨b, 1, none⟩ = some v := by rw [Lib.cell_of_heap hb1]; exact hbuf
  have HB1 := Lib.hid hb1
  have HBUF := Lib.hid hbuf
  have HO1 := Lib.hid hown1
  have HN := Lib.hid (news_one (heap_alloc_new w1 (.cells #[.int .u8 c] 5)))
  have hone := one_cell c
  clear hb1 hbuf hown1
  go_wp2_with (at_builtin; refine Stop.out (?_ : Stop _))
  refine Stop.mk ?_
  refine wp_append_cells _ rfl _ _ 36 rfl 5 i0 Try.underlying36 hi hz0 hz1 hz2 _ _ _ ?hv HO1.out _ 1 1 [.int .u8 c] ?hx rfl HN.out hone hlen ?_
  case hv => rfl
  case hx => rfl
  intro v' w2 hown' hgrow hat
  have hb2 : w2.heap[b]? = some (.cells (cs.setIfInBounds 0 (.pointer (some ⟨b, 0, none⟩))) T (0, 0)) := by
    rw [hgrow.block b (by have := lt_of_heap HB1.out; simp; omega) (fun e => hne e.symm), Lib.alloc_old _ _ _ (lt_of_heap HB1.out)]
    exact HB1.out
  have d1 : w2.cell? ⟨b, 1, none⟩ = some v := by rw [Lib.cell_of_heap hb2]; exact HBUF.out
  have f1 : w2.frozen? ⟨b, 1, none⟩ = false := Lib.frozen_of_heap hb2 1
  have hne' : v'.ownBlock ≠ some b := Lib.ownBlock_neF hown' hb2 HT.out
  have HB2 := Lib.hid hb2
  clear hb2
  obtain ⟨ao, cap, rfl⟩ := own_slice w2 hown'
  have hk1a : Kp (fun k => k = b) w (w1.alloc (.cells #[.int .u8 c] 5)) := hk1.alloc _
  have hkk : Kp (fun k => k = b ∨ v.ownBlock = some k) w w2 := (hk1a.mono (fun k _ e => Or.inl e)).grown hgrow (fun k hk => Or.inl (Or.inr hk))
  have hnew : ∀ k, (Value.slice ao (bs.length + 1) cap).ownBlock = some k → v.ownBlock = some k ∨ w.heap.size ≤ k := by
    intro k hk
    rcases hat k hk with h | h
    · exact Or.inl h
    · exact Or.inr (Nat.le_trans hk1a.size h)
  clear hat
  go_wp2
  go_ret
  refine ⟨rfl, Value.slice ao (bs.length + 1) cap, heap_setCell_self HB2.out _, ?_, hnew, hne', hkk.setCell (p := ⟨b, 1, none⟩) (Or.inl rfl) _⟩
  exact ownsF_kp hown' (Kp.setCell (F := fun k => k = b) (p := ⟨b, 1, none⟩) (Kp.refl _ w2) rfl _) (fun k hk e => hne' (e ▸ hk))

set_option maxHeartbeats 2000000 in
set_option maxRecDepth 100000 in
/-- (*strings.Builder).Write of a row's bytes, that lies elsewhere. -/
theorem write_at {v : Value} {bs : List Value} (h : At w T b cs v) (hown : w.ownsRowF 0 5 1 v bs.length bs) (hne : v.ownBlock ≠ some b) (hT : T ≠ 5) {g n cap : Nat} {xs : List Value} (hp : ∀ j u, xs[j]? = some u → w.cell? ((⟨g, 0, none⟩ : Addr).add j) = some u) (hl : xs.length = n) (h1 : ∀ u ∈ xs, u.oneCell' = true) (hg : g < w.heap.size) (hgb : g ≠ b) (hlen : bs.length + n ≤ 140737488355328) :
    Calls Try.prog 51 #[.pointer (some ⟨b, 0, none⟩), .slice (some ⟨g, 0, none⟩) n cap] w fun e w' => e = .returned (.tuple #[.int .i64 n, .nilIface]) ∧
      ∃ v', w'.heap[b]? = some (.cells ((cs.setIfInBounds 0 (.pointer (some ⟨b, 0, none⟩))).setIfInBounds 1 v') T (0, 0)) ∧ w'.ownsRowF 0 5 1 v' (bs.length + n) (bs ++ xs) ∧ (∀ k, v'.ownBlock = some k → v.ownBlock = some k ∨ w.heap.size ≤ k) ∧ v'.ownBlock ≠ some b ∧ Kp (fun k => k = b ∨ v.ownBlock = some k) w w' := by
  obtain ⟨i0, hi, hz0, hz1, hz2⟩ := info_parts infoByte
  have HA := Lib.hid h
  clear h
  have HT := Lib.hid hT
  clear hT
  have HP := Lib.hid hp
  clear hp
  go_enter Try.func51, Try.ntmps51
  go_wp2_with (go_at_call 61; refine (copyCheck_at HA.out).mono ?_)
  rintro e w1 ⟨rfl, hb1, hk1⟩
  have hbuf : (cs.setIfInBounds 0 (.pointer (some ⟨b, 0, none⟩)))[1]? = some v := by
    rw [Array.getElem?_setIfInBounds]
    simpa using HA.out.buf
  have hown1 : w1.ownsRowF 0 5 1 v bs.length bs := ownsF_kp hown hk1 (fun k hk e => hne (e ▸ hk))
  have c1 : w1.cell? ⟨b, 1, none⟩ = some v := by rw [Lib.cell_of_heap hb1]; exact hbuf
  have hp1 : ∀ j u, xs[j]? = some u → w1.cell? ((⟨g, 0, none⟩ : Addr).add j) = some u := by
    intro j u hu
    have hadd : ∀ j, (⟨g, 0, none⟩ : Addr).add j = ⟨g, j, none⟩ := by intro j; unfold Addr.add; split <;> simp_all
    have := HP.out j u hu
    rw [hadd] at this ⊢
    simp only [World.cell?] at this ⊢
    rw [hk1.block g hg hgb]
    exact this
  have HB1 := Lib.hid hb1
  have HBUF := Lib.hid hbuf
  have HO1 := Lib.hid hown1
  have HP1 := Lib.hid hp1
  clear hb1 hbuf hown1 hp1
  go_wp2_with (at_builtin; refine Stop.out (?_ : Stop _))
  refine Stop.mk ?_
  refine wp_append_cells _ rfl _ _ 36 rfl 5 i0 Try.underlying36 hi hz0 hz1 hz2 _ _ _ ?hv HO1.out _ n cap xs ?hx hl HP1.out h1 hlen ?_
  case hv => rfl
  case hx => rfl
  intro v' w2 hown' hgrow hat
  have hb2 : w2.heap[b]? = some (.cells (cs.setIfInBounds 0 (.pointer (some ⟨b, 0, none⟩))) T (0, 0)) := by
    rw [hgrow.block b (lt_of_heap HB1.out) (fun e => hne e.symm)]
    exact HB1.out
  have d1 : w2.cell? ⟨b, 1, none⟩ = some v := by rw [Lib.cell_of_heap hb2]; exact HBUF.out
  have f1 : w2.frozen? ⟨b, 1, none⟩ = false := Lib.frozen_of_heap hb2 1
  have hne' : v'.ownBlock ≠ some b := Lib.ownBlock_neF hown' hb2 HT.out
  have HB2 := Lib.hid hb2
  clear hb2
  obtain ⟨ao, cap', rfl⟩ := own_slice w2 hown'
  have hkk : Kp (fun k => k = b ∨ v.ownBlock = some k) w w2 := (hk1.mono (fun k _ e => Or.inl e)).grown hgrow (fun k hk => Or.inl (Or.inr hk))
  have hnew : ∀ k, (Value.slice ao (bs.length + n) cap').ownBlock = some k → v.ownBlock = some k ∨ w.heap.size ≤ k := by
    intro k hk
    rcases hat k hk with h | h
    · exact Or.inl h
    · exact Or.inr (Nat.le_trans hk1.size h)
  clear hat
  go_wp2
  go_ret2
  refine ⟨rfl, Value.slice ao (bs.length + n) cap', heap_setCell_self HB2.out _, ?_, hnew, hne', hkk.setCell (p := ⟨b, 1, none⟩) (Or.inl rfl) _⟩
  exact ownsF_kp hown' (Kp.setCell (F := fun k => k = b) (p := ⟨b, 1, none⟩) (Kp.refl _ w2) rfl _) (fun k hk e => hne' (e ▸ hk))

theorem run_append_none {P : Program} (w : World) (t ty e : TypeId) (i : TypeInfo) (ht : P.underlying t = some (.slice e)) (hi : P.info? e = some i) (ao : Option Addr) (n cap : Nat) (hc : n ≤ cap) :
    (Builtin.append_ #[t, t] ty #[.slice ao n cap, .slice none 0 0]).run P w = .ok (.slice ao n cap) w := by
  cases ao <;> simp [Builtin.append_, run_underlying ht, sizeOf, typeInfo, hi, Builtin.lenOf, hc, Builtin.firstCells, storeCells]
theorem wp_append_none {P : Program} (w : World) {ops : Array Oper} {rest : List Oper} {o : Oper} {a : Act} {Q : Exit → Act → World → Prop} (hgd : o.guard = none) (sl x : Operand) (t : TypeId)
    (ho : o.op = .call { callee := .builtin .append, args := #[sl, x], argTypes := #[t, t] })
    (e : TypeId) (i : TypeInfo) (ht : P.underlying t = some (.slice e)) (hi : P.info? e = some i) (ao : Option Addr) (n cap : Nat) (hs : a.eval sl = .slice ao n cap) (hx : a.eval x = .slice none 0 0) (hc : n ≤ cap)
    (h : wpList P ops Q rest (a.put o.dst (.slice ao n cap)) w) : wpList P ops Q (o :: rest) a w := by
  refine wpList_plain hgd fun K hK => ?_
  have hr := run_append_none (P := P) w t o.type e i ht hi ao n cap hc
  unfold Oper.wp execOp
  simp only [ho, resolve, invoke, builtin, Sem.run_bind, Sem.run_pure, Result.andThen_ok, List.map_toArray, List.map_cons, List.map_nil, hs, hx, hr]
  exact hK _ _ h

theorem own_slice' {w : World} {v : Value} {n : Nat} {xs : List Value} {e : TypeId} (h : w.ownsRowF 0 e 1 v n xs) : ∃ ao cap, v = .slice ao n cap ∧ n ≤ cap := by
  rcases h.2 with ⟨hv, hn⟩ | ⟨g, cap, cur, fz, hv, _, _, _, hc, _⟩
  · subst hn
    exact ⟨_, _, hv, Nat.le_refl _⟩
  · exact ⟨_, _, hv, hc⟩

set_option maxHeartbeats 2000000 in
set_option maxRecDepth 100000 in
/-- (*strings.Builder).Write of nothing. -/
theorem write_none_at {v : Value} {bs : List Value} (h : At w T b cs v) (hown : w.ownsRowF 0 5 1 v bs.length bs) (hne : v.ownBlock ≠ some b) (hT : T ≠ 5) :
    Calls Try.prog 51 #[.pointer (some ⟨b, 0, none⟩), .slice none 0 0] w fun e w' => e = .returned (.tuple #[.int .i64 0, .nilIface]) ∧
      ∃ v', w'.heap[b]? = some (.cells ((cs.setIfInBounds 0 (.pointer (some ⟨b, 0, none⟩))).setIfInBounds 1 v') T (0, 0)) ∧ w'.ownsRowF 0 5 1 v' bs.length bs ∧ (∀ k, v'.ownBlock = some k → v.ownBlock = some k ∨ w.heap.size ≤ k) ∧ v'.ownBlock ≠ some b ∧ Kp (fun k => k = b ∨ v.ownBlock = some k) w w' := by
  obtain ⟨i0, hi, hz0, hz1, hz2⟩ := info_parts infoByte
  obtain ⟨ao, cap, rfl, hcap⟩ := own_slice' hown
  have HA := Lib.hid h
  clear h
  have HT := Lib.hid hT
  clear hT
  go_enter Try.func51, Try.ntmps51
  go_wp2_with (go_at_call 61; refine (copyCheck_at HA.out).mono ?_)
  rintro e w1 ⟨rfl, hb1, hk1⟩
  have hbuf : (cs.setIfInBounds 0 (.pointer (some ⟨b, 0, none⟩)))[1]? = some (.slice ao bs.length cap) := by
    rw [Array.getElem?_setIfInBounds]
    simpa using HA.out.buf
  have hown1 : w1.ownsRowF 0 5 1 (.slice ao bs.length cap) bs.length bs := ownsF_kp hown hk1 (fun k hk e => hne (e ▸ hk))
  have c1 : w1.cell? ⟨b, 1, none⟩ = some (.slice ao bs.length cap) := by rw [Lib.cell_of_heap hb1]; exact hbuf
  have f1 : w1.frozen? ⟨b, 1, none⟩ = false := Lib.frozen_of_heap hb1 1
  have HB1 := Lib.hid hb1
  have HO1 := Lib.hid hown1
  clear hb1 hown1
  go_wp2_with (at_builtin; refine Stop.out (?_ : Stop _))
  refine Stop.mk ?_
  refine wp_append_none _ rfl _ _ 36 rfl 5 i0 Try.underlying36 hi ao bs.length cap ?hv ?hx hcap ?_
  case hv => rfl
  case hx => rfl
  go_wp2
  go_ret2
  refine ⟨rfl, .slice ao bs.length cap, heap_setCell_self HB1.out _, ?_, fun k hk => Or.inl hk, hne, (hk1.mono (fun k _ e => Or.inl e)).setCell (p := ⟨b, 1, none⟩) (Or.inl rfl) _⟩
  exact ownsF_kp HO1.out (Kp.setCell (F := fun k => k = b) (p := ⟨b, 1, none⟩) (Kp.refl _ w1) rfl _) (fun k hk e => hne (e ▸ hk))
end
end Go.Proofs.Ytaejicolhliecaa.Buf

/- A flow as it lies: a block of four cells (the builder's two, how many ends wait, the blanks), with the rows of what is told and of the blanks; and what its small methods do to it. -/
set_option linter.unusedVariables false
namespace Go.Proofs.Ytaejicolhliecaa.Flow
open Go.RowKit Go.Lib Go.Proofs.Ytaejicolhliecaa.Buf

/-- What a flow holds: what is told, the blanks, how many ends wait. -/
structure M where
  told : List UInt8
  blanks : List UInt8
  ends : Nat

def M.line (m : M) : M := { m with ends := m.ends + 1, blanks := [] }
def M.brk (n : Int) (m : M) : M := { m with ends := max m.ends (min n 100).toNat, blanks := [] }
def M.lose (m : M) : M := if m.ends = 0 ∧ m.blanks = [] then { m with blanks := [32] } else m
def M.keep (c : UInt8) (m : M) : M := if c = 10 ∨ c = 13 then m.line else { m with blanks := m.blanks ++ [c] }
def M.word (c : UInt8) (m : M) : M := { told := (if m.told = [] then [] else m.told ++ List.replicate m.ends 10 ++ m.blanks) ++ [c], blanks := [], ends := 0 }
def isBlank (c : UInt8) : Bool := c == 9 || c == 10 || c == 12 || c == 13 || c == 32
def M.put1 (k : Bool) (c : UInt8) (m : M) : M := if c = 0 then m else if isBlank c = true then (if k = true then m.keep c else m.lose) else m.word c
def M.put (k : Bool) (s : List UInt8) (m : M) : M := s.foldl (fun m c => m.put1 k c) m

/-- The block b of the world is a flow with this in it; all that is its own lies in the blocks of F. -/
structure IsF (w : World) (b : Nat) (F : Nat → Prop) (a v l : Value) (m : M) : Prop where
  heap : w.heap[b]? = some (.cells #[a, v, .int .i64 m.ends, l] 62 (0, 0))
  addr : a = .pointer none ∨ a = .pointer (some ⟨b, 0, none⟩)
  told : w.ownsRowF 0 5 1 v m.told.length (byteCells m.told)
  blanks : w.ownsRowF 0 5 1 l m.blanks.length (byteCells m.blanks)
  nv : v.ownBlock ≠ some b
  nl : l.ownBlock ≠ some b
  apart : ∀ k, v.ownBlock = some k → l.ownBlock ≠ some k
  fb : F b
  fv : ∀ k, v.ownBlock = some k → F k
  fl : ∀ k, l.ownBlock = some k → F k
  fin : ∀ k, F k → k < w.heap.size

def Fl (w : World) (b : Nat) (F : Nat → Prop) (m : M) : Prop := ∃ a v l, IsF w b F a v l m

/-- What another did leaves it alone. -/
theorem Fl.kp {w w' : World} {b : Nat} {F G : Nat → Prop} {m : M} (h : Fl w b F m) (hk : Kp G w w') (hd : ∀ k, F k → ¬ G k) : Fl w' b F m := by
  obtain ⟨a, v, l, h⟩ := h
  refine ⟨a, v, l, (hk.block b (Buf.lt_of_heap h.heap) (hd b h.fb)).trans h.heap, h.addr, ownsF_kp h.told hk (fun k e => hd k (h.fv k e)), ownsF_kp h.blanks hk (fun k e => hd k (h.fl k e)), h.nv, h.nl, h.apart, h.fb, h.fv, h.fl, fun k hf => Nat.lt_of_lt_of_le (h.fin k hf) hk.size⟩

theorem liesF : liesAt Try.prog Try.prog.depth 62 (4 / Try.prog.cellsOf 62) 0 60 1 = true := by kernel_rfl
theorem IsF.at {w : World} {b : Nat} {F : Nat → Prop} {a v l : Value} {m : M} (h : IsF w b F a v l m) : At w 62 b #[a, v, .int .i64 m.ends, l] v := ⟨h.heap, by simpa using h.addr, rfl, liesF⟩

/-- What a method leaves: the flow with m' in it; writes into F's blocks alone; of the flow's own all is F's, or new. -/
def Does (w w' : World) (b : Nat) (F : Nat → Prop) (m' : M) : Prop := ∃ F', Fl w' b F' m' ∧ Kp F w w' ∧ ∀ k, F' k → F k ∨ w.heap.size ≤ k

section
variable {w : World} {b : Nat} {F : Nat → Prop} {m : M}

theorem cells_of {a v l : Value} (h : IsF w b F a v l m) : w.cell? ⟨b, 2, none⟩ = some (.int .i64 m.ends) ∧ w.cell? ⟨b, 3, none⟩ = some l ∧ (∀ j, w.frozen? ⟨b, j, none⟩ = false) := by
  refine ⟨?_, ?_, fun j => Lib.frozen_of_heap h.heap j⟩
  · rw [Lib.cell_of_heap h.heap]; rfl
  · rw [Lib.cell_of_heap h.heap]; rfl

/-- The two last cells written anew, the blanks to nil. -/
theorem two_set {a v l : Value} (h : IsF w b F a v l m) (n : Nat) : Does w ((w.setCell ⟨b, 2, none⟩ (.int .i64 n)).setCell ⟨b, 3, none⟩ (.slice none 0 0)) b F { m with ends := n, blanks := [] } := by
  have hk : Kp F w ((w.setCell ⟨b, 2, none⟩ (.int .i64 n)).setCell ⟨b, 3, none⟩ (.slice none 0 0)) := ((Kp.refl F w).setCell (p := ⟨b, 2, none⟩) h.fb _).setCell (p := ⟨b, 3, none⟩) h.fb _
  have hk' : Kp (fun k => k = b) w ((w.setCell ⟨b, 2, none⟩ (.int .i64 n)).setCell ⟨b, 3, none⟩ (.slice none 0 0)) := ((Kp.refl (fun k => k = b) w).setCell (p := ⟨b, 2, none⟩) rfl _).setCell (p := ⟨b, 3, none⟩) rfl _
  have h1 := heap_setCell_self (heap_setCell_self h.heap (j := 2) (.int .i64 n)) (j := 3) (.slice none 0 0)
  refine ⟨F, ⟨a, v, .slice none 0 0, h1, h.addr, ownsF_kp h.told hk' (fun k e hb => h.nv (hb ▸ e)), ⟨by simp [byteCells], .inl ⟨rfl, rfl⟩⟩, h.nv, by simp [Value.ownBlock], fun k _ => by simp [Value.ownBlock], h.fb, h.fv, by simp [Value.ownBlock], fun k hf => Nat.lt_of_lt_of_le (h.fin k hf) hk.size⟩, hk, fun k hf => Or.inl hf⟩

set_option maxHeartbeats 1000000 in
set_option maxRecDepth 100000 in
theorem line_at (h : Fl w b F m) (hb : m.ends ≤ 1000000000) : Calls Try.prog 23 #[.pointer (some ⟨b, 0, none⟩)] w fun e w' => e = .returned (.tuple #[]) ∧ Does w w' b F m.line := by
  obtain ⟨a, v, l, h⟩ := h
  obtain ⟨c2, c3, hf⟩ := cells_of h
  have hf2 := hf 2
  have hf3 := hf 3
  have hd := two_set h (m.ends + 1)
  rw [Int.natCast_add] at hd
  have HD := Lib.hid hd
  clear h hf hd
  go_enter Try.func23, Try.ntmps23
  go_wp2
  go_end0
  exact ⟨rfl, HD.out⟩

set_option maxHeartbeats 1000000 in
set_option maxRecDepth 100000 in
theorem brk_at (h : Fl w b F m) (hb : m.ends ≤ 1000000000) (n : Int) (hn : (Lit.int .i64 n).wf = true) : Calls Try.prog 24 #[.pointer (some ⟨b, 0, none⟩), .int .i64 n] w fun e w' => e = .returned (.tuple #[]) ∧ Does w w' b F (m.brk n) := by
  obtain ⟨a, v, l, h⟩ := h
  obtain ⟨c2, c3, hf⟩ := cells_of h
  have hf2 := hf 2
  have hf3 := hf 3
  have hd := two_set h (max m.ends (min n 100).toNat)
  have e : ((max m.ends (min n 100).toNat : Nat) : Int) = max (m.ends : Int) (min n 100) := by omega
  rw [e] at hd
  have HD := Lib.hid hd
  clear h hf hd e
  go_enter Try.func24, Try.ntmps24
  go_wp2
  go_end0
  exact ⟨rfl, HD.out⟩

theorem lose_set {a v l : Value} (h : IsF w b F a v l m) : Does w ((w.setCell ⟨b, 3, none⟩ (.slice (some ⟨w.heap.size, 0, none⟩) 1 1)).alloc (.cells #[.int .u8 32] 5)) b F { m with blanks := [32] } := by
  have hlt := Buf.lt_of_heap h.heap
  have hs0 : (w.setCell ⟨b, 3, none⟩ (.slice (some ⟨w.heap.size, 0, none⟩) 1 1)).heap.size = w.heap.size := by simp [World.setCell]
  have hk : Kp (fun k => k = b) w ((w.setCell ⟨b, 3, none⟩ (.slice (some ⟨w.heap.size, 0, none⟩) 1 1)).alloc (.cells #[.int .u8 32] 5)) := ((Kp.refl (fun k => k = b) w).setCell (p := ⟨b, 3, none⟩) rfl _).alloc _
  have h1 : ((w.setCell ⟨b, 3, none⟩ (.slice (some ⟨w.heap.size, 0, none⟩) 1 1)).alloc (.cells #[.int .u8 32] 5)).heap[b]? = some (.cells (#[a, v, .int .i64 m.ends, l].setIfInBounds 3 (.slice (some ⟨w.heap.size, 0, none⟩) 1 1)) 62 (0, 0)) := (Lib.alloc_old _ _ b (by omega)).trans (heap_setCell_self h.heap (j := 3) (.slice (some ⟨w.heap.size, 0, none⟩) 1 1))
  have hnew : ((w.setCell ⟨b, 3, none⟩ (.slice (some ⟨w.heap.size, 0, none⟩) 1 1)).alloc (.cells #[.int .u8 32] 5)).heap[w.heap.size]? = some (.cells #[.int .u8 32] 5 (0, 0)) := by
    have := heap_alloc_new (w.setCell ⟨b, 3, none⟩ (.slice (some ⟨w.heap.size, 0, none⟩) 1 1)) (.cells #[.int .u8 32] 5)
    rw [hs0] at this
    exact this
  refine ⟨fun k => F k ∨ k = w.heap.size, ⟨a, v, _, h1, h.addr, ownsF_kp h.told hk (fun k e hb => h.nv (hb ▸ e)), ⟨rfl, .inr ⟨w.heap.size, 1, #[.int .u8 32], (0, 0), rfl, Nat.zero_le _, hnew, Nat.zero_le _, Nat.le_refl _, by decide, rfl, rfl⟩⟩, h.nv, ?_, ?_, Or.inl h.fb, fun k e => Or.inl (h.fv k e), ?_, ?_⟩, hk.mono (fun k _ e => by rw [e]; exact h.fb), ?_⟩
  · simp [Value.ownBlock]; omega
  · intro k e
    have := h.fin k (h.fv k e)
    simp [Value.ownBlock]; omega
  · intro k e
    simp [Value.ownBlock] at e
    exact Or.inr e.symm
  · intro k e
    have hs := hk.size
    rcases e with e | e
    · exact Nat.lt_of_lt_of_le (h.fin k e) hs
    · subst e
      simp [World.setCell]
  · rintro k (e | e)
    · exact Or.inl e
    · exact Or.inr (by omega)

theorem does_refl (h : Fl w b F m) : Does w w b F m := ⟨F, h, Kp.refl F w, fun k hf => Or.inl hf⟩

set_option maxHeartbeats 1000000 in
set_option maxRecDepth 100000 in
theorem lose_at (h : Fl w b F m) (hb : m.ends ≤ 1000000000) (c : Int) : Calls Try.prog 34 #[.pointer (some ⟨b, 0, none⟩), .int .u8 c] w fun e w' => e = .returned (.tuple #[]) ∧ Does w w' b F m.lose := by
  have hr := does_refl h
  obtain ⟨a, v, l, h⟩ := h
  obtain ⟨c2, c3, hf⟩ := cells_of h
  have hf2 := hf 2
  have hf3 := hf 3
  obtain ⟨ao, cap, rfl⟩ := own_slice w h.blanks
  have hd := lose_set h
  have hlt := Buf.lt_of_heap h.heap
  have ca : ∀ o, (w.alloc o).cell? ⟨b, 3, none⟩ = some (.slice ao m.blanks.length cap) := fun o => by
    rw [Lib.cell_of_heap ((Lib.alloc_old w o b hlt).trans h.heap)]; rfl
  have cf : ∀ o, (w.alloc o).frozen? ⟨b, 3, none⟩ = false := fun o => Lib.frozen_of_heap ((Lib.alloc_old w o b hlt).trans h.heap) 3
  have HD := Lib.hid hd
  have HR := Lib.hid hr
  have HM := Lib.hid (show m.lose = if m.ends = 0 ∧ m.blanks = [] then { m with blanks := [32] } else m from rfl)
  clear h hf hd hr
  by_cases h1 : m.ends = 0
  · have d1 : ((m.ends : Int) == 0) = true := by rw [h1]; rfl
    by_cases h2 : m.blanks = []
    · have d2 : ((m.blanks.length : Int) == 0) = true := by rw [h2]; rfl
      rw [if_pos ⟨h1, h2⟩] at HM
      clear h1 h2
      go_enter Try.func34, Try.ntmps34
      go_wp2
      go_end0
      exact ⟨rfl, by rw [HM.out]; exact HD.out⟩
    · have d2 : ((m.blanks.length : Int) == 0) = false := by
        rw [beq_eq_false_iff_ne]
        intro e
        exact h2 (List.length_eq_zero_iff.1 (by omega))
      rw [if_neg (fun e => h2 e.2)] at HM
      clear h1 h2
      go_enter Try.func34, Try.ntmps34
      go_wp2
      go_end0
      exact ⟨rfl, by rw [HM.out]; exact HR.out⟩
  · have d1 : ((m.ends : Int) == 0) = false := by
      rw [beq_eq_false_iff_ne]
      intro e
      exact h1 (by omega)
    rw [if_neg (fun e => h1 e.1)] at HM
    clear h1
    go_enter Try.func34, Try.ntmps34
    go_wp2
    go_end0
    exact ⟨rfl, by rw [HM.out]; exact HR.out⟩
end
end Go.Proofs.Ytaejicolhliecaa.Flow

/- A flow's methods that write: keep, what the builder at its head is told, word. -/
set_option linter.unusedVariables false
namespace Go.Proofs.Ytaejicolhliecaa.Flow
open Go.RowKit Go.Lib Go.Proofs.Ytaejicolhliecaa.Buf

theorem Does.trans {w w1 w2 : World} {b : Nat} {F F1 : Nat → Prop} {m2 : M} (hk : Kp F w w1) (hF : ∀ k, F1 k → F k ∨ w.heap.size ≤ k) (h : Does w1 w2 b F1 m2) : Does w w2 b F m2 := by
  obtain ⟨F2, h2, hk2, hF2⟩ := h
  refine ⟨F2, h2, hk.trans hk2 (fun k hlt hf => ?_), fun k hf => ?_⟩
  · rcases hF k hf with h | h
    · exact h
    · omega
  · rcases hF2 k hf with h | h
    · exact hF k h
    · exact Or.inr (Nat.le_trans hk.size h)

section
variable {w : World} {b : Nat} {F : Nat → Prop} {m : M}

/-- The blanks written on, elsewhere or in their place. -/
theorem blanks_set {a v l : Value} (h : IsF w b F a v l m) {w2 : World} {l' : Value} {bl : List UInt8} (hk : Kp (fun k => l.ownBlock = some k) w w2) (ho : w2.ownsRowF 0 5 1 l' bl.length (byteCells bl)) (hat : ∀ k, l'.ownBlock = some k → l.ownBlock = some k ∨ w.heap.size ≤ k) :
    Does w (w2.setCell ⟨b, 3, none⟩ l') b F { m with blanks := bl } := by
  have hlt := Buf.lt_of_heap h.heap
  have h0 : w2.heap[b]? = some (.cells #[a, v, .int .i64 m.ends, l] 62 (0, 0)) := (hk.block b hlt h.nl).trans h.heap
  have h1 := heap_setCell_self h0 (j := 3) l'
  have hk0 : Kp (fun k => k = b) w2 (w2.setCell ⟨b, 3, none⟩ l') := (Kp.refl (fun k => k = b) w2).setCell (p := ⟨b, 3, none⟩) rfl _
  have hkF : Kp F w (w2.setCell ⟨b, 3, none⟩ l') := (hk.mono (fun k _ e => h.fl k e)).setCell (p := ⟨b, 3, none⟩) h.fb _
  have hnb : l'.ownBlock ≠ some b := fun e => by
    rcases hat b e with h' | h'
    · exact h.nl h'
    · omega
  have ho2 : (w2.setCell ⟨b, 3, none⟩ l').ownsRowF 0 5 1 l' bl.length (byteCells bl) := ownsF_kp ho hk0 (fun k e hb => hnb (hb ▸ e))
  have ht2 : (w2.setCell ⟨b, 3, none⟩ l').ownsRowF 0 5 1 v m.told.length (byteCells m.told) := ownsF_kp (ownsF_kp h.told hk (fun k e => h.apart k e)) hk0 (fun k e hb => h.nv (hb ▸ e))
  refine ⟨fun k => F k ∨ l'.ownBlock = some k, ⟨a, v, l', h1, h.addr, ht2, ho2, h.nv, hnb, ?_, Or.inl h.fb, fun k e => Or.inl (h.fv k e), fun k e => Or.inr e, ?_⟩, hkF, ?_⟩
  · intro k e e2
    rcases hat k e2 with h' | h'
    · exact h.apart k e h'
    · have := h.fin k (h.fv k e)
      omega
  · rintro k (e | e)
    · exact Nat.lt_of_lt_of_le (h.fin k e) hkF.size
    · exact (ho2.lt k e).2
  · rintro k (e | e)
    · exact Or.inl e
    · exact (hat k e).imp (h.fl k) id

/-- The builder at its head written on. -/
theorem told_set {a v l : Value} (h : IsF w b F a v l m) {w' : World} {v' : Value} {tl : List UInt8} (hb' : w'.heap[b]? = some (.cells ((#[a, v, .int .i64 m.ends, l].setIfInBounds 0 (.pointer (some ⟨b, 0, none⟩))).setIfInBounds 1 v') 62 (0, 0)))
    (ho : w'.ownsRowF 0 5 1 v' tl.length (byteCells tl)) (hat : ∀ k, v'.ownBlock = some k → v.ownBlock = some k ∨ w.heap.size ≤ k) (hnb : v'.ownBlock ≠ some b) (hk : Kp (fun k => k = b ∨ v.ownBlock = some k) w w') : Does w w' b F { m with told := tl } := by
  have hlt := Buf.lt_of_heap h.heap
  have hkF : Kp F w w' := hk.mono (fun k _ e => e.elim (fun e => e ▸ h.fb) (h.fv k))
  refine ⟨fun k => F k ∨ v'.ownBlock = some k, ⟨.pointer (some ⟨b, 0, none⟩), v', l, hb', Or.inr rfl, ho, ownsF_kp h.blanks hk ?_, hnb, h.nl, ?_, Or.inl h.fb, fun k e => Or.inr e, fun k e => Or.inl (h.fl k e), ?_⟩, hkF, ?_⟩
  · rintro k e (e2 | e2)
    · exact h.nl (e2 ▸ e)
    · exact h.apart k e2 e
  · intro k e e2
    rcases hat k e with h' | h'
    · exact h.apart k h' e2
    · have := h.fin k (h.fl k e2)
      omega
  · rintro k (e | e)
    · exact Nat.lt_of_lt_of_le (h.fin k e) hkF.size
    · exact (ho.lt k e).2
  · rintro k (e | e)
    · exact Or.inl e
    · exact (hat k e).imp (h.fv k) id

theorem cells_length (l : List UInt8) : (byteCells l).length = l.length := by simp [byteCells]
theorem cells_app (l r : List UInt8) : byteCells (l ++ r) = byteCells l ++ byteCells r := by simp [byteCells]
theorem str_cells (s : ByteArray) : strCells s = byteCells s.data.toList := by simp [strCells, byteCells]

theorem str_fl (h : Fl w b F m) (s : ByteArray) (hl : m.told.length + s.size ≤ 140737488355328) : Calls Try.prog 49 #[.pointer (some ⟨b, 0, none⟩), .string s] w fun e w' => e = .returned (.tuple #[.int .i64 s.size, .nilIface]) ∧ Does w w' b F { m with told := m.told ++ s.data.toList } := by
  obtain ⟨a, v, l, h⟩ := h
  refine (writeString_at (bs := byteCells m.told) h.at (by rw [cells_length]; exact h.told) h.nv (by decide) s (by rw [cells_length]; exact hl)).mono ?_
  rintro e w' ⟨rfl, v', h1, h2, h3, h4, h5⟩
  refine ⟨rfl, told_set h h1 ?_ h3 h4 h5⟩
  rw [cells_app, ← str_cells, List.length_append]
  rw [cells_length] at h2
  have : s.data.toList.length = s.size := by simp
  rw [this]
  exact h2

theorem byte_fl (h : Fl w b F m) (c : UInt8) (hl : m.told.length + 1 ≤ 140737488355328) : Calls Try.prog 52 #[.pointer (some ⟨b, 0, none⟩), .int .u8 c.toNat] w fun e w' => e = .returned .nilIface ∧ Does w w' b F { m with told := m.told ++ [c] } := by
  obtain ⟨a, v, l, h⟩ := h
  refine (writeByte_at (bs := byteCells m.told) h.at (by rw [cells_length]; exact h.told) h.nv (by decide) c.toNat (by rw [cells_length]; exact hl)).mono ?_
  rintro e w' ⟨rfl, v', h1, h2, h3, h4, h5⟩
  refine ⟨rfl, told_set h h1 ?_ h3 h4 h5⟩
  rw [cells_app, List.length_append]
  rw [cells_length] at h2
  exact h2

theorem len_fl (h : Fl w b F m) : Calls Try.prog 48 #[.pointer (some ⟨b, 0, none⟩)] w fun e w' => e = .returned (.int .i64 m.told.length) ∧ w' = w := by
  obtain ⟨a, v, l, h⟩ := h
  have := len_at (bs := byteCells m.told) h.heap rfl (by rw [cells_length]; exact h.told)
  rw [cells_length] at this
  exact this

/-- The blanks told. -/
theorem blanks_fl {a v l : Value} (h : IsF w b F a v l m) (hl : m.told.length + m.blanks.length ≤ 140737488355328) : Calls Try.prog 51 #[.pointer (some ⟨b, 0, none⟩), l] w fun e w' => e = .returned (.tuple #[.int .i64 m.blanks.length, .nilIface]) ∧ Does w w' b F { m with told := m.told ++ m.blanks } := by
  have h' := h
  rcases h.blanks.2 with ⟨rfl, hn⟩ | ⟨g, cap, cur, fz, rfl, hbg, hg, _, _, _, _, _⟩
  · refine (write_none_at (bs := byteCells m.told) h.at (by rw [cells_length]; exact h.told) h.nv (by decide)).mono ?_
    rintro e w' ⟨rfl, v', h1, h2, h3, h4, h5⟩
    have hb0 : m.blanks = [] := List.length_eq_zero_iff.1 hn
    refine ⟨by rw [hn]; rfl, told_set h h1 ?_ h3 h4 h5⟩
    rw [hb0, List.append_nil]
    rw [cells_length] at h2
    exact h2
  · refine (write_at (bs := byteCells m.told) h.at (by rw [cells_length]; exact h.told) h.nv (by decide) (xs := byteCells m.blanks) (h.blanks.cells (g := g) rfl) (cells_length _) ?_ (Buf.lt_of_heap hg) (fun e => h.nl (by rw [e]; rfl)) (by rw [cells_length]; exact hl)).mono ?_
    · intro u hu
      simp only [byteCells, List.mem_map] at hu
      obtain ⟨x, _, rfl⟩ := hu
      rfl
    · rintro e w' ⟨rfl, v', h1, h2, h3, h4, h5⟩
      refine ⟨rfl, told_set h h1 ?_ h3 h4 h5⟩
      rw [cells_app, List.length_append]
      rw [cells_length] at h2
      exact h2

set_option maxHeartbeats 2000000 in
set_option maxRecDepth 100000 in
theorem keep_other (h : Fl w b F m) (c : UInt8) (h10 : c ≠ 10) (h13 : c ≠ 13) (hl : m.blanks.length + 1 ≤ 140737488355328) : Calls Try.prog 35 #[.pointer (some ⟨b, 0, none⟩), .int .u8 c.toNat] w fun e w' => e = .returned (.tuple #[]) ∧ Does w w' b F (m.keep c) := by
  obtain ⟨i0, hi, hz0, hz1, hz2⟩ := info_parts infoByte
  have hm : m.keep c = { m with blanks := m.blanks ++ [c] } := by
    unfold M.keep
    rw [if_neg (by rintro (e | e); exact h10 e; exact h13 e)]
  have d1 : ((c.toNat : Int) == 10) = false := by
    rw [beq_eq_false_iff_ne]
    intro e
    exact h10 (UInt8.toNat_inj.1 (by simpa using (by omega : c.toNat = 10)))
  have d2 : ((c.toNat : Int) == 13) = false := by
    rw [beq_eq_false_iff_ne]
    intro e
    exact h13 (UInt8.toNat_inj.1 (by simpa using (by omega : c.toNat = 13)))
  obtain ⟨a, v, l, h⟩ := h
  obtain ⟨c2, c3, hf⟩ := cells_of h
  have hlt := Buf.lt_of_heap h.heap
  have HI := Lib.hid h
  have HO1 := Lib.hid (h.blanks.alloc (.cells #[.int .u8 c.toNat] 5))
  have HN := Lib.hid (news_one (heap_alloc_new w (.cells #[.int .u8 c.toNat] 5)))
  have hone := one_cell c.toNat
  have HM := Lib.hid hm
  clear h hf c2 h10 h13 hm
  go_enter Try.func35, Try.ntmps35
  go_wp2_with (at_builtin; refine Stop.out (?_ : Stop _))
  refine Stop.mk ?_
  refine wp_append_cells _ rfl _ _ 36 rfl 5 i0 Try.underlying36 hi hz0 hz1 hz2 _ _ _ ?hv HO1.out _ 1 1 [.int .u8 c.toNat] ?hx rfl HN.out hone hl ?_
  case hv => rfl
  case hx => rfl
  intro l' w2 ho' hgrow hat
  have hk0 : Kp (fun k => l.ownBlock = some k) w w2 := ((Kp.refl _ w).alloc _).grown hgrow (fun k hk => Or.inl hk)
  have hat' : ∀ k, l'.ownBlock = some k → l.ownBlock = some k ∨ w.heap.size ≤ k := fun k hk => (hat k hk).imp id (fun h => by simp at h; omega)
  have hd := blanks_set HI.out hk0 (bl := m.blanks ++ [c]) (by rw [cells_app, List.length_append]; exact ho') hat'
  have h2 : w2.heap[b]? = some (.cells #[a, v, .int .i64 m.ends, l] 62 (0, 0)) := (hk0.block b hlt HI.out.nl).trans HI.out.heap
  have c3' : w2.cell? ⟨b, 3, none⟩ = some l := by rw [Lib.cell_of_heap h2]; rfl
  have f3' : w2.frozen? ⟨b, 3, none⟩ = false := Lib.frozen_of_heap h2 3
  have HD := Lib.hid hd
  obtain ⟨ao, cap, rfl⟩ := own_slice w2 ho'
  clear hd h2 hk0 hat hat' ho' c3
  go_wp2
  go_end0
  exact ⟨rfl, by rw [HM.out]; exact HD.out⟩

set_option maxHeartbeats 2000000 in
set_option maxRecDepth 100000 in
theorem keep_line (h : Fl w b F m) (c : UInt8) (hc : c = 10 ∨ c = 13) (hb : m.ends ≤ 1000000000) : Calls Try.prog 35 #[.pointer (some ⟨b, 0, none⟩), .int .u8 c.toNat] w fun e w' => e = .returned (.tuple #[]) ∧ Does w w' b F (m.keep c) := by
  have hm : m.keep c = m.line := by
    unfold M.keep
    rw [if_pos hc]
  rw [hm]
  have H := Lib.hid (line_at h hb)
  clear hm h
  rcases hc with rfl | rfl
  · have d1 : (((10 : UInt8).toNat : Int) == 10) = true := by decide
    go_enter Try.func35, Try.ntmps35
    go_wp2_with (go_at_call 23; refine H.out.mono ?_)
    rintro e w' ⟨rfl, hd⟩
    go_wp2
    (try simp only [Exit.inBlock, Exit.then])
    refine bodyPost_ret (results_none rfl _ _ _) rfl ?_
    exact ⟨rfl, hd⟩
  · have d1 : (((13 : UInt8).toNat : Int) == 10) = false := by decide
    have d2 : (((13 : UInt8).toNat : Int) == 13) = true := by decide
    go_enter Try.func35, Try.ntmps35
    go_wp2_with (go_at_call 23; refine H.out.mono ?_)
    rintro e w' ⟨rfl, hd⟩
    go_wp2
    (try simp only [Exit.inBlock, Exit.then])
    refine bodyPost_ret (results_none rfl _ _ _) rfl ?_
    exact ⟨rfl, hd⟩

theorem keep_at (h : Fl w b F m) (c : UInt8) (hb : m.ends ≤ 1000000000) (hl : m.blanks.length ≤ 1000000000) : Calls Try.prog 35 #[.pointer (some ⟨b, 0, none⟩), .int .u8 c.toNat] w fun e w' => e = .returned (.tuple #[]) ∧ Does w w' b F (m.keep c) := by
  by_cases h10 : c = 10
  · exact keep_line h c (Or.inl h10) hb
  by_cases h13 : c = 13
  · exact keep_line h c (Or.inr h13) hb
  exact keep_other h c h10 h13 (by omega)

theorem index_blank (c : UInt8) : decide (0 ≤ Lib.indexByte [9, 10, 12, 13, 32] c) = isBlank c := by
  rcases c with ⟨⟨n⟩⟩
  revert n
  decide +kernel

set_option maxHeartbeats 2000000 in
set_option maxRecDepth 100000 in
theorem blank_at (c : UInt8) (w : World) : Calls Try.prog 36 #[.int .u8 c.toNat] w fun e w' => e = .returned (.bool (isBlank c)) ∧ w' = w := by
  have H := Try.strings_IndexByte ⟨#[9, 10, 12, 13, 32]⟩ c.toNat w
  have e1 : ((c.toNat : Int)).toNat.toUInt8 = c := by simp
  rw [e1] at H
  have hi := index_blank c
  have HH := Lib.hid H
  clear H e1
  go_enter Try.func36, Try.ntmps36
  go_wp2_with (go_at_call 47; refine HH.out.mono ?_)
  go_ret
  exact ⟨rfl, rfl⟩

theorem fl_below (h : Fl w b F m) {w1 : World} (hb : Below w.heap.size w.drew w1) : Fl w1 b F m := h.kp (G := fun _ => False) (Kp.of_below (w := w) (w' := w1) ⟨hb.os, hb.tape, hb.output, hb.size, hb.block⟩ _) (fun _ _ h => h)
theorem kp_below (F : Nat → Prop) {w1 : World} (hb : Below w.heap.size w.drew w1) : Kp F w w1 := Kp.of_below (w := w) (w' := w1) ⟨hb.os, hb.tape, hb.output, hb.size, hb.block⟩ F

theorem rep_ten : ∀ c, Lib.repeatL [10] c = List.replicate c 10
  | 0 => rfl
  | c + 1 => by simp [Lib.repeatL, rep_ten c, List.replicate_succ]

theorem repeat_at (c : Nat) (hc : c ≤ 1000000000) (w : World) : Calls Try.prog 50 #[.string ⟨#[10]⟩, .int .i64 c] w fun e w' => e = .returned (.string ⟨(List.replicate c (10 : UInt8)).toArray⟩) ∧ Below w.heap.size w w' := by
  have h := Try.strings_Repeat ⟨#[10]⟩ c w (by omega) (by show 1 * c ≤ _; omega)
  have e : Lib.repeatL (⟨#[10]⟩ : ByteArray).data.toList c = List.replicate c 10 := rep_ten c
  rw [e] at h
  exact h

theorem repeat_d (h : Fl w b F m) (hc : m.ends ≤ 1000000000) : Calls Try.prog 50 #[.string ⟨#[10]⟩, .int .i64 m.ends] w.drew fun e w' => e = .returned (.string ⟨(List.replicate m.ends (10 : UInt8)).toArray⟩) ∧ Hid (Fl w' b F m) ∧ Hid (Kp F w w') := by
  refine (repeat_at m.ends hc w.drew).mono ?_
  rintro e w' ⟨h1, h2⟩
  exact ⟨h1, Lib.hid (fl_below h h2), Lib.hid (kp_below F h2)⟩
theorem str_d (h : Hid (Fl w b F m)) (hl : Hid (m.told.length + (⟨(List.replicate m.ends (10 : UInt8)).toArray⟩ : ByteArray).size ≤ 140737488355328)) : Calls Try.prog 49 #[.pointer (some ⟨b, 0, none⟩), .string ⟨(List.replicate m.ends (10 : UInt8)).toArray⟩] w fun e w' => e = .returned (.tuple #[.int .i64 (⟨(List.replicate m.ends (10 : UInt8)).toArray⟩ : ByteArray).size, .nilIface]) ∧ Hid (Does w w' b F { m with told := m.told ++ List.replicate m.ends 10 }) := by
  refine (str_fl h.out _ hl.out).mono ?_
  rintro e w' ⟨h1, h2⟩
  exact ⟨h1, Lib.hid h2⟩

theorem blanks_d {a v l : Value} (h : Hid (IsF w b F a v l m)) (hl : Hid (m.told.length + m.blanks.length ≤ 140737488355328)) : Calls Try.prog 51 #[.pointer (some ⟨b, 0, none⟩), l] w.drew fun e w' => e = .returned (.tuple #[.int .i64 m.blanks.length, .nilIface]) ∧ Hid (Does w w' b F { m with told := m.told ++ m.blanks }) := by
  have h' : IsF w.drew b F a v l m := ⟨h.out.heap, h.out.addr, h.out.told, h.out.blanks, h.out.nv, h.out.nl, h.out.apart, h.out.fb, h.out.fv, h.out.fl, h.out.fin⟩
  refine (blanks_fl h' hl.out).mono ?_
  rintro e w' ⟨h1, F', h2, hk, hF⟩
  exact ⟨h1, Lib.hid ⟨F', h2, ⟨hk.os, hk.tape, hk.output, hk.size, hk.block⟩, hF⟩⟩

set_option maxHeartbeats 2000000 in
set_option maxRecDepth 100000 in
theorem word_first (h : Fl w b F m) (c : UInt8) (h0 : m.told = []) : Calls Try.prog 37 #[.pointer (some ⟨b, 0, none⟩), .int .u8 c.toNat] w fun e w' => e = .returned (.tuple #[]) ∧ Does w w' b F (m.word c) := by
  have HL := Lib.hid (len_fl h)
  have HW := Lib.hid (byte_fl h c (by rw [h0]; decide))
  have hm : m.word c = { told := m.told ++ [c], blanks := [], ends := 0 } := by
    unfold M.word
    rw [if_pos h0, h0]
  have HM := Lib.hid hm
  have d1 : decide ((0 : Int) < (m.told.length : Int)) = false := by rw [h0]; rfl
  have d2 : decide (0 < m.told.length) = false := by rw [h0]; rfl
  clear hm h0
  go_enter Try.func37, Try.ntmps37
  go_wp2_with (go_at_call 48; refine HL.out.mono ?_)
  rintro e w' ⟨rfl, rfl⟩
  go_wp2_with (go_at_call 52; refine HW.out.mono ?_)
  rintro e w1 ⟨rfl, F1, ⟨a1, v1, l1, h1⟩, hk1, hF1⟩
  obtain ⟨c2, c3, hf⟩ := cells_of h1
  have f2 := hf 2
  have f3 := hf 3
  have HD := Lib.hid (Does.trans hk1 hF1 (two_set h1 0))
  clear h1 hk1 hF1 hf
  go_wp2
  go_end0
  exact ⟨rfl, by rw [HM.out]; exact HD.out⟩

set_option maxHeartbeats 4000000 in
set_option maxRecDepth 100000 in
theorem word_later (h : Fl w b F m) (c : UInt8) (h0 : m.told ≠ []) (hb : m.told.length + m.ends + m.blanks.length ≤ 1000000000) : Calls Try.prog 37 #[.pointer (some ⟨b, 0, none⟩), .int .u8 c.toNat] w fun e w' => e = .returned (.tuple #[]) ∧ Does w w' b F (m.word c) := by
  have HL := Lib.hid (len_fl h)
  have HR := Lib.hid (repeat_at m.ends (by omega) w)
  have hm : m.word c = { told := m.told ++ List.replicate m.ends 10 ++ m.blanks ++ [c], blanks := [], ends := 0 } := by
    unfold M.word
    rw [if_neg h0]
  have HM := Lib.hid hm
  have hpos : 0 < m.told.length := List.length_pos_iff.2 h0
  have d1 : decide ((0 : Int) < (m.told.length : Int)) = true := decide_eq_true (by omega)
  have d2 : decide (0 < m.told.length) = true := decide_eq_true hpos
  have HF := Lib.hid h
  obtain ⟨a, v, l, hi⟩ := h
  obtain ⟨c2, c3, hf⟩ := cells_of hi
  clear hm h0 hi c3 hf
  have HE := Lib.hid (show m.ends ≤ 1000000000 by omega)
  have HS := Lib.hid (show m.told.length + (⟨(List.replicate m.ends (10 : UInt8)).toArray⟩ : ByteArray).size ≤ 140737488355328 by simp [ByteArray.size]; omega)
  go_enter Try.func37, Try.ntmps37
  go_wp2_with (go_at_call 48; refine HL.out.mono ?_)
  rintro e w' ⟨rfl, rfl⟩
  go_wp2_with fail
  go_region_with (first | (go_at_call 50; refine (repeat_d HF.out HE.out).mono ?_; rintro e w1 ⟨rfl, H1, K1⟩) | (go_at_call 49; refine (str_d H1 HS).mono ?_; rintro e w2 ⟨rfl, HD2⟩))
  obtain ⟨F2, ⟨a2, v2, l2, h2⟩, hk2, hF2⟩ := HD2.out
  have c3 := (cells_of h2).2.1
  have H2 := Lib.hid h2
  have HS2 := Lib.hid (show (m.told ++ List.replicate m.ends (10 : UInt8)).length + m.blanks.length ≤ 140737488355328 by simp; omega)
  clear h2
  obtain ⟨ao, cap, rfl⟩ := own_slice w2 H2.out.blanks
  go_wp2_with fail
  go_region_with (go_at_call 51; refine (blanks_d H2 HS2).mono ?_; rintro e w3 ⟨rfl, HD3⟩)
  obtain ⟨F3, h3, hk3, hF3⟩ := HD3.out
  have hl3 : (m.told ++ List.replicate m.ends (10 : UInt8) ++ m.blanks).length + 1 ≤ 140737488355328 := by simp; omega
  generalize hm3 : (M.mk (m.told ++ List.replicate m.ends 10 ++ m.blanks) m.blanks m.ends) = m3 at h3
  have ht3 : m3.told = m.told ++ List.replicate m.ends 10 ++ m.blanks := by rw [← hm3]
  rw [← ht3] at hl3
  have HM3 := Lib.hid (show M.word c m = { told := m3.told ++ [c], blanks := [], ends := 0 } by rw [HM.out, ht3])
  clear hm3 ht3 HD3
  have HC := Lib.hid (byte_fl h3 c hl3)
  clear hl3
  go_wp2_with (go_at_call 52; refine HC.out.mono ?_)
  rintro e w4 ⟨rfl, F4, ⟨a4, v4, l4, h4⟩, hk4, hF4⟩
  obtain ⟨c2, c3, hf⟩ := cells_of h4
  have f2 := hf 2
  have f3 := hf 3
  have hD4 := Does.trans hk4 hF4 (two_set h4 0)
  have hD3 := Does.trans hk3 hF3 hD4
  have hD2 := Does.trans hk2 hF2 hD3
  have HD := Lib.hid (Does.trans K1.out (fun k hf => Or.inl hf) hD2)
  clear h3 h4 hk2 hk3 hk4 hF2 hF3 hF4 hD4 hD3 hD2 hf
  go_wp2
  go_end0
  exact ⟨rfl, by rw [HM3.out]; exact HD.out⟩

theorem word_at (h : Fl w b F m) (c : UInt8) (hb : m.told.length + m.ends + m.blanks.length ≤ 1000000000) : Calls Try.prog 37 #[.pointer (some ⟨b, 0, none⟩), .int .u8 c.toNat] w fun e w' => e = .returned (.tuple #[]) ∧ Does w w' b F (m.word c) := by
  by_cases h0 : m.told = []
  · exact word_first h c h0
  · exact word_later h c h0 hb
end
end Go.Proofs.Ytaejicolhliecaa.Flow

/- A flow's New, Text, Put, and what the law's 'does' does to it. -/
set_option linter.unusedVariables false
namespace Go.Proofs.Ytaejicolhliecaa.Flow
open Go.RowKit Go.Lib Go.Proofs.Ytaejicolhliecaa.Buf

def M.size (m : M) : Nat := m.told.length + m.ends + m.blanks.length
def M.none : M := ⟨[], [], 0⟩

theorem line_size (m : M) : m.line.size ≤ m.size + 1 := by simp [M.line, M.size]; omega
theorem brk_size (n : Int) (m : M) : (m.brk n).size ≤ m.size + 100 := by simp [M.brk, M.size]; omega
theorem lose_size (m : M) : m.lose.size ≤ m.size + 1 := by
  unfold M.lose
  split
  · rename_i h
    simp [M.size, h.2]
  · simp [M.size]
theorem keep_size (c : UInt8) (m : M) : (m.keep c).size ≤ m.size + 1 := by
  unfold M.keep
  split
  · exact line_size m
  · simp [M.size]; omega
theorem word_size (c : UInt8) (m : M) : (m.word c).size ≤ m.size + 1 := by
  unfold M.word M.size
  split <;> simp <;> omega
theorem put1_size (k : Bool) (c : UInt8) (m : M) : (m.put1 k c).size ≤ m.size + 1 := by
  unfold M.put1
  split
  · omega
  · split
    · split
      · exact keep_size c m
      · exact lose_size m
    · exact word_size c m
theorem put_size (k : Bool) : ∀ (s : List UInt8) (m : M), (m.put k s).size ≤ m.size + s.length
  | [], m => by simp [M.put]
  | c :: s, m => by
    have h1 := put_size k s (m.put1 k c)
    have h2 := put1_size k c m
    simp only [M.put, List.foldl_cons, List.length_cons] at h1 ⊢
    omega
theorem put_snoc (k : Bool) (s : List UInt8) (c : UInt8) (m : M) : m.put k (s ++ [c]) = (m.put k s).put1 k c := by simp [M.put]

section
variable {w : World} {b : Nat} {F : Nat → Prop} {m : M}

set_option maxHeartbeats 1000000 in
set_option maxRecDepth 100000 in
theorem new_at (w : World) : Calls Try.prog 17 #[] w fun e w' => e = .returned (.pointer (some ⟨w.heap.size, 0, none⟩)) ∧ w' = w.alloc (.cells #[.pointer none, .slice none 0 0, .int .i64 0, .slice none 0 0] 62) := by
  go_enter Try.func17, Try.ntmps17
  go_wp2
  go_ret
  exact ⟨rfl, rfl⟩

theorem new_fl (w : World) : Fl (w.alloc (.cells #[.pointer none, .slice none 0 0, .int .i64 0, .slice none 0 0] 62)) w.heap.size (fun k => k = w.heap.size) M.none :=
  ⟨_, _, _, heap_alloc_new w _, Or.inl rfl, ⟨rfl, .inl ⟨rfl, rfl⟩⟩, ⟨rfl, .inl ⟨rfl, rfl⟩⟩, by simp [Value.ownBlock], by simp [Value.ownBlock], fun k _ => by simp [Value.ownBlock], rfl, by simp [Value.ownBlock], by simp [Value.ownBlock], fun k e => by subst e; simp⟩

set_option maxHeartbeats 1000000 in
set_option maxRecDepth 100000 in
theorem text_at (h : Fl w b F m) : Calls Try.prog 20 #[.pointer (some ⟨b, 0, none⟩)] w fun e w' => e = .returned (.string ⟨m.told.toArray⟩) ∧ Fl w' b F m ∧ Kp F w w' := by
  obtain ⟨a, v, l, h⟩ := h
  have HS := Lib.hid (string_at (l := m.told) h.heap rfl h.told h.nv)
  have HI := Lib.hid h
  clear h
  go_enter Try.func20, Try.ntmps20
  go_wp2_with (go_at_call 33; refine HS.out.mono ?_)
  rintro e w' ⟨rfl, h1, h2, h3⟩
  have hk := h3.mono (G := F) (fun k _ e => HI.out.fv k e)
  have hf : Fl w' b F m := ⟨a, v, l, h1, HI.out.addr, h2, ownsF_kp HI.out.blanks h3 (fun k e e2 => HI.out.apart k e2 e), HI.out.nv, HI.out.nl, HI.out.apart, HI.out.fb, HI.out.fv, HI.out.fl, fun k e => Nat.lt_of_lt_of_le (HI.out.fin k e) hk.size⟩
  go_wp2
  go_ret
  exact ⟨rfl, hf, hk⟩

theorem take_snoc (s : ByteArray) (i : Nat) (h : i < s.size) : s.data.toList.take (i + 1) = s.data.toList.take i ++ [s[i]'h] := by
  have hl : i < s.data.toList.length := by simpa using h
  rw [List.take_succ_eq_append_getElem hl]
  rfl
theorem put_take (k : Bool) (m : M) (s : ByteArray) (i : Nat) (h : i < s.size) : m.put k (s.data.toList.take (i + 1)) = (m.put k (s.data.toList.take i)).put1 k (s[i]'h) := by
  rw [take_snoc s i h, put_snoc]

set_option maxHeartbeats 4000000 in
set_option maxRecDepth 100000 in
theorem put_false (h : Fl w b F m) (s : ByteArray) (hb : m.size + s.size ≤ 1000000000) : Calls Try.prog 22 #[.pointer (some ⟨b, 0, none⟩), .string s, .bool false] w fun e w' => e = .returned (.tuple #[]) ∧ Does w w' b F (m.put false s.data.toList) := by
  have HH := Lib.hid h
  have HB := Lib.hid hb
  have hs : s.size ≤ 1000000000 := by omega
  clear h hb
  go_enter Try.func22, Try.ntmps22
  go_wp2_with fail
  go_loopg [12] (s.size + 1) (fun kq v12 w' => ∃ i : Nat, v12 = .int .i64 i ∧ Hid (i ≤ s.size) ∧ Hid (s.size < i + kq) ∧ Hid (Does w w' b F (m.put false (s.data.toList.take i))))
  case atStart => exact ⟨0, rfl, Lib.hid (Nat.zero_le _), Lib.hid (by omega), Lib.hid ⟨F, HH.out, Kp.refl F w, fun k h => Or.inl h⟩⟩
  case round =>
    obtain ⟨i, rfl, HI, HK, HD⟩ := hrel
    have hi := HI.out
    by_cases hlt : i < s.size
    · have d1 : decide ((i : Int) < (s.size : Int)) = true := decide_eq_true (by omega)
      have d2 : decide (i < s.size) = true := decide_eq_true hlt
      obtain ⟨c, hc⟩ : ∃ c, s[i]'hlt = c := ⟨_, rfl⟩
      have hsn := take_snoc s i hlt
      rw [hc] at hsn
      have HP := Lib.hid (put_take false m s i hlt)
      rw [hc] at HP
      have HZ := Lib.hid (put_size false (s.data.toList.take i) m)
      clear hsn
      obtain ⟨F1, h1, hk1, hF1⟩ := HD.out
      have hlen : (s.data.toList.take i).length ≤ s.size := by simp; omega
      have HS1 := Lib.hid (show (m.put false (s.data.toList.take i)).size ≤ 1000000000 by have := HB.out; have := HZ.out; omega)
      clear hlen HZ HD
      generalize m.put false (s.data.toList.take i) = m1 at h1 HP HS1
      cases gk with
      | zero => exact absurd HK.out (by omega)
      | succ k1 =>
        by_cases hz : c = 0
        · have z1 : ((c.toNat : Int) == 0) = true := by rw [hz]; rfl
          have hp1 : m1.put1 false c = m1 := by unfold M.put1; rw [if_pos hz]
          have HR := Lib.hid (show Does w wr b F (m.put false (s.data.toList.take (i + 1))) by rw [HP.out, hp1]; exact ⟨F1, h1, hk1, hF1⟩)
          clear hz hp1 h1 hk1 hF1
          go_wp2_with fail
          go_roundg k1
          case measure => omega
          case rel => exact ⟨i + 1, rfl, Lib.hid (by omega), Lib.hid (by have := HK.out; omega), HR⟩
        · have z1 : ((c.toNat : Int) == 0) = false := by
            rw [beq_eq_false_iff_ne]
            intro e
            exact hz (UInt8.toNat_inj.1 (by simpa using (by omega : c.toNat = 0)))
          have hbl := blank_at c
          cases hB : isBlank c with
          | true =>
            rw [hB] at hbl
            have hp1 : m1.put1 false c = m1.lose := by unfold M.put1; rw [if_neg hz, if_pos hB]; rfl
            have HC := Lib.hid (lose_at h1 (by have := HS1.out; unfold M.size at this; omega) c.toNat)
            have HBL := Lib.hid hbl
            clear hz hB hbl h1
            go_wp2_with (go_at_call 36; refine (HBL.out _).mono ?_)
            rintro e w1' ⟨rfl, rfl⟩
            go_wp2_with (go_at_call 34; refine HC.out.mono ?_)
            rintro e w2 ⟨rfl, hd2⟩
            have HR := Lib.hid (show Does w w2 b F (m.put false (s.data.toList.take (i + 1))) by rw [HP.out, hp1]; exact Does.trans hk1 hF1 hd2)
            clear hp1 hk1 hF1 hd2 HC
            go_wp2_with fail
            go_roundg k1
            case measure => omega
            case rel => exact ⟨i + 1, rfl, Lib.hid (by omega), Lib.hid (by have := HK.out; omega), HR⟩
          | false =>
            rw [hB] at hbl
            have hp1 : m1.put1 false c = m1.word c := by unfold M.put1; rw [if_neg hz, if_neg (by rw [hB]; simp)]
            have HC := Lib.hid (word_at h1 c HS1.out)
            have HBL := Lib.hid hbl
            clear hz hB hbl h1
            go_wp2_with (go_at_call 36; refine (HBL.out _).mono ?_)
            rintro e w1' ⟨rfl, rfl⟩
            go_wp2_with (go_at_call 37; refine HC.out.mono ?_)
            rintro e w2 ⟨rfl, hd2⟩
            have HR := Lib.hid (show Does w w2 b F (m.put false (s.data.toList.take (i + 1))) by rw [HP.out, hp1]; exact Does.trans hk1 hF1 hd2)
            clear hp1 hk1 hF1 hd2 HC
            go_wp2_with fail
            go_roundg k1
            case measure => omega
            case rel => exact ⟨i + 1, rfl, Lib.hid (by omega), Lib.hid (by have := HK.out; omega), HR⟩
    · have d1 : decide ((i : Int) < (s.size : Int)) = false := decide_eq_false (by omega)
      have d2 : decide (i < s.size) = false := decide_eq_false hlt
      have hie : i = s.data.toList.length := by simp; omega
      have HR := Lib.hid (show Does w wr b F (m.put false s.data.toList) by have h := HD.out; rw [hie, List.take_length] at h; exact h)
      clear HD hie
      go_wp2_with fail
      go_end0
      exact ⟨rfl, HR.out⟩

set_option maxHeartbeats 4000000 in
set_option maxRecDepth 100000 in
theorem put_true (h : Fl w b F m) (s : ByteArray) (hb : m.size + s.size ≤ 1000000000) : Calls Try.prog 22 #[.pointer (some ⟨b, 0, none⟩), .string s, .bool true] w fun e w' => e = .returned (.tuple #[]) ∧ Does w w' b F (m.put true s.data.toList) := by
  have HH := Lib.hid h
  have HB := Lib.hid hb
  have hs : s.size ≤ 1000000000 := by omega
  clear h hb
  go_enter Try.func22, Try.ntmps22
  go_wp2_with fail
  go_loopg [12] (s.size + 1) (fun kq v12 w' => ∃ i : Nat, v12 = .int .i64 i ∧ Hid (i ≤ s.size) ∧ Hid (s.size < i + kq) ∧ Hid (Does w w' b F (m.put true (s.data.toList.take i))))
  case atStart => exact ⟨0, rfl, Lib.hid (Nat.zero_le _), Lib.hid (by omega), Lib.hid ⟨F, HH.out, Kp.refl F w, fun k h => Or.inl h⟩⟩
  case round =>
    obtain ⟨i, rfl, HI, HK, HD⟩ := hrel
    have hi := HI.out
    by_cases hlt : i < s.size
    · have d1 : decide ((i : Int) < (s.size : Int)) = true := decide_eq_true (by omega)
      have d2 : decide (i < s.size) = true := decide_eq_true hlt
      obtain ⟨c, hc⟩ : ∃ c, s[i]'hlt = c := ⟨_, rfl⟩
      have hsn := take_snoc s i hlt
      rw [hc] at hsn
      have HP := Lib.hid (put_take true m s i hlt)
      rw [hc] at HP
      have HZ := Lib.hid (put_size true (s.data.toList.take i) m)
      clear hsn
      obtain ⟨F1, h1, hk1, hF1⟩ := HD.out
      have hlen : (s.data.toList.take i).length ≤ s.size := by simp; omega
      have HS1 := Lib.hid (show (m.put true (s.data.toList.take i)).size ≤ 1000000000 by have := HB.out; have := HZ.out; omega)
      clear hlen HZ HD
      generalize m.put true (s.data.toList.take i) = m1 at h1 HP HS1
      cases gk with
      | zero => exact absurd HK.out (by omega)
      | succ k1 =>
        by_cases hz : c = 0
        · have z1 : ((c.toNat : Int) == 0) = true := by rw [hz]; rfl
          have hp1 : m1.put1 true c = m1 := by unfold M.put1; rw [if_pos hz]
          have HR := Lib.hid (show Does w wr b F (m.put true (s.data.toList.take (i + 1))) by rw [HP.out, hp1]; exact ⟨F1, h1, hk1, hF1⟩)
          clear hz hp1 h1 hk1 hF1
          go_wp2_with fail
          go_roundg k1
          case measure => omega
          case rel => exact ⟨i + 1, rfl, Lib.hid (by omega), Lib.hid (by have := HK.out; omega), HR⟩
        · have z1 : ((c.toNat : Int) == 0) = false := by
            rw [beq_eq_false_iff_ne]
            intro e
            exact hz (UInt8.toNat_inj.1 (by simpa using (by omega : c.toNat = 0)))
          have hbl := blank_at c
          cases hB : isBlank c with
          | true =>
            rw [hB] at hbl
            have hp1 : m1.put1 true c = m1.keep c := by unfold M.put1; rw [if_neg hz, if_pos hB]; rfl
            have HC := Lib.hid (keep_at h1 c (by have := HS1.out; unfold M.size at this; omega) (by have := HS1.out; unfold M.size at this; omega))
            have HBL := Lib.hid hbl
            clear hz hB hbl h1
            go_wp2_with (go_at_call 36; refine (HBL.out _).mono ?_)
            rintro e w1' ⟨rfl, rfl⟩
            go_wp2_with (go_at_call 35; refine HC.out.mono ?_)
            rintro e w2 ⟨rfl, hd2⟩
            have HR := Lib.hid (show Does w w2 b F (m.put true (s.data.toList.take (i + 1))) by rw [HP.out, hp1]; exact Does.trans hk1 hF1 hd2)
            clear hp1 hk1 hF1 hd2 HC
            go_wp2_with fail
            go_roundg k1
            case measure => omega
            case rel => exact ⟨i + 1, rfl, Lib.hid (by omega), Lib.hid (by have := HK.out; omega), HR⟩
          | false =>
            rw [hB] at hbl
            have hp1 : m1.put1 true c = m1.word c := by unfold M.put1; rw [if_neg hz, if_neg (by rw [hB]; simp)]
            have HC := Lib.hid (word_at h1 c HS1.out)
            have HBL := Lib.hid hbl
            clear hz hB hbl h1
            go_wp2_with (go_at_call 36; refine (HBL.out _).mono ?_)
            rintro e w1' ⟨rfl, rfl⟩
            go_wp2_with (go_at_call 37; refine HC.out.mono ?_)
            rintro e w2 ⟨rfl, hd2⟩
            have HR := Lib.hid (show Does w w2 b F (m.put true (s.data.toList.take (i + 1))) by rw [HP.out, hp1]; exact Does.trans hk1 hF1 hd2)
            clear hp1 hk1 hF1 hd2 HC
            go_wp2_with fail
            go_roundg k1
            case measure => omega
            case rel => exact ⟨i + 1, rfl, Lib.hid (by omega), Lib.hid (by have := HK.out; omega), HR⟩
    · have d1 : decide ((i : Int) < (s.size : Int)) = false := decide_eq_false (by omega)
      have d2 : decide (i < s.size) = false := decide_eq_false hlt
      have hie : i = s.data.toList.length := by simp; omega
      have HR := Lib.hid (show Does w wr b F (m.put true s.data.toList) by have h := HD.out; rw [hie, List.take_length] at h; exact h)
      clear HD hie
      go_wp2_with fail
      go_end0
      exact ⟨rfl, HR.out⟩

theorem put_at (h : Fl w b F m) (s : ByteArray) (k : Bool) (hb : m.size + s.size ≤ 1000000000) : Calls Try.prog 22 #[.pointer (some ⟨b, 0, none⟩), .string s, .bool k] w fun e w' => e = .returned (.tuple #[]) ∧ Does w w' b F (m.put k s.data.toList) := by
  cases k
  · exact put_false h s hb
  · exact put_true h s hb

/-- A thing that is done: its kind, the text, whether blanks are kept, how many. -/
structure Act where
  kind : Int
  s : ByteArray
  keep : Bool
  n : Int
def Act.val (a : Act) : Value := .agg #[.int .i64 a.kind, .string a.s, .bool a.keep, .int .i64 a.n]
def M.does (a : Act) (m : M) : M := if a.kind = 0 then m.put a.keep a.s.data.toList else if a.kind = 1 then m.brk a.n else if a.kind = 2 then m.line else m
theorem does_size (a : Act) (m : M) : (m.does a).size ≤ m.size + a.s.size + 100 := by
  unfold M.does
  split
  · have := put_size a.keep a.s.data.toList m
    have hl : a.s.data.toList.length = a.s.size := by simp
    omega
  · split
    · have := brk_size a.n m
      omega
    · split
      · have := line_size m
        omega
      · omega

set_option maxHeartbeats 2000000 in
set_option maxRecDepth 100000 in
theorem does_at (h : Fl w b F m) (a : Act) (hn : (Lit.int .i64 a.n).wf = true) (hb : m.size + a.s.size ≤ 900000000) : Calls Try.prog 18 #[.pointer (some ⟨b, 0, none⟩), a.val] w fun e w' => e = .returned (.tuple #[]) ∧ Does w w' b F (m.does a) := by
  have he : m.ends ≤ 1000000000 := by unfold M.size at hb; omega
  have hk0 : Kp F w (w.alloc (.cells #[.int .i64 a.kind, .string a.s, .bool a.keep, .int .i64 a.n] 32)) := (Kp.refl F w).alloc _
  have h' : Fl (w.alloc (.cells #[.int .i64 a.kind, .string a.s, .bool a.keep, .int .i64 a.n] 32)) b F m := h.kp ((Kp.refl (fun _ => False) w).alloc _) (fun _ _ h => h)
  have HP := Lib.hid (put_at h' a.s a.keep (by omega))
  have HK := Lib.hid (brk_at h' he a.n hn)
  have HL := Lib.hid (line_at h' he)
  have HR := Lib.hid (Does.trans hk0 (fun k hf => Or.inl hf) (does_refl h'))
  have HT : ∀ (w2 : World) (m2 : M), Does (w.alloc (.cells #[.int .i64 a.kind, .string a.s, .bool a.keep, .int .i64 a.n] 32)) w2 b F m2 → Does w w2 b F m2 := fun w2 m2 hd => Does.trans hk0 (fun k hf => Or.inl hf) hd
  have HT := Lib.hid HT
  clear h' hk0
  have hd : m.does a = if a.kind = 0 then m.put a.keep a.s.data.toList else if a.kind = 1 then m.brk a.n else if a.kind = 2 then m.line else m := rfl
  clear h
  unfold Act.val
  by_cases h0 : a.kind = 0
  · have k0 : (a.kind == 0) = true := by rw [h0]; rfl
    rw [if_pos h0] at hd
    have HD := Lib.hid hd
    clear h0 hd
    go_enter Try.func18, Try.ntmps18
    go_wp2_with (go_at_call 22; refine HP.out.mono ?_)
    rintro e w' ⟨rfl, hx⟩
    go_wp2
    go_end0
    exact ⟨rfl, by rw [HD.out]; exact HT.out _ _ hx⟩
  · have k0 : (a.kind == 0) = false := beq_eq_false_iff_ne.2 h0
    rw [if_neg h0] at hd
    by_cases h1 : a.kind = 1
    · have k1 : (a.kind == 1) = true := by rw [h1]; rfl
      rw [if_pos h1] at hd
      have HD := Lib.hid hd
      clear h0 hd h1
      go_enter Try.func18, Try.ntmps18
      go_wp2_with (go_at_call 24; refine HK.out.mono ?_)
      rintro e w' ⟨rfl, hx⟩
      go_wp2
      go_end0
      exact ⟨rfl, by rw [HD.out]; exact HT.out _ _ hx⟩
    · have k1 : (a.kind == 1) = false := beq_eq_false_iff_ne.2 h1
      rw [if_neg h1] at hd
      by_cases h2 : a.kind = 2
      · have k2 : (a.kind == 2) = true := by rw [h2]; rfl
        rw [if_pos h2] at hd
        have HD := Lib.hid hd
        clear h0 hd h1 h2
        go_enter Try.func18, Try.ntmps18
        go_wp2_with (go_at_call 23; refine HL.out.mono ?_)
        rintro e w' ⟨rfl, hx⟩
        go_wp2
        go_end0
        exact ⟨rfl, by rw [HD.out]; exact HT.out _ _ hx⟩
      · have k2 : (a.kind == 2) = false := beq_eq_false_iff_ne.2 h2
        rw [if_neg h2] at hd
        have HD := Lib.hid hd
        clear h0 hd h1 h2
        go_enter Try.func18, Try.ntmps18
        go_wp2
        go_end0
        exact ⟨rfl, by rw [HD.out]; exact HR.out⟩
end
end Go.Proofs.Ytaejicolhliecaa.Flow

/- Several flows side by side, each in blocks of its own, all made behind a world: what is done to one leaves the others as they are. -/
set_option linter.unusedVariables false
namespace Go.Proofs.Ytaejicolhliecaa.Flow
open Go.RowKit Go.Lib Go.Proofs.Ytaejicolhliecaa.Buf

/-- The flows of the list, all behind w0. -/
def Sys (w0 w : World) (l : List (Nat × M)) : Prop :=
  Below w0.heap.size w0 w ∧ ∃ col : Nat → Nat, (∀ k, col k ≠ 0 → w0.heap.size ≤ k ∧ k < w.heap.size) ∧ ∀ i (p : Nat × M), l[i]? = some p → Fl w p.1 (fun k => col k = i + 1) p.2

theorem Sys.below {w0 w : World} {l : List (Nat × M)} (h : Sys w0 w l) : Below w0.heap.size w0 w := h.1

theorem sys_nil (w0 : World) : Sys w0 w0 [] := ⟨Below.refl _ w0, fun _ => 0, fun k h => absurd rfl h, fun i p h => by simp at h⟩

/-- What was made elsewhere. -/
theorem Sys.then {w0 w w' : World} {l : List (Nat × M)} (h : Sys w0 w l) (hb : Below w.heap.size w w') : Sys w0 w' l := by
  obtain ⟨h1, col, hc, hf⟩ := h
  refine ⟨h1.trans ⟨hb.os, hb.tape, hb.output, hb.size, fun k hk => hb.block k (Nat.lt_of_lt_of_le hk h1.size)⟩, col, fun k hk => ⟨(hc k hk).1, Nat.lt_of_lt_of_le (hc k hk).2 hb.size⟩, fun i p hp => ?_⟩
  exact (hf i p hp).kp (G := fun _ => False) (Kp.of_below hb _) (fun _ _ h => h)

theorem Sys.drawn {w0 w w' : World} {l : List (Nat × M)} (h : Sys w0 w l) (n : Nat) : Sys w0 (w.drewN n) l := h.then ⟨rfl, rfl, rfl, Nat.le_refl _, fun _ _ => rfl⟩

theorem fl_mono {w : World} {b : Nat} {F G : Nat → Prop} {m : M} (h : Fl w b F m) (hi : ∀ k, F k → G k) (hG : ∀ k, G k → k < w.heap.size) : Fl w b G m := by
  obtain ⟨a, v, l, h⟩ := h
  exact ⟨a, v, l, h.heap, h.addr, h.told, h.blanks, h.nv, h.nl, h.apart, hi _ h.fb, fun k e => hi _ (h.fv k e), fun k e => hi _ (h.fl k e), hG⟩

/-- A new one. -/
theorem Sys.new {w0 w : World} {l : List (Nat × M)} (h : Sys w0 w l) : Sys w0 (w.alloc (.cells #[.pointer none, .slice none 0 0, .int .i64 0, .slice none 0 0] 62)) (l ++ [(w.heap.size, M.none)]) := by
  obtain ⟨h1, col, hc, hf⟩ := h
  refine ⟨h1.alloc h1.size _, fun k => if k = w.heap.size then l.length + 1 else col k, fun k hk => ?_, fun i p hp => ?_⟩
  · by_cases e : k = w.heap.size
    · subst e
      exact ⟨h1.size, by simp⟩
    · simp only [if_neg e] at hk
      exact ⟨(hc k hk).1, by simp; have := (hc k hk).2; omega⟩
  · have hcs : col w.heap.size = 0 := by
      by_cases e : col w.heap.size = 0
      · exact e
      · exact absurd (hc _ e).2 (by omega)
    by_cases hi : i < l.length
    · rw [List.getElem?_append_left hi] at hp
      have hk := (hf i p hp).kp (G := fun _ => False) ((Kp.refl (fun _ => False) w).alloc (.cells #[.pointer none, .slice none 0 0, .int .i64 0, .slice none 0 0] 62)) (fun _ _ h => h)
      refine fl_mono hk (fun k e => ?_) (fun k e => ?_)
      · by_cases e2 : k = w.heap.size
        · subst e2
          rw [hcs] at e
          omega
        · simp only [if_neg e2]
          exact e
      · simp only at e
        by_cases e2 : k = w.heap.size
        · simp only [if_pos e2] at e
          omega
        · simp only [if_neg e2] at e
          have := (hc k (by omega)).2
          simp
          omega
    · have hil : i = l.length := by
        have := (List.getElem?_eq_some_iff.1 hp).1
        simp at this
        omega
      subst hil
      rw [List.getElem?_append_right (Nat.le_refl _)] at hp
      simp at hp
      subst hp
      refine fl_mono (new_fl w) (fun k e => ?_) (fun k e => ?_)
      · simp only [if_pos e]
      · simp only at e
        by_cases e2 : k = w.heap.size
        · subst e2
          simp
        · simp only [if_neg e2] at e
          have := (hc k (by omega)).2
          simp
          omega

/-- A step of the flow i. -/
theorem Sys.use {w0 w : World} {l : List (Nat × M)} {i b : Nat} {m : M} (h : Sys w0 w l) (hi : l[i]? = some (b, m)) : ∃ F, Fl w b F m ∧ ∀ w' m', Does w w' b F m' → Sys w0 w' (l.set i (b, m')) := by
  obtain ⟨h1, col, hc, hf⟩ := h
  refine ⟨fun k => col k = i + 1, hf i (b, m) hi, ?_⟩
  rintro w' m' ⟨F', hF', hk, hn⟩
  have hbase : ∀ k, k < w0.heap.size → ¬ (col k = i + 1) := fun k hk e => by
    have := (hc k (by omega)).1
    omega
  have hFin : ∀ k, F' k → k < w'.heap.size := by
    obtain ⟨_, _, _, hh⟩ := hF'
    exact hh.fin
  classical
  refine ⟨h1.trans (hk.below h1.size hbase), fun k => if F' k then i + 1 else if col k = i + 1 then 0 else col k, fun k hk0 => ?_, fun j p hp => ?_⟩
  · by_cases e : F' k
    · rcases hn k e with e2 | e2
      · exact ⟨(hc k (by omega)).1, hFin k e⟩
      · exact ⟨Nat.le_trans h1.size e2, hFin k e⟩
    · simp only [if_neg e] at hk0
      by_cases e2 : col k = i + 1
      · simp [if_pos e2] at hk0
      · simp only [if_neg e2] at hk0
        exact ⟨(hc k hk0).1, Nat.lt_of_lt_of_le (hc k hk0).2 hk.size⟩
  · have hil := (List.getElem?_eq_some_iff.1 hi).1
    have hfin2 : ∀ k, (if F' k then i + 1 else if col k = i + 1 then 0 else col k) = j + 1 → k < w'.heap.size := fun k e => by
      by_cases e2 : F' k
      · exact hFin k e2
      · simp only [if_neg e2] at e
        by_cases e3 : col k = i + 1
        · simp [if_pos e3] at e
        · simp only [if_neg e3] at e
          exact Nat.lt_of_lt_of_le (hc k (by omega)).2 hk.size
    by_cases hj : j = i
    · subst hj
      rw [List.getElem?_set_self hil] at hp
      simp only [Option.some.injEq] at hp
      subst hp
      refine fl_mono hF' (fun k e => ?_) hfin2
      simp only [if_pos e]
    · rw [List.getElem?_set_ne (fun e => hj e.symm)] at hp
      have hk2 := (hf j p hp).kp hk (fun k e e2 => hj (by omega))
      refine fl_mono hk2 (fun k e => ?_) hfin2
      have hnF : ¬ F' k := fun e2 => by
        rcases hn k e2 with e3 | e3
        · omega
        · have := (hc k (by omega)).2
          omega
      have hni : ¬ col k = i + 1 := by omega
      simp only [if_neg hnF, if_neg hni]
      exact e

theorem set_same' {l : List (Nat × M)} {i : Nat} {p : Nat × M} (h : l[i]? = some p) : l.set i p = l := by
  apply List.ext_getElem?
  intro j
  rw [List.getElem?_set]
  split
  · rename_i e
    subst e
    have := (List.getElem?_eq_some_iff.1 h).1
    rw [if_pos this, h]
  · rfl

section
variable {w0 w : World} {l : List (Nat × M)} {b : Nat} {m : M}

theorem sys_new (h : Sys w0 w l) : Calls Try.prog 17 #[] w fun e w' => ∃ b, e = .returned (.pointer (some ⟨b, 0, none⟩)) ∧ Hid (Sys w0 w' (l ++ [(b, M.none)])) := by
  refine (new_at w).mono ?_
  rintro e w' ⟨h1, h2⟩
  subst h2
  exact ⟨_, h1, Lib.hid h.new⟩
theorem sys_put (i : Nat) (h : Hid (Sys w0 w l)) (hi : l[i]? = some (b, m)) (s : ByteArray) (k : Bool) (hb : Hid (m.size + s.size ≤ 1000000000)) : Calls Try.prog 22 #[.pointer (some ⟨b, 0, none⟩), .string s, .bool k] w fun e w' => e = .returned (.tuple #[]) ∧ Hid (Sys w0 w' (l.set i (b, m.put k s.data.toList))) := by
  obtain ⟨F, h1, h2⟩ := h.out.use hi
  refine (put_at h1 s k hb.out).mono ?_
  rintro e w' ⟨h3, h4⟩
  exact ⟨h3, Lib.hid (h2 _ _ h4)⟩
theorem sys_line (i : Nat) (h : Hid (Sys w0 w l)) (hi : l[i]? = some (b, m)) (hb : Hid (m.ends ≤ 1000000000)) : Calls Try.prog 23 #[.pointer (some ⟨b, 0, none⟩)] w fun e w' => e = .returned (.tuple #[]) ∧ Hid (Sys w0 w' (l.set i (b, m.line))) := by
  obtain ⟨F, h1, h2⟩ := h.out.use hi
  refine (line_at h1 hb.out).mono ?_
  rintro e w' ⟨h3, h4⟩
  exact ⟨h3, Lib.hid (h2 _ _ h4)⟩
theorem sys_brk (i : Nat) (h : Hid (Sys w0 w l)) (hi : l[i]? = some (b, m)) (hb : Hid (m.ends ≤ 1000000000)) (n : Int) (hn : (Lit.int .i64 n).wf = true) : Calls Try.prog 24 #[.pointer (some ⟨b, 0, none⟩), .int .i64 n] w fun e w' => e = .returned (.tuple #[]) ∧ Hid (Sys w0 w' (l.set i (b, m.brk n))) := by
  obtain ⟨F, h1, h2⟩ := h.out.use hi
  refine (brk_at h1 hb.out n hn).mono ?_
  rintro e w' ⟨h3, h4⟩
  exact ⟨h3, Lib.hid (h2 _ _ h4)⟩
theorem sys_does (i : Nat) (h : Hid (Sys w0 w l)) (hi : l[i]? = some (b, m)) (a : Act) (hn : (Lit.int .i64 a.n).wf = true) (hb : Hid (m.size + a.s.size ≤ 900000000)) : Calls Try.prog 18 #[.pointer (some ⟨b, 0, none⟩), a.val] w fun e w' => e = .returned (.tuple #[]) ∧ Hid (Sys w0 w' (l.set i (b, m.does a))) := by
  obtain ⟨F, h1, h2⟩ := h.out.use hi
  refine (does_at h1 a hn hb.out).mono ?_
  rintro e w' ⟨h3, h4⟩
  exact ⟨h3, Lib.hid (h2 _ _ h4)⟩
theorem sys_text (i : Nat) (h : Hid (Sys w0 w l)) (hi : l[i]? = some (b, m)) : Calls Try.prog 20 #[.pointer (some ⟨b, 0, none⟩)] w fun e w' => e = .returned (.string ⟨m.told.toArray⟩) ∧ Hid (Sys w0 w' l) := by
  obtain ⟨F, h1, h2⟩ := h.out.use hi
  refine (text_at h1).mono ?_
  rintro e w' ⟨h3, h4, h5⟩
  have := h2 w' m ⟨F, h4, h5, fun k hf => Or.inl hf⟩
  rw [set_same' hi] at this
  exact ⟨h3, Lib.hid this⟩
end
end Go.Proofs.Ytaejicolhliecaa.Flow
