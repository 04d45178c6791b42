/- Several texts of this claim, laid together into one file. -/
import Derived.Test.YtaejicolhliecaaMPreA
import Derived.Test.YtaejicolhliecaaMPreB
import Derived.Test.YtaejicolhliecaaMFlow
import Derived.Deep.RegionWith
set_option linter.unusedSimpArgs false
set_option linter.unusedVariables false
/- What names do (kinds and its reference), as plain functions of the name; and the contracts of kinds' functions over them. -/
set_option linter.unusedVariables false
namespace Go.Proofs.Ytaejicolhliecaa.Rend
open Go.RowKit Go.Proofs.Ytaejicolhliecaa.PRe Go.Proofs.YtaejicolhliecaaW.PrintWords Go.Proofs.YtaejicolhliecaaW.PrintLast

theorem wrap_up {i n : Nat} (h : i < n) (hn : n ≤ 1000) : wrap64 ((i : Int) + 1) = ((i + 1 : Nat) : Int) := by
  unfold wrap64
  omega

/-- Is a text one of some? -/
def hasN (L : List ByteArray) (s : ByteArray) : Bool := L.any (fun x => s.toList == x.toList)

theorem index_l0 (xs : List ByteArray) (s : ByteArray) (hn : xs.length ≤ 1000) (d : Nat) : ∀ (k i : Nat), xs.length - i = d → i ≤ xs.length → d < k →
    ∃ r, slices_Index_string_string.l0 k xs s (xs.length : Int) (i : Int) = some r ∧ decide (r ≥ 0) = hasN (xs.drop i) s := by
  induction d with
  | zero =>
    intro k i hd hi hk
    obtain ⟨k, rfl⟩ : ∃ m, k = m + 1 := ⟨k - 1, by omega⟩
    obtain rfl : i = xs.length := by omega
    refine ⟨-1, ?_, ?_⟩
    · simp only [slices_Index_string_string.l0]
      rw [if_neg (by omega)]
    · simp [hasN]
  | succ d ih =>
    intro k i hd hi hk
    obtain ⟨k, rfl⟩ : ∃ m, k = m + 1 := ⟨k - 1, by omega⟩
    have hlt : i < xs.length := by omega
    have hdrop : xs.drop i = xs[i] :: xs.drop (i + 1) := by simp
    have hrd : rdOf ByteArray.empty xs (i : Int) = xs[i] := by simp [rdOf, hlt]
    by_cases hc : s.toList = xs[i].toList
    · refine ⟨i, ?_, ?_⟩
      · simp only [slices_Index_string_string.l0]
        rw [if_pos (by omega), if_pos (by omega), if_pos (by omega), hrd, if_pos hc]
      · rw [hdrop]
        show decide ((i : Int) ≥ 0) = (s.toList == xs[i].toList || hasN (xs.drop (i + 1)) s)
        rw [beq_iff_eq.mpr hc, Bool.true_or]
        exact decide_eq_true (by omega)
    · obtain ⟨r, hr, hb⟩ := ih k (i + 1) (by omega) (by omega) (by omega)
      refine ⟨r, ?_, ?_⟩
      · simp only [slices_Index_string_string.l0]
        rw [if_pos (by omega), if_pos (by omega), if_pos (by omega), hrd, if_neg hc, wrap_up hlt hn]
        exact hr
      · rw [hb, hdrop]
        have hc' : (s.toList == xs[i].toList) = false := beq_eq_false_iff_ne.mpr hc
        show hasN (xs.drop (i + 1)) s = (s.toList == xs[i].toList || hasN (xs.drop (i + 1)) s)
        rw [hc', Bool.false_or]

theorem one_at (L : List ByteArray) (s : ByteArray) (k : Nat) (hn : L.length ≤ 1000) (hk : L.length < k) : kinds_one.f k s L = some (hasN L s) := by
  obtain ⟨r, hr, hb⟩ := index_l0 L s hn L.length k 0 (by omega) (by omega) hk
  unfold kinds_one.f slices_Contains_string_string.f slices_Index_string_string.f
  have hr' : slices_Index_string_string.l0 k L s (L.length : Int) 0 = some r := hr
  rw [hr']
  simp only [Option.bind_some]
  rw [hb, List.drop_zero]

def LH : List ByteArray := [(⟨#[104, 101, 97, 100]⟩ : ByteArray), (⟨#[105, 102, 114, 97, 109, 101]⟩ : ByteArray), (⟨#[110, 111, 101, 109, 98, 101, 100]⟩ : ByteArray), (⟨#[110, 111, 102, 114, 97, 109, 101, 115]⟩ : ByteArray), (⟨#[110, 111, 115, 99, 114, 105, 112, 116]⟩ : ByteArray), (⟨#[115, 99, 114, 105, 112, 116]⟩ : ByteArray), (⟨#[115, 116, 121, 108, 101]⟩ : ByteArray), (⟨#[116, 101, 109, 112, 108, 97, 116, 101]⟩ : ByteArray), (⟨#[116, 105, 116, 108, 101]⟩ : ByteArray)]
def LK : List ByteArray := [(⟨#[108, 105, 115, 116, 105, 110, 103]⟩ : ByteArray), (⟨#[112, 108, 97, 105, 110, 116, 101, 120, 116]⟩ : ByteArray), (⟨#[112, 114, 101]⟩ : ByteArray), (⟨#[116, 101, 120, 116, 97, 114, 101, 97]⟩ : ByteArray), (⟨#[120, 109, 112]⟩ : ByteArray)]
def L2 : List ByteArray := [(⟨#[98, 108, 111, 99, 107, 113, 117, 111, 116, 101]⟩ : ByteArray), (⟨#[104, 49]⟩ : ByteArray), (⟨#[104, 50]⟩ : ByteArray), (⟨#[104, 51]⟩ : ByteArray), (⟨#[104, 52]⟩ : ByteArray), (⟨#[104, 53]⟩ : ByteArray), (⟨#[104, 54]⟩ : ByteArray), (⟨#[108, 105, 115, 116, 105, 110, 103]⟩ : ByteArray), (⟨#[111, 108]⟩ : ByteArray), (⟨#[112]⟩ : ByteArray), (⟨#[112, 108, 97, 105, 110, 116, 101, 120, 116]⟩ : ByteArray), (⟨#[112, 114, 101]⟩ : ByteArray), (⟨#[116, 97, 98, 108, 101]⟩ : ByteArray), (⟨#[117, 108]⟩ : ByteArray), (⟨#[120, 109, 112]⟩ : ByteArray)]
def LA : List ByteArray := [(⟨#[97, 100, 100, 114, 101, 115, 115]⟩ : ByteArray), (⟨#[97, 114, 116, 105, 99, 108, 101]⟩ : ByteArray), (⟨#[97, 115, 105, 100, 101]⟩ : ByteArray), (⟨#[98, 111, 100, 121]⟩ : ByteArray), (⟨#[99, 101, 110, 116, 101, 114]⟩ : ByteArray), (⟨#[100, 100]⟩ : ByteArray), (⟨#[100, 101, 116, 97, 105, 108, 115]⟩ : ByteArray), (⟨#[100, 105, 97, 108, 111, 103]⟩ : ByteArray), (⟨#[100, 105, 114]⟩ : ByteArray), (⟨#[100, 105, 118]⟩ : ByteArray), (⟨#[100, 108]⟩ : ByteArray), (⟨#[100, 116]⟩ : ByteArray), (⟨#[102, 105, 101, 108, 100, 115, 101, 116]⟩ : ByteArray), (⟨#[102, 105, 103, 99, 97, 112, 116, 105, 111, 110]⟩ : ByteArray), (⟨#[102, 105, 103, 117, 114, 101]⟩ : ByteArray), (⟨#[102, 111, 111, 116, 101, 114]⟩ : ByteArray), (⟨#[102, 111, 114, 109]⟩ : ByteArray)]
def LB : List ByteArray := [(⟨#[104, 101, 97, 100, 101, 114]⟩ : ByteArray), (⟨#[104, 103, 114, 111, 117, 112]⟩ : ByteArray), (⟨#[104, 114]⟩ : ByteArray), (⟨#[104, 116, 109, 108]⟩ : ByteArray), (⟨#[108, 101, 103, 101, 110, 100]⟩ : ByteArray), (⟨#[108, 105]⟩ : ByteArray), (⟨#[109, 97, 105, 110]⟩ : ByteArray), (⟨#[109, 101, 110, 117]⟩ : ByteArray), (⟨#[110, 97, 118]⟩ : ByteArray), (⟨#[111, 112, 116, 105, 111, 110]⟩ : ByteArray), (⟨#[115, 101, 97, 114, 99, 104]⟩ : ByteArray), (⟨#[115, 101, 99, 116, 105, 111, 110]⟩ : ByteArray), (⟨#[115, 117, 109, 109, 97, 114, 121]⟩ : ByteArray), (⟨#[116, 114]⟩ : ByteArray)]

/-- How many ends of lines. -/
def linesN (s : ByteArray) : Int := if hasN L2 s = true then 2 else if hasN LA s = true then 1 else if hasN LB s = true then 1 else 0

theorem hides_at (s : ByteArray) (k : Nat) (hk : 100 < k) : kinds_Hides.f k s = some (hasN LH s) := by
  have h := one_at LH s k (by decide) (Nat.lt_of_le_of_lt (by decide) hk)
  unfold kinds_Hides.f
  unfold LH at *
  rw [h]
  rfl
theorem keeps_at (s : ByteArray) (k : Nat) (hk : 100 < k) : kinds_Keeps.f k s = some (hasN LK s) := by
  have h := one_at LK s k (by decide) (Nat.lt_of_le_of_lt (by decide) hk)
  unfold kinds_Keeps.f
  unfold LK at *
  rw [h]
  rfl
theorem lines_at (s : ByteArray) (k : Nat) (hk : 100 < k) : kinds_Lines.f k s = some (linesN s) := by
  have h2 := one_at L2 s k (by decide) (Nat.lt_of_le_of_lt (by decide) hk)
  have ha := one_at LA s k (by decide) (Nat.lt_of_le_of_lt (by decide) hk)
  have hb := one_at LB s k (by decide) (Nat.lt_of_le_of_lt (by decide) hk)
  unfold kinds_Lines.f linesN
  unfold L2 LA LB at *
  rw [h2, ha, hb]
  simp only [Option.bind_some]
  split
  · rfl
  · split
    · rfl
    · split <;> rfl

theorem has_data (L : List ByteArray) (s : ByteArray) : hasN L s = L.any (fun x => s.data.toList == x.data.toList) := by
  unfold hasN
  simp only [ByteArray.toList_eq]

theorem has_cons (a : Array UInt8) (L : List ByteArray) (s : ByteArray) : hasN (⟨a⟩ :: L) s = (decide (s.toList = a.toList) || hasN L s) := by
  show (s.toList == (⟨a⟩ : ByteArray).toList || hasN L s) = _
  rw [ByteArray.toList_eq ⟨a⟩]
  have e : (s.toList == a.toList) = decide (s.toList = a.toList) := by
    rw [Bool.eq_iff_iff]
    simp
  exact congrArg (· || hasN L s) e

theorem ref_step {s : ByteArray} {a : Array UInt8} {l : List UInt8} {L : List ByteArray} {x : Option Bool} (h : a.toList = l) (hx : x = some (hasN L s)) :
    (if s.toList = l then some true else x) = some (hasN (⟨a⟩ :: L) s) := by
  subst h
  rw [has_cons, hx]
  by_cases h : s.toList = a.toList
  · rw [if_pos h, decide_eq_true h]
    rfl
  · rw [if_neg h, decide_eq_false h]
    rfl

theorem ref_one {s : ByteArray} {a : Array UInt8} {l : List UInt8} {L : List ByteArray} {x : Option Int} (h : a.toList = l) (hx : x = some (if hasN L s = true then 1 else 0)) :
    (if s.toList = l then some 1 else x) = some (if hasN (⟨a⟩ :: L) s = true then 1 else 0) := by
  subst h
  rw [has_cons, hx]
  by_cases h : s.toList = a.toList
  · rw [if_pos h, decide_eq_true h]
    rfl
  · rw [if_neg h, decide_eq_false h]
    rfl

theorem ref_join {s : ByteArray} {a : Array UInt8} {l : List UInt8} {L : List ByteArray} {J : Bool → Option Int} {x : Option Int} (h : a.toList = l) (hx : x = J (hasN L s)) :
    (if s.toList = l then J (s.toList == l) else x) = J (hasN (⟨a⟩ :: L) s) := by
  subst h
  rw [has_cons, hx]
  by_cases h : s.toList = a.toList
  · rw [if_pos h, decide_eq_true h, beq_iff_eq.mpr h]
    rfl
  · rw [if_neg h, decide_eq_false h]
    rfl

theorem ref_last {s : ByteArray} {a : Array UInt8} {l : List UInt8} {J : Bool → Option Int} (h : a.toList = l) : J (s.toList == l) = J (hasN [⟨a⟩] s) := by
  subst h
  rw [has_cons]
  show J (s.toList == a.toList) = J (decide (s.toList = a.toList) || false)
  rw [Bool.or_false]
  by_cases h : s.toList = a.toList
  · rw [decide_eq_true h, beq_iff_eq.mpr h]
  · rw [decide_eq_false h, beq_eq_false_iff_ne.mpr h]

theorem ref_hides (s : ByteArray) : flailref17_Hides.f s = some (hasN LH s) := by
  unfold flailref17_Hides.f LH
  repeat (refine ref_step rfl ?_)
  rfl
theorem ref_keeps (s : ByteArray) : flailref17_Keeps.f s = some (hasN LK s) := by
  unfold flailref17_Keeps.f LK
  repeat (refine ref_step rfl ?_)
  rfl
theorem any_app (A B : List ByteArray) (s : ByteArray) : hasN (A ++ B) s = (hasN A s || hasN B s) := List.any_append

theorem ref_ones (s : ByteArray) (k : Nat) (b : Bool) : flailref17_Lines.j0 (k + 1) s b = some (if b = true then 2 else if hasN (LA ++ LB) s = true then 1 else 0) := by
  cases b with
  | true =>
    simp only [flailref17_Lines.j0]
    rfl
  | false =>
    simp only [flailref17_Lines.j0, Bool.false_eq_true, if_false]
    unfold LA LB
    simp only [List.cons_append, List.nil_append]
    repeat (refine ref_one rfl ?_)
    rfl

theorem ref_lines (s : ByteArray) (k : Nat) : flailref17_Lines.f (k + 1) s = some (linesN s) := by
  have h : flailref17_Lines.f (k + 1) s = flailref17_Lines.j0 (k + 1) s (hasN L2 s) := by
    unfold flailref17_Lines.f L2
    repeat (refine ref_join (J := flailref17_Lines.j0 (k + 1) s) rfl ?_)
    exact ref_last (J := flailref17_Lines.j0 (k + 1) s) rfl
  rw [h, ref_ones, any_app]
  unfold linesN
  cases hasN L2 s <;> cases hasN LA s <;> cases hasN LB s <;> rfl

theorem hides_calls (s : ByteArray) (w : World) : Calls Try.prog 29 #[.string s] w fun e w' => e = .returned (.bool (hasN LH s)) ∧ Below w.heap.size w w' := kinds_Hides.calls 101 s _ w (hides_at s 101 (by omega))
theorem keeps_calls (s : ByteArray) (w : World) : Calls Try.prog 56 #[.string s] w fun e w' => e = .returned (.bool (hasN LK s)) ∧ Below w.heap.size w w' := kinds_Keeps.calls 101 s _ w (keeps_at s 101 (by omega))
theorem lines_calls (s : ByteArray) (w : World) : Calls Try.prog 31 #[.string s] w fun e w' => e = .returned (.int .i64 (linesN s)) ∧ Below w.heap.size w w' := kinds_Lines.calls 101 s _ w (lines_at s 101 (by omega))
theorem linesN_cases (s : ByteArray) : linesN s = 0 ∨ linesN s = 1 ∨ linesN s = 2 := by
  unfold linesN
  repeat' split
  all_goals simp
end Go.Proofs.Ytaejicolhliecaa.Rend

/- What a page holds (which names are open, how many keep blanks, and its flow), as it lies: a block of three cells, the row of the open names, and the flow; and what its small steps do to it. -/
set_option linter.unusedVariables false
set_option linter.unusedSimpArgs false
namespace Go.Proofs.Ytaejicolhliecaa.Rend
open Go.RowKit Go.Lib Go.Proofs.Ytaejicolhliecaa.Buf Go.Proofs.Ytaejicolhliecaa.Flow Go.Proofs.Ytaejicolhliecaa.PRe

def tHead : List UInt8 := [104, 101, 97, 100]
def tBody : List UInt8 := [98, 111, 100, 121]
def tBr : List UInt8 := [98, 114]

/-- A tag's own line, and the lines that its name asks for. -/
def brM (n : ByteArray) (m : M) : M := if n.toList = tBr then m.line else m
def tagM (n : ByteArray) (m : M) : M := if linesN n = 0 then brM n m else (brM n m).brk (linesN n)

/-- What is told, which names are open, how many keep blanks. -/
structure Pg where
  names : List ByteArray
  kept : Nat
  m : M

def Pg.none : Pg := ⟨[], 0, M.none⟩
def noHead (l : List ByteArray) : List ByteArray := l.filter (fun x => !(x.toList == tHead))
def bodyN (n : ByteArray) (l : List ByteArray) : List ByteArray := if n.toList = tBody then noHead l else l
def lastN (n : ByteArray) : List ByteArray → Option Nat
  | [] => Option.none
  | x :: l => match lastN n l with
    | some i => some (i + 1)
    | Option.none => if x.toList = n.toList then some 0 else Option.none
def Pg.start (n : ByteArray) (s : Pg) : Pg :=
  if hasN LH n = true then { s with names := bodyN n s.names ++ [n] }
  else if bodyN n s.names = [] then { names := [], kept := if hasN LK n = true then s.kept + 1 else s.kept, m := tagM n s.m }
  else { s with names := bodyN n s.names }
def Pg.close (n : ByteArray) (s : Pg) : Pg :=
  match lastN n s.names with
  | some i => { s with names := s.names.take i }
  | Option.none => if s.names = [] then { s with kept := if hasN LK n = true then s.kept - 1 else s.kept, m := tagM n s.m } else s
def Pg.text (t : ByteArray) (s : Pg) : Pg := if s.names = [] then { s with m := s.m.put (decide (0 < s.kept)) t.data.toList } else s
def Pg.step (x : S47) (s : Pg) : Pg := if x.f0 = 1 then s.start x.f1 else if x.f0 = 2 then s.close x.f1 else if x.f0 = 0 then s.text x.f2 else s
def Pg.all (l : List S47) (s : Pg) : Pg := l.foldl (fun s x => s.step x) s

theorem all_snoc (l : List S47) (x : S47) (s : Pg) : Pg.all (l ++ [x]) s = (Pg.all l s).step x := by simp [Pg.all]

structure IsP (w : World) (p : Nat) (F : Nat → Prop) (f : Nat) (v : Value) (G : Nat → Prop) (s : Pg) : Prop where
  heap : w.heap[p]? = some (.cells #[.pointer (some ⟨f, 0, none⟩), v, .int .i64 s.kept] 68 (0, 0))
  row : w.ownsRow 0 9 1 v s.names.length (s.names.map Value.string)
  flow : Fl w f G s.m
  fp : F p
  fv : ∀ k, v.ownBlock = some k → F k
  fg : ∀ k, G k → F k
  np : ¬ G p
  nv : ∀ k, v.ownBlock = some k → ¬ G k ∧ k ≠ p
  fin : ∀ k, F k → k < w.heap.size

/-- The block p of the world is a page with this in it; all that is its own lies in the blocks of F. -/
def Pge (w : World) (p : Nat) (F : Nat → Prop) (s : Pg) : Prop := ∃ f v G, IsP w p F f v G s
def PDoes (w w' : World) (p : Nat) (F : Nat → Prop) (s : Pg) : Prop := ∃ F', Pge w' p F' s ∧ Kp F w w' ∧ ∀ k, F' k → F k ∨ w.heap.size ≤ k

theorem row_kp {F : Nat → Prop} {w w' : World} {base : Nat} {e : TypeId} {v : Value} {n : Nat} {xs : List Value} (h : w.ownsRow base e 1 v n xs) (hk : Kp F w w') (hv : ∀ k, v.ownBlock = some k → ¬ F k) : w'.ownsRow base e 1 v n xs := by
  refine ⟨h.1, ?_⟩
  rcases h.2 with hn | ⟨g, cap, cur, rfl, hb, hgg, rest⟩
  · exact .inl hn
  · refine .inr ⟨g, cap, cur, rfl, hb, ?_, rest⟩
    rw [hk.block g (Array.getElem?_eq_some_iff.1 hgg).1 (hv g rfl)]
    exact hgg

section
variable {w w' w1 w2 : World} {p : Nat} {F G : Nat → Prop} {s s1 s2 : Pg}

theorem Pge.kp (h : Pge w p F s) (hk : Kp G w w') (hd : ∀ k, F k → ¬ G k) : Pge w' p F s := by
  obtain ⟨f, v, H, h⟩ := h
  exact ⟨f, v, H, (hk.block p (Buf.lt_of_heap h.heap) (hd p h.fp)).trans h.heap, row_kp h.row hk (fun k e => hd k (h.fv k e)), h.flow.kp hk (fun k e => hd k (h.fg k e)), h.fp, h.fv, h.fg, h.np, h.nv, fun k hf => Nat.lt_of_lt_of_le (h.fin k hf) hk.size⟩
theorem Pge.below (h : Pge w p F s) (hb : Below w.heap.size w w') : Pge w' p F s := h.kp (G := fun _ => False) (Kp.of_below hb _) (fun _ _ h => h)
theorem Pge.refl (h : Pge w p F s) : PDoes w w p F s := ⟨F, h, Kp.refl F w, fun k hf => Or.inl hf⟩
theorem PDoes.trans' (hk : Kp F w w1) {F1 : Nat → Prop} (hF : ∀ k, F1 k → F k ∨ w.heap.size ≤ k) (h : PDoes w1 w2 p F1 s2) : PDoes w w2 p F s2 := by
  obtain ⟨F2, h2, hk2, hF2⟩ := h
  refine ⟨F2, h2, hk.trans hk2 (fun k hlt hf => ?_), fun k hf => ?_⟩
  · rcases hF k hf with h | h
    · exact h
    · omega
  · rcases hF2 k hf with h | h
    · exact hF k h
    · exact Or.inr (Nat.le_trans hk.size h)
theorem PDoes.below (h : PDoes w w1 p F s) (hb : Below w1.heap.size w1 w2) : PDoes w w2 p F s := by
  obtain ⟨F1, h1, hk1, hF1⟩ := h
  exact PDoes.trans' hk1 hF1 ⟨F1, h1.below hb, Kp.of_below hb _, fun k hf => Or.inl hf⟩
theorem PDoes.of_below (hb : Below w.heap.size w w1) (h : PDoes w1 w2 p F s) : PDoes w w2 p F s := PDoes.trans' (Kp.of_below hb _) (fun k hf => Or.inl hf) h

/-- What the page's own flow does. -/
theorem pd_flow {f : Nat} {v : Value} {m' : M} (h : IsP w p F f v G s) (hd : Does w w1 f G m') : PDoes w w1 p F { s with m := m' } := by
  obtain ⟨G', hG', hk, hn⟩ := hd
  have hlt := Buf.lt_of_heap h.heap
  have hfin : ∀ k, G' k → k < w1.heap.size := by
    obtain ⟨_, _, _, hh⟩ := hG'
    exact hh.fin
  have hvlt : ∀ k, v.ownBlock = some k → k < w.heap.size := fun k e => h.fin k (h.fv k e)
  refine ⟨fun k => F k ∨ G' k, ⟨f, v, G', (hk.block p hlt h.np).trans h.heap, row_kp h.row hk (fun k e => (h.nv k e).1), hG', Or.inl h.fp, fun k e => Or.inl (h.fv k e), fun k e => Or.inr e, ?_, ?_, ?_⟩, hk.mono (fun k _ e => h.fg k e), ?_⟩
  · intro e
    rcases hn p e with e | e
    · exact h.np e
    · omega
  · intro k e
    refine ⟨fun e2 => ?_, (h.nv k e).2⟩
    rcases hn k e2 with e3 | e3
    · exact (h.nv k e).1 e3
    · have := hvlt k e
      omega
  · rintro k (e | e)
    · exact Nat.lt_of_lt_of_le (h.fin k e) hk.size
    · exact hfin k e
  · rintro k (e | e)
    · exact Or.inl e
    · exact (hn k e).imp (h.fg k) id

theorem pd_kept {f : Nat} {v : Value} (h : IsP w p F f v G s) (n : Nat) : PDoes w (w.setCell ⟨p, 2, none⟩ (.int .i64 n)) p F { s with kept := n } := by
  have hk : Kp (fun k => k = p) w (w.setCell ⟨p, 2, none⟩ (.int .i64 n)) := (Kp.refl (fun k => k = p) w).setCell (p := ⟨p, 2, none⟩) rfl _
  refine ⟨F, ⟨f, v, G, heap_setCell_self h.heap (j := 2) (.int .i64 n), row_kp h.row hk (fun k e => (h.nv k e).2), h.flow.kp hk (fun k e e2 => h.np (e2 ▸ e)), h.fp, h.fv, h.fg, h.np, h.nv, fun k hf => Nat.lt_of_lt_of_le (h.fin k hf) hk.size⟩, hk.mono (fun k _ e => by rw [e]; exact h.fp), fun k hf => Or.inl hf⟩

/-- The row of the open names, written anew. -/
theorem pd_row {f : Nat} {v v' : Value} {names : List ByteArray} (h : IsP w p F f v G s) (hk : Kp (fun k => v.ownBlock = some k) w w1) (hr : w1.ownsRow 0 9 1 v' names.length (names.map Value.string)) (hl : ∀ k, v'.ownBlock = some k → v.ownBlock = some k ∨ w.heap.size ≤ k) :
    PDoes w (w1.setCell ⟨p, 1, none⟩ v') p F { s with names := names } := by
  have hlt := Buf.lt_of_heap h.heap
  have h1 : w1.heap[p]? = some (.cells #[.pointer (some ⟨f, 0, none⟩), v, .int .i64 s.kept] 68 (0, 0)) := (hk.block p hlt (fun e => (h.nv p e).2 rfl)).trans h.heap
  have hk2 : Kp (fun k => k = p) w1 (w1.setCell ⟨p, 1, none⟩ v') := (Kp.refl (fun k => k = p) w1).setCell (p := ⟨p, 1, none⟩) rfl _
  have hvp : ∀ k, v'.ownBlock = some k → ¬ G k ∧ k ≠ p := fun k e => by
    rcases hl k e with e2 | e2
    · exact h.nv k e2
    · refine ⟨fun e3 => ?_, by omega⟩
      have := h.fin k (h.fg k e3)
      omega
  have hfl : Fl w1 f G s.m := h.flow.kp hk (fun k e e2 => (h.nv k e2).1 e)
  refine ⟨fun k => F k ∨ v'.ownBlock = some k, ⟨f, v', G, heap_setCell_self h1 (j := 1) v', row_kp hr hk2 (fun k e => (hvp k e).2), hfl.kp hk2 (fun k e e2 => h.np (e2 ▸ e)), Or.inl h.fp, fun k e => Or.inr e, fun k e => Or.inl (h.fg k e), h.np, hvp, ?_⟩, ?_, ?_⟩
  · rintro k (e | e)
    · exact Nat.lt_of_lt_of_le (h.fin k e) (Nat.le_trans hk.size hk2.size)
    · exact Nat.lt_of_lt_of_le (hr.lt k e).2 hk2.size
  · refine Kp.trans (hk.mono (fun k _ e => h.fv k e)) (hk2.mono (G := F) (fun k _ e => by rw [e]; exact h.fp)) (fun b _ e => e)
  · rintro k (e | e)
    · exact Or.inl e
    · exact (hl k e).imp (h.fv k) id

theorem page_cells {f : Nat} {v : Value} (h : IsP w p F f v G s) : w.cell? ⟨p, 0, none⟩ = some (.pointer (some ⟨f, 0, none⟩)) ∧ w.cell? ⟨p, 1, none⟩ = some v ∧ w.cell? ⟨p, 2, none⟩ = some (.int .i64 s.kept) ∧ (∀ j, w.frozen? ⟨p, j, none⟩ = false) := by
  refine ⟨?_, ?_, ?_, fun j => Lib.frozen_of_heap h.heap j⟩
  all_goals (rw [Lib.cell_of_heap h.heap]; rfl)
end
end Go.Proofs.Ytaejicolhliecaa.Rend

/- A page's methods: lines, and what a text does. -/
set_option linter.unusedVariables false
set_option linter.unusedSimpArgs false
namespace Go.Proofs.Ytaejicolhliecaa.Rend
open Go.RowKit Go.Lib Go.Proofs.Ytaejicolhliecaa.Buf Go.Proofs.Ytaejicolhliecaa.Flow Go.Proofs.Ytaejicolhliecaa.PRe

section
variable {w w' w1 w2 : World} {p : Nat} {F G : Nat → Prop} {s s1 s2 : Pg}

/-- The page's flow is called: what its contract says. -/
theorem pg_line (h : Hid (Pge w p F s)) (hb : Hid (s.m.ends ≤ 1000000000)) {f : Nat} (hc : w.cell? ⟨p, 0, none⟩ = some (.pointer (some ⟨f, 0, none⟩))) : Calls Try.prog 23 #[.pointer (some ⟨f, 0, none⟩)] w fun e w' => e = .returned (.tuple #[]) ∧ Hid (PDoes w w' p F { s with m := s.m.line }) := by
  obtain ⟨f', v, G, h⟩ := h.out
  have hh := (page_cells h).1
  rw [hc] at hh
  simp at hh
  subst hh
  refine (line_at h.flow hb.out).mono ?_
  rintro e w' ⟨h1, h2⟩
  exact ⟨h1, Lib.hid (pd_flow h h2)⟩
theorem pg_brk (h : Hid (Pge w p F s)) (hb : Hid (s.m.ends ≤ 1000000000)) {f : Nat} (hc : w.cell? ⟨p, 0, none⟩ = some (.pointer (some ⟨f, 0, none⟩))) (n : Int) (hn : (Lit.int .i64 n).wf = true) : Calls Try.prog 24 #[.pointer (some ⟨f, 0, none⟩), .int .i64 n] w fun e w' => e = .returned (.tuple #[]) ∧ Hid (PDoes w w' p F { s with m := s.m.brk n }) := by
  obtain ⟨f', v, G, h⟩ := h.out
  have hh := (page_cells h).1
  rw [hc] at hh
  simp at hh
  subst hh
  refine (brk_at h.flow hb.out n hn).mono ?_
  rintro e w' ⟨h1, h2⟩
  exact ⟨h1, Lib.hid (pd_flow h h2)⟩
theorem pg_put (h : Hid (Pge w p F s)) {f : Nat} (hc : w.cell? ⟨p, 0, none⟩ = some (.pointer (some ⟨f, 0, none⟩))) (t : ByteArray) (k : Bool) (hb : Hid (s.m.size + t.size ≤ 1000000000)) : Calls Try.prog 22 #[.pointer (some ⟨f, 0, none⟩), .string t, .bool k] w fun e w' => e = .returned (.tuple #[]) ∧ Hid (PDoes w w' p F { s with m := s.m.put k t.data.toList }) := by
  obtain ⟨f', v, G, h⟩ := h.out
  have hh := (page_cells h).1
  rw [hc] at hh
  simp at hh
  subst hh
  refine (put_at h.flow t k hb.out).mono ?_
  rintro e w' ⟨h1, h2⟩
  exact ⟨h1, Lib.hid (pd_flow h h2)⟩
theorem pg_text (h : Hid (Pge w p F s)) {f : Nat} (hc : w.cell? ⟨p, 0, none⟩ = some (.pointer (some ⟨f, 0, none⟩))) : Calls Try.prog 20 #[.pointer (some ⟨f, 0, none⟩)] w fun e w' => e = .returned (.string ⟨s.m.told.toArray⟩) ∧ Hid (PDoes w w' p F s) := by
  obtain ⟨f', v, G, h⟩ := h.out
  have hh := (page_cells h).1
  rw [hc] at hh
  simp at hh
  subst hh
  refine (text_at h.flow).mono ?_
  rintro e w' ⟨h1, h2, h3⟩
  exact ⟨h1, Lib.hid (pd_flow h ⟨G, h2, h3, fun k e => Or.inl e⟩)⟩

theorem pg_kinds {n : ByteArray} (h : Hid (PDoes w w1 p F s)) : Calls Try.prog 31 #[.string n] w1 fun e w' => e = .returned (.int .i64 (linesN n)) ∧ Hid (PDoes w w' p F s) := by
  refine (lines_calls n w1).mono ?_
  rintro e w' ⟨h1, h2⟩
  exact ⟨h1, Lib.hid (h.out.below h2)⟩
theorem pg_keeps {n : ByteArray} (h : Hid (PDoes w w1 p F s)) : Calls Try.prog 56 #[.string n] w1 fun e w' => e = .returned (.bool (hasN LK n)) ∧ Hid (PDoes w w' p F s) := by
  refine (keeps_calls n w1).mono ?_
  rintro e w' ⟨h1, h2⟩
  exact ⟨h1, Lib.hid (h.out.below h2)⟩
theorem pg_hides {n : ByteArray} (h : Hid (PDoes w w1 p F s)) : Calls Try.prog 29 #[.string n] w1 fun e w' => e = .returned (.bool (hasN LH n)) ∧ Hid (PDoes w w' p F s) := by
  refine (hides_calls n w1).mono ?_
  rintro e w' ⟨h1, h2⟩
  exact ⟨h1, Lib.hid (h.out.below h2)⟩

theorem pg_cell (h : PDoes w w1 p F s) : ∃ f, w1.cell? ⟨p, 0, none⟩ = some (.pointer (some ⟨f, 0, none⟩)) := by
  obtain ⟨F1, ⟨f, v, G, h⟩, _⟩ := h
  exact ⟨f, (page_cells h).1⟩
theorem pg_cell0 (h : Pge w p F s) : ∃ f, w.cell? ⟨p, 0, none⟩ = some (.pointer (some ⟨f, 0, none⟩)) := by
  obtain ⟨f, v, G, h⟩ := h
  exact ⟨f, (page_cells h).1⟩

theorem d_line (h : Hid (PDoes w w1 p F s)) (hb : Hid (s.m.ends ≤ 1000000000)) {f : Nat} (hc : w1.cell? ⟨p, 0, none⟩ = some (.pointer (some ⟨f, 0, none⟩))) : Calls Try.prog 23 #[.pointer (some ⟨f, 0, none⟩)] w1 fun e w' => e = .returned (.tuple #[]) ∧ Hid (PDoes w w' p F { s with m := s.m.line }) := by
  obtain ⟨F1, h1, h2, h3⟩ := h.out
  refine (pg_line (Lib.hid h1) hb hc).mono ?_
  rintro e w' ⟨h4, h5⟩
  exact ⟨h4, Lib.hid (PDoes.trans' h2 h3 h5.out)⟩
theorem d_brk (h : Hid (PDoes w w1 p F s)) (hb : Hid (s.m.ends ≤ 1000000000)) {f : Nat} (hc : w1.cell? ⟨p, 0, none⟩ = some (.pointer (some ⟨f, 0, none⟩))) (n : Int) (hn : (Lit.int .i64 n).wf = true) : Calls Try.prog 24 #[.pointer (some ⟨f, 0, none⟩), .int .i64 n] w1 fun e w' => e = .returned (.tuple #[]) ∧ Hid (PDoes w w' p F { s with m := s.m.brk n }) := by
  obtain ⟨F1, h1, h2, h3⟩ := h.out
  refine (pg_brk (Lib.hid h1) hb hc n hn).mono ?_
  rintro e w' ⟨h4, h5⟩
  exact ⟨h4, Lib.hid (PDoes.trans' h2 h3 h5.out)⟩

theorem lines_rest (h : Hid (PDoes w w1 p F s)) (hb : Hid (s.m.ends ≤ 1000000000)) (n : ByteArray) (hz : ¬ linesN n = 0) : (Lit.int .i64 (linesN n)).wf = true ∧ Hid (tagM n s1.m = (brM n s1.m).brk (linesN n)) := by
  refine ⟨?_, Lib.hid (by unfold tagM; rw [if_neg hz])⟩
  rcases linesN_cases n with e | e | e
  all_goals (rw [e]; decide)

set_option maxHeartbeats 4000000 in
set_option maxRecDepth 100000 in
theorem tag_at (h : Pge w p F s) (n : ByteArray) (hb : s.m.ends ≤ 900000000) : Calls Try.prog 55 #[.pointer (some ⟨p, 0, none⟩), .string n] w fun e w' => e = .returned (.tuple #[]) ∧ Hid (PDoes w w' p F { s with m := tagM n s.m }) := by
  have HP := Lib.hid h.refl
  obtain ⟨f, c0⟩ := pg_cell0 h
  have HB : Hid (s.m.ends ≤ 1000000000) := Lib.hid (by omega)
  have HB2 : Hid (s.m.line.ends ≤ 1000000000) := Lib.hid (by simp [M.line]; omega)
  clear h hb
  have hw : (Lit.int .i64 (linesN n)).wf = true := by rcases linesN_cases n with e | e | e <;> (rw [e]; decide)
  by_cases hbr : n.toList = tBr
  · have d1 : (n.toList == [98, 114]) = true := beq_iff_eq.2 hbr
    by_cases hz : linesN n = 0
    · have d2 : (linesN n != 0) = false := by rw [hz]; rfl
      have d3 : (linesN n == 0) = true := by rw [hz]; rfl
      have HT : Hid (tagM n s.m = s.m.line) := Lib.hid (by unfold tagM brM; rw [if_pos hz, if_pos hbr])
      clear hbr hz
      go_enter Try.func55, Try.ntmps55
      go_wp2_with (first
        | (go_at_call 23; refine (d_line HP HB c0).mono ?_; rintro e w1 ⟨rfl, h1⟩)
        | (go_at_call 31; refine (pg_kinds h1).mono ?_; rintro e w2 ⟨rfl, h2⟩))
      go_end0
      exact ⟨rfl, by rw [HT.out]; exact h2⟩
    · have d3 : (linesN n == 0) = false := beq_eq_false_iff_ne.2 hz
      have d2 : (linesN n != 0) = true := by unfold bne; rw [d3]; rfl
      have HT : Hid (tagM n s.m = (s.m.line).brk (linesN n)) := Lib.hid (by unfold tagM brM; rw [if_neg hz, if_pos hbr])
      clear hbr hz
      go_enter Try.func55, Try.ntmps55
      go_wp2_with (first
        | (go_at_call 23; refine (d_line HP HB c0).mono ?_; rintro e w1 ⟨rfl, h1⟩)
        | (go_at_call 31; refine (pg_kinds h1).mono ?_; rintro e w2 ⟨rfl, h2⟩; obtain ⟨f2, c2⟩ := pg_cell h2.out)
        | (go_at_call 24; refine (d_brk h2 HB2 c2 _ hw).mono ?_; rintro e w3 ⟨rfl, h3⟩))
      go_end0
      exact ⟨rfl, by rw [HT.out]; exact h3⟩
  · have d1 : (n.toList == [98, 114]) = false := beq_eq_false_iff_ne.2 hbr
    by_cases hz : linesN n = 0
    · have d2 : (linesN n != 0) = false := by rw [hz]; rfl
      have d3 : (linesN n == 0) = true := by rw [hz]; rfl
      have HT : Hid (tagM n s.m = s.m) := Lib.hid (by unfold tagM brM; rw [if_pos hz, if_neg hbr])
      clear hbr hz
      go_enter Try.func55, Try.ntmps55
      go_wp2_with (first
        | (go_at_call 31; refine (pg_kinds HP).mono ?_; rintro e w2 ⟨rfl, h2⟩))
      go_end0
      exact ⟨rfl, by rw [HT.out]; exact h2⟩
    · have d3 : (linesN n == 0) = false := beq_eq_false_iff_ne.2 hz
      have d2 : (linesN n != 0) = true := by unfold bne; rw [d3]; rfl
      have HT : Hid (tagM n s.m = (s.m).brk (linesN n)) := Lib.hid (by unfold tagM brM; rw [if_neg hz, if_neg hbr])
      clear hbr hz
      go_enter Try.func55, Try.ntmps55
      go_wp2_with (first
        | (go_at_call 31; refine (pg_kinds HP).mono ?_; rintro e w2 ⟨rfl, h2⟩; obtain ⟨f2, c2⟩ := pg_cell h2.out)
        | (go_at_call 24; refine (d_brk h2 HB c2 _ hw).mono ?_; rintro e w3 ⟨rfl, h3⟩))
      go_end0
      exact ⟨rfl, by rw [HT.out]; exact h3⟩
end
end Go.Proofs.Ytaejicolhliecaa.Rend
