/- Several texts of this claim, laid together into one file. -/
import Derived.Test.YtaejicolhliecaaMRendAt
import Derived.Test.YtaejicolhliecaaMFlowHand
import Derived.Test.YtaejicolhliecaaMPreB
set_option linter.unusedSimpArgs false
set_option linter.unusedVariables false
/- The document's own Render: what its small functions do. -/
set_option linter.unusedVariables false
set_option linter.unusedSimpArgs false
namespace Go.Proofs.Ytaejicolhliecaa.Rend
open Go.RowKit Go.Lib Go.Proofs.Ytaejicolhliecaa.Buf Go.Proofs.Ytaejicolhliecaa.Flow Go.Proofs.Ytaejicolhliecaa.PRe Go.Proofs.YtaejicolhliecaaW.PrintWords

theorem wrap_up' {i n : Nat} (h : i < n) (hn : n ≤ 1000000) : wrap64 ((i : Int) + 1) = ((i + 1 : Nat) : Int) := by
  unfold wrap64
  omega

theorem without_l (l : List ByteArray) (a : ByteArray) (hl : l.length ≤ 100000) (d : Nat) : ∀ (k i : Nat) (out : List ByteArray), l.length - i = d → i ≤ l.length → d < k → out.length ≤ i →
    flailref19_without.l0 k l a out (i : Int) = some (out ++ (l.drop i).filter (fun x => !(x.toList == a.toList))) := by
  induction d with
  | zero =>
    intro k i out hd hi hk ho
    obtain ⟨k, rfl⟩ : ∃ m, k = m + 1 := ⟨k - 1, by omega⟩
    obtain rfl : i = l.length := by omega
    simp only [flailref19_without.l0]
    rw [if_neg (by omega)]
    simp
  | succ d ih =>
    intro k i out hd hi hk ho
    obtain ⟨k, rfl⟩ : ∃ m, k = m + 1 := ⟨k - 1, by omega⟩
    have hlt : i < l.length := by omega
    have hdrop : l.drop i = l[i] :: l.drop (i + 1) := by simp
    have hrd : rdOf ByteArray.empty l (i : Int) = l[i] := by simp [rdOf, hlt]
    simp only [flailref19_without.l0]
    rw [if_pos (by omega), if_pos (by omega), hrd, wrap_up' hlt (by omega), hdrop]
    by_cases hc : l[i].toList = a.toList
    · rw [if_pos hc, ih k (i + 1) out (by omega) (by omega) (by omega) (by omega), List.filter_cons_of_neg (by simp [hc])]
    · have hc' : (l[i].toList == a.toList) = false := beq_eq_false_iff_ne.2 hc
      rw [if_neg hc, if_pos (by omega), ih k (i + 1) (out ++ [l[i]]) (by omega) (by omega) (by omega) (by simp; omega), List.filter_cons_of_pos (by simp [hc'])]
      simp
theorem without_at (l : List ByteArray) (a : ByteArray) (hl : l.length ≤ 100000) : flailref19_without.f (l.length + 1) l a = some (l.filter (fun x => !(x.toList == a.toList))) := by
  have := without_l l a hl l.length (l.length + 1) 0 [] (by omega) (by omega) (by omega) (by simp)
  unfold flailref19_without.f
  rw [show ((0 : Nat) : Int) = 0 from rfl] at this
  rw [this]
  simp

def lastI (n : ByteArray) (l : List ByteArray) : Int := match lastN n l with | some i => (i : Int) | none => -1
theorem lastN_take {n : ByteArray} {l : List ByteArray} (i : Nat) (hi : i < l.length) : lastN n (l.take (i + 1)) = if l[i].toList = n.toList then some i else lastN n (l.take i) := by
  induction l generalizing i with
  | nil => simp at hi
  | cons x l ih =>
    cases i with
    | zero =>
      simp only [List.take_succ_cons, List.take_zero, lastN, List.getElem_cons_zero]
    | succ i =>
      have hi' : i < l.length := by simpa using hi
      have := ih i hi'
      simp only [List.take_succ_cons, lastN, List.getElem_cons_succ, this]
      by_cases h : l[i].toList = n.toList
      · rw [if_pos h, if_pos h]
      · rw [if_neg h, if_neg h]
theorem last_l (l : List ByteArray) (n : ByteArray) (hl : l.length ≤ 100000) : ∀ (i k : Nat), i ≤ l.length → i < k → flailref19_last.l0 k l n ((i : Int) - 1) = some (lastI n (l.take i))
  | 0, k, _, hk => by
    obtain ⟨k, rfl⟩ : ∃ m, k = m + 1 := ⟨k - 1, by omega⟩
    simp only [flailref19_last.l0]
    rw [if_neg (by omega)]
    rfl
  | i + 1, k, hi, hk => by
    obtain ⟨k, rfl⟩ : ∃ m, k = m + 1 := ⟨k - 1, by omega⟩
    have hlt : i < l.length := by omega
    have hrd : rdOf ByteArray.empty l (i : Int) = l[i] := by simp [rdOf, hlt]
    have e : ((i + 1 : Nat) : Int) - 1 = (i : Int) := by omega
    simp only [flailref19_last.l0, e]
    rw [if_pos (by omega), if_pos (by omega), if_pos (by omega), hrd]
    have hw : wrap64 ((i : Int) - 1) = (i : Int) - 1 := by unfold wrap64; omega
    by_cases hc : l[i].toList = n.toList
    · rw [if_pos hc]
      unfold lastI
      rw [lastN_take i hlt, if_pos hc]
    · rw [if_neg hc, hw, last_l l n hl i k (by omega) (by omega)]
      unfold lastI
      rw [lastN_take i hlt, if_neg hc]
theorem last_at (l : List ByteArray) (n : ByteArray) (hl : l.length ≤ 100000) : flailref19_last.f (l.length + 1) l n = some (lastI n l) := by
  unfold flailref19_last.f
  have hw : wrap64 ((l.length : Int) - 1) = (l.length : Int) - 1 := by unfold wrap64; omega
  rw [hw, last_l l n hl l.length (l.length + 1) (Nat.le_refl _) (by omega), List.take_length]

section
variable {w w' w1 w2 : World} {b : Nat} {m : M}

def act1 (k n : Int) : Flow.Act := ⟨k, ⟨#[]⟩, false, n⟩

theorem r_lines (n : ByteArray) (h : Hid (RDoes w w1 b m)) : Calls Try.prog 58 #[.string n] w1 fun e w' => e = .returned (.int .i64 (linesN n)) ∧ Hid (RDoes w w' b m) := by
  refine (flailref17_Lines.calls 2 n _ w1 (ref_lines n 1)).mono ?_
  rintro e w' ⟨h1, h2⟩
  exact ⟨h1, Lib.hid (h.out.trans ⟨h.out.1.below h2.below, Kp.of_below h2.below _⟩)⟩
theorem r_do (h : Hid (RDoes w w1 b m)) (a : Flow.Act) (hb : Hid (m.size + a.s.size ≤ 900000000)) : Calls Try.prog 19 #[.pointer (some ⟨b, 0, none⟩), .agg #[.int .i64 a.kind, .string a.s, .bool a.keep, .int .i64 a.n]] w1 fun e w' => e = .returned (.tuple #[]) ∧ Hid (RDoes w w' b (m.does a)) := by
  refine (rdo_at h.out.1 a hb.out).mono ?_
  rintro e w' ⟨h1, h2⟩
  exact ⟨h1, Lib.hid (h.out.trans h2)⟩

theorem r_do2 (h : Hid (RDoes w w1 b m)) (hb : Hid (m.size ≤ 800000000)) : Calls Try.prog 19 #[.pointer (some ⟨b, 0, none⟩), .agg #[.int .i64 2, .string ⟨#[]⟩, .bool false, .int .i64 0]] w1 fun e w' => e = .returned (.tuple #[]) ∧ Hid (RDoes w w' b m.line) :=
  r_do h (act1 2 0) (Lib.hid (show m.size + 0 ≤ 900000000 by have := hb.out; omega))
theorem r_do1 (h : Hid (RDoes w w1 b m)) (hb : Hid (m.size ≤ 800000000)) (n : Int) : Calls Try.prog 19 #[.pointer (some ⟨b, 0, none⟩), .agg #[.int .i64 1, .string ⟨#[]⟩, .bool false, .int .i64 n]] w1 fun e w' => e = .returned (.tuple #[]) ∧ Hid (RDoes w w' b (m.brk n)) :=
  r_do h (act1 1 n) (Lib.hid (show m.size + 0 ≤ 900000000 by have := hb.out; omega))

set_option maxHeartbeats 4000000 in
set_option maxRecDepth 100000 in
theorem rlines_at (h : Rf w b m) (n : ByteArray) (hb : m.size ≤ 700000000) : Calls Try.prog 44 #[.pointer (some ⟨b, 0, none⟩), .string n] w fun e w' => e = .returned (.tuple #[]) ∧ Hid (RDoes w w' b (tagM n m)) := by
  have HR := Lib.hid h.refl
  have HB : Hid (m.size ≤ 800000000) := Lib.hid (by omega)
  have HB2 : Hid (m.line.size ≤ 800000000) := Lib.hid (by have := line_size m; omega)
  clear h hb
  by_cases hbr : n.toList = tBr
  · have d1 : (n.toList == [98, 114]) = true := beq_iff_eq.2 hbr
    by_cases hz : linesN n = 0
    · have d3 : decide ((0 : Int) < linesN n) = false := by rw [hz]; rfl
      have HT : Hid (tagM n m = m.line) := Lib.hid (by unfold tagM brM; rw [if_pos hz, if_pos hbr])
      clear hbr hz
      go_enter Try.func44, Try.ntmps44
      go_wp2_with (first
        | (go_at_call 19; refine (r_do2 HR HB).mono ?_; clear HR; rintro e w1 ⟨rfl, h1⟩)
        | (go_at_call 58; refine (r_lines n h1).mono ?_; rintro e w2 ⟨rfl, h2⟩))
      go_end0
      exact ⟨rfl, by rw [HT.out]; exact h2⟩
    · have d3 : decide ((0 : Int) < linesN n) = true := decide_eq_true (by rcases linesN_cases n with e | e | e <;> omega)
      have HT : Hid (tagM n m = (m.line).brk (linesN n)) := Lib.hid (by unfold tagM brM; rw [if_neg hz, if_pos hbr])
      clear hbr hz
      go_enter Try.func44, Try.ntmps44
      go_wp2_with (first
        | (go_at_call 19; refine (r_do2 HR HB).mono ?_; clear HR; rintro e w1 ⟨rfl, h1⟩)
        | (go_at_call 58; refine (r_lines n h1).mono ?_; rintro e w2 ⟨rfl, h2⟩)
        | (go_at_call 19; refine (r_do1 h2 HB2 _).mono ?_; rintro e w3 ⟨rfl, h3⟩))
      go_end0
      exact ⟨rfl, by rw [HT.out]; exact h3⟩
  · have d1 : (n.toList == [98, 114]) = false := beq_eq_false_iff_ne.2 hbr
    by_cases hz : linesN n = 0
    · have d3 : decide ((0 : Int) < linesN n) = false := by rw [hz]; rfl
      have HT : Hid (tagM n m = m) := Lib.hid (by unfold tagM brM; rw [if_pos hz, if_neg hbr])
      clear hbr hz
      go_enter Try.func44, Try.ntmps44
      go_wp2_with (first
        | (go_at_call 58; refine (r_lines n HR).mono ?_; rintro e w2 ⟨rfl, h2⟩))
      go_end0
      exact ⟨rfl, by rw [HT.out]; exact h2⟩
    · have d3 : decide ((0 : Int) < linesN n) = true := decide_eq_true (by rcases linesN_cases n with e | e | e <;> omega)
      have HT : Hid (tagM n m = (m).brk (linesN n)) := Lib.hid (by unfold tagM brM; rw [if_neg hz, if_neg hbr])
      clear hbr hz
      go_enter Try.func44, Try.ntmps44
      go_wp2_with (first
        | (go_at_call 58; refine (r_lines n HR).mono ?_; rintro e w2 ⟨rfl, h2⟩)
        | (go_at_call 19; refine (r_do1 h2 HB _).mono ?_; rintro e w3 ⟨rfl, h3⟩))
      go_end0
      exact ⟨rfl, by rw [HT.out]; exact h3⟩
end
end Go.Proofs.Ytaejicolhliecaa.Rend

/- The document's own Render: its state as it lies, and what its steps do to it. -/
set_option linter.unusedVariables false
set_option linter.unusedSimpArgs false
namespace Go.Proofs.Ytaejicolhliecaa.Rend
open Go.RowKit Go.Lib Go.Proofs.Ytaejicolhliecaa.Buf Go.Proofs.Ytaejicolhliecaa.Flow Go.Proofs.Ytaejicolhliecaa.PRe Go.Proofs.YtaejicolhliecaaW.PrintWords

section
variable {w0 w w' w1 : World} {b T : Nat} {v : Value} {s : Pg} {o : Obj}

/-- The flow in the block b, the open names' row v, all behind w0. -/
structure RR (w0 w : World) (b : Nat) (v : Value) (s : Pg) : Prop where
  below : Below w0.heap.size w0 w
  flow : Rf w b s.m
  bge : w0.heap.size ≤ b
  row : w.ownsRow w0.heap.size 9 1 v s.names.length (s.names.map Value.string)
structure RT (w0 w : World) (b : Nat) (v : Value) (s : Pg) (T : Nat) (k : Int) (n t : ByteArray) (A : Option Addr) (l c : Nat) (sf : Bool) : Prop where
  rr : RR w0 w b v s
  tok : w.heap[T]? = some (tcells k n t A l c sf)

theorem RR.ne {v : Value} (h : RR w0 w b v s) : v.ownBlock ≠ some b := by
  intro e
  rcases h.row.2 with ⟨rfl, _⟩ | ⟨g, cap, cur, rfl, _, hg, _⟩
  · simp [Value.ownBlock] at e
  · simp [Value.ownBlock] at e
    subst e
    have := h.flow
    unfold Rf at this
    rw [hg] at this
    simp at this
theorem RR.then (h : RR w0 w b v s) (hb : Below w.heap.size w w') : RR w0 w' b v s := by
  have hs := h.below.size
  refine ⟨h.below.trans (hb.mono hs), h.flow.below hb, h.bge, h.row.kept (row := none) ⟨hb.os, hb.tape, hb.output, hb.size, fun k hk _ => hb.block k hk⟩ ?_⟩
  cases hv : v.ownBlock <;> simp
theorem RR.does {m' : M} (h : RR w0 w b v s) (hd : RDoes w w' b m') : RR w0 w' b v { s with m := m' } := by
  have hs := h.below.size
  have hb := h.bge
  refine ⟨h.below.trans (hd.2.below hs (fun k hk e => by omega)), hd.1, h.bge, ?_⟩
  exact h.row.kept (row := some b) ⟨hd.2.os, hd.2.tape, hd.2.output, hd.2.size, fun k hk hn => hd.2.block k hk (fun e => hn (by rw [e]))⟩ (Or.inr h.ne)
/-- Another row, of this call's own. -/
theorem RR.other {v' : Value} {names : List ByteArray} (h : RR w0 w b v s) (hb : Below w.heap.size w w') (hr : w'.ownsRow w0.heap.size 9 1 v' names.length (names.map Value.string)) : RR w0 w' b v' { s with names := names } :=
  ⟨(h.then hb).below, (h.then hb).flow, h.bge, hr⟩
theorem RR.appended {v' : Value} {names : List ByteArray} (h : RR w0 w b v s) (hg : w.grownBy w' v.ownBlock) (hr : w'.ownsRow w0.heap.size 9 1 v' names.length (names.map Value.string)) : RR w0 w' b v' { s with names := names } := by
  have hs := h.below.size
  refine ⟨h.below.grown hg hs (fun k e => (h.row.lt k e).1), ?_, h.bge, hr⟩
  exact (hg.block b (Buf.lt_of_heap h.flow) (fun e => h.ne e.symm)).trans h.flow

section
variable {k : Int} {n t : ByteArray} {A : Option Addr} {l c : Nat} {sf : Bool}

theorem RT.then (h : RT w0 w b v s T k n t A l c sf) (hb : Below w.heap.size w w') : RT w0 w' b v s T k n t A l c sf := ⟨h.rr.then hb, (hb.block T (Buf.lt_of_heap h.tok)).trans h.tok⟩
theorem RT.does {m' : M} (h : RT w0 w b v s T k n t A l c sf) (hd : RDoes w w' b m') : RT w0 w' b v { s with m := m' } T k n t A l c sf := by
  refine ⟨h.rr.does hd, (hd.2.block T (Buf.lt_of_heap h.tok) (fun e => ?_)).trans h.tok⟩
  have h1 := h.rr.flow
  have h2 := h.tok
  unfold Rf at h1
  unfold tcells at h2
  rw [e] at h2
  rw [h1] at h2
  simp at h2
theorem RT.appended {v' : Value} {names : List ByteArray} (h : RT w0 w b v s T k n t A l c sf) (hg : w.grownBy w' v.ownBlock) (hr : w'.ownsRow w0.heap.size 9 1 v' names.length (names.map Value.string)) : RT w0 w' b v' { s with names := names } T k n t A l c sf := by
  refine ⟨h.rr.appended hg hr, (hg.block T (Buf.lt_of_heap h.tok) (fun e => ?_)).trans h.tok⟩
  rcases h.rr.row.2 with ⟨rfl, _⟩ | ⟨g, cap, cur, rfl, _, hg', _⟩
  · simp [Value.ownBlock] at e
  · simp [Value.ownBlock] at e
    have h2 := h.tok
    unfold tcells at h2
    rw [e, hg'] at h2
    simp at h2
theorem RT.cells (h : RT w0 w b v s T k n t A l c sf) : w.cell? ⟨T, 0, none⟩ = some (.int .i64 k) ∧ w.cell? ⟨T, 1, none⟩ = some (.string n) ∧ w.cell? ⟨T, 2, none⟩ = some (.string t) ∧ ∃ a vc, v = .slice a s.names.length vc := by
  refine ⟨?_, ?_, ?_, ?_⟩
  · rw [Lib.cell_of_heap h.tok]; rfl
  · rw [Lib.cell_of_heap h.tok]; rfl
  · rw [Lib.cell_of_heap h.tok]; rfl
  · rcases h.rr.row.2 with ⟨rfl, e⟩ | ⟨g, cap, cur, rfl, _⟩
    · exact ⟨none, 0, by rw [e]⟩
    · exact ⟨_, _, rfl⟩
theorem RT.reads (h : RT w0 w b v s T k n t A l c sf) {a : Option Addr} {vc : Nat} (hv : v = .slice a s.names.length vc) (hl : s.names.length ≤ 1000000) : Kd.C Kd.string w a s.names.length s.names ∧ s.names.length ≤ vc := by
  subst hv
  have hR := Kd.R_of_own (h1 := fun _ => rfl) (enc := Value.string) (e := 9) (ok := fun _ => True) (xs := s.names) h.rr.row (fun _ _ => trivial)
  obtain ⟨A', c', e1, e2, e3⟩ := Kd.R_reads hR
  simp only [Value.slice.injEq] at e1
  obtain ⟨rfl, _, rfl⟩ := e1
  exact ⟨e3, e2⟩

theorem k_keeps (h : Hid (RT w0 w b v s T k n t A l c sf)) : Calls Try.prog 41 #[.string n] w fun e w' => e = .returned (.bool (hasN LK n)) ∧ Hid (RT w0 w' b v s T k n t A l c sf) := by
  refine (flailref17_Keeps.calls n _ w (ref_keeps n)).mono ?_
  rintro e w' ⟨h1, h2⟩
  exact ⟨h1, Lib.hid (h.out.then h2.below)⟩
theorem k_hides (h : Hid (RT w0 w b v s T k n t A l c sf)) : Calls Try.prog 43 #[.string n] w fun e w' => e = .returned (.bool (hasN LH n)) ∧ Hid (RT w0 w' b v s T k n t A l c sf) := by
  refine (flailref17_Hides.calls n _ w (ref_hides n)).mono ?_
  rintro e w' ⟨h1, h2⟩
  exact ⟨h1, Lib.hid (h.out.then h2.below)⟩
theorem k_lines (h : Hid (RT w0 w b v s T k n t A l c sf)) (hb : Hid (s.m.size ≤ 700000000)) : Calls Try.prog 44 #[.pointer (some ⟨b, 0, none⟩), .string n] w fun e w' => e = .returned (.tuple #[]) ∧ Hid (RT w0 w' b v { s with m := tagM n s.m } T k n t A l c sf) := by
  refine (rlines_at h.out.rr.flow n hb.out).mono ?_
  rintro e w' ⟨h1, h2⟩
  exact ⟨h1, Lib.hid (h.out.does h2.out)⟩
theorem k_do (h : Hid (RT w0 w b v s T k n t A l c sf)) (kp : Bool) (hb : Hid (s.m.size + t.size ≤ 900000000)) : Calls Try.prog 19 #[.pointer (some ⟨b, 0, none⟩), .agg #[.int .i64 0, .string t, .bool kp, .int .i64 0]] w fun e w' => e = .returned (.tuple #[]) ∧ Hid (RT w0 w' b v { s with m := s.m.put kp t.data.toList } T k n t A l c sf) := by
  refine (rdo_at (a := ⟨0, t, kp, 0⟩) h.out.rr.flow hb.out).mono ?_
  rintro e w' ⟨h1, h2⟩
  exact ⟨h1, Lib.hid (h.out.does h2)⟩
theorem k_last (h : Hid (RT w0 w b v s T k n t A l c sf)) {a : Option Addr} {vc : Nat} (hv : v = .slice a s.names.length vc) (hl : Hid (s.names.length ≤ 100000)) : Calls Try.prog 45 #[.slice a s.names.length vc, .string n] w fun e w' => e = .returned (.int .i64 (lastI n s.names)) ∧ Hid (RT w0 w' b v s T k n t A l c sf) := by
  obtain ⟨h1, h2⟩ := h.out.reads hv (by have := hl.out; omega)
  refine (flailref19_last.calls (s.names.length + 1) a vc s.names n _ w h1 h2 (last_at s.names n hl.out)).mono ?_
  rintro e w' ⟨h3, h4⟩
  exact ⟨h3, Lib.hid (h.out.then (by first | exact h4 | exact h4.below))⟩
theorem k_without (h : Hid (RT w0 w b v s T k n t A l c sf)) {a : Option Addr} {vc : Nat} (hv : v = .slice a s.names.length vc) (hl : Hid (s.names.length ≤ 100000)) : Calls Try.prog 42 #[.slice a s.names.length vc, .string ⟨#[104, 101, 97, 100]⟩] w fun e w' => ∃ a' c', e = .returned (.slice a' (noHead s.names).length c') ∧ Hid (RT w0 w' b (.slice a' (noHead s.names).length c') { s with names := noHead s.names } T k n t A l c sf) := by
  obtain ⟨h1, h2⟩ := h.out.reads hv (by have := hl.out; omega)
  have hw := without_at s.names ⟨#[104, 101, 97, 100]⟩ hl.out
  have he : s.names.filter (fun x => !(x.toList == (⟨#[104, 101, 97, 100]⟩ : ByteArray).toList)) = noHead s.names := by
    unfold noHead tHead
    rw [ByteArray.toList_eq ⟨#[104, 101, 97, 100]⟩]
  rw [he] at hw
  refine (flailref19_without.calls (s.names.length + 1) a vc s.names ⟨#[104, 101, 97, 100]⟩ _ w h1 h2 hw).mono ?_
  rintro e w' ⟨v', h3, h4, h5⟩
  have h6 := Kd.own_of_R (enc := Value.string) (h1 := fun _ => rfl) h4
  have hs := h.out.rr.below.size
  have h7 : w'.ownsRow w0.heap.size 9 1 v' (noHead s.names).length ((noHead s.names).map Value.string) := own_weaken h6 hs
  obtain ⟨a', c', e'⟩ : ∃ a' c', v' = .slice a' (noHead s.names).length c' := by
    rcases h7.2 with ⟨rfl, e⟩ | ⟨g, cap, cur, rfl, _⟩
    · exact ⟨none, 0, by rw [e]⟩
    · exact ⟨_, _, rfl⟩
  subst e'
  exact ⟨a', c', h3, Lib.hid ⟨h.out.rr.other h5 h7, (h5.block T (Buf.lt_of_heap h.out.tok)).trans h.out.tok⟩⟩
end
end
end Go.Proofs.Ytaejicolhliecaa.Rend
