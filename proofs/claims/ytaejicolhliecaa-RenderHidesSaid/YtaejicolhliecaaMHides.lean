/- Several texts of this claim, laid together into one file. -/
import Derived.Test.YtaejicolhliecaaMPure
import Derived.Maps.AppendAt
import Derived.Laws.OwnMore
import Derived.LoopTactic
import Derived.Deep.LoopGhost
import Derived.WalkKit
import Derived.OwnWalk
import Derived.OpenShut
set_option linter.unusedSimpArgs false
set_option linter.unusedVariables false
/- What is hidden plays no part: of the pages' model alone. -/
set_option linter.unusedVariables false
set_option linter.unusedSimpArgs false
namespace Go.Proofs.Ytaejicolhliecaa.Rend
open Go.RowKit Go.Proofs.Ytaejicolhliecaa.Flow Go.Proofs.Ytaejicolhliecaa.PRe Go.Proofs.YtaejicolhliecaaW.PrintWords

def keepT (name : ByteArray) (t : S47) : Bool := !(t.f1.toList == name.toList) && !(decide (t.f0 = 1) && (t.f1.toList == tBody))
def opens (t : S47) : Bool := decide (t.f0 = 1) && hasN LH t.f1
def shuts (t : S47) : Bool := decide (t.f0 = 2) && hasN LH t.f1
def openOf (a : List S47) : Nat := (a.filter opens).length
def stTok (name : ByteArray) : S47 := ⟨1, name, ⟨#[]⟩, [], false⟩
def enTok (name : ByteArray) : S47 := ⟨2, name, ⟨#[]⟩, [], false⟩

theorem has_congr {L : List ByteArray} {x y : ByteArray} (h : x.toList = y.toList) : hasN L x = hasN L y := by
  unfold hasN
  rw [h]
theorem lastN_app {n : ByteArray} : ∀ (l1 l2 : List ByteArray), lastN n (l1 ++ l2) = match lastN n l2 with | some i => some (l1.length + i) | none => lastN n l1
  | [], l2 => by
    cases h : lastN n l2 with
    | some i => simp [h]
    | none => simp only [List.nil_append, h]; rfl
  | x :: l1, l2 => by
    simp only [List.cons_append, lastN, lastN_app l1 l2, List.length_cons]
    cases lastN n l2 with
    | some i => simp only [Option.some.injEq]; omega
    | none => rfl
theorem lastN_mem {n : ByteArray} : ∀ {l : List ByteArray} {i : Nat}, lastN n l = some i → ∃ x ∈ l, x.toList = n.toList
  | [], i, h => by cases h
  | x :: l, i, h => by
    simp only [lastN] at h
    cases hl : lastN n l with
    | some j =>
      obtain ⟨y, hy, e⟩ := lastN_mem hl
      exact ⟨y, List.mem_cons_of_mem _ hy, e⟩
    | none =>
      rw [hl] at h
      simp only at h
      by_cases hx : x.toList = n.toList
      · exact ⟨x, List.mem_cons_self, hx⟩
      · rw [if_neg hx] at h
        cases h

theorem bodyN_mem {n x : ByteArray} {l : List ByteArray} (h : x ∈ bodyN n l) : x ∈ l := by
  unfold bodyN noHead at h
  split at h
  · exact (List.mem_filter.1 h).1
  · exact h

/-- Names that are open hide; and none is where nothing that hides was begun. -/
structure Names' (s : Pg) (k : Nat) : Prop where
  hide : ∀ x ∈ s.names, hasN LH x = true
  none : k = 0 → s.names = []
theorem names_step {s : Pg} {k : Nat} (h : Names' s k) (t : S47) : Names' (s.step t) (if opens t = true then k + 1 else k) := by
  unfold Pg.step
  split
  · rename_i h1
    unfold Pg.start
    split
    · rename_i h2
      have ho : opens t = true := by unfold opens; rw [decide_eq_true h1, h2]; rfl
      have e0 : (if opens t = true then k + 1 else k) = k + 1 := if_pos ho
      rw [e0]
      refine ⟨fun x hx => ?_, fun e => by omega⟩
      rcases List.mem_append.1 hx with hx | hx
      · exact h.hide x (bodyN_mem hx)
      · simp at hx
        rw [hx]
        exact h2
    · rename_i h2
      have ho : opens t = false := by
        unfold opens
        cases hh : hasN LH t.f1 with
        | true => exact absurd hh h2
        | false => simp
      have e0 : (if opens t = true then k + 1 else k) = k := if_neg (by rw [ho]; simp)
      rw [e0]
      split
      · exact ⟨fun x hx => by simp at hx, fun _ => rfl⟩
      · rename_i h3
        refine ⟨fun x hx => h.hide x (bodyN_mem hx), fun e => ?_⟩
        have := h.none e
        rw [this] at h3
        exact absurd (by unfold bodyN noHead; split <;> rfl) h3
  · rename_i h1
    have ho : opens t = false := by unfold opens; rw [decide_eq_false h1]; rfl
    have e0 : (if opens t = true then k + 1 else k) = k := if_neg (by rw [ho]; simp)
    rw [e0]
    split
    · unfold Pg.close
      split
      · refine ⟨fun x hx => h.hide x (List.mem_of_mem_take hx), fun e => ?_⟩
        simp only
        rw [h.none e]
        exact List.take_nil
      · split
        · exact ⟨h.hide, h.none⟩
        · exact h
    · split
      · unfold Pg.text
        split
        · exact ⟨h.hide, h.none⟩
        · exact h
      · exact h
theorem names_all' : ∀ (a : List S47) {s : Pg} {k : Nat}, Names' s k → Names' (Pg.all a s) (k + openOf a)
  | [], s, k, h => by simpa [Pg.all, openOf] using h
  | t :: a, s, k, h => by
    have h1 := names_all' a (names_step h t)
    have e : (if opens t = true then k + 1 else k) + openOf a = k + openOf (t :: a) := by
      unfold openOf
      by_cases ho : opens t = true
      · rw [if_pos ho, List.filter_cons_of_pos ho]
        simp
        omega
      · rw [if_neg ho, List.filter_cons_of_neg (by simpa using ho)]
    rw [e] at h1
    exact h1

/-- Behind the start tag: what was open, the name, and names that hide and are others. -/
def Behind (s0 : Pg) (name : ByteArray) (s : Pg) : Prop := ∃ extra : List ByteArray, s = ⟨s0.names ++ name :: extra, s0.kept, s0.m⟩ ∧ ∀ x ∈ extra, hasN LH x = true ∧ x.toList ≠ name.toList

theorem behind_step {s0 s : Pg} {name : ByteArray} {k : Nat} (hn : Names' s0 k) (hname : hasN LH name = true) (h : Behind s0 name s) (t : S47) (ht : keepT name t = true) (hb : k = 0 ∨ shuts t = false) : Behind s0 name (s.step t) := by
  obtain ⟨extra, rfl, he⟩ := h
  unfold keepT at ht
  simp only [Bool.and_eq_true, Bool.not_eq_true', beq_eq_false_iff_ne, Bool.and_eq_false_iff, decide_eq_false_iff_not] at ht
  obtain ⟨hne, hnb⟩ := ht
  have hnil : s0.names ++ name :: extra ≠ [] := by simp
  have hall : ∀ x ∈ s0.names ++ name :: extra, hasN LH x = true := fun x hx => by
    rcases List.mem_append.1 hx with hx | hx
    · exact hn.hide x hx
    · rcases List.mem_cons.1 hx with rfl | hx
      · exact hname
      · exact (he x hx).1
  unfold Pg.step
  split
  · rename_i h1
    have hbody : ¬ t.f1.toList = tBody := fun e => by
      rcases hnb with hnb | hnb
      · exact hnb h1
      · exact hnb e
    have hbn : bodyN t.f1 (s0.names ++ name :: extra) = s0.names ++ name :: extra := by unfold bodyN; rw [if_neg hbody]
    unfold Pg.start
    simp only
    rw [hbn]
    split
    · rename_i h2
      refine ⟨extra ++ [t.f1], by simp, fun x hx => ?_⟩
      rcases List.mem_append.1 hx with hx | hx
      · exact he x hx
      · simp at hx
        rw [hx]
        exact ⟨h2, hne⟩
    · (try rw [if_neg hnil])
      exact ⟨extra, rfl, he⟩
  · split
    · rename_i h2
      unfold Pg.close
      simp only
      cases hh : hasN LH t.f1 with
      | false =>
        have hl : lastN t.f1 (s0.names ++ name :: extra) = none := by
          cases hl : lastN t.f1 (s0.names ++ name :: extra) with
          | none => rfl
          | some i =>
            obtain ⟨x, hx, e⟩ := lastN_mem hl
            have := hall x hx
            rw [has_congr e, hh] at this
            cases this
        rw [hl]
        simp only
        rw [if_neg hnil]
        exact ⟨extra, rfl, he⟩
      | true =>
        have hk : k = 0 := by
          rcases hb with hb | hb
          · exact hb
          · unfold shuts at hb
            rw [decide_eq_true h2, hh] at hb
            cases hb
        have hs0 := hn.none hk
        rw [hs0, List.nil_append]
        have hl : lastN t.f1 (name :: extra) = match lastN t.f1 extra with | some i => some (i + 1) | none => none := by
          simp only [lastN]
          cases lastN t.f1 extra with
          | some i => rfl
          | none => exact if_neg (fun e => hne e.symm)
        rw [hl]
        cases lastN t.f1 extra with
        | some i =>
          refine ⟨extra.take i, by rw [hs0]; rfl, fun x hx => he x (List.mem_of_mem_take hx)⟩
        | none =>
          simp only
          rw [if_neg (by simp)]
          exact ⟨extra, by rw [hs0]; rfl, he⟩
    · split
      · unfold Pg.text
        simp only
        rw [if_neg hnil]
        exact ⟨extra, rfl, he⟩
      · exact ⟨extra, rfl, he⟩
theorem behind_all {s0 : Pg} {name : ByteArray} {k : Nat} (hn : Names' s0 k) (hname : hasN LH name = true) : ∀ (l : List S47) {s : Pg}, Behind s0 name s → (∀ t ∈ l, keepT name t = true) → (k = 0 ∨ ∀ t ∈ l, shuts t = false) → Behind s0 name (Pg.all l s)
  | [], s, h, _, _ => h
  | t :: l, s, h, h1, h2 => behind_all hn hname l (behind_step hn hname h t (h1 t List.mem_cons_self) (h2.imp id (fun h => h t List.mem_cons_self))) (fun x hx => h1 x (List.mem_cons_of_mem _ hx)) (h2.imp id (fun h x hx => h x (List.mem_cons_of_mem _ hx)))

theorem all_app (a b : List S47) (s : Pg) : Pg.all (a ++ b) s = Pg.all b (Pg.all a s) := by simp [Pg.all]

theorem hides_all (a inner b : List S47) (name : ByteArray) (hname : hasN LH name = true) (hbody : ¬ name.toList = tBody) (hin : ∀ t ∈ inner, keepT name t = true) (hbad : openOf a = 0 ∨ ∀ t ∈ inner, shuts t = false) :
    Pg.all (a ++ [stTok name] ++ inner ++ [enTok name] ++ b) Pg.none = Pg.all (a ++ b) Pg.none := by
  rw [all_app, all_app, all_app, all_app, all_app]
  congr 1
  have hn : Names' (Pg.all a Pg.none) (0 + openOf a) := names_all' a (s := Pg.none) ⟨(fun x hx => by cases hx), fun _ => rfl⟩
  rw [Nat.zero_add] at hn
  generalize Pg.all a Pg.none = s0 at hn
  have h1 : Pg.all [stTok name] s0 = ⟨s0.names ++ name :: [], s0.kept, s0.m⟩ := by
    show s0.start name = _
    unfold Pg.start
    rw [if_pos hname]
    unfold bodyN
    rw [if_neg hbody]
  rw [h1]
  obtain ⟨extra, he, hx⟩ := behind_all hn hname inner (s := ⟨s0.names ++ name :: [], s0.kept, s0.m⟩) ⟨[], rfl, (fun x hx => by cases hx)⟩ hin hbad
  rw [he]
  show (Pg.close name ⟨s0.names ++ name :: extra, s0.kept, s0.m⟩) = s0
  have hl : lastN name (name :: extra) = some 0 := by
    simp only [lastN]
    have : lastN name extra = none := by
      cases hl : lastN name extra with
      | none => rfl
      | some i =>
        obtain ⟨x, hx1, e⟩ := lastN_mem hl
        exact absurd e (hx x hx1).2
    rw [this]
    simp
  unfold Pg.close
  simp only
  rw [lastN_app, hl]
  simp
end Go.Proofs.Ytaejicolhliecaa.Rend

/- Rows of tokens of a call's own, whose attributes lie in what came in; an append of whatever slice of tokens. -/
set_option linter.unusedVariables false
namespace Go.Proofs.Ytaejicolhliecaa.Toks
open Go.Deep Go.RowKit Go.Proofs.Ytaejicolhliecaa.PRe Go.Proofs.YtaejicolhliecaaW.PrintWords

/-- The cells xs are the tokens l, as they read in w0. -/
def TK (w0 : World) : List S47 → List Value → Prop
  | [], xs => xs = []
  | x :: l, xs => ∃ c r, xs = c ++ r ∧ k47.K w0 x c ∧ TK w0 l r

section
variable {w0 w w' : World}

theorem k_len {x : S47} {c : List Value} (h : k47.K w0 x c) : c.length = 5 := k47.K_len h
theorem TK.len : ∀ {l : List S47} {xs : List Value}, TK w0 l xs → xs.length = l.length * 5
  | [], xs, h => by rw [show xs = [] from h]; rfl
  | x :: l, xs, ⟨c, r, e, h1, h2⟩ => by
    rw [e, List.length_append, k_len h1, h2.len]
    simp
    omega
theorem TK.app : ∀ {l l' : List S47} {xs xs' : List Value}, TK w0 l xs → TK w0 l' xs' → TK w0 (l ++ l') (xs ++ xs')
  | [], l', xs, xs', h, h' => by rw [show xs = [] from h]; exact h'
  | x :: l, l', xs, xs', ⟨c, r, e, h1, h2⟩, h' => ⟨c, r ++ xs', by rw [e, List.append_assoc], h1, h2.app h'⟩
theorem TK.one : ∀ {l : List S47} {xs : List Value}, TK w0 l xs → ∀ u ∈ xs, u.oneCell' = true
  | [], xs, h, u, hu => by rw [show xs = [] from h] at hu; cases hu
  | x :: l, xs, ⟨c, r, e, h1, h2⟩, u, hu => by
    rw [e] at hu
    rcases List.mem_append.1 hu with hu | hu
    · exact k47.K_one h1 u hu
    · exact h2.one u hu
theorem TK.at : ∀ {l : List S47} {xs : List Value}, TK w0 l xs → ∀ (j : Nat) (p : S47), l[j]? = some p → ∃ c, c.length = 5 ∧ k47.K w0 p c ∧ ∀ i u, c[i]? = some u → xs[j * 5 + i]? = some u
  | [], xs, h, j, p, hp => by simp at hp
  | x :: l, xs, ⟨c, r, e, h1, h2⟩, j, p, hp => by
    cases j with
    | zero =>
      simp at hp
      subst hp
      refine ⟨c, k_len h1, h1, fun i u hu => ?_⟩
      rw [e, Nat.zero_mul, Nat.zero_add, List.getElem?_append_left (List.getElem?_eq_some_iff.1 hu).1]
      exact hu
    | succ j =>
      obtain ⟨c', h3, h4, h5⟩ := h2.at j p (by simpa using hp)
      refine ⟨c', h3, h4, fun i u hu => ?_⟩
      have := h5 i u hu
      rw [e, List.getElem?_append_right (by rw [k_len h1]; omega), k_len h1, show (j + 1) * 5 + i - 5 = j * 5 + i by omega]
      exact this
theorem TK.reads {l : List S47} {xs : List Value} (h : TK w0 l xs) (hb : Below w0.heap.size w0 w) {A : Option Addr} (hA : A = none → l = []) (hc : ∀ ad, A = some ad → ∀ j u, xs[j]? = some u → w.cell? (ad.add j) = some u) (hl : l.length ≤ 1000000) : Kd.C k47 w A l.length l := by
  refine ⟨rfl, by omega, fun hp => ?_⟩
  cases A with
  | none =>
    have := hA rfl
    rw [this] at hp
    simp at hp
  | some ad =>
    refine ⟨ad, rfl, fun j p hj => ?_⟩
    obtain ⟨c, h1, h2, h3⟩ := h.at j p hj
    exact ⟨c, h1, k47.K_below hb h2, fun i u hu => hc ad rfl _ u (h3 i u hu)⟩
theorem tk_of (ad : Addr) : ∀ (l : List S47) (off : Nat), (∀ (j : Nat) (p : S47), l[j]? = some p → ∃ c : List Value, c.length = 5 ∧ k47.K w0 p c ∧ ∀ (i : Nat) u, c[i]? = some u → w0.cell? (ad.add ((off + j) * 5 + i)) = some u) →
    ∃ xs, TK w0 l xs ∧ ∀ (j : Nat) u, xs[j]? = some u → w0.cell? (ad.add (off * 5 + j)) = some u
  | [], off, h => ⟨[], rfl, fun j u hu => by simp at hu⟩
  | x :: l, off, h => by
    obtain ⟨r, h1, h2⟩ := tk_of ad l (off + 1) (fun j p hp => by
      obtain ⟨c, h3, h4, h5⟩ := h (j + 1) p (by simpa using hp)
      exact ⟨c, h3, h4, fun i u hu => by rw [show off + 1 + j = off + (j + 1) by omega]; exact h5 i u hu⟩)
    obtain ⟨c, h3, h4, h5⟩ := h 0 x rfl
    refine ⟨c ++ r, ⟨c, r, rfl, h4, h1⟩, fun j u hu => ?_⟩
    by_cases hj : j < c.length
    · rw [List.getElem?_append_left hj] at hu
      exact h5 j u hu
    · rw [List.getElem?_append_right (by omega)] at hu
      have := h2 (j - c.length) u hu
      rw [show (off + 1) * 5 + (j - c.length) = off * 5 + j by omega] at this
      exact this
theorem tk_in {A : Option Addr} {l : List S47} (h : Kd.C k47 w0 A l.length l) : ∃ xs, TK w0 l xs ∧ (∀ ad, A = some ad → ∀ j u, xs[j]? = some u → w0.cell? (ad.add j) = some u) ∧ (A = none → l = []) := by
  obtain ⟨_, _, h3⟩ := h
  by_cases hp : 0 < l.length
  · obtain ⟨ad, rfl, hc⟩ := h3 hp
    obtain ⟨xs, h4, h5⟩ := tk_of ad l 0 (fun j p hj => by
      obtain ⟨c, h6, h7, h8⟩ := hc j p hj
      exact ⟨c, h6, h7, fun i u hu => by rw [Nat.zero_add]; exact h8 i u hu⟩)
    refine ⟨xs, h4, fun ad' e j u hu => ?_, fun e => by cases e⟩
    cases e
    have := h5 j u hu
    rw [Nat.zero_mul, Nat.zero_add] at this
    exact this
  · have : l = [] := List.length_eq_zero_iff.1 (by omega)
    subst this
    exact ⟨[], rfl, fun ad _ j u hu => by simp at hu, fun _ => rfl⟩

/-- A row of tokens of the call's own. -/
def TR (w0 : World) (base : Nat) (w : World) (v : Value) (l : List S47) : Prop := ∃ xs, TK w0 l xs ∧ w.ownsRow base 47 5 v l.length xs
theorem TR.slice {base : Nat} {v : Value} {l : List S47} (h : TR w0 base w v l) : ∃ A c, v = .slice A l.length c ∧ l.length ≤ c ∧ (A = none → l = []) := by
  obtain ⟨xs, _, h2⟩ := h
  rcases h2.2 with ⟨rfl, e⟩ | ⟨g, cap, cur, rfl, _, _, h3, _⟩
  · exact ⟨none, 0, by rw [e], by omega, fun _ => List.length_eq_zero_iff.1 e⟩
  · exact ⟨_, cap, rfl, h3, fun e => by cases e⟩
theorem TR.cells {base : Nat} {A : Option Addr} {n c : Nat} {l : List S47} {xs : List Value} (h : w.ownsRow base 47 5 (.slice A n c) l.length xs) : ∀ ad, A = some ad → ∀ j u, xs[j]? = some u → w.cell? (ad.add j) = some u := by
  intro ad e j u hu
  subst e
  rcases h.2 with ⟨e, _⟩ | ⟨g, cap, cur, e, _, _⟩
  · cases e
  · simp only [Value.slice.injEq, Option.some.injEq] at e
    obtain ⟨rfl, rfl, rfl⟩ := e
    exact h.cells (g := g) rfl j u hu
theorem TR.reads {base : Nat} {A : Option Addr} {n c : Nat} {l : List S47} (h : TR w0 base w (.slice A n c) l) (hb : Below w0.heap.size w0 w) (hl : l.length ≤ 1000000) : Kd.C k47 w A l.length l := by
  obtain ⟨A', c', e, _, hA⟩ := h.slice
  simp only [Value.slice.injEq] at e
  obtain ⟨rfl, rfl, rfl⟩ := e
  obtain ⟨xs, h1, h2⟩ := h
  exact h1.reads hb hA (TR.cells h2) hl
theorem TR.below {base : Nat} {v : Value} {l : List S47} (h : TR w0 base w v l) (hb : Below w.heap.size w w') : TR w0 base w' v l := by
  obtain ⟨xs, h1, h2⟩ := h
  refine ⟨xs, h1, h2.kept (row := none) ⟨hb.os, hb.tape, hb.output, hb.size, fun k hk _ => hb.block k hk⟩ ?_⟩
  cases hv : v.ownBlock <;> simp
/-- Another row, made later, has been appended to. -/
theorem TR.grown {base base2 : Nat} {v v2 : Value} {l : List S47} {e2 : TypeId} {s2 n2 : Nat} {ys : List Value} (h : TR w0 base w v l) (hv : ∀ k, v.ownBlock = some k → k < base2) (h2 : w.ownsRow base2 e2 s2 v2 n2 ys) (hg : w.grownBy w' v2.ownBlock) : TR w0 base w' v l := by
  obtain ⟨xs, h1, h3⟩ := h
  refine ⟨xs, h1, h3.kept hg ?_⟩
  cases hb : v.ownBlock with
  | none => exact Or.inl rfl
  | some k =>
    right
    intro e
    have := (h2.lt k e.symm).1
    have := hv k hb
    omega

variable {P : Program}
/-- An append of whatever slice (a nil one too) onto a row of the call's own, at the operation. -/
theorem wpList_append_any (w : World) {ops : Array Oper} {rest : List Oper} {o : Oper} {a : Act} {Q : Exit → Act → World → Prop} (hgd : o.guard = none) (s x : Operand) (t : TypeId)
    (ho : o.op = .call { callee := .builtin .append, args := #[s, x], argTypes := #[t, t] })
    (base : Nat) (e : TypeId) (i : TypeInfo) (z : Value) (size bytes : Nat) (ht : P.underlying t = some (.slice e)) (hi : P.info? e = some i) (hz : i.zero = some z)
    (hsize : i.size = size) (hby : i.bytes = bytes) (hzs : z.cells.size = size) (hsz : 0 < size)
    (v : Value) (n : Nat) (xs : List Value) (hs : a.eval s = v) (hown : w.ownsRow base e size v n xs)
    (A : Option Addr) (m c : Nat) (news : List Value) (hx : a.eval x = .slice A m c) (hA : A = none → m = 0) (hl : news.length = m * size) (hnews : ∀ ad, A = some ad → ∀ j u, news[j]? = some u → w.cell? (ad.add j) = some u) (h1 : ∀ u ∈ news, u.oneCell' = true)
    (h63 : n + m ≤ maxLen) (hbytes : (n + m) * bytes ≤ 140737488355328) (hbase : base ≤ w.heap.size)
    (h : ∀ v' w', w'.ownsRow base e size v' (n + m) (xs ++ news) → w.grownBy w' v.ownBlock → wpList P ops Q rest (a.put o.dst v') w') :
    wpList P ops Q (o :: rest) a w := by
  cases A with
  | some ad => exact wpList_append_own_at w hgd s x t ho base e i z size bytes ht hi hz hsize hby hzs hsz v n xs hs hown ad m c news hx hl (hnews ad rfl) h1 h63 hbytes hbase (fun v' w' h2 h3 _ _ => h v' w' h2 h3)
  | none =>
    have hm := hA rfl
    subst hm
    have hn : news = [] := List.length_eq_zero_iff.1 (by omega)
    subst hn
    refine wpList_plain hgd fun K hK => ?_
    have hrun : ∀ ty, (Builtin.append_ #[t, t] ty #[v, .slice none 0 c]).run P w = .ok v w := by
      intro ty
      rcases hown.2 with ⟨rfl, rfl⟩ | ⟨g, cap, cur, rfl, _, _, hnc, _⟩
      · simp [Builtin.append_, run_underlying ht, sizeOf, typeInfo, hi, Builtin.lenOf, Builtin.firstCells]
      · simp [Builtin.append_, run_underlying ht, sizeOf, typeInfo, hi, Builtin.lenOf, Builtin.firstCells, hnc, storeCells]
    unfold Oper.wp execOp
    simp only [ho, resolve, invoke, builtin, Sem.run_bind, Sem.run_pure, Result.andThen_ok, List.map_toArray, List.map_cons, List.map_nil, hs, hx, hrun]
    exact hK _ _ (h v w (by rw [List.append_nil]; exact hown) (World.grownBy.refl _ _))
/-- .. under a guard that lets it be: an append of whatever slice (a nil one too) onto a row of the call's own, at the operation. -/
theorem wpList_append_wanted (w : World) {ops : Array Oper} {rest : List Oper} {o : Oper} {a : Act} {Q : Exit → Act → World → Prop} (hgd : Region.wanted o (yielded ops a.tmps) = true) (s x : Operand) (t : TypeId)
    (ho : o.op = .call { callee := .builtin .append, args := #[s, x], argTypes := #[t, t] })
    (base : Nat) (e : TypeId) (i : TypeInfo) (z : Value) (size bytes : Nat) (ht : P.underlying t = some (.slice e)) (hi : P.info? e = some i) (hz : i.zero = some z)
    (hsize : i.size = size) (hby : i.bytes = bytes) (hzs : z.cells.size = size) (hsz : 0 < size)
    (v : Value) (n : Nat) (xs : List Value) (hs : a.eval s = v) (hown : w.ownsRow base e size v n xs)
    (A : Option Addr) (m c : Nat) (news : List Value) (hx : a.eval x = .slice A m c) (hA : A = none → m = 0) (hl : news.length = m * size) (hnews : ∀ ad, A = some ad → ∀ j u, news[j]? = some u → w.cell? (ad.add j) = some u) (h1 : ∀ u ∈ news, u.oneCell' = true)
    (h63 : n + m ≤ maxLen) (hbytes : (n + m) * bytes ≤ 140737488355328) (hbase : base ≤ w.heap.size)
    (h : ∀ v' w', w'.ownsRow base e size v' (n + m) (xs ++ news) → w.grownBy w' v.ownBlock → wpList P ops Q rest (a.put o.dst v') w') :
    wpList P ops Q (o :: rest) a w := by
  cases A with
  | some ad =>
    refine wpList_step fun K hK => ?_
    rw [if_pos hgd]
    obtain ⟨v', w', hr, h2, h3, h4, h5⟩ := run_append_own_at (P := P) w base t o.type e i z size bytes ht hi hz hsize hby hzs hsz v n xs hown ad m c news hl (hnews ad rfl) h1 h63 hbytes hbase
    unfold Oper.wp execOp
    simp only [ho, resolve, invoke, builtin, Sem.run_bind, Sem.run_pure, Result.andThen_ok, List.map_toArray, List.map_cons, List.map_nil, hs, hx, hr]
    exact hK _ _ (h v' w' h2 h3)
  | none =>
    have hm := hA rfl
    subst hm
    have hn : news = [] := List.length_eq_zero_iff.1 (by omega)
    subst hn
    refine wpList_step fun K hK => ?_
    rw [if_pos hgd]
    have hrun : ∀ ty, (Builtin.append_ #[t, t] ty #[v, .slice none 0 c]).run P w = .ok v w := by
      intro ty
      rcases hown.2 with ⟨rfl, rfl⟩ | ⟨g, cap, cur, rfl, _, _, hnc, _⟩
      · simp [Builtin.append_, run_underlying ht, sizeOf, typeInfo, hi, Builtin.lenOf, Builtin.firstCells]
      · simp [Builtin.append_, run_underlying ht, sizeOf, typeInfo, hi, Builtin.lenOf, Builtin.firstCells, hnc, storeCells]
    unfold Oper.wp execOp
    simp only [ho, resolve, invoke, builtin, Sem.run_bind, Sem.run_pure, Result.andThen_ok, List.map_toArray, List.map_cons, List.map_nil, hs, hx, hrun]
    exact hK _ _ (h v w (by rw [List.append_nil]; exact hown) (World.grownBy.refl _ _))
end
end Go.Proofs.Ytaejicolhliecaa.Toks

/- What is hidden plays no part: behind a start tag that hides, texts, comments, and tags but its own and body's may be whatever they are, up to its end tag: of every tokens and every number the law's call returns true: the walk of the law's function over Render's contract. No condition. -/
set_option linter.unusedVariables false
set_option linter.unusedSimpArgs false
namespace Go.Proofs.Ytaejicolhliecaa.HandRenderHides
open Go.RowKit Go.Lib Go.Proofs.Ytaejicolhliecaa.PRe Go.Proofs.Ytaejicolhliecaa.Rend Go.Proofs.Ytaejicolhliecaa.Toks Go.Proofs.YtaejicolhliecaaW.PrintWords

theorem cA (w : World) : Calls Try.prog 25 #[] w fun e w' => e = .returned (.bool true) ∧ Hid (Below w.heap.size w w') := (flaillaw19_awake.calls true w Rend.awake_at).mono (fun e w' h => ⟨h.1, Lib.hid h.2⟩)
theorem cF (A : Option Addr) (c : Nat) (l : List S47) (hc : Hid (l.length ≤ c)) (w : World) (hr : Hid (Kd.C k47 w A l.length l)) {r : Bool} (h : Hid (Rend.fewB l = r)) : Calls Try.prog 26 #[.slice A l.length c] w fun e w' => e = .returned (.bool r) ∧ Hid (Below w.heap.size w w') := by
  refine (flailref15_Few.calls (l.length + 1) A c l r w hr.out hc.out (by rw [Rend.few_at, h.out])).mono ?_
  rintro e w' ⟨h1, h2⟩
  exact ⟨h1, Lib.hid (by first | exact h2 | exact h2.below)⟩
theorem step' {w w1 w2 : World} (h : Hid (Below w.heap.size w w1)) (k : Hid (Below w1.heap.size w1 w2)) : Hid (Below w.heap.size w w2) := Lib.hid (h.out.trans (k.out.mono h.out.size))

structure In (w : World) (A : Option Addr) (c : Nat) (l : List S47) : Prop where
  reads : Kd.C k47 w A l.length l
  le : l.length ≤ c
  wf : ∀ x ∈ l, (Lit.int .i64 x.f0).wf = true

set_option maxHeartbeats 8000000 in
set_option maxRecDepth 100000 in
theorem hides_off (A1 A2 A3 : Option Addr) (c1 c2 c3 : Nat) (a wi b : List S47) (n : Int) (w : World) (h1 : In w A1 c1 a) (h2 : In w A2 c2 wi) (h3 : In w A3 c3 b) (hf : ¬ (Rend.fewB a = true ∧ Rend.fewB wi = true ∧ Rend.fewB b = true)) :
    Calls Try.prog 11 #[.slice A1 a.length c1, .slice A2 wi.length c2, .slice A3 b.length c3, .int .u8 n] w fun e w' => e = .returned (.bool true) ∧ Below w.heap.size w w' := by
  have H1 := Lib.hid h1.reads
  have H2 := Lib.hid h2.reads
  have H3 := Lib.hid h3.reads
  have L1 := Lib.hid h1.le
  have L2 := Lib.hid h2.le
  have L3 := Lib.hid h3.le
  obtain ⟨r1, hr1⟩ : ∃ r, Rend.fewB a = r := ⟨_, rfl⟩
  obtain ⟨r2, hr2⟩ : ∃ r, Rend.fewB wi = r := ⟨_, rfl⟩
  obtain ⟨r3, hr3⟩ : ∃ r, Rend.fewB b = r := ⟨_, rfl⟩
  have F1 := Lib.hid hr1
  have F2 := Lib.hid hr2
  have F3 := Lib.hid hr3
  have HO : Hid (¬ (r1 = true ∧ r2 = true ∧ r3 = true)) := Lib.hid (by rw [hr1, hr2, hr3] at hf; exact hf)
  clear h1 h2 h3 hf hr1 hr2 hr3
  cases r1 <;> cases r2 <;> cases r3
  all_goals first | (exact absurd ⟨rfl, rfl, rfl⟩ HO.out) | (
    clear HO
    go_enter Try.func11, Try.ntmps11
    go_wp2_with fail
    refine (cA _).mono ?_
    rintro e w1 ⟨rfl, hb1⟩
    have K1 := Lib.hid (Kd.C_below H1.out hb1.out)
    go_wp2_with fail
    refine (cF A1 c1 a L1 w1 K1 F1).mono ?_
    rintro e w2 ⟨rfl, hb2⟩
    have hb2 := step' hb1 hb2
    have K2 := Lib.hid (Kd.C_below H2.out hb2.out)
    go_wp2_with fail
    refine (cF A2 c2 wi L2 w2 K2 F2).mono ?_
    rintro e w3 ⟨rfl, hb3⟩
    have hb3 := step' hb2 hb3
    have K3 := Lib.hid (Kd.C_below H3.out hb3.out)
    go_wp2_with fail
    refine (cF A3 c3 b L3 w3 K3 F3).mono ?_
    rintro e w4 ⟨rfl, hb4⟩
    have hb4 := step' hb3 hb4
    go_wp2_with fail
    go_ret
    exact ⟨rfl, hb4.out⟩)

theorem lh_len : LH.length = 9 := rfl
theorem lh_all : LH.all (fun n => hasD LH n && !(n.data.toList == tBody)) = true := by decide +kernel
theorem lh_at (j : Nat) (h : j < LH.length) : hasN LH LH[j] = true ∧ ¬ LH[j].toList = tBody := by
  have := List.all_eq_true.1 lh_all LH[j] (List.getElem_mem h)
  simp only [Bool.and_eq_true, Bool.not_eq_true', beq_eq_false_iff_ne] at this
  exact ⟨by rw [hasN_D]; exact this.1, by rw [ByteArray.toList_eq]; exact this.2⟩

/-- The token at a place, in the world in which it came in, and in one behind. -/
theorem tok_in {w w' : World} {A : Option Addr} {l : List S47} (h : Kd.C k47 w A l.length l) (hb : Below w.heap.size w w') (i : Nat) (hi : i < l.length) : ∃ ad A3 c3, A = some ad ∧ w'.cell? (ad.add (i * 5)) = some (.int .i64 (l[i]).f0) ∧ w'.cell? ⟨(ad.add (i * 5)).block, (ad.add (i * 5)).off + 1, none⟩ = some (.string (l[i]).f1) ∧ w'.cell? ⟨(ad.add (i * 5)).block, (ad.add (i * 5)).off + 2, none⟩ = some (.string (l[i]).f2) ∧ w'.cell? ⟨(ad.add (i * 5)).block, (ad.add (i * 5)).off + 3, none⟩ = some (.slice A3 (l[i]).f3.length c3) ∧ w'.cell? ⟨(ad.add (i * 5)).block, (ad.add (i * 5)).off + 4, none⟩ = some (.bool (l[i]).f4) ∧
    TK w [l[i]] [.int .i64 (l[i]).f0, .string (l[i]).f1, .string (l[i]).f2, .slice A3 (l[i]).f3.length c3, .bool (l[i]).f4] := by
  have hg : rd_T47 l (i : Int) = l[i] := by simp [rd_T47, hi]
  obtain ⟨ad, A3, c3, h1, h2, h3, h4, h5, h6, h7, h8⟩ := at_T47 h (i : Int) (by omega) (by omega)
  rw [hg] at h2 h3 h4 h5 h6 h7 h8
  have mv : ∀ {p : Addr} {v : Value}, w.cell? p = some v → w'.cell? p = some v := fun hc => (hb.cell (World.block_lt_of_cell? w _ hc)).trans hc
  refine ⟨ad, A3, c3, h1, mv (by simpa using h2), mv (by simpa using h3), mv (by simpa using h4), mv (by simpa using h5), mv (by simpa using h6), ?_⟩
  exact ⟨_, [], by simp, k47_mk w (l[i]) h7 h8, rfl⟩
theorem tk_st (w : World) (nm : ByteArray) (k : Int) : TK w [⟨k, nm, ⟨#[]⟩, [], false⟩] [.int .i64 k, .string nm, .string ⟨#[]⟩, .slice none 0 0, .bool false] :=
  ⟨_, [], by simp, k47_mk w ⟨k, nm, ⟨#[]⟩, [], false⟩ (A3 := none) (c3 := 0) (Nat.le_refl _) ⟨rfl, by simp, fun h => absurd h (by simp)⟩, rfl⟩

def innerOf (nm : ByteArray) (l : List S47) : List S47 := l.filter (keepT nm)
theorem inner_take (nm : ByteArray) (l : List S47) (i : Nat) (hi : i < l.length) : innerOf nm (l.take (i + 1)) = innerOf nm (l.take i) ++ (if keepT nm l[i] = true then [l[i]] else []) := by
  unfold innerOf
  rw [List.take_succ_eq_append_getElem hi, List.filter_append]
  congr 1
  by_cases h : keepT nm l[i] = true
  · simp [h]
  · simp [h]
theorem open_take (l : List S47) (i : Nat) (hi : i < l.length) : openOf (l.take (i + 1)) = openOf (l.take i) + (if opens l[i] = true then 1 else 0) := by
  unfold openOf
  rw [List.take_succ_eq_append_getElem hi, List.filter_append, List.length_append]
  congr 1
  by_cases h : opens l[i] = true
  · simp [h]
  · simp [h]
theorem open_le (l : List S47) : openOf l ≤ l.length := List.length_filter_le _ _
theorem inner_le (nm : ByteArray) (l : List S47) : (innerOf nm l).length ≤ l.length := List.length_filter_le _ _

/-- What lies behind a world from which on a row is made. -/
structure Mk (w wA w' : World) (v : Value) (l : List S47) : Prop where
  base : Below w.heap.size w wA
  behind : Below wA.heap.size wA w'
  row : TR w wA.heap.size w' v l
theorem Mk.below {w wA w' : World} {v : Value} {l : List S47} (h : Mk w wA w' v l) : Below w.heap.size w w' := h.base.trans (h.behind.mono h.base.size)
theorem Mk.then {w wA w' w'' : World} {v : Value} {l : List S47} (h : Mk w wA w' v l) (hb : Below w'.heap.size w' w'') : Mk w wA w'' v l := ⟨h.base, h.behind.trans (hb.mono h.behind.size), h.row.below hb⟩
theorem mk_new {w wA : World} (h : Below w.heap.size w wA) : Mk w wA (wA.alloc (.cells #[] 47)) (.slice (some ⟨wA.heap.size, 0, none⟩) 0 0) [] :=
  ⟨h, (Below.refl _ wA).alloc (Nat.le_refl _) _, [], rfl, World.ownsRow_made wA #[] 0 (Nat.le_refl _) (by decide) rfl⟩
/-- An append, an o laid ahead of it. -/
theorem Mk.app {w wA w' w'' : World} {v v' : Value} {l l' : List S47} {xs news : List Value} (h : Mk w wA w' v l) (hx : TK w l xs) (hown : w'.ownsRow wA.heap.size 47 5 v l.length xs) (hn : TK w l' news) (h2 : w''.ownsRow wA.heap.size 47 5 v' (l.length + l'.length) (xs ++ news)) (hg : w'.grownBy w'' v.ownBlock) : Mk w wA w'' v' (l ++ l') :=
  ⟨h.base, h.behind.grown hg h.behind.size (fun k e => (hown.lt k e).1), xs ++ news, hx.app hn, by rw [List.length_append]; exact h2⟩


theorem news_new (W : World) (b : Nat) (hb : b = W.heap.size) (cs : Array Value) (T : TypeId) : ∀ ad, some (⟨b, 0, none⟩ : Addr) = some ad → ∀ j u, cs.toList[j]? = some u → (W.alloc (.cells cs T)).cell? (ad.add j) = some u := by
  intro ad e j u hu
  cases e
  subst hb
  exact World.news_of_block (heap_alloc_new W _) j u hu
theorem h_call {w wA w1 : World} {v : Value} {l : List S47} (n : ByteArray) (h : Hid (Mk w wA w1 v l)) : Calls Try.prog 29 #[.string n] w1 fun e w' => e = .returned (.bool (hasN LH n)) ∧ Hid (Mk w wA w' v l) := by
  refine (hides_calls n w1).mono ?_
  rintro e w' ⟨h1, h2⟩
  exact ⟨h1, Lib.hid (h.out.then h2)⟩
/-- The walk stands still at an append. -/
structure Still (p : Prop) : Prop where mk :: (out : p)
theorem app_still {P : Program} {w : World} {ops : Array Oper} {rest : List Oper} {o : Oper} {a : Act} {Q : Exit → Act → World → Prop} (s x : Operand) (t : TypeId)
    (ho : o.op = .call { callee := .builtin .append, args := #[s, x], argTypes := #[t, t] }) (h : Still (wpList P ops Q (o :: rest) a w)) : wpList P ops Q (o :: rest) a w := h.out

set_option maxHeartbeats 16000000 in
set_option maxRecDepth 100000 in
theorem hides_on (A1 A2 A3 : Option Addr) (c1 c2 c3 : Nat) (a wi b : List S47) (n : Int) (hn : 0 ≤ n ∧ n ≤ 255) (w : World) (h1 : In w A1 c1 a) (h2 : In w A2 c2 wi) (h3 : In w A3 c3 b) (hf1 : Rend.fewB a = true) (hf2 : Rend.fewB wi = true) (hf3 : Rend.fewB b = true) :
    Calls Try.prog 11 #[.slice A1 a.length c1, .slice A2 wi.length c2, .slice A3 b.length c3, .int .u8 n] w fun e w' => e = .returned (.bool true) ∧ Below w.heap.size w w' := by
  have H1 := Lib.hid h1
  have H2 := Lib.hid h2
  have H3 := Lib.hid h3
  have L1 := Lib.hid h1.le
  have L2 := Lib.hid h2.le
  have L3 := Lib.hid h3.le
  have F1 := Lib.hid hf1
  have F2 := Lib.hid hf2
  have F3 := Lib.hid hf3
  have Z1 := Lib.hid (Rend.few_all hf1)
  have Z2 := Lib.hid (Rend.few_all hf2)
  have Z3 := Lib.hid (Rend.few_all hf3)
  obtain ⟨i0, hi0, hz0, hz1, hz2⟩ := info_parts info47
  obtain ⟨j, hj, hj9⟩ : ∃ j : Nat, Int.tmod n 9 = (j : Int) ∧ j < 9 := by
    have h1 : Int.tmod n 9 = n % 9 := Int.tmod_eq_emod_of_nonneg hn.1
    exact ⟨(n % 9).toNat, by omega, by omega⟩
  have hn0 := hn.1
  have hn1 := hn.2
  clear h1 h2 h3 hf1 hf2 hf3 hn
  go_enter Try.func11, Try.ntmps11
  go_wp2_with fail
  refine (cA _).mono ?_
  rintro e w1 ⟨rfl, hb1⟩
  have K1 := Lib.hid (Kd.C_below H1.out.reads hb1.out)
  go_wp2_with fail
  refine (cF A1 c1 a L1 w1 K1 F1).mono ?_
  rintro e w2 ⟨rfl, hb2⟩
  have hb2 := step' hb1 hb2
  have K2 := Lib.hid (Kd.C_below H2.out.reads hb2.out)
  clear hb1 K1
  go_wp2_with fail
  refine (cF A2 c2 wi L2 w2 K2 F2).mono ?_
  rintro e w3 ⟨rfl, hb3⟩
  have hb3 := step' hb2 hb3
  have K3 := Lib.hid (Kd.C_below H3.out.reads hb3.out)
  clear hb2 K2
  go_wp2_with fail
  refine (cF A3 c3 b L3 w3 K3 F3).mono ?_
  rintro e w4 ⟨rfl, hb4⟩
  have hb4 := step' hb3 hb4
  clear hb3 K3 F1 F2 F3
  obtain ⟨nm, hnm, hne⟩ : ∃ nm, Hid (hasN LH nm = true ∧ ¬ nm.toList = tBody) ∧ ∀ T, (w4.alloc (.cells (LH.toArray.map Value.string) T)).cell? ⟨w4.heap.size, j, none⟩ = some (.string nm) := by
    have hjl : j < LH.length := by rw [lh_len]; exact hj9
    refine ⟨LH[j], Lib.hid (lh_at j hjl), fun T => ?_⟩
    rw [Lib.cell_of_heap (heap_alloc_new w4 _)]
    simp [hjl]
  have hcn := hne 9
  have hel : LH.toArray.map Value.string = #[.string ⟨#[104, 101, 97, 100]⟩, .string ⟨#[105, 102, 114, 97, 109, 101]⟩, .string ⟨#[110, 111, 101, 109, 98, 101, 100]⟩, .string ⟨#[110, 111, 102, 114, 97, 109, 101, 115]⟩, .string ⟨#[110, 111, 115, 99, 114, 105, 112, 116]⟩, .string ⟨#[115, 99, 114, 105, 112, 116]⟩, .string ⟨#[115, 116, 121, 108, 101]⟩, .string ⟨#[116, 101, 109, 112, 108, 97, 116, 101]⟩, .string ⟨#[116, 105, 116, 108, 101]⟩] := by simp [LH]
  rw [hel] at hcn
  clear hne hel
  have hj0 : (0 : Int) ≤ (j : Int) := by omega
  have hwl : wi.length ≤ 60 := Z2.out.1
  have hal : a.length ≤ 60 := Z1.out.1
  have hbl : b.length ≤ 60 := Z3.out.1
  have hj9' : (j : Int) < 9 := by omega
  go_wp2_with fail
  have HW0 : Hid (Below w.heap.size w (w4.alloc (.cells #[.string ⟨#[104, 101, 97, 100]⟩, .string ⟨#[105, 102, 114, 97, 109, 101]⟩, .string ⟨#[110, 111, 101, 109, 98, 101, 100]⟩, .string ⟨#[110, 111, 102, 114, 97, 109, 101, 115]⟩, .string ⟨#[110, 111, 115, 99, 114, 105, 112, 116]⟩, .string ⟨#[115, 99, 114, 105, 112, 116]⟩, .string ⟨#[115, 116, 121, 108, 101]⟩, .string ⟨#[116, 101, 109, 112, 108, 97, 116, 101]⟩, .string ⟨#[116, 105, 116, 108, 101]⟩] 9)) ) := Lib.hid (hb4.out.alloc hb4.out.size _)
  clear hcn
  go_loopg [15, 16] (wi.length + 1) (fun kq v15 v16 w' => ∃ (i : Nat) (A : Option Addr) (c : Nat), v15 = .slice A (innerOf nm (wi.take i)).length c ∧ v16 = .int .i64 i ∧ Hid (i ≤ wi.length) ∧ Hid (wi.length < i + kq) ∧ Hid (Below w.heap.size w w' ∧ TR w w.heap.size w' (.slice A (innerOf nm (wi.take i)).length c) (innerOf nm (wi.take i))))
  case atStart => exact ⟨0, none, 0, rfl, rfl, Lib.hid (Nat.zero_le _), Lib.hid (by omega), Lib.hid ⟨HW0.out, [], rfl, World.ownsRow_nil _ _ _ _⟩⟩
  case round =>
    obtain ⟨i, A15, c15, rfl, rfl, HI, HK, HS⟩ := hrel
    clear HW0
    have hi := HI.out
    by_cases hlt : i < wi.length
    · have d1 : decide ((i : Int) < (wi.length : Int)) = true := decide_eq_true (by omega)
      have d2 : decide (i < wi.length) = true := decide_eq_true hlt
      obtain ⟨x, hx⟩ : ∃ x, wi[i] = x := ⟨_, rfl⟩
      have HT := Lib.hid (inner_take nm wi i hlt)
      have HL : Hid ((innerOf nm (wi.take i)).length ≤ 60) := Lib.hid (by have := inner_le nm (wi.take i); have := Z2.out.1; simp at *; omega)
      obtain ⟨ad, A0, c0, rfl, e0, e1, e2, e3, e4, hk⟩ := tok_in H2.out.reads HS.out.1 i hlt
      rw [hx] at e0 e1 e2 e3 e4 hk HT
      have HTK := Lib.hid hk
      generalize innerOf nm (wi.take i) = inn at *
      clear hx hk
      cases gk with
      | zero => exact absurd HK.out (by omega)
      | succ k1 =>
        by_cases hq : x.f1.toList = nm.toList
        · have q1 : (x.f1.toList != nm.toList) = false := by rw [hq]; simp
          have q2 : (x.f1.toList == nm.toList) = true := beq_iff_eq.2 hq
          have HKP : Hid (innerOf nm (wi.take (i + 1)) = inn) := Lib.hid (by rw [HT.out]; unfold keepT; rw [if_neg (by simp [hq]), List.append_nil])
          clear HT hq
          go_wp2_with fail
          have hw1 := (Below.refl wr.heap.size wr).alloc (Nat.le_refl _) (.cells #[.int .i64 x.f0, .string x.f1, .string x.f2, .slice A0 x.f3.length c0, .bool x.f4] 47)
          have hz := HS.out.2.below hw1
          have hBn := HS.out.1.trans (hw1.mono HS.out.1.size)
          go_roundg k1
          case measure => omega
          case rel => exact ⟨i + 1, A15, c15, by rw [HKP.out], by go_num, Lib.hid (by omega), Lib.hid (by have := HK.out; omega), by rw [HKP.out]; exact Lib.hid ⟨hBn, hz⟩⟩
        · have q2 : (x.f1.toList == nm.toList) = false := beq_eq_false_iff_ne.2 hq
          have q1 : (x.f1.toList != nm.toList) = true := by unfold bne; rw [q2]; rfl
          by_cases hk1 : x.f0 = 1
          · rw [hk1] at e0
            have HK1 := Lib.hid hk1
            rw [hk1] at HTK
            by_cases hb : x.f1.toList = tBody
            · have q3 : (x.f1.toList == [98, 111, 100, 121]) = true := beq_iff_eq.2 hb
              have HKP : Hid (innerOf nm (wi.take (i + 1)) = inn) := Lib.hid (by rw [HT.out]; unfold keepT; rw [if_neg (by simp [hq, hk1, hb]), List.append_nil])
              clear HT hq hk1 hb
              go_wp2_with fail
              have hw1 := (Below.refl wr.heap.size wr).alloc (Nat.le_refl _) (.cells #[.int .i64 1, .string x.f1, .string x.f2, .slice A0 x.f3.length c0, .bool x.f4] 47)
              have hz := HS.out.2.below hw1
              have hBn := HS.out.1.trans (hw1.mono HS.out.1.size)
              go_roundg k1
              case measure => omega
              case rel => exact ⟨i + 1, A15, c15, by rw [HKP.out], by go_num, Lib.hid (by omega), Lib.hid (by have := HK.out; omega), by rw [HKP.out]; exact Lib.hid ⟨hBn, hz⟩⟩
            · have q3 : (x.f1.toList == [98, 111, 100, 121]) = false := beq_eq_false_iff_ne.2 hb
              have HKP : Hid (innerOf nm (wi.take (i + 1)) = inn ++ [x]) := Lib.hid (by rw [HT.out]; unfold keepT; rw [if_pos (by simp [hq, hk1, hb])])
              obtain ⟨xs, hxs, hown⟩ := HS.out.2
              have HX := Lib.hid hxs
              have HO := Lib.hid hown
              clear hxs hown HT hq hk1 hb
              go_wp2_with (at_builtin; refine app_still _ _ 41 rfl (?_ : Still _))
              refine Still.mk ?_
              refine wpList_append_any _ rfl _ _ 41 rfl w.heap.size 47 i0 _ 5 72 Try.underlying41 hi0 hz0 hz1 hz2 rfl (by decide) (.slice A15 inn.length c15) inn.length xs rfl ((HO.out.alloc _).alloc _) _ 1 1 _ rfl (fun e => by cases e) (by rfl) (news_new _ _ (by simp) _ _) HTK.out.one (by have := HL.out; unfold maxLen; omega) (by have := HL.out; omega) (by have := HS.out.1.size; simp; omega) ?_
              intro v' w' hown' hgrow'
              go_wp2_with fail
              have hw1 := (((Below.refl wr.heap.size wr).alloc (Nat.le_refl _) (.cells #[.int .i64 1, .string x.f1, .string x.f2, .slice A0 x.f3.length c0, .bool x.f4] 47)).alloc (by simp) (.cells #[.int .i64 1, .string x.f1, .string x.f2, .slice A0 x.f3.length c0, .bool x.f4] 47))
              have hBn : Below w.heap.size w w' := (HS.out.1.trans (hw1.mono HS.out.1.size)).grown hgrow' (Nat.le_trans HS.out.1.size hw1.size) (fun k e => (HO.out.lt k e).1)
              have hTR : TR w w.heap.size w' v' (inn ++ [x]) := ⟨_, HX.out.app HTK.out, by rw [List.length_append]; exact hown'⟩
              obtain ⟨A', c', rfl, _⟩ := hTR.slice
              go_roundg k1
              case measure => omega
              case rel => exact ⟨i + 1, A', c', by rw [HKP.out], by go_num, Lib.hid (by omega), Lib.hid (by have := HK.out; omega), by rw [HKP.out]; exact Lib.hid ⟨hBn, hTR⟩⟩
          · have q3 : (x.f0 == 1) = false := beq_eq_false_iff_ne.2 hk1
            have HKP : Hid (innerOf nm (wi.take (i + 1)) = inn ++ [x]) := Lib.hid (by rw [HT.out]; unfold keepT; rw [if_pos (by simp [hq, hk1])])
            obtain ⟨xs, hxs, hown⟩ := HS.out.2
            have HX := Lib.hid hxs
            have HO := Lib.hid hown
            clear hxs hown HT hq hk1
            go_wp2_with (at_builtin; refine app_still _ _ 41 rfl (?_ : Still _))
            refine Still.mk ?_
            refine wpList_append_any _ rfl _ _ 41 rfl w.heap.size 47 i0 _ 5 72 Try.underlying41 hi0 hz0 hz1 hz2 rfl (by decide) (.slice A15 inn.length c15) inn.length xs rfl ((HO.out.alloc _).alloc _) _ 1 1 _ rfl (fun e => by cases e) (by rfl) (news_new _ _ (by simp) _ _) HTK.out.one (by have := HL.out; unfold maxLen; omega) (by have := HL.out; omega) (by have := HS.out.1.size; simp; omega) ?_
            intro v' w' hown' hgrow'
            go_wp2_with fail
            have hw1 := (((Below.refl wr.heap.size wr).alloc (Nat.le_refl _) (.cells #[.int .i64 x.f0, .string x.f1, .string x.f2, .slice A0 x.f3.length c0, .bool x.f4] 47)).alloc (by simp) (.cells #[.int .i64 x.f0, .string x.f1, .string x.f2, .slice A0 x.f3.length c0, .bool x.f4] 47))
            have hBn : Below w.heap.size w w' := (HS.out.1.trans (hw1.mono HS.out.1.size)).grown hgrow' (Nat.le_trans HS.out.1.size hw1.size) (fun k e => (HO.out.lt k e).1)
            have hTR : TR w w.heap.size w' v' (inn ++ [x]) := ⟨_, HX.out.app HTK.out, by rw [List.length_append]; exact hown'⟩
            obtain ⟨A', c', rfl, _⟩ := hTR.slice
            go_roundg k1
            case measure => omega
            case rel => exact ⟨i + 1, A', c', by rw [HKP.out], by go_num, Lib.hid (by omega), Lib.hid (by have := HK.out; omega), by rw [HKP.out]; exact Lib.hid ⟨hBn, hTR⟩⟩
    · have d1 : decide ((i : Int) < (wi.length : Int)) = false := decide_eq_false (by omega)
      have d2 : decide (i < wi.length) = false := decide_eq_false hlt
      have hie : i = wi.length := by omega
      have HE : Hid (innerOf nm (wi.take i) = innerOf nm wi) := Lib.hid (by rw [hie, List.take_length])
      rw [HE.out] at HS ⊢
      clear hie HE
      have HBA := HS.out.1
      have HRA := Lib.hid HS.out.2
      obtain ⟨xa, hxa, hca, hna⟩ := tk_in H1.out.reads
      obtain ⟨xb, hxb, hcb, hnb⟩ := tk_in H3.out.reads
      obtain ⟨xi, hxi, hoi⟩ := HS.out.2
      have HXA := Lib.hid hxa
      have HXB := Lib.hid hxb
      have HXI := Lib.hid hxi
      have HCA := Lib.hid hca
      have HCB := Lib.hid hcb
      have HOI := Lib.hid hoi
      have HBA := Lib.hid HBA
      have hil : (innerOf nm wi).length ≤ 60 := Nat.le_trans (inner_le nm wi) hwl
      obtain ⟨_, _, _, hle15, hA15⟩ := TR.slice HRA.out
      have hA15' : A15 = none → (innerOf nm wi).length = 0 := fun e => by
        obtain ⟨A', c', e1, _, e2⟩ := TR.slice HRA.out
        simp only [Value.slice.injEq] at e1
        rw [e2 (by rw [← e1.1]; exact e)]
        rfl
      clear hxa hxb hxi hca hcb hoi HS hle15 hA15
      have HINN : Hid (∀ t ∈ innerOf nm wi, keepT nm t = true ∧ (Lit.int .i64 t.f0).wf = true ∧ t.f2.size ≤ 200) := Lib.hid (fun t ht => ⟨(List.mem_filter.1 ht).2, H2.out.wf t (List.mem_filter.1 ht).1, (Z2.out.2 t (List.mem_filter.1 ht).1).2⟩)
      generalize innerOf nm wi = inn at *
      have hmv : ∀ (W' : World), Below w.heap.size w W' → ∀ {xs : List Value} {A : Option Addr}, (∀ ad, A = some ad → ∀ j u, xs[j]? = some u → w.cell? (ad.add j) = some u) → ∀ ad, A = some ad → ∀ j u, xs[j]? = some u → W'.cell? (ad.add j) = some u :=
        fun W' hb xs A h ad e j u hu => (hb.cell (World.block_lt_of_cell? w _ (h ad e j u hu))).trans (h ad e j u hu)
      have HMV := Lib.hid hmv
      clear hmv
      go_wp2_with (at_builtin; refine app_still _ _ 41 rfl (?_ : Still _))
      refine Still.mk ?_
      have M0 := mk_new (w := w) HBA.out
      have M0' := M0.row
      refine wpList_append_any _ rfl _ _ 41 rfl wr.heap.size 47 i0 _ 5 72 Try.underlying41 hi0 hz0 hz1 hz2 rfl (by decide) (.slice (some ⟨wr.heap.size, 0, none⟩) 0 0) 0 [] rfl (World.ownsRow_made wr #[] 0 (Nat.le_refl _) (by decide) rfl) A1 a.length c1 xa rfl (fun e => by rw [hna e]; rfl) HXA.out.len (HMV.out _ M0.below HCA.out) HXA.out.one (by unfold maxLen; omega) (by omega) (by simp) ?_
      intro v1 u1 hown1 hgrow1
      have M1 := Lib.hid (M0.app (xs := []) (show TK w [] [] from rfl) (World.ownsRow_made wr #[] 0 (Nat.le_refl _) (by decide) rfl) HXA.out hown1 hgrow1)
      rw [List.nil_append] at M1
      clear hown1 hgrow1 M0 M0'
      go_wp2_with (at_builtin; refine app_still _ _ 41 rfl (?_ : Still _))
      refine Still.mk ?_
      obtain ⟨y1, hy1, ho1⟩ := M1.out.row
      refine wpList_append_any _ rfl _ _ 41 rfl wr.heap.size 47 i0 _ 5 72 Try.underlying41 hi0 hz0 hz1 hz2 rfl (by decide) v1 a.length y1 rfl (ho1.alloc (.cells #[.int .i64 1, .string nm, .string ⟨#[]⟩, .slice none 0 0, .bool false] 47)) _ 1 1 _ rfl (fun e => by cases e) (by rfl) (news_new _ _ (by simp) _ _) (tk_st w nm 1).one (by (try simp); unfold maxLen; omega) (by (try simp); omega) (by have := M1.out.behind.size; simp; omega) ?_
      intro v2 u2 hown2 hgrow2
      have M2 := Lib.hid ((M1.out.then ((Below.refl _ u1).alloc (Nat.le_refl _) (.cells #[.int .i64 1, .string nm, .string ⟨#[]⟩, .slice none 0 0, .bool false] 47))).app hy1 (ho1.alloc (.cells #[.int .i64 1, .string nm, .string ⟨#[]⟩, .slice none 0 0, .bool false] 47)) (tk_st w nm 1) hown2 hgrow2)
      clear M1 hy1 ho1 hown2 hgrow2
      go_wp2_with (at_builtin; refine app_still _ _ 41 rfl (?_ : Still _))
      refine Still.mk ?_
      obtain ⟨y2, hy2, ho2⟩ := M2.out.row
      have hci : ∀ ad, A15 = some ad → ∀ j u, xi[j]? = some u → u2.cell? (ad.add j) = some u := fun ad e j u hu => (M2.out.behind.cell (World.block_lt_of_cell? wr _ (TR.cells HOI.out ad e j u hu))).trans (TR.cells HOI.out ad e j u hu)
      refine wpList_append_any _ rfl _ _ 41 rfl wr.heap.size 47 i0 _ 5 72 Try.underlying41 hi0 hz0 hz1 hz2 rfl (by decide) v2 (a ++ [stTok nm]).length y2 rfl ho2 A15 inn.length c15 xi rfl hA15' HXI.out.len hci HXI.out.one (by (try simp); unfold maxLen; omega) (by (try simp); omega) (by have := M2.out.behind.size; simp; omega) ?_
      intro v3 u3 hown3 hgrow3
      have M3 := Lib.hid (M2.out.app hy2 ho2 HXI.out hown3 hgrow3)
      clear M2 hy2 ho2 hown3 hgrow3 hci
      go_wp2_with (at_builtin; refine app_still _ _ 41 rfl (?_ : Still _))
      refine Still.mk ?_
      obtain ⟨y3, hy3, ho3⟩ := M3.out.row
      refine wpList_append_any _ rfl _ _ 41 rfl wr.heap.size 47 i0 _ 5 72 Try.underlying41 hi0 hz0 hz1 hz2 rfl (by decide) v3 (a ++ [stTok nm] ++ inn).length y3 rfl (ho3.alloc (.cells #[.int .i64 2, .string nm, .string ⟨#[]⟩, .slice none 0 0, .bool false] 47)) _ 1 1 _ rfl (fun e => by cases e) (by rfl) (news_new _ _ (by simp) _ _) (tk_st w nm 2).one (by (try simp); unfold maxLen; omega) (by (try simp); omega) (by have := M3.out.behind.size; simp; omega) ?_
      intro v4 u4 hown4 hgrow4
      have M4 := Lib.hid ((M3.out.then ((Below.refl _ u3).alloc (Nat.le_refl _) (.cells #[.int .i64 2, .string nm, .string ⟨#[]⟩, .slice none 0 0, .bool false] 47))).app hy3 (ho3.alloc (.cells #[.int .i64 2, .string nm, .string ⟨#[]⟩, .slice none 0 0, .bool false] 47)) (tk_st w nm 2) hown4 hgrow4)
      clear M3 hy3 ho3 hown4 hgrow4
      go_wp2_with (at_builtin; refine app_still _ _ 41 rfl (?_ : Still _))
      refine Still.mk ?_
      obtain ⟨y4, hy4, ho4⟩ := M4.out.row
      refine wpList_append_any _ rfl _ _ 41 rfl wr.heap.size 47 i0 _ 5 72 Try.underlying41 hi0 hz0 hz1 hz2 rfl (by decide) v4 (a ++ [stTok nm] ++ inn ++ [enTok nm]).length y4 rfl ho4 A3 b.length c3 xb rfl (fun e => by rw [hnb e]; rfl) HXB.out.len (HMV.out _ M4.out.below HCB.out) HXB.out.one (by (try simp); unfold maxLen; omega) (by (try simp); omega) (by have := M4.out.behind.size; simp; omega) ?_
      intro v5 u5 hown5 hgrow5
      have M5 := Lib.hid (M4.out.app hy4 ho4 HXB.out hown5 hgrow5)
      clear M4 hy4 ho4 hown5 hgrow5
      obtain ⟨A18, c18, rfl, hle18, hA18⟩ := M5.out.row.slice
      obtain ⟨all, hall⟩ : ∃ all, a ++ [(⟨1, nm, ⟨#[]⟩, [], false⟩ : S47)] ++ inn ++ [(⟨2, nm, ⟨#[]⟩, [], false⟩ : S47)] ++ b = all := ⟨_, rfl⟩
      have HALL := Lib.hid hall
      rw [hall] at M5 hle18 hA18 ⊢
      have HRI := Lib.hid (HRA.out.reads HBA.out (by omega))
      have hopl := open_le a
      obtain ⟨wB, rfl⟩ : ∃ wB, wB = wr := ⟨wr, rfl⟩
      clear hall HK HI hi hlt d1 d2 HRA HOI hna hnb hA15' HMV HXI
      go_wp2_with fail
      go_loopg [19, 20] (a.length + 1) (fun kq v19 v20 w' => ∃ i : Nat, v19 = .int .i64 (openOf (a.take i) : Nat) ∧ v20 = .int .i64 i ∧ Hid (i ≤ a.length) ∧ Hid (a.length < i + kq) ∧ Hid (Mk w wB w' (.slice A18 all.length c18) all))
      case atStart => exact ⟨0, rfl, rfl, Lib.hid (Nat.zero_le _), Lib.hid (by omega), M5⟩
      case round =>
        obtain ⟨i, rfl, rfl, HI, HK, HS⟩ := hrel
        clear M5
        have hi := HI.out
        by_cases hlt : i < a.length
        · have d1 : decide ((i : Int) < (a.length : Int)) = true := decide_eq_true (by omega)
          have d2 : decide (i < a.length) = true := decide_eq_true hlt
          obtain ⟨x, hx⟩ : ∃ x, a[i] = x := ⟨_, rfl⟩
          have HO := Lib.hid (open_take a i hlt)
          have hol : openOf (a.take i) ≤ 60 := by have := open_le (a.take i); simp at this; omega
          obtain ⟨ad, A0, c0, rfl, e0, e1, _, _, _, _⟩ := tok_in H1.out.reads HS.out.below i hlt
          rw [hx] at e0 e1 HO
          generalize openOf (a.take i) = op at *
          clear hx
          cases gk with
          | zero => exact absurd HK.out (by omega)
          | succ k1 =>
            by_cases hk1 : x.f0 = 1
            · rw [hk1] at e0
              cases hh : hasN LH x.f1 with
              | true =>
                have HN : Hid (openOf (a.take (i + 1)) = op + 1) := Lib.hid (by rw [HO.out]; unfold opens; rw [hk1, hh]; rfl)
                clear HO hk1
                go_wp2_with (go_at_call 29; refine (h_call x.f1 HS).mono ?_; rw [hh]; rintro e w6 ⟨rfl, h6⟩)
                go_roundg k1
                case measure => omega
                case rel => exact ⟨i + 1, by rw [HN.out]; go_num, by go_num, Lib.hid (by omega), Lib.hid (by have := HK.out; omega), h6⟩
              | false =>
                have HN : Hid (openOf (a.take (i + 1)) = op) := Lib.hid (by rw [HO.out]; unfold opens; rw [hk1, hh]; rfl)
                clear HO hk1
                go_wp2_with (go_at_call 29; refine (h_call x.f1 HS).mono ?_; rw [hh]; rintro e w6 ⟨rfl, h6⟩)
                go_roundg k1
                case measure => omega
                case rel => exact ⟨i + 1, by rw [HN.out], by go_num, Lib.hid (by omega), Lib.hid (by have := HK.out; omega), h6⟩
            · have q1 : (x.f0 == 1) = false := beq_eq_false_iff_ne.2 hk1
              have HN : Hid (openOf (a.take (i + 1)) = op) := Lib.hid (by rw [HO.out]; unfold opens; rw [decide_eq_false hk1]; rfl)
              clear HO hk1
              go_wp2_with fail
              go_roundg k1
              case measure => omega
              case rel => exact ⟨i + 1, by rw [HN.out], by go_num, Lib.hid (by omega), Lib.hid (by have := HK.out; omega), HS⟩
        · have d1 : decide ((i : Int) < (a.length : Int)) = false := decide_eq_false (by omega)
          have d2 : decide (i < a.length) = false := decide_eq_false hlt
          have hie : i = a.length := by omega
          rw [hie, List.take_length]
          clear hie hlt d1 d2
          have d1 : decide ((a.length : Int) < (a.length : Int)) = false := decide_eq_false (by omega)
          have d2 : decide (a.length < a.length) = false := decide_eq_false (by omega)
          clear HI HK hi
          go_wp2_with fail
          go_loopg [21] (inn.length + 1) (fun kq v21 w' => ∃ i : Nat, v21 = .int .i64 i ∧ Hid (i ≤ inn.length) ∧ Hid (inn.length < i + kq) ∧ Hid (Mk w wB w' (.slice A18 all.length c18) all) ∧ Hid (openOf a = 0 ∨ ∀ t ∈ inn.take i, shuts t = false))
          case atStart => exact ⟨0, rfl, Lib.hid (Nat.zero_le _), Lib.hid (by omega), HS, Lib.hid (Or.inr (by simp))⟩
          case round =>
            obtain ⟨i, rfl, HI, HK, HM, HB⟩ := hrel
            clear HS
            have hi := HI.out
            by_cases hlt : i < inn.length
            · have d1 : decide ((i : Int) < (inn.length : Int)) = true := decide_eq_true (by omega)
              have d2 : decide (i < inn.length) = true := decide_eq_true hlt
              obtain ⟨x, hx⟩ : ∃ x, inn[i] = x := ⟨_, rfl⟩
              obtain ⟨ad, A0, c0, rfl, e0, e1, _, _, _⟩ := tok_cells (Kd.C_below HRI.out HM.out.behind) i hlt
              rw [hx] at e0 e1
              have hext : shuts x = false → Hid (openOf a = 0 ∨ ∀ t ∈ inn.take (i + 1), shuts t = false) := fun hs => Lib.hid (HB.out.imp id (fun h t ht => by
                rw [List.take_succ_eq_append_getElem hlt, hx] at ht
                rcases List.mem_append.1 ht with ht | ht
                · exact h t ht
                · simp at ht
                  rw [ht]
                  exact hs))
              have HX := Lib.hid hext
              clear hx hext
              cases gk with
              | zero => exact absurd HK.out (by omega)
              | succ k1 =>
                by_cases hk1 : x.f0 = 2
                · rw [hk1] at e0
                  cases hh : hasN LH x.f1 with
                  | true =>
                    clear hk1 HX
                    by_cases hop : openOf a = 0
                    · have HN : Hid (openOf a = 0 ∨ ∀ t ∈ inn.take (i + 1), shuts t = false) := Lib.hid (Or.inl hop)
                      have q1 : decide ((0 : Int) < (openOf a : Int)) = false := decide_eq_false (by omega)
                      have q2 : decide (0 < openOf a) = false := decide_eq_false (by omega)
                      clear hop
                      go_wp2_with (go_at_call 29; refine (h_call x.f1 HM).mono ?_; rw [hh]; rintro e w6 ⟨rfl, h6⟩)
                      go_roundg k1
                      case measure => omega
                      case rel => exact ⟨i + 1, by go_num, Lib.hid (by omega), Lib.hid (by have := HK.out; omega), h6, HN⟩
                    · have q1 : decide ((0 : Int) < (openOf a : Int)) = true := decide_eq_true (by omega)
                      have q2 : decide (0 < openOf a) = true := decide_eq_true (by omega)
                      clear hop
                      go_wp2_with (go_at_call 29; refine (h_call x.f1 HM).mono ?_; rw [hh]; rintro e w6 ⟨rfl, h6⟩)
                      go_ret
                      exact ⟨rfl, h6.out.below⟩
                  | false =>
                    have HN := HX.out (by unfold shuts; rw [hk1, hh]; rfl)
                    clear hk1 HX
                    go_wp2_with (go_at_call 29; refine (h_call x.f1 HM).mono ?_; rw [hh]; rintro e w6 ⟨rfl, h6⟩)
                    go_roundg k1
                    case measure => omega
                    case rel => exact ⟨i + 1, by go_num, Lib.hid (by omega), Lib.hid (by have := HK.out; omega), h6, HN⟩
                · have q1 : (x.f0 == 2) = false := beq_eq_false_iff_ne.2 hk1
                  have HN := HX.out (by unfold shuts; rw [decide_eq_false hk1]; rfl)
                  clear hk1 HX
                  go_wp2_with fail
                  go_roundg k1
                  case measure => omega
                  case rel => exact ⟨i + 1, by go_num, Lib.hid (by omega), Lib.hid (by have := HK.out; omega), HM, HN⟩
            · have d1 : decide ((i : Int) < (inn.length : Int)) = false := decide_eq_false (by omega)
              have d2 : decide (i < inn.length) = false := decide_eq_false hlt
              have hie : i = inn.length := by omega
              have HBd : Hid (openOf a = 0 ∨ ∀ t ∈ inn, shuts t = false) := Lib.hid (by have h := HB.out; rw [hie, List.take_length] at h; exact h)
              clear hie hlt HB HK HI hi
              have hwfA : ∀ x ∈ all, (Lit.int .i64 x.f0).wf = true := fun x hx => by
                rw [← HALL.out] at hx
                simp only [List.mem_append, List.mem_singleton] at hx
                rcases hx with (((hx | hx) | hx) | hx) | hx
                · exact H1.out.wf x hx
                · rw [hx]; rfl
                · exact (HINN.out x hx).2.1
                · rw [hx]; rfl
                · exact H3.out.wf x hx
              have hszA : ∀ x ∈ all, x.f2.size ≤ 10000 := fun x hx => by
                rw [← HALL.out] at hx
                simp only [List.mem_append, List.mem_singleton] at hx
                rcases hx with (((hx | hx) | hx) | hx) | hx
                · have := (Z1.out.2 x hx).2; omega
                · rw [hx]; exact Nat.zero_le _
                · have := (HINN.out x hx).2.2; omega
                · rw [hx]; exact Nat.zero_le _
                · have := (Z3.out.2 x hx).2; omega
              have hlA : all.length ≤ 200 := by rw [← HALL.out]; simp; omega
              have HFA := Lib.hid (render_eq (fits_mk (l := all) (by omega) hszA hwfA))
              have HFB := Lib.hid (render_eq (fits_mk (l := a ++ b) (by simp; omega) (fun x hx => by
                rcases List.mem_append.1 hx with hx | hx
                · have := (Z1.out.2 x hx).2; omega
                · have := (Z3.out.2 x hx).2; omega) (fun x hx => by
                rcases List.mem_append.1 hx with hx | hx
                · exact H1.out.wf x hx
                · exact H3.out.wf x hx)))
              have HEQ : Hid (told all = told (a ++ b)) := Lib.hid (by
                unfold told
                rw [← HALL.out]
                rw [show Pg.all (a ++ [(⟨1, nm, ⟨#[]⟩, [], false⟩ : S47)] ++ inn ++ [(⟨2, nm, ⟨#[]⟩, [], false⟩ : S47)] ++ b) Pg.none = Pg.all (a ++ b) Pg.none from hides_all a inn b nm hnm.out.1 hnm.out.2 (fun t ht => (HINN.out t ht).1) HBd.out])
              have HRD := Lib.hid (HM.out.row.reads HM.out.below (by omega))
              clear hwfA hszA HBd
              go_wp2_with (first
                | (go_at_call 27; refine (render_Render.calls A18 c18 all _ _ HRD.out hle18 HFA.out).mono ?_; rintro e w7 ⟨rfl, h7⟩)
                | (at_builtin; refine app_still _ _ 41 rfl (?_ : Still _)))
              have HW7 := Lib.hid (HM.out.below.trans (h7.mono HM.out.below.size))
              obtain ⟨ya, hya, hca2, hna2⟩ := tk_in H1.out.reads
              obtain ⟨yb, hyb, hcb2, hnb2⟩ := tk_in H3.out.reads
              have mv : ∀ (W' : World), Below w.heap.size w W' → ∀ {xs : List Value} {A : Option Addr}, (∀ ad, A = some ad → ∀ j u, xs[j]? = some u → w.cell? (ad.add j) = some u) → ∀ ad, A = some ad → ∀ j u, xs[j]? = some u → W'.cell? (ad.add j) = some u :=
                fun W' hb xs A h ad e j u hu => (hb.cell (World.block_lt_of_cell? w _ (h ad e j u hu))).trans (h ad e j u hu)
              have MV := Lib.hid mv
              clear mv
              refine Still.mk ?_
              have N0 := mk_new (w := w) HW7.out
              refine wpList_append_wanted _ ?hg _ _ 41 rfl w7.heap.size 47 i0 _ 5 72 Try.underlying41 hi0 hz0 hz1 hz2 rfl (by decide) (.slice (some ⟨w7.heap.size, 0, none⟩) 0 0) 0 [] rfl (World.ownsRow_made w7 #[] 0 (Nat.le_refl _) (by decide) rfl) A1 a.length c1 ya rfl (fun e => by rw [hna2 e]; rfl) hya.len (MV.out _ N0.below hca2) hya.one (by unfold maxLen; omega) (by omega) (by simp) ?_
              case hg => kernel_rfl
              intro v8 u8 hown8 hgrow8
              have N1 := Lib.hid (N0.app (xs := []) (show TK w [] [] from rfl) (World.ownsRow_made w7 #[] 0 (Nat.le_refl _) (by decide) rfl) hya hown8 hgrow8)
              rw [List.nil_append] at N1
              clear N0 hown8 hgrow8 hca2 hna2
              go_wp2_with (at_builtin; refine app_still _ _ 41 rfl (?_ : Still _))
              refine Still.mk ?_
              obtain ⟨y8, hy8, ho8⟩ := N1.out.row
              refine wpList_append_wanted _ ?hg _ _ 41 rfl w7.heap.size 47 i0 _ 5 72 Try.underlying41 hi0 hz0 hz1 hz2 rfl (by decide) v8 a.length y8 rfl ho8 A3 b.length c3 yb rfl (fun e => by rw [hnb2 e]; rfl) hyb.len (MV.out _ N1.out.below hcb2) hyb.one (by unfold maxLen; omega) (by omega) (by have := N1.out.behind.size; omega) ?_
              case hg => kernel_rfl
              intro v9 u9 hown9 hgrow9
              have N2 := Lib.hid (N1.out.app hy8 ho8 hyb hown9 hgrow9)
              clear N1 hy8 ho8 hown9 hgrow9 hcb2 hnb2 MV
              have hlab : (a ++ b).length ≤ 200 := by simp; omega
              obtain ⟨ab, hab⟩ : ∃ ab, a ++ b = ab := ⟨_, rfl⟩
              rw [hab] at N2 HFB HEQ hlab
              clear hab
              obtain ⟨A9, c9, rfl, hle9, hA9⟩ := N2.out.row.slice
              have HRD2 := Lib.hid (N2.out.row.reads N2.out.below (by omega))
              have q1 : ((⟨(told all).toArray⟩ : ByteArray).toList == (⟨(told ab).toArray⟩ : ByteArray).toList) = true := by rw [HEQ.out]; simp
              have q2 : (told all == told ab) = true := by rw [HEQ.out]; simp
              go_wp2_with (go_at_call 27; refine (render_Render.calls A9 c9 ab _ _ HRD2.out hle9 HFB.out).mono ?_; rintro e w10 ⟨rfl, h10⟩)
              go_ret
              refine ⟨?_, N2.out.below.trans (h10.mono N2.out.below.size)⟩
              rfl

theorem hides_row (A1 : Option Addr) (n1 c1 : Nat) (A2 : Option Addr) (n2 c2 : Nat) (A3 : Option Addr) (n3 c3 : Nat) (n : Int) (w : World)
    (a : List S47) (hl1 : a.length = n1) (hr1 : Kd.C k47 w A1 a.length a) (hc1 : n1 ≤ c1) (hw1 : ∀ x ∈ a, (Lit.int .i64 x.f0).wf = true)
    (wi : List S47) (hl2 : wi.length = n2) (hr2 : Kd.C k47 w A2 wi.length wi) (hc2 : n2 ≤ c2) (hw2 : ∀ x ∈ wi, (Lit.int .i64 x.f0).wf = true)
    (b : List S47) (hl3 : b.length = n3) (hr3 : Kd.C k47 w A3 b.length b) (hc3 : n3 ≤ c3) (hw3 : ∀ x ∈ b, (Lit.int .i64 x.f0).wf = true) (hn : (Lit.int .u8 n).wf = true) :
    Calls Try.prog 11 #[.slice A1 n1 c1, .slice A2 n2 c2, .slice A3 n3 c3, .int .u8 n] w fun e w' => e = .returned (.bool true) ∧ Below w.heap.size w w' := by
  subst hl1 hl2 hl3
  by_cases hf : Rend.fewB a = true ∧ Rend.fewB wi = true ∧ Rend.fewB b = true
  · exact hides_on A1 A2 A3 c1 c2 c3 a wi b n (bounds_u8 hn) w ⟨hr1, hc1, hw1⟩ ⟨hr2, hc2, hw2⟩ ⟨hr3, hc3, hw3⟩ hf.1 hf.2.1 hf.2.2
  · exact hides_off A1 A2 A3 c1 c2 c3 a wi b n w ⟨hr1, hc1, hw1⟩ ⟨hr2, hc2, hw2⟩ ⟨hr3, hc3, hw3⟩ hf
end Go.Proofs.Ytaejicolhliecaa.HandRenderHides
