/- Several texts of this claim, laid together into one file. -/
import Derived.Test.YtaejicolhliecaaMEnd
import Derived.Maps.OwnSet
import Derived.Carry
set_option linter.unusedSimpArgs false
set_option linter.unusedVariables false
/- render.Render over the model of a page: the map of what a token's kind does, and the loop over the tokens. -/
set_option linter.unusedVariables false
set_option linter.unusedSimpArgs false
namespace Go.Proofs.Ytaejicolhliecaa.Rend
open Go.RowKit Go.Lib Go.Maps Go.Proofs.Ytaejicolhliecaa.Buf Go.Proofs.Ytaejicolhliecaa.Flow Go.Proofs.Ytaejicolhliecaa.PRe Go.Proofs.YtaejicolhliecaaW.PrintWords

def fStart (p : Nat) : Value := .func (.func 38) #[.pointer (some ⟨p, 0, none⟩)] #[]
def fEnd (p : Nat) : Value := .func (.func 39) #[.pointer (some ⟨p, 0, none⟩)] #[]
def fText (B : Nat) : Value := .func (.func 40) #[] #[.pointer (some ⟨B, 0, none⟩)]
def rdF (v : Value) : Option (DataW Value × List MemPlace) := some (.held v, [])
def li (k : Int) : Lit := .int .i64 k
def does0 : DataW Value := .map []
def does1 (p : Nat) : DataW Value := does0.put (li 1) (.held (fStart p))
def does2 (p : Nat) : DataW Value := (does1 p).put (li 2) (.held (fEnd p))
def does3 (p B : Nat) : DataW Value := (does2 p).put (li 0) (.held (fText B))

theorem intKeys : Keyed Try.prog 3 := int_keyed Try.underlying3
theorem key_of (k : Int) (h : (Lit.int .i64 k).wf = true) : keyOf Try.prog 3 (.int .i64 k) = some (li k) := keyOf_int_mk Try.underlying3 h
theorem li_ne {a b : Int} (h : a ≠ b) : li a ≠ li b := by
  intro e
  simp only [li, Lit.int.injEq] at e
  exact h e.2
theorem isKey (k : Int) : WideAt.IsKeyLit (li k) := by simp [li, WideAt.IsKeyLit]
theorem isMap0 : IsMap does0 := isMap_empty
theorem isMap1 (p : Nat) : IsMap (does1 p) := isMap0.put _ _
theorem isMap2 (p : Nat) : IsMap (does2 p) := (isMap1 p).put _ _

theorem does_start (p B : Nat) (z : DataW Value) : (does3 p B).atKey (li 1) z = .held (fStart p) ∧ Maps.has (does3 p B) (li 1) = true := by
  unfold does3 does2
  rw [atKey_put_other (li_ne (by decide)), atKey_put_other (li_ne (by decide)), has_put_other (li_ne (by decide)), has_put_other (li_ne (by decide))]
  exact ⟨atKey_put_same isMap0 (isKey 1) _ _, has_put_same isMap0 (isKey 1) _⟩
theorem does_end (p B : Nat) (z : DataW Value) : (does3 p B).atKey (li 2) z = .held (fEnd p) ∧ Maps.has (does3 p B) (li 2) = true := by
  unfold does3
  rw [atKey_put_other (li_ne (by decide)), has_put_other (li_ne (by decide))]
  exact ⟨atKey_put_same (isMap1 p) (isKey 2) _ _, has_put_same (isMap1 p) (isKey 2) _⟩
theorem does_text (p B : Nat) (z : DataW Value) : (does3 p B).atKey (li 0) z = .held (fText B) ∧ Maps.has (does3 p B) (li 0) = true :=
  ⟨atKey_put_same (isMap2 p) (isKey 0) _ _, has_put_same (isMap2 p) (isKey 0) _⟩
theorem does_other (p B : Nat) (k : Int) (h0 : k ≠ 0) (h1 : k ≠ 1) (h2 : k ≠ 2) (z : DataW Value) : (does3 p B).atKey (li k) z = z ∧ Maps.has (does3 p B) (li k) = false := by
  unfold does3 does2 does1
  rw [atKey_put_other (li_ne h0), atKey_put_other (li_ne h2), atKey_put_other (li_ne h1), has_put_other (li_ne h0), has_put_other (li_ne h2), has_put_other (li_ne h1)]
  exact ⟨rfl, rfl⟩

section
variable {w0 w w' : World} {p B r : Nat} {s s' : Pg}

structure RAt (w0 w : World) (p B r : Nat) (s : Pg) : Prop where
  below : Below w0.heap.size w0 w
  page : ∃ F, Pge w p F s ∧ (∀ k, F k → w0.heap.size ≤ k) ∧ ¬ F B ∧ ¬ F r
  var : w.heap[B]? = some (.cells #[.pointer (some ⟨p, 0, none⟩)] 66 (0, 0))
  map : w.ownsMap Try.prog 3 rdF r 3 (does3 p B)

theorem map_kp {F : Nat → Prop} {n : Nat} {D : DataW Value} (h : w.ownsMap Try.prog 3 rdF r n D) (hk : Kp F w w') (hn : ¬ F r) : w'.ownsMap Try.prog 3 rdF r n D := by
  have hlt := h.lt
  obtain ⟨es, clock, hb, hf, hs, hD⟩ := h
  exact ⟨es, clock, (hk.block r hlt hn).trans hb, hf, hs, hD⟩

theorem RAt.does (h : RAt w0 w p B r s) (hd : ∀ F, Pge w p F s → PDoes w w' p F s') : RAt w0 w' p B r s' := by
  obtain ⟨h1, ⟨F, h2, h3, h4, h5⟩, h6, h7⟩ := h
  obtain ⟨F', h8, h9, h10⟩ := hd F h2
  have hB := Buf.lt_of_heap h6
  have hr := h7.lt
  refine ⟨h1.trans (h9.below h1.size (fun k hk hf => by have := h3 k hf; omega)), ⟨F', h8, fun k hk => ?_, fun e => ?_, fun e => ?_⟩, (h9.block B hB h4).trans h6, map_kp h7 h9 h5⟩
  · rcases h10 k hk with e | e
    · exact h3 k e
    · exact Nat.le_trans h1.size e
  · rcases h10 B e with e | e
    · exact h4 e
    · omega
  · rcases h10 r e with e | e
    · exact h5 e
    · omega
theorem RAt.then (h : RAt w0 w p B r s) (hb : Below w.heap.size w w') : RAt w0 w' p B r s := h.does (fun F hp => hp.refl.below hb)

theorem r_call {f : Nat} {args : Array Value} {x : Ending} (h : Hid (RAt w0 w p B r s)) (hall : ∀ F, Pge w p F s → Calls Try.prog f args w fun e w' => e = x ∧ Hid (PDoes w w' p F s')) :
    Calls Try.prog f args w fun e w' => e = x ∧ Hid (RAt w0 w' p B r s') := by
  obtain ⟨F, h2, h3, h4, h5⟩ := h.out.page
  refine (hall F h2).mono ?_
  rintro e w' ⟨h6, h7⟩
  refine ⟨h6, Lib.hid ?_⟩
  obtain ⟨F', h8, h9, h10⟩ := h7.out
  have h1 := h.out.below
  have hB := Buf.lt_of_heap h.out.var
  have hr := h.out.map.lt
  refine ⟨h1.trans (h9.below h1.size (fun k hk hf => by have := h3 k hf; omega)), ⟨F', h8, fun k hk => ?_, fun e => ?_, fun e => ?_⟩, (h9.block B hB h4).trans h.out.var, map_kp h.out.map h9 h5⟩
  · rcases h10 k hk with e | e
    · exact h3 k e
    · exact Nat.le_trans h1.size e
  · rcases h10 B e with e | e
    · exact h4 e
    · omega
  · rcases h10 r e with e | e
    · exact h5 e
    · omega

theorem r_start (h : Hid (RAt w0 w p B r s)) (k : Int) (n t : ByteArray) (A : Option Addr) (l c : Nat) (b : Bool) (hb : Hid (s.m.ends ≤ 900000000 ∧ s.names.length ≤ 1000000000 ∧ s.kept ≤ 1000000000)) :
    Calls Try.prog 38 #[.pointer (some ⟨p, 0, none⟩), .agg #[.int .i64 k, .string n, .string t, .slice A l c, .bool b]] w fun e w' => e = .returned (.tuple #[]) ∧ Hid (RAt w0 w' p B r (s.start n)) :=
  r_call h (fun F hp => start_at hp k n t A l c b hb.out.1 hb.out.2.1 hb.out.2.2)
theorem r_end (h : Hid (RAt w0 w p B r s)) (k : Int) (n t : ByteArray) (A : Option Addr) (l c : Nat) (b : Bool) (hb : Hid (s.m.ends ≤ 900000000 ∧ s.names.length ≤ 1000000000 ∧ s.kept ≤ 1000000000)) :
    Calls Try.prog 39 #[.pointer (some ⟨p, 0, none⟩), .agg #[.int .i64 k, .string n, .string t, .slice A l c, .bool b]] w fun e w' => e = .returned (.tuple #[]) ∧ Hid (RAt w0 w' p B r (s.close n)) :=
  r_call h (fun F hp => end_at hp k n t A l c b hb.out.1 hb.out.2.1 hb.out.2.2)
theorem r_text (h : Hid (RAt w0 w p B r s)) (k : Int) (n t : ByteArray) (A : Option Addr) (l c : Nat) (b : Bool) (hb : Hid (s.m.size + t.size ≤ 1000000000)) :
    Calls Try.prog 40 #[.agg #[.int .i64 k, .string n, .string t, .slice A l c, .bool b], .pointer (some ⟨B, 0, none⟩)] w fun e w' => e = .returned (.tuple #[]) ∧ Hid (RAt w0 w' p B r (s.text t)) :=
  r_call h (fun F hp => text_at hp B (by rw [Lib.cell_of_heap h.out.var]; rfl) (Buf.lt_of_heap h.out.var) k n t A l c b hb.out)
theorem r_told (h : Hid (RAt w0 w p B r s)) {f : Nat} (hc : w.cell? ⟨p, 0, none⟩ = some (.pointer (some ⟨f, 0, none⟩))) :
    Calls Try.prog 20 #[.pointer (some ⟨f, 0, none⟩)] w fun e w' => e = .returned (.string ⟨s.m.told.toArray⟩) ∧ Hid (RAt w0 w' p B r s) :=
  r_call h (fun F hp => pg_text (Lib.hid hp) hc)
theorem r_look (h : RAt w0 w p B r s) (k : Int) (hk : (Lit.int .i64 k).wf = true) (hz : (zeroValue 69).run Try.prog w = .ok .nilFunc w) :
    ∃ v, (Instr.lookup 70 (.map (some r)) (.int .i64 k) true).run Try.prog w = .ok (.tuple #[v, .bool (Maps.has (does3 p B) (li k))]) w ∧ DataW.held v = (does3 p B).atKey (li k) (.held .nilFunc) := by
  obtain ⟨v, ps, h1, h2⟩ := h.map.look_ok intKeys Try.underlying70 hz (zd := .held .nilFunc) (zp := []) rfl (key_of k hk)
  refine ⟨v, h1, ?_⟩
  unfold rdF at h2
  simp only [Option.some.injEq, Prod.mk.injEq] at h2
  exact h2.1
theorem r_cells (h : RAt w0 w p B r s) : (∃ f, w.cell? ⟨p, 0, none⟩ = some (.pointer (some ⟨f, 0, none⟩))) ∧ w.cell? ⟨B, 0, none⟩ = some (.pointer (some ⟨p, 0, none⟩)) := by
  obtain ⟨F, h2, _⟩ := h.page
  exact ⟨pg_cell0 h2, by rw [Lib.cell_of_heap h.var]; rfl⟩

/-- The world in which the map is made. -/
def wMap (w : World) : World := (((w.alloc (.cells #[.pointer none, .slice none 0 0, .int .i64 0, .slice none 0 0] 62)).alloc (.cells #[.pointer (some ⟨w.heap.size, 0, none⟩), .slice none 0 0, .int .i64 0] 68)).alloc (.cells #[.pointer (some ⟨w.heap.size + 1, 0, none⟩)] 66)).alloc (.map #[] 0)

theorem grown_kp {a b : World} {r : Nat} (h : a.grownBy b (some r)) : Kp (fun k => k = r) a b := ⟨h.os, h.tape, h.output, h.size, fun k hk hn => h.block k hk (fun e => hn (Option.some.inj e))⟩

theorem pg_new (w : World) : Pge ((w.alloc (.cells #[.pointer none, .slice none 0 0, .int .i64 0, .slice none 0 0] 62)).alloc (.cells #[.pointer (some ⟨w.heap.size, 0, none⟩), .slice none 0 0, .int .i64 0] 68)) (w.heap.size + 1) (fun k => k = w.heap.size ∨ k = w.heap.size + 1) Pg.none := by
  have e := heap_alloc_new (w.alloc (.cells #[.pointer none, .slice none 0 0, .int .i64 0, .slice none 0 0] 62)) (.cells #[.pointer (some ⟨w.heap.size, 0, none⟩), .slice none 0 0, .int .i64 0] 68)
  rw [World.size_alloc] at e
  refine ⟨w.heap.size, .slice none 0 0, fun k => k = w.heap.size, e, World.ownsRow_nil _ _ _ _, (new_fl w).kp (G := fun _ => False) ((Kp.refl _ _).alloc _) (fun _ _ h => h), Or.inr rfl, fun k e => by simp [Value.ownBlock] at e, fun k e => Or.inl e, by omega, fun k e => by simp [Value.ownBlock] at e, fun k e => ?_⟩
  simp
  omega

theorem render_start (w : World) : ∃ w5 w6 w7,
    (Instr.mapUpdate 70 (.map (some (w.heap.size + 1 + 1 + 1))) (.int .i64 1) (fStart (w.heap.size + 1))).run Try.prog (wMap w) = .ok () w5 ∧
    (Instr.mapUpdate 70 (.map (some (w.heap.size + 1 + 1 + 1))) (.int .i64 2) (fEnd (w.heap.size + 1))).run Try.prog w5 = .ok () w6 ∧
    (Instr.mapUpdate 70 (.map (some (w.heap.size + 1 + 1 + 1))) (.int .i64 0) (fText (w.heap.size + 1 + 1))).run Try.prog w6 = .ok () w7 ∧
    w5.cell? ⟨w.heap.size + 1 + 1, 0, none⟩ = some (.pointer (some ⟨w.heap.size + 1, 0, none⟩)) ∧ w6.cell? ⟨w.heap.size + 1 + 1, 0, none⟩ = some (.pointer (some ⟨w.heap.size + 1, 0, none⟩)) ∧
    RAt w w7 (w.heap.size + 1) (w.heap.size + 1 + 1) (w.heap.size + 1 + 1 + 1) Pg.none := by
  obtain ⟨W2, hW2⟩ : ∃ W2, (w.alloc (.cells #[.pointer none, .slice none 0 0, .int .i64 0, .slice none 0 0] 62)).alloc (.cells #[.pointer (some ⟨w.heap.size, 0, none⟩), .slice none 0 0, .int .i64 0] 68) = W2 := ⟨_, rfl⟩
  have hp := pg_new w
  have hB2 : Below w.heap.size w W2 := by rw [← hW2]; exact ((Below.refl _ w).alloc (Nat.le_refl _) _).alloc (by simp) _
  have hs2 : W2.heap.size = w.heap.size + 1 + 1 := by rw [← hW2]; simp
  rw [hW2] at hp
  have hm : wMap w = (W2.alloc (.cells #[.pointer (some ⟨w.heap.size + 1, 0, none⟩)] 66)).alloc (.map #[] 0) := by rw [← hW2]; rfl
  have hs3 : (W2.alloc (.cells #[.pointer (some ⟨w.heap.size + 1, 0, none⟩)] 66)).heap.size = w.heap.size + 1 + 1 + 1 := by simp [hs2]
  have hown0 := World.ownsMap_made (W2.alloc (.cells #[.pointer (some ⟨w.heap.size + 1, 0, none⟩)] 66)) Try.prog 3 rdF
  rw [← hm, hs3] at hown0
  have hvar : (wMap w).heap[w.heap.size + 1 + 1]? = some (.cells #[.pointer (some ⟨w.heap.size + 1, 0, none⟩)] 66 (0, 0)) := by
    rw [hm]
    have e := heap_alloc_new W2 (.cells #[.pointer (some ⟨w.heap.size + 1, 0, none⟩)] 66)
    rw [hs2] at e
    exact (Lib.alloc_old _ _ _ (by rw [hs3]; omega)).trans e
  have hk3 : Kp (fun _ => False) W2 (wMap w) := by rw [hm]; exact ((Kp.refl _ _).alloc _).alloc _
  have hlen : maxLen = 9223372036854775807 := rfl
  obtain ⟨w5, h5, o5, g5⟩ := hown0.update intKeys Try.underlying70 (by omega) (key_of 1 (by decide)) (val := fStart (w.heap.size + 1)) (d := .held (fStart (w.heap.size + 1))) (ps := []) rfl
  obtain ⟨w6, h6, o6, g6⟩ := o5.update intKeys Try.underlying70 (by omega) (key_of 2 (by decide)) (val := fEnd (w.heap.size + 1)) (d := .held (fEnd (w.heap.size + 1))) (ps := []) rfl
  obtain ⟨w7, h7, o7, g7⟩ := o6.update intKeys Try.underlying70 (by omega) (key_of 0 (by decide)) (val := fText (w.heap.size + 1 + 1)) (d := .held (fText (w.heap.size + 1 + 1))) (ps := []) rfl
  have k5 := grown_kp g5
  have k6 := k5.trans (grown_kp g6) (fun _ _ e => e)
  have k7 := k6.trans (grown_kp g7) (fun _ _ e => e)
  have hlt := Buf.lt_of_heap hvar
  have hne : w.heap.size + 1 + 1 ≠ w.heap.size + 1 + 1 + 1 := by omega
  have v5 := (k5.block _ hlt hne).trans hvar
  have v6 := (k6.block _ hlt hne).trans hvar
  have v7 := (k7.block _ hlt hne).trans hvar
  refine ⟨w5, w6, w7, h5, h6, h7, by rw [Lib.cell_of_heap v5]; rfl, by rw [Lib.cell_of_heap v6]; rfl, ⟨?_, ⟨fun k => k = w.heap.size ∨ k = w.heap.size + 1, (hp.kp hk3 (fun _ _ h => h)).kp k7 (fun k e e2 => by omega), fun k e => by omega, by omega, by omega⟩, v7, o7⟩⟩
  exact (hB2.trans (hk3.below (by omega) (fun _ _ h => h))).trans (k7.below (by have := hk3.size; omega) (fun k hk e => by omega))

theorem step_size (x : S47) (s : Pg) : (s.step x).m.size ≤ s.m.size + x.f2.size + 201 ∧ (s.step x).names.length ≤ s.names.length + 1 ∧ (s.step x).kept ≤ s.kept + 1 := by
  have htag : ∀ (n : ByteArray) (m : M), (tagM n m).size ≤ m.size + 101 := fun n m => by
    have h1 : (brM n m).size ≤ m.size + 1 := by
      unfold brM
      split
      · exact line_size m
      · omega
    unfold tagM
    split
    · omega
    · have := brk_size (linesN n) (brM n m)
      omega
  have hbn : ∀ (n : ByteArray) (l : List ByteArray), (bodyN n l).length ≤ l.length := fun n l => by
    unfold bodyN
    split
    · exact List.length_filter_le _ _
    · exact Nat.le_refl _
  unfold Pg.step
  split
  · unfold Pg.start
    split
    · have := hbn x.f1 s.names
      refine ⟨by simp; omega, by simp; omega, by simp⟩
    · split
      · have := htag x.f1 s.m
        refine ⟨by simp only; omega, by simp, ?_⟩
        simp only
        split <;> omega
      · have := hbn x.f1 s.names
        refine ⟨by simp; omega, by simp only; omega, by simp⟩
  · split
    · unfold Pg.close
      split
      · refine ⟨by simp; omega, by simp; omega, by simp⟩
      · split
        · have := htag x.f1 s.m
          refine ⟨by simp only; omega, by simp, ?_⟩
          simp only
          split <;> omega
        · refine ⟨by omega, by omega, by omega⟩
    · split
      · unfold Pg.text
        split
        · have := put_size (decide (0 < s.kept)) x.f2.data.toList s.m
          have hl : x.f2.data.toList.length = x.f2.size := by simp
          refine ⟨by simp only; omega, by simp, by simp⟩
        · refine ⟨by omega, by omega, by omega⟩
      · refine ⟨by omega, by omega, by omega⟩
theorem all_size : ∀ (l : List S47) (s : Pg), (∀ x ∈ l, x.f2.size ≤ 10000) → (Pg.all l s).m.size ≤ s.m.size + 10300 * l.length ∧ (Pg.all l s).names.length ≤ s.names.length + l.length ∧ (Pg.all l s).kept ≤ s.kept + l.length
  | [], s, _ => by simp [Pg.all]
  | x :: l, s, h => by
    have h1 := all_size l (s.step x) (fun y hy => h y (List.mem_cons_of_mem _ hy))
    have h2 := step_size x s
    have h3 := h x List.mem_cons_self
    simp only [Pg.all, List.foldl_cons, List.length_cons] at h1 ⊢
    omega

/-- Are tokens of a size that is looked at here? -/
def fits (l : List S47) : Bool := decide (l.length ≤ 2000) && l.all fun x => decide (x.f2.size ≤ 10000) && (Lit.int .i64 x.f0).wf
theorem fits_all {l : List S47} (h : fits l = true) : l.length ≤ 2000 ∧ (∀ x ∈ l, x.f2.size ≤ 10000) ∧ ∀ x ∈ l, (Lit.int .i64 x.f0).wf = true := by
  unfold fits at h
  simp only [Bool.and_eq_true, decide_eq_true_eq, List.all_eq_true] at h
  exact ⟨h.1, fun x hx => (h.2 x hx).1, fun x hx => (h.2 x hx).2⟩
theorem tok_cells {w : World} {A : Option Addr} {l : List S47} (h : Kd.C k47 w A l.length l) (i : Nat) (hi : i < l.length) : ∃ ad A3 c3, A = some ad ∧ w.cell? (ad.add (i * 5)) = some (.int .i64 (l[i]).f0) ∧ w.cell? ⟨(ad.add (i * 5)).block, (ad.add (i * 5)).off + 1, none⟩ = some (.string (l[i]).f1) ∧ w.cell? ⟨(ad.add (i * 5)).block, (ad.add (i * 5)).off + 2, none⟩ = some (.string (l[i]).f2) ∧ w.cell? ⟨(ad.add (i * 5)).block, (ad.add (i * 5)).off + 3, none⟩ = some (.slice A3 (l[i]).f3.length c3) ∧ w.cell? ⟨(ad.add (i * 5)).block, (ad.add (i * 5)).off + 4, none⟩ = some (.bool (l[i]).f4) := by
  have hg : rd_T47 l (i : Int) = l[i] := by simp [rd_T47, hi]
  obtain ⟨ad, A3, c3, h1, h2, h3, h4, h5, h6, _⟩ := at_T47 h (i : Int) (by omega) (by omega)
  rw [hg] at h2 h3 h4 h5 h6
  exact ⟨ad, A3, c3, h1, by simpa using h2, by simpa using h3, by simpa using h4, by simpa using h5, by simpa using h6⟩
theorem zeroF (w : World) : (zeroValue 69).run Try.prog w = .ok .nilFunc w := by kernel_rfl
theorem take_one' (l : List S47) (i : Nat) (h : i < l.length) : l.take (i + 1) = l.take i ++ [l[i]] := by
  rw [List.take_succ_eq_append_getElem h]

set_option maxHeartbeats 8000000 in
set_option maxRecDepth 100000 in
theorem render_at (A : Option Addr) (c : Nat) (l : List S47) (w : World) (hr : Kd.C k47 w A l.length l) (hc : l.length ≤ c) (hf : fits l = true) :
    Calls Try.prog 27 #[.slice A l.length c] w fun e w' => e = .returned (.string ⟨(Pg.all l Pg.none).m.told.toArray⟩) ∧ Below w.heap.size w w' := by
  have hmm := @run_makeMap Try.prog
  have hmf : ∀ (fn : Fn) (first cap : Array Value) (w : World), (Instr.makeFunc fn first cap).run Try.prog w = .ok (.func fn first cap) w := fun _ _ _ _ => rfl
  obtain ⟨w5, w6, w7, h5, h6, h7, v5, v6, hR⟩ := render_start w
  unfold fStart wMap at h5
  unfold fEnd at h6
  unfold fText at h7
  have HR := Lib.hid hR
  have HC := Lib.hid hr
  have HF := Lib.hid (fits_all hf)
  have hl2 : l.length ≤ 2000 := HF.out.1
  clear hr hR hf
  go_enter Try.func27, Try.ntmps27
  go_wp2_with (go_at_call 17; refine (new_at w).mono ?_; rintro e w1 ⟨rfl, rfl⟩)
  obtain ⟨p, hp⟩ : ∃ p, w.heap.size + 1 = p := ⟨_, rfl⟩
  obtain ⟨B, hB⟩ : ∃ B, p + 1 = B := ⟨_, rfl⟩
  obtain ⟨r, hr⟩ : ∃ r, B + 1 = r := ⟨_, rfl⟩
  rw [hp, hB, hr] at HR
  clear h5 h6 h7 v5 v6
  simp only [hp, hB, hr]
  clear hp hB hr
  go_loopg [21] (l.length + 1) (fun kq v w' => ∃ i : Nat, v = .int .i64 i ∧ Hid (i ≤ l.length) ∧ Hid (l.length < i + kq) ∧ Hid (RAt w w' p B r (Pg.all (l.take i) Pg.none)))
  case atStart => exact ⟨0, rfl, Lib.hid (Nat.zero_le _), Lib.hid (by omega), HR⟩
  case round =>
    obtain ⟨i, rfl, HI, HK, HS⟩ := hrel
    clear HR
    have hi := HI.out
    by_cases hlt : i < l.length
    · have d1 : decide ((i : Int) < (l.length : Int)) = true := decide_eq_true (by omega)
      have d2 : decide (i < l.length) = true := decide_eq_true hlt
      obtain ⟨x, hx⟩ : ∃ x, l[i] = x := ⟨_, rfl⟩
      have hmem : x ∈ l := hx ▸ List.getElem_mem hlt
      have hwf := HF.out.2.2 x hmem
      have hts := HF.out.2.1 x hmem
      have hsz := all_size (l.take i) Pg.none (fun y hy => HF.out.2.1 y (List.mem_of_mem_take hy))
      obtain ⟨s0, hs0⟩ : ∃ s0, Pg.all (l.take i) Pg.none = s0 := ⟨_, rfl⟩
      have HN : Hid (Pg.all (l.take (i + 1)) Pg.none = s0.step x) := Lib.hid (by rw [take_one' l i hlt, hx, all_snoc, hs0])
      rw [hs0] at hsz HS
      have hlen : (l.take i).length ≤ 2000 := by simp; omega
      have h0 : Pg.none.m.size = 0 ∧ Pg.none.names.length = 0 ∧ Pg.none.kept = 0 := ⟨rfl, rfl, rfl⟩
      have hends : s0.m.ends ≤ s0.m.size := by unfold M.size; omega
      obtain ⟨ad, A3, c3, rfl, c0, c1, c2, c3', c4⟩ := tok_cells (Kd.C_below HC.out HS.out.below) i hlt
      rw [hx] at c0 c1 c2 c3' c4
      have HX := Lib.hid hx
      have HZ1 : Hid (s0.m.ends ≤ 900000000 ∧ s0.names.length ≤ 1000000000 ∧ s0.kept ≤ 1000000000) := Lib.hid (by omega)
      have HZ0 : Hid (s0.m.size + x.f2.size ≤ 1000000000) := Lib.hid (by omega)
      clear hx hmem hts hsz hlen h0 hends hs0
      have HA : Hid (RAt w (wr.alloc (.cells #[.int .i64 x.f0, .string x.f1, .string x.f2, .slice A3 x.f3.length c3, .bool x.f4] 47)) p B r s0) := Lib.hid (HS.out.then ((Below.refl _ wr).alloc (Nat.le_refl _) _))
      cases gk with
      | zero => exact absurd HK.out (by omega)
      | succ k1 =>
        rcases (show x.f0 = 1 ∨ x.f0 = 2 ∨ x.f0 = 0 ∨ (x.f0 ≠ 0 ∧ x.f0 ≠ 1 ∧ x.f0 ≠ 2) by omega) with hk | hk | hk | ⟨hk0, hk1, hk2⟩
        · rw [hk] at c0 HA
          have hst : s0.step x = s0.start x.f1 := by unfold Pg.step; rw [if_pos hk]
          obtain ⟨v, hlook, hv⟩ := r_look HA.out 1 (by decide) (zeroF _)
          rw [(does_start _ _ (.held .nilFunc)).1] at hv
          rw [(does_start _ _ (.held .nilFunc)).2] at hlook
          have hv := DataW.held.inj hv
          subst hv
          unfold fStart at hlook
          have HN2 : Hid (Pg.all (l.take (i + 1)) Pg.none = s0.start x.f1) := Lib.hid (by rw [HN.out, hst])
          clear hst hk
          go_wp2_with (go_at_call 38; refine (r_start HA _ _ _ _ _ _ _ HZ1).mono ?_; rintro e w8 ⟨rfl, h8⟩)
          go_roundg k1
          case measure => omega
          case rel => exact ⟨i + 1, by go_num, Lib.hid (by omega), Lib.hid (by have := HK.out; omega), by rw [HN2.out]; exact h8⟩
        · rw [hk] at c0 HA
          have hst : s0.step x = s0.close x.f1 := by unfold Pg.step; rw [if_neg (by rw [hk]; decide), if_pos hk]
          obtain ⟨v, hlook, hv⟩ := r_look HA.out 2 (by decide) (zeroF _)
          rw [(does_end _ _ (.held .nilFunc)).1] at hv
          rw [(does_end _ _ (.held .nilFunc)).2] at hlook
          have hv := DataW.held.inj hv
          subst hv
          unfold fEnd at hlook
          have HN2 : Hid (Pg.all (l.take (i + 1)) Pg.none = s0.close x.f1) := Lib.hid (by rw [HN.out, hst])
          clear hst hk
          go_wp2_with (go_at_call 39; refine (r_end HA _ _ _ _ _ _ _ HZ1).mono ?_; rintro e w8 ⟨rfl, h8⟩)
          go_roundg k1
          case measure => omega
          case rel => exact ⟨i + 1, by go_num, Lib.hid (by omega), Lib.hid (by have := HK.out; omega), by rw [HN2.out]; exact h8⟩
        · rw [hk] at c0 HA
          have hst : s0.step x = s0.text x.f2 := by unfold Pg.step; rw [if_neg (by rw [hk]; decide), if_neg (by rw [hk]; decide), if_pos hk]
          obtain ⟨v, hlook, hv⟩ := r_look HA.out 0 (by decide) (zeroF _)
          rw [(does_text _ _ (.held .nilFunc)).1] at hv
          rw [(does_text _ _ (.held .nilFunc)).2] at hlook
          have hv := DataW.held.inj hv
          subst hv
          unfold fText at hlook
          have HN2 : Hid (Pg.all (l.take (i + 1)) Pg.none = s0.text x.f2) := Lib.hid (by rw [HN.out, hst])
          clear hst hk
          go_wp2_with (go_at_call 40; refine (r_text HA _ _ _ _ _ _ _ HZ0).mono ?_; rintro e w8 ⟨rfl, h8⟩)
          go_roundg k1
          case measure => omega
          case rel => exact ⟨i + 1, by go_num, Lib.hid (by omega), Lib.hid (by have := HK.out; omega), by rw [HN2.out]; exact h8⟩
        · have hst : s0.step x = s0 := by unfold Pg.step; rw [if_neg hk1, if_neg hk2, if_neg hk0]
          obtain ⟨v, hlook, hv⟩ := r_look HA.out x.f0 hwf (zeroF _)
          rw [(does_other _ _ _ hk0 hk1 hk2 _).1] at hv
          rw [(does_other _ _ _ hk0 hk1 hk2 (.held .nilFunc)).2] at hlook
          have hv := DataW.held.inj hv
          subst hv
          have HN2 : Hid (Pg.all (l.take (i + 1)) Pg.none = s0) := Lib.hid (by rw [HN.out, hst])
          clear hst hk0 hk1 hk2
          go_wp2_with fail
          go_roundg k1
          case measure => omega
          case rel => exact ⟨i + 1, by go_num, Lib.hid (by omega), Lib.hid (by have := HK.out; omega), by rw [HN2.out]; exact HA⟩
    · have d1 : decide ((i : Int) < (l.length : Int)) = false := decide_eq_false (by omega)
      have d2 : decide (i < l.length) = false := decide_eq_false hlt
      have hie : i = l.length := by omega
      have HS2 : Hid (RAt w wr p B r (Pg.all l Pg.none)) := by
        have h := HS.out
        rw [hie, List.take_length] at h
        exact Lib.hid h
      clear HS hie
      obtain ⟨⟨f, e0⟩, e1⟩ := r_cells HS2.out
      go_wp2_with (go_at_call 20; refine (r_told HS2 e0).mono ?_; rintro e w8 ⟨rfl, h8⟩)
      go_ret
      exact ⟨rfl, h8.out.below⟩
end
end Go.Proofs.Ytaejicolhliecaa.Rend

/- render.Render as the print's texts want it: one plain function of the tokens, and its contract. -/
set_option linter.unusedVariables false
namespace Go.Proofs.Ytaejicolhliecaa.PRe
open Go.RowKit Go.Proofs.YtaejicolhliecaaW.PrintWords Go.Proofs.Ytaejicolhliecaa.Rend

def render_Render.f (l : List S47) : Option ByteArray := if fits l = true then some ⟨(Pg.all l Pg.none).m.told.toArray⟩ else none
theorem render_Render.calls (A0 : Option Addr) (c0 : Nat) (l0 : List S47) (r : ByteArray) (w : World) (hr0 : Kd.C k47 w A0 l0.length l0) (hc0 : l0.length ≤ c0) (h : render_Render.f l0 = some r) :
    Calls Try.prog 27 #[.slice A0 l0.length c0] w fun e w' => e = .returned (.string r) ∧ Below w.heap.size w w' := by
  unfold render_Render.f at h
  by_cases hf : fits l0 = true
  · rw [if_pos hf] at h
    have hr := Option.some.inj h
    subst hr
    exact render_at A0 c0 l0 w hr0 hc0 hf
  · rw [if_neg hf] at h
    cases h
end Go.Proofs.Ytaejicolhliecaa.PRe
