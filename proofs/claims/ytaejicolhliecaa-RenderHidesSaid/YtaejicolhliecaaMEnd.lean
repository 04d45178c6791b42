/- Several texts of this claim, laid together into one file. -/
import Derived.Test.YtaejicolhliecaaMRend
set_option linter.unusedSimpArgs false
set_option linter.unusedVariables false
/- A page: what an end tag does: the walk. -/
set_option linter.unusedVariables false
set_option linter.unusedSimpArgs false
namespace Go.Proofs.Ytaejicolhliecaa.Rend
open Go.RowKit Go.Lib Go.Shelf Go.Proofs.Ytaejicolhliecaa.Buf Go.Proofs.Ytaejicolhliecaa.Flow Go.Proofs.Ytaejicolhliecaa.PRe

attribute [local go_sem] Oper.semAt_some

section
variable {w w' w1 w2 : World} {p T : Nat} {F G : Nat → Prop} {s s1 s2 : Pg}

theorem below_setCell {n₀ : Nat} {A B : World} (h : Below n₀ A B) (q : Addr) (hq : q.block < n₀) (v : Value) : Below n₀ (A.setCell q v) (B.setCell q v) := by
  refine ⟨h.os, h.tape, h.output, by simpa [World.setCell] using h.size, fun k hk => ?_⟩
  have := h.block k hk
  simp only [World.setCell, Array.getElem?_modify, this]

/-- What the loop over the open names begins with. -/
structure EndAt (w w1 : World) (p : Nat) (F : Nat → Prop) (n : ByteArray) (a : Option Addr) (vc : Nat) (s : Pg) : Prop where
  page : Pge w1 p F s
  below : Below w.heap.size w w1
  size : w1.heap.size = w.heap.size + 3
  c0 : w1.cell? ⟨w.heap.size, 0, none⟩ = some (.pointer (some ⟨p, 0, none⟩))
  c1 : w1.cell? ⟨w.heap.size + 1, 1, none⟩ = some (.string n)
  c2 : w1.cell? ⟨w.heap.size + 1 + 1, 0, none⟩ = some (.slice a s.names.length vc)
  cp : w1.cell? ⟨p, 1, none⟩ = some (.slice a s.names.length vc)
  lt : p < w.heap.size
  own : ∀ k, F k → k < w.heap.size

theorem EndAt.names {n : ByteArray} {a : Option Addr} {vc : Nat} (h : EndAt w w1 p F n a vc s) : Names w1 w1.heap.size (.slice a s.names.length vc) s.names := by
  obtain ⟨f, v, G, hp⟩ := h.page
  have h1 := (page_cells hp).2.1
  rw [h.cp] at h1
  have hv := Option.some.inj h1
  subst hv
  exact names_of hp.row
theorem EndAt.frozen {n : ByteArray} {a : Option Addr} {vc : Nat} (h : EndAt w w1 p F n a vc s) (j : Nat) : w1.frozen? ⟨p, j, none⟩ = false := by
  obtain ⟨f, v, G, hp⟩ := h.page
  exact (page_cells hp).2.2.2 j
theorem EndAt.kept {n : ByteArray} {a : Option Addr} {vc : Nat} (h : EndAt w w1 p F n a vc s) : w1.cell? ⟨p, 2, none⟩ = some (.int .i64 s.kept) := by
  obtain ⟨f, v, G, hp⟩ := h.page
  exact (page_cells hp).2.2.1
/-- The open names are cut at place i. -/
theorem EndAt.cut {n : ByteArray} {a : Option Addr} {vc : Nat} (h : EndAt w w1 p F n a vc s) (i : Nat) (hi : i < s.names.length) {W : World} (hB : Below w1.heap.size (w1.setCell ⟨p, 1, none⟩ (.slice a i vc)) W) : PDoes w W p F { s with names := s.names.take i } := by
  obtain ⟨f, v, G, hp⟩ := h.page
  have h1 := (page_cells hp).2.1
  rw [h.cp] at h1
  have hv := Option.some.inj h1
  subst hv
  have hd : PDoes w1 (w1.setCell ⟨p, 1, none⟩ (.slice a i vc)) p F { s with names := s.names.take i } := by
    rcases hp.row.2 with ⟨e0, h0⟩ | ⟨g, cap, cur, e0, _⟩
    · omega
    · simp only [Value.slice.injEq] at e0
      obtain ⟨rfl, _, rfl⟩ := e0
      exact pd_row hp (Kp.refl _ _) (row_take (g := g) (cap := vc) (l := s.names) hp.row i (by omega)) (fun k e => Or.inl e)
  exact PDoes.of_below h.below (hd.below (by simpa [World.setCell] using hB))

theorem e_block {W : World} (h : PDoes W w' p F s) (k : Nat) (hk : k < W.heap.size) (hn : ¬ F k) : w'.heap[k]? = W.heap[k]? := by
  obtain ⟨F1, h1, h2, h3⟩ := h
  exact h2.block k hk hn
theorem e_put {W : World} (hb : Below w.heap.size w W) (h : PDoes W w' p F s) (D : Nat) (hD : D < W.heap.size) (hwD : w.heap.size ≤ D) (hF : ∀ k, F k → k < w.heap.size) (o : Obj) : PDoes w (w'.putObj D o) p F s := by
  obtain ⟨F1, h1, h2, h3⟩ := h
  have hk : Kp (fun k => k = D) w' (w'.putObj D o) := ⟨rfl, rfl, rfl, by simp, fun k hk hn => World.putObj_heap_other hn⟩
  refine ⟨F1, h1.kp hk (fun k e e2 => ?_), ?_, fun k e => (h3 k e).imp id (fun e2 => Nat.le_trans hb.size e2)⟩
  · rcases h3 k e with e3 | e3
    · have := hF k e3
      omega
    · omega
  · exact ((Kp.of_below hb F).trans h2 (fun _ _ e => e)).trans hk (fun k hk e => by omega)

/-- What the walk wants behind the loop, in whatever world a step leaves. -/
structure EndOn (w w' : World) (p : Nat) (F : Nat → Prop) (n : ByteArray) (s : Pg) (D : Nat) : Prop where
  c0 : w'.cell? ⟨w.heap.size, 0, none⟩ = some (.pointer (some ⟨p, 0, none⟩))
  c1 : w'.cell? ⟨w.heap.size + 1, 1, none⟩ = some (.string n)
  cp : ∃ a vc, w'.cell? ⟨p, 1, none⟩ = some (.slice a s.names.length vc)
  ck : w'.cell? ⟨p, 2, none⟩ = some (.int .i64 s.kept)
  fr : w'.frozen? ⟨p, 2, none⟩ = false
  d : w'.heap[D]? = some (.deferred (some []))
theorem EndAt.on {n : ByteArray} {a : Option Addr} {vc : Nat} (h : Hid (EndAt w w1 p F n a vc s)) {W : World} (hB : Hid (Below w1.heap.size w1 W)) {D : Nat} (hd : Hid (W.heap[D]? = some (.deferred (some [])))) (hD : Hid (w1.heap.size ≤ D)) {s' : Pg} (hP : Hid (PDoes W w' p F s')) : EndOn w w' p F n s' D := by
  have hsz := h.out.size
  have hB := hB.out
  have hdD := Buf.lt_of_heap hd.out
  have hs := hB.size
  have hDD := hD.out
  obtain ⟨F1, ⟨f, v, G, hp⟩, _⟩ := hP.out
  obtain ⟨x0, x1, x2, hf⟩ := page_cells hp
  obtain ⟨va, vc', rfl⟩ := own_len hp.row
  have e0 := e_block hP.out w.heap.size (by omega) (fun e => by have := h.out.own _ e; omega)
  have e1 := e_block hP.out (w.heap.size + 1) (by omega) (fun e => by have := h.out.own _ e; omega)
  have e2 := e_block hP.out D hdD (fun e => by have := h.out.own _ e; omega)
  refine ⟨(World.cell?_of_block (a := ⟨w.heap.size, 0, none⟩) e0).trans ((hB.cell (p := ⟨w.heap.size, 0, none⟩) (by show w.heap.size < _; omega)).trans h.out.c0), (World.cell?_of_block (a := ⟨w.heap.size + 1, 1, none⟩) e1).trans ((hB.cell (p := ⟨w.heap.size + 1, 1, none⟩) (by show w.heap.size + 1 < _; omega)).trans h.out.c1), ⟨va, vc', x1⟩, x2, hf 2, e2.trans hd.out⟩
theorem EndAt.out {n : ByteArray} {a : Option Addr} {vc : Nat} (h : Hid (EndAt w w1 p F n a vc s)) {W : World} (hB : Hid (Below w1.heap.size w1 W)) {D : Nat} (hd : Hid (W.heap[D]? = some (.deferred (some [])))) (hD : Hid (w1.heap.size ≤ D)) {s' : Pg} (hP : Hid (PDoes W w' p F s')) (o : Obj) : Hid (PDoes w (w'.putObj D o) p F s') := by
  have hsz := h.out.size
  have hDD := hD.out
  exact Lib.hid (e_put (h.out.below.trans (hB.out.mono (by omega))) hP.out D (Buf.lt_of_heap hd.out) (by omega) h.out.own o)
theorem e_deferred {n : ByteArray} {a : Option Addr} {vc : Nat} (h : Hid (EndAt w w1 p F n a vc s)) {W : World} (hB : Hid (Below w1.heap.size w1 W)) {D : Nat} (hd : Hid (W.heap[D]? = some (.deferred (some [])))) (hD : Hid (w1.heap.size ≤ D)) {s' : Pg} (hP : Hid (PDoes W w' p F s')) : w'.heap[D]? = some (.deferred (some [])) := (EndAt.on h hB hd hD hP).d
theorem e_page {n : ByteArray} {a : Option Addr} {vc : Nat} (h : Hid (EndAt w w1 p F n a vc s)) {W : World} (hB : Hid (Below w1.heap.size w1 W)) : Hid (PDoes W W p F s) := Lib.hid (h.out.page.below hB.out).refl
theorem e_lines {W : World} {n : ByteArray} (h : Hid (PDoes W w p F s)) (hb : Hid (s.m.ends ≤ 900000000)) : Calls Try.prog 55 #[.pointer (some ⟨p, 0, none⟩), .string n] w fun e w' => e = .returned (.tuple #[]) ∧ Hid (PDoes W w' p F { s with m := tagM n s.m }) := by
  obtain ⟨F1, h1, h2, h3⟩ := h.out
  refine (tag_at h1 n hb.out).mono ?_
  rintro e w' ⟨h4, h5⟩
  exact ⟨h4, Lib.hid (PDoes.trans' h2 h3 h5.out)⟩
theorem e_kept {W : World} (h : PDoes W w p F s) (x : Nat) : PDoes W (w.setCell ⟨p, 2, none⟩ (.int .i64 x)) p F { s with kept := x } := by
  obtain ⟨F1, ⟨f, v, G, hp⟩, h2, h3⟩ := h
  exact PDoes.trans' h2 h3 (pd_kept hp x)

theorem end_start (h : Pge w p F s) (k : Int) (n t : ByteArray) (A : Option Addr) (l c : Nat) (b : Bool) : ∃ a vc w1, (((w.alloc (.cells #[.pointer (some ⟨p, 0, none⟩)] 66)).alloc (.cells #[.int .i64 k, .string n, .string t, .slice A l c, .bool b] 47)).alloc (.cells #[.slice a s.names.length vc] 44)) = w1 ∧
    ((w.alloc (.cells #[.pointer (some ⟨p, 0, none⟩)] 66)).alloc (.cells #[.int .i64 k, .string n, .string t, .slice A l c, .bool b] 47)).cell? ⟨p, 1, none⟩ = some (.slice a s.names.length vc) ∧ EndAt w w1 p F n a vc s := by
  obtain ⟨f, v, G, hp⟩ := h
  obtain ⟨a, vc, rfl⟩ := own_len hp.row
  have hlt := Buf.lt_of_heap hp.heap
  have hB0 : Below w.heap.size w ((w.alloc (.cells #[.pointer (some ⟨p, 0, none⟩)] 66)).alloc (.cells #[.int .i64 k, .string n, .string t, .slice A l c, .bool b] 47)) := ((Below.refl _ w).alloc (Nat.le_refl _) _).alloc (by simp) _
  have hB1 : Below w.heap.size w (((w.alloc (.cells #[.pointer (some ⟨p, 0, none⟩)] 66)).alloc (.cells #[.int .i64 k, .string n, .string t, .slice A l c, .bool b] 47)).alloc (.cells #[.slice a s.names.length vc] 44)) := hB0.alloc (by simp; omega) _
  have e1 := heap_alloc_new w (.cells #[.pointer (some ⟨p, 0, none⟩)] 66)
  have e2 := heap_alloc_new (w.alloc (.cells #[.pointer (some ⟨p, 0, none⟩)] 66)) (.cells #[.int .i64 k, .string n, .string t, .slice A l c, .bool b] 47)
  have e3 := heap_alloc_new ((w.alloc (.cells #[.pointer (some ⟨p, 0, none⟩)] 66)).alloc (.cells #[.int .i64 k, .string n, .string t, .slice A l c, .bool b] 47)) (.cells #[.slice a s.names.length vc] 44)
  simp only [World.size_alloc] at e2 e3
  refine ⟨a, vc, _, rfl, (hB0.cell (p := ⟨p, 1, none⟩) hlt).trans (page_cells hp).2.1, ⟨Pge.below ⟨f, _, G, hp⟩ hB1, hB1, by simp, ?_, ?_, ?_, (hB1.cell (p := ⟨p, 1, none⟩) hlt).trans (page_cells hp).2.1, hlt, hp.fin⟩⟩
  · rw [Lib.cell_of_heap ((Lib.alloc_old _ _ _ (by simp; omega)).trans ((Lib.alloc_old _ _ _ (by simp)).trans e1))]; rfl
  · rw [Lib.cell_of_heap ((Lib.alloc_old _ _ _ (by simp)).trans e2)]; rfl
  · rw [Lib.cell_of_heap e3]; rfl

set_option maxHeartbeats 8000000 in
set_option maxRecDepth 100000 in
theorem end_at (h : Pge w p F s) (k : Int) (n t : ByteArray) (A : Option Addr) (l c : Nat) (b : Bool) (hb : s.m.ends ≤ 900000000) (hl : s.names.length ≤ 1000000000) (hk : s.kept ≤ 1000000000) :
    Calls Try.prog 39 #[.pointer (some ⟨p, 0, none⟩), tok k n t A l c b] w fun e w' => e = .returned (.tuple #[]) ∧ Hid (PDoes w w' p F (s.close n)) := by
  obtain ⟨a, vc, w1, hw1, cp, hE⟩ := end_start h k n t A l c b
  have HE := Lib.hid hE
  clear hE h
  unfold tok
  refine (callsIn_wide (n := 4)).1 ?_
  refine callsIn_of_wp_marks Try.func39 rfl trivial ?_ rfl
  simp only [Try.ntmps39, List.size_toArray, List.length_cons, List.length_nil, Nat.reduceAdd, Nat.reduceSub, Array.replicate_succ, Array.replicate_zero, List.push_toArray, List.append_toArray, List.nil_append, List.cons_append]
  gi_wp2_with (refine ⟨trivial, ?_⟩; gi_at_call 57; refine (back_in Fence.wide (4 - 1) trivial rfl _ _ _ _).mono ?_; rintro e w' ⟨rfl, rfl⟩)
  (try rw [hw1])
  clear cp hw1
  refine wpIn_rangeFunc_ownG rfl (by decide) (gf := 66) (lb := #[.pointer (some ⟨w.heap.size + 1 + 1, 0, none⟩)]) rfl trivial (enters_of Try.func66 (by kernel_rfl) rfl)
    (back_stops Fence.wide (4 - 1) trivial rfl (by decide) (w.heap.size + 1 + 1) w1.heap.size _ s.names hl w1 (by rw [HE.out.size]; omega) (Nat.le_refl _) HE.out.c2 HE.out.names) belowK_t (belowK_b (Nat.le_refl _)) (Below.refl _ _) (fun _ => rfl)
    (fun pre W => (∀ x ∈ pre, (fromBack s.names x).2.toList ≠ n.toList) ∧ Below w1.heap.size w1 W)
    (fun c pre W => c = .ret ∧ ∃ ini last, pre = ini ++ [last] ∧ (∀ x ∈ ini, (fromBack s.names x).2.toList ≠ n.toList) ∧ (fromBack s.names last).2.toList = n.toList ∧ Below w1.heap.size (w1.setCell ⟨p, 1, none⟩ (.slice a (fromBack s.names last).1 vc)) W)
    (OwnFrom.and (fun _ _ _ _ hs _ _ => hs) (ownFrom_below (Nat.le_refl _) (Nat.le_refl _)))
    (fun c s0 X Y row hs hg hr => by
      obtain ⟨hc, ini, last, e1, e2, e3, e4⟩ := hs
      exact ⟨hc, ini, last, e1, e2, e3, e4.grown hg (by have := e4.size; simpa [World.setCell] using this) (fun k e => (hr k e).1)⟩)
    ⟨by simp, Below.refl _ _⟩
    (fun x => { tmps := #[.pointer (some ⟨p, 0, none⟩), .agg #[.int .i64 k, .string n, .string t, .slice A l c, .bool b], .pointer (some ⟨w.heap.size, 0, none⟩), .pointer (some ⟨w.heap.size + 1, 0, none⟩), .int .i64 ((fromBack s.names x).1 : Int), .string (fromBack s.names x).2, .pointer (some ⟨p, 0, none⟩), .pointer (some ⟨p, 0, none⟩), .pointer (some ⟨p, 1, none⟩), .slice a s.names.length vc, .func (.func 66) #[] #[.pointer (some ⟨w.heap.size + 1 + 1, 0, none⟩)], .int .i64 ((fromBack s.names x).1 : Int), .string (fromBack s.names x).2, undef, undef, undef, undef, undef, undef, undef, undef, undef, undef, undef, undef, undef, undef, undef, undef, undef, undef, undef, undef, undef, undef, undef, undef, undef, undef, undef, undef, undef, undef, undef, undef, undef, undef, undef, undef, undef, undef, undef, undef], defers := [] }) ?assign ?body ?done ?stop
  case assign =>
    intro r x W K hK
    gi_wp2
    exact hK
  case body =>
    rintro r pre x W ⟨hpre, hB⟩ hlen
    have hsz := HE.out.size
    have hlt := HE.out.lt
    have b0 := (hB.cell (p := ⟨w.heap.size, 0, none⟩) (by show w.heap.size < _; omega)).trans HE.out.c0
    have b1 := (hB.cell (p := ⟨w.heap.size + 1, 1, none⟩) (by show w.heap.size + 1 < _; omega)).trans HE.out.c1
    have b2 := (hB.cell (p := ⟨p, 1, none⟩) (by show p < _; omega)).trans HE.out.cp
    have b3 := (World.frozen?_of_block (a := ⟨p, 1, none⟩) (hB.block p (by omega))).trans (HE.out.frozen 1)
    have HB := Lib.hid hB
    have HQ := Lib.hid hpre
    clear hB hpre hsz hlt
    obtain ⟨i, hi⟩ : ∃ i, (fromBack s.names x).1 = i := ⟨_, rfl⟩
    obtain ⟨y, hy⟩ : ∃ y, (fromBack s.names x).2 = y := ⟨_, rfl⟩
    have hil : i < s.names.length := by
      have : (fromBack s.names x).1 = s.names.length - 1 - x := rfl
      omega
    have HI := Lib.hid hi
    have HY := Lib.hid hy
    rw [hi, hy]
    clear hi hy
    obtain ⟨g, hga, hcap⟩ : ∃ g, a = some ⟨g, 0, none⟩ ∧ s.names.length ≤ vc := by
      rcases HE.out.names with ⟨e, e2⟩ | ⟨g, cap, e, _, hr⟩
      · rw [e2] at hil
        exact absurd hil (Nat.not_lt_zero _)
      · simp only [Value.slice.injEq] at e
        obtain ⟨_, _, hle, _⟩ := row_heap hr
        exact ⟨g, e.1, by rw [e.2.2]; exact hle⟩
    subst hga
    have hil2 : (i : Int) ≤ (vc : Int) := by omega
    have hil3 : i ≤ vc := by omega
    by_cases hx : y.toList = n.toList
    · have d1 : (y.toList == n.toList) = true := beq_iff_eq.2 hx
      have HX := Lib.hid hx
      clear hx
      gi_wp2
      have hmx : Try.prog.follows .mixedOrders = true := by kernel_rfl
      gi_region_with_o (fail)
      all_goals gi_wp2
      all_goals (
        have hB2 := below_setCell (HB.out.trans (Below.refl w1.heap.size W)) ⟨p, 1, none⟩ (show p < w1.heap.size by have := HE.out.lt; have := HE.out.size; omega) (.slice (some ⟨g, 0, none⟩) i vc)
        refine ⟨KeepsOthers.from (KeepsOthers.trans (KeepsOthers.drew _) (KeepsOthers.setCell _ _ _)) _, rfl, pre, x, rfl, HQ.out, by rw [HY.out]; exact HX.out, ?_⟩
        rw [HI.out]
        exact ⟨hB2.os, hB2.tape, hB2.output, hB2.size, hB2.block⟩)
    · have d1 : (y.toList == n.toList) = false := beq_eq_false_iff_ne.2 hx
      have HX := Lib.hid hx
      clear hx
      gi_wp2
      exact ⟨KeepsFrom.refl _ _, Below.refl _ _, fun z hz => (List.mem_append.1 hz).elim (HQ.out z) (fun e => by simp at e; subst e; rw [HY.out]; exact HX.out), HB.out⟩
  case done =>
    rintro D ys W hD rfl ⟨hne, hB⟩ hK
    have HD := Lib.hid hD
    have HB := Lib.hid hB
    have HK := Lib.hid hK
    have hlast : lastN n s.names = none := lastN_none (fun j hj => hne j (List.mem_range.2 hj))
    have HP := e_page HE HB
    have hon := EndAt.on HE HB HK HD HP
    have y0 := hon.c0
    have y1 := hon.c1
    obtain ⟨a2, vc2, y2⟩ := hon.cp
    have HM := Lib.hid hb
    clear hne hB hD hon
    have hc : s.close n = if s.names = [] then { s with kept := if hasN LK n = true then s.kept - 1 else s.kept, m := tagM n s.m } else s := by unfold Pg.close; rw [hlast]
    clear hlast
    by_cases hn : s.names = []
    · have q2 : decide ((0 : Int) < (s.names.length : Int)) = false := by rw [hn]; rfl
      have q3 : decide (0 < s.names.length) = false := by rw [hn]; rfl
      rw [if_pos hn] at hc
      have HC := Lib.hid hc
      clear hc hn
      have HKK := Lib.hid hk
      cases hks : hasN LK n with
      | true =>
        have HKs := Lib.hid hks
        by_cases hz : 0 < s.kept
        · have HZ := Lib.hid hz
          have z1 : decide ((0 : Int) < (s.kept : Int)) = true := decide_eq_true (by omega)
          have z2 : decide (0 < s.kept) = true := decide_eq_true hz
          have HC : Hid (s.close n = { s with kept := s.kept - 1, m := tagM n s.m }) := Lib.hid (by rw [HC.out, hks]; rfl)
          clear hks hz
          gi_wp2_with (first
            | (refine ⟨trivial, ?_⟩; gi_at_call 55; refine (callsIn_wide.2 (e_lines HP HM)).mono ?_; rintro e w4 ⟨rfl, h4⟩; obtain ⟨m0, m1, ⟨a4, vc4, m2⟩, m3, m4, m5⟩ := EndAt.on HE HB HK HD h4)
            | (refine ⟨trivial, ?_⟩; gi_at_call 56; refine (callsIn_wide.2 (pg_keeps h4)).mono ?_; rw [HKs.out]; rintro e w5 ⟨rfl, h5⟩; obtain ⟨n0, n1, ⟨a5, vc5, n2⟩, n3, n4, n5⟩ := EndAt.on HE HB HK HD h5))
          have hw : ((s.kept - 1 : Nat) : Int) = (s.kept : Int) - 1 := by have := HZ.out; omega
          have hz := e_kept h5.out (s.kept - 1)
          rw [hw] at hz
          refine ⟨by simp, .inl ⟨_, _, rfl, run_takeDeferred (by exact (e_deferred HE HB HK HD (Lib.hid hz))), ?_⟩⟩
          exact ⟨_, results_none rfl _ _ _, rfl, by rw [HC.out]; exact EndAt.out HE HB HK HD (Lib.hid hz) _⟩
        · have z1 : decide ((0 : Int) < (s.kept : Int)) = false := decide_eq_false (by omega)
          have z2 : decide (0 < s.kept) = false := decide_eq_false hz
          have HC : Hid (s.close n = { s with m := tagM n s.m }) := Lib.hid (by
            have e0 : s.kept - 1 = s.kept := by omega
            rw [HC.out, hks, e0]
            rfl)
          clear hks hz
          gi_wp2_with (first
            | (refine ⟨trivial, ?_⟩; gi_at_call 55; refine (callsIn_wide.2 (e_lines HP HM)).mono ?_; rintro e w4 ⟨rfl, h4⟩; obtain ⟨m0, m1, ⟨a4, vc4, m2⟩, m3, m4, m5⟩ := EndAt.on HE HB HK HD h4)
            | (refine ⟨trivial, ?_⟩; gi_at_call 56; refine (callsIn_wide.2 (pg_keeps h4)).mono ?_; rw [HKs.out]; rintro e w5 ⟨rfl, h5⟩; obtain ⟨n0, n1, ⟨a5, vc5, n2⟩, n3, n4, n5⟩ := EndAt.on HE HB HK HD h5))
          refine ⟨by simp, .inl ⟨_, _, rfl, run_takeDeferred (EndAt.on HE HB HK HD h5).d, ?_⟩⟩
          exact ⟨_, results_none rfl _ _ _, rfl, by rw [HC.out]; exact EndAt.out HE HB HK HD h5 _⟩
      | false =>
        have HKs := Lib.hid hks
        have HC : Hid (s.close n = { s with m := tagM n s.m }) := Lib.hid (by rw [HC.out, hks]; rfl)
        clear hks
        gi_wp2_with (first
          | (refine ⟨trivial, ?_⟩; gi_at_call 55; refine (callsIn_wide.2 (e_lines HP HM)).mono ?_; rintro e w4 ⟨rfl, h4⟩; obtain ⟨m0, m1, ⟨a4, vc4, m2⟩, m3, m4, m5⟩ := EndAt.on HE HB HK HD h4)
          | (refine ⟨trivial, ?_⟩; gi_at_call 56; refine (callsIn_wide.2 (pg_keeps h4)).mono ?_; rw [HKs.out]; rintro e w5 ⟨rfl, h5⟩; obtain ⟨n0, n1, ⟨a5, vc5, n2⟩, n3, n4, n5⟩ := EndAt.on HE HB HK HD h5))
        refine ⟨by simp, .inl ⟨_, _, rfl, run_takeDeferred (EndAt.on HE HB HK HD h5).d, ?_⟩⟩
        exact ⟨_, results_none rfl _ _ _, rfl, by rw [HC.out]; exact EndAt.out HE HB HK HD h5 _⟩
    · have q2 : decide ((0 : Int) < (s.names.length : Int)) = true := decide_eq_true (by have := List.length_pos_iff.2 hn; omega)
      have q3 : decide (0 < s.names.length) = true := decide_eq_true (List.length_pos_iff.2 hn)
      rw [if_neg hn] at hc
      have HC := Lib.hid hc
      clear hc hn
      gi_wp2
      refine ⟨by simp, .inl ⟨_, _, rfl, run_takeDeferred hK, ?_⟩⟩
      exact ⟨_, results_none rfl _ _ _, rfl, by rw [HC.out]; exact EndAt.out HE HB HK HD HP _⟩
  case stop =>
    rintro D c0 pre W hD ⟨k0, hk0, rfl⟩ ⟨rfl, ini, last, e1, e2, e3, hB⟩ hK
    gi_wp2
    refine ⟨by simp, .inl ⟨_, _, rfl, run_takeDeferred hK, ?_⟩⟩
    have hki : k0 = ini.length + 1 := by have := congrArg List.length e1; simpa using this
    rw [hki, List.range_succ] at e1
    obtain ⟨h5, h6⟩ := List.append_inj' e1 rfl
    have hlast : ini.length = last := by simpa using h6
    have hlt : last < s.names.length := by omega
    have hcl : s.close n = { s with names := s.names.take (fromBack s.names last).1 } := by
      unfold Pg.close
      rw [lastN_back hlt e3 (fun j hj => e2 j (by rw [← h5, List.mem_range]; omega))]
    have hfl : (fromBack s.names last).1 < s.names.length := by
      have : (fromBack s.names last).1 = s.names.length - 1 - last := rfl
      omega
    refine ⟨_, results_none rfl _ _ _, rfl, ?_⟩
    rw [hcl]
    exact Lib.hid (HE.out.cut _ hfl (hB.trans (belowK_b (w := w1) (Nat.le_refl _) W D _ _ hD hK rfl rfl)))
end
end Go.Proofs.Ytaejicolhliecaa.Rend
