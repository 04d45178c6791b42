/- Several texts of this claim, laid together into one file. -/
import Derived.Test.YteccaekalcjihaaGreatDoorLotJ
import Derived.Maps.OwnSet
import Derived.Carry
import Derived.Test.YteccaekalcjihaaGreatDoorLotH
import Derived.Test.YteccaekalcjihaaGreatDoorLotC
import Derived.Test.YteccaekalcjihaaGreatDoorLotE
import Derived.Deep.RegionWith
import Derived.Test.YteccaekalcjihaaGreatDoorLotB
import Derived.RegionTactic
import Derived.RegionCalls
import Derived.ChangeAlike
import Derived.Deep.LoopGhost
import Derived.Tactics
import Derived.Tactics2
import Derived.Defers
import Derived.Laws.Pointers
import Derived.Laws.LoneSync
set_option linter.unusedSimpArgs false
set_option linter.unusedVariables false
set_option linter.unusedVariables false
set_option linter.unusedSimpArgs false
namespace Go.Proofs.YteccaekalcjihaaGreatDoor.Rend
open Go.RowKit Go.Lib Go.Shelf Go.Proofs.YteccaekalcjihaaGreatDoor.Buf Go.Proofs.YteccaekalcjihaaGreatDoor.Flow Go.Proofs.YteccaekalcjihaaGreatDoor.PTn
attribute [local go_sem] Oper.semAt_some
section
variable {w w' w1 w2 : World} {p T : Nat} {F G : Nat → Prop} {s s1 s2 : Pg}
theorem below_setCell {n₀ : Nat} {A B : World} (h : Below n₀ A B) (q : Addr) (hq : q.block < n₀) (v : Value) : Below n₀ (A.setCell q v) (B.setCell q v) := by
  refine ⟨h.os, h.tape, h.output, by simpa [World.setCell] using h.size, fun k hk => ?_⟩
  have := h.block k hk
  simp only [World.setCell, Array.getElem?_modify, this]
structure EndAt (w w1 : World) (p : Nat) (F : Nat → Prop) (n : ByteArray) (a : Option Addr) (vc : Nat) (s : Pg) : Prop where
  page : Pge w1 p F s
  below : Below w.heap.size w w1
  size : w1.heap.size = w.heap.size + 3
  c0 : w1.cell? ⟨w.heap.size, 0, none⟩ = some (.pointer (some ⟨p, 0, none⟩))
  c1 : w1.cell? ⟨w.heap.size + 1, 1, none⟩ = some (.string n)
  c2 : w1.cell? ⟨w.heap.size + 1 + 1, 0, none⟩ = some (.slice a s.names.length vc)
  cp : w1.cell? ⟨p, 1, none⟩ = some (.slice a s.names.length vc)
  lt : p < w.heap.size
  own : ∀ k, F k → k < w.heap.size
theorem EndAt.names {n : ByteArray} {a : Option Addr} {vc : Nat} (h : EndAt w w1 p F n a vc s) : Names w1 w1.heap.size (.slice a s.names.length vc) s.names := by
  obtain ⟨f, v, G, hp⟩ := h.page
  have h1 := (page_cells hp).2.1
  rw [h.cp] at h1
  have hv := Option.some.inj h1
  subst hv
  exact names_of hp.row
theorem EndAt.frozen {n : ByteArray} {a : Option Addr} {vc : Nat} (h : EndAt w w1 p F n a vc s) (j : Nat) : w1.frozen? ⟨p, j, none⟩ = false := by
  obtain ⟨f, v, G, hp⟩ := h.page
  exact (page_cells hp).2.2.2 j
theorem EndAt.cut {n : ByteArray} {a : Option Addr} {vc : Nat} (h : EndAt w w1 p F n a vc s) (i : Nat) (hi : i < s.names.length) {W : World} (hB : Below w1.heap.size (w1.setCell ⟨p, 1, none⟩ (.slice a i vc)) W) : PDoes w W p F { s with names := s.names.take i } := by
  obtain ⟨f, v, G, hp⟩ := h.page
  have h1 := (page_cells hp).2.1
  rw [h.cp] at h1
  have hv := Option.some.inj h1
  subst hv
  have hd : PDoes w1 (w1.setCell ⟨p, 1, none⟩ (.slice a i vc)) p F { s with names := s.names.take i } := by
    rcases hp.row.2 with ⟨e0, h0⟩ | ⟨g, cap, cur, e0, _⟩
    · omega
    · simp only [Value.slice.injEq] at e0
      obtain ⟨rfl, _, rfl⟩ := e0
      exact pd_row hp (Kp.refl _ _) (row_take (g := g) (cap := vc) (l := s.names) hp.row i (by omega)) (fun k e => Or.inl e)
  exact PDoes.of_below h.below (hd.below (by simpa [World.setCell] using hB))
theorem e_block {W : World} (h : PDoes W w' p F s) (k : Nat) (hk : k < W.heap.size) (hn : ¬ F k) : w'.heap[k]? = W.heap[k]? := by
  obtain ⟨F1, h1, h2, h3⟩ := h
  exact h2.block k hk hn
theorem e_put {W : World} (hb : Below w.heap.size w W) (h : PDoes W w' p F s) (D : Nat) (hD : D < W.heap.size) (hwD : w.heap.size ≤ D) (hF : ∀ k, F k → k < w.heap.size) (o : Obj) : PDoes w (w'.putObj D o) p F s := by
  obtain ⟨F1, h1, h2, h3⟩ := h
  have hk : Kp (fun k => k = D) w' (w'.putObj D o) := ⟨rfl, rfl, rfl, by simp, fun k hk hn => World.putObj_heap_other hn⟩
  refine ⟨F1, h1.kp hk (fun k e e2 => ?_), ?_, fun k e => (h3 k e).imp id (fun e2 => Nat.le_trans hb.size e2)⟩
  · rcases h3 k e with e3 | e3
    · have := hF k e3
      omega
    · omega
  · exact ((Kp.of_below hb F).trans h2 (fun _ _ e => e)).trans hk (fun k hk e => by omega)
structure EndOn (w w' : World) (p : Nat) (F : Nat → Prop) (n : ByteArray) (s : Pg) (D : Nat) : Prop where
  c0 : w'.cell? ⟨w.heap.size, 0, none⟩ = some (.pointer (some ⟨p, 0, none⟩))
  c1 : w'.cell? ⟨w.heap.size + 1, 1, none⟩ = some (.string n)
  cp : ∃ a vc, w'.cell? ⟨p, 1, none⟩ = some (.slice a s.names.length vc)
  ck : w'.cell? ⟨p, 2, none⟩ = some (.int .i64 s.kept)
  fr : w'.frozen? ⟨p, 2, none⟩ = false
  d : w'.heap[D]? = some (.deferred (some []))
theorem EndAt.on {n : ByteArray} {a : Option Addr} {vc : Nat} (h : Hid (EndAt w w1 p F n a vc s)) {W : World} (hB : Hid (Below w1.heap.size w1 W)) {D : Nat} (hd : Hid (W.heap[D]? = some (.deferred (some [])))) (hD : Hid (w1.heap.size ≤ D)) {s' : Pg} (hP : Hid (PDoes W w' p F s')) : EndOn w w' p F n s' D := by
  have hsz := h.out.size
  have hB := hB.out
  have hdD := Buf.lt_of_heap hd.out
  have hs := hB.size
  have hDD := hD.out
  obtain ⟨F1, ⟨f, v, G, hp⟩, _⟩ := hP.out
  obtain ⟨x0, x1, x2, hf⟩ := page_cells hp
  obtain ⟨va, vc', rfl⟩ := own_len hp.row
  have e0 := e_block hP.out w.heap.size (by omega) (fun e => by have := h.out.own _ e; omega)
  have e1 := e_block hP.out (w.heap.size + 1) (by omega) (fun e => by have := h.out.own _ e; omega)
  have e2 := e_block hP.out D hdD (fun e => by have := h.out.own _ e; omega)
  refine ⟨(World.cell?_of_block (a := ⟨w.heap.size, 0, none⟩) e0).trans ((hB.cell (p := ⟨w.heap.size, 0, none⟩) (by show w.heap.size < _; omega)).trans h.out.c0), (World.cell?_of_block (a := ⟨w.heap.size + 1, 1, none⟩) e1).trans ((hB.cell (p := ⟨w.heap.size + 1, 1, none⟩) (by show w.heap.size + 1 < _; omega)).trans h.out.c1), ⟨va, vc', x1⟩, x2, hf 2, e2.trans hd.out⟩
theorem EndAt.out {n : ByteArray} {a : Option Addr} {vc : Nat} (h : Hid (EndAt w w1 p F n a vc s)) {W : World} (hB : Hid (Below w1.heap.size w1 W)) {D : Nat} (hd : Hid (W.heap[D]? = some (.deferred (some [])))) (hD : Hid (w1.heap.size ≤ D)) {s' : Pg} (hP : Hid (PDoes W w' p F s')) (o : Obj) : Hid (PDoes w (w'.putObj D o) p F s') := by
  have hsz := h.out.size
  have hDD := hD.out
  exact Lib.hid (e_put (h.out.below.trans (hB.out.mono (by omega))) hP.out D (Buf.lt_of_heap hd.out) (by omega) h.out.own o)
theorem e_deferred {n : ByteArray} {a : Option Addr} {vc : Nat} (h : Hid (EndAt w w1 p F n a vc s)) {W : World} (hB : Hid (Below w1.heap.size w1 W)) {D : Nat} (hd : Hid (W.heap[D]? = some (.deferred (some [])))) (hD : Hid (w1.heap.size ≤ D)) {s' : Pg} (hP : Hid (PDoes W w' p F s')) : w'.heap[D]? = some (.deferred (some [])) := (EndAt.on h hB hd hD hP).d
theorem e_page {n : ByteArray} {a : Option Addr} {vc : Nat} (h : Hid (EndAt w w1 p F n a vc s)) {W : World} (hB : Hid (Below w1.heap.size w1 W)) : Hid (PDoes W W p F s) := Lib.hid (h.out.page.below hB.out).refl
theorem e_lines {W : World} {n : ByteArray} (h : Hid (PDoes W w p F s)) (hb : Hid (s.m.ends ≤ 900000000)) : Calls Tryz.prog 97 #[.pointer (some ⟨p, 0, none⟩), .string n] w fun e w' => e = .returned (.tuple #[]) ∧ Hid (PDoes W w' p F { s with m := tagM n s.m }) := by
  obtain ⟨F1, h1, h2, h3⟩ := h.out
  refine (tag_at h1 n hb.out).mono ?_
  rintro e w' ⟨h4, h5⟩
  exact ⟨h4, Lib.hid (PDoes.trans' h2 h3 h5.out)⟩
theorem e_kept {W : World} (h : PDoes W w p F s) (x : Nat) : PDoes W (w.setCell ⟨p, 2, none⟩ (.int .i64 x)) p F { s with kept := x } := by
  obtain ⟨F1, ⟨f, v, G, hp⟩, h2, h3⟩ := h
  exact PDoes.trans' h2 h3 (pd_kept hp x)
theorem end_start (h : Pge w p F s) (k : Int) (n t : ByteArray) (A : Option Addr) (l c : Nat) (b : Bool) : ∃ a vc w1, (((w.alloc (.cells #[.pointer (some ⟨p, 0, none⟩)] 62)).alloc (.cells #[.int .i64 k, .string n, .string t, .slice A l c, .bool b] 40)).alloc (.cells #[.slice a s.names.length vc] 65)) = w1 ∧
    ((w.alloc (.cells #[.pointer (some ⟨p, 0, none⟩)] 62)).alloc (.cells #[.int .i64 k, .string n, .string t, .slice A l c, .bool b] 40)).cell? ⟨p, 1, none⟩ = some (.slice a s.names.length vc) ∧ EndAt w w1 p F n a vc s := by
  obtain ⟨f, v, G, hp⟩ := h
  obtain ⟨a, vc, rfl⟩ := own_len hp.row
  have hlt := Buf.lt_of_heap hp.heap
  have hB0 : Below w.heap.size w ((w.alloc (.cells #[.pointer (some ⟨p, 0, none⟩)] 62)).alloc (.cells #[.int .i64 k, .string n, .string t, .slice A l c, .bool b] 40)) := ((Below.refl _ w).alloc (Nat.le_refl _) _).alloc (by simp) _
  have hB1 : Below w.heap.size w (((w.alloc (.cells #[.pointer (some ⟨p, 0, none⟩)] 62)).alloc (.cells #[.int .i64 k, .string n, .string t, .slice A l c, .bool b] 40)).alloc (.cells #[.slice a s.names.length vc] 65)) := hB0.alloc (by simp; omega) _
  have e1 := heap_alloc_new w (.cells #[.pointer (some ⟨p, 0, none⟩)] 62)
  have e2 := heap_alloc_new (w.alloc (.cells #[.pointer (some ⟨p, 0, none⟩)] 62)) (.cells #[.int .i64 k, .string n, .string t, .slice A l c, .bool b] 40)
  have e3 := heap_alloc_new ((w.alloc (.cells #[.pointer (some ⟨p, 0, none⟩)] 62)).alloc (.cells #[.int .i64 k, .string n, .string t, .slice A l c, .bool b] 40)) (.cells #[.slice a s.names.length vc] 65)
  simp only [World.size_alloc] at e2 e3
  refine ⟨a, vc, _, rfl, (hB0.cell (p := ⟨p, 1, none⟩) hlt).trans (page_cells hp).2.1, ⟨Pge.below ⟨f, _, G, hp⟩ hB1, hB1, by simp, ?_, ?_, ?_, (hB1.cell (p := ⟨p, 1, none⟩) hlt).trans (page_cells hp).2.1, hlt, hp.fin⟩⟩
  · rw [Lib.cell_of_heap ((Lib.alloc_old _ _ _ (by simp; omega)).trans ((Lib.alloc_old _ _ _ (by simp)).trans e1))]; rfl
  · rw [Lib.cell_of_heap ((Lib.alloc_old _ _ _ (by simp)).trans e2)]; rfl
  · rw [Lib.cell_of_heap e3]; rfl
set_option maxHeartbeats 8000000 in
set_option maxRecDepth 100000 in
theorem end_at (h : Pge w p F s) (k : Int) (n t : ByteArray) (A : Option Addr) (l c : Nat) (b : Bool) (hb : s.m.ends ≤ 900000000) (hl : s.names.length ≤ 1000000000) (hk : s.kept ≤ 1000000000) :
    Calls Tryz.prog 39 #[.pointer (some ⟨p, 0, none⟩), tok k n t A l c b] w fun e w' => e = .returned (.tuple #[]) ∧ Hid (PDoes w w' p F (s.close n)) := by
  obtain ⟨a, vc, w1, hw1, cp, hE⟩ := end_start h k n t A l c b
  have HE := Lib.hid hE
  clear hE h
  unfold tok
  refine (callsIn_wide (n := 4)).1 ?_
  refine callsIn_of_wp_marks Tryz.func39 rfl trivial ?_ rfl
  simp only [Tryz.ntmps39, List.size_toArray, List.length_cons, List.length_nil, Nat.reduceAdd, Nat.reduceSub, Array.replicate_succ, Array.replicate_zero, List.push_toArray, List.append_toArray, List.nil_append, List.cons_append]
  gi_wp2_with (refine ⟨trivial, ?_⟩; gi_at_call 99; refine (back_in Fence.wide (4 - 1) trivial rfl _ _ _ _).mono ?_; rintro e w' ⟨rfl, rfl⟩)
  (try rw [hw1])
  clear cp hw1
  refine wpIn_rangeFunc_ownG rfl (by decide) (gf := 151) (lb := #[.pointer (some ⟨w.heap.size + 1 + 1, 0, none⟩)]) rfl trivial (enters_of Tryz.func151 (by kernel_rfl) rfl)
    (back_stops Fence.wide (4 - 1) trivial rfl (by decide) (w.heap.size + 1 + 1) w1.heap.size _ s.names hl w1 (by rw [HE.out.size]; omega) (Nat.le_refl _) HE.out.c2 HE.out.names) belowK_t (belowK_b (Nat.le_refl _)) (Below.refl _ _) (fun _ => rfl)
    (fun pre W => (∀ x ∈ pre, (fromBack s.names x).2.toList ≠ n.toList) ∧ Below w1.heap.size w1 W)
    (fun c pre W => c = .ret ∧ ∃ ini last, pre = ini ++ [last] ∧ (∀ x ∈ ini, (fromBack s.names x).2.toList ≠ n.toList) ∧ (fromBack s.names last).2.toList = n.toList ∧ Below w1.heap.size (w1.setCell ⟨p, 1, none⟩ (.slice a (fromBack s.names last).1 vc)) W)
    (OwnFrom.and (fun _ _ _ _ hs _ _ => hs) (ownFrom_below (Nat.le_refl _) (Nat.le_refl _)))
    (fun c s0 X Y row hs hg hr => by
      obtain ⟨hc, ini, last, e1, e2, e3, e4⟩ := hs
      exact ⟨hc, ini, last, e1, e2, e3, e4.grown hg (by have := e4.size; simpa [World.setCell] using this) (fun k e => (hr k e).1)⟩)
    ⟨by simp, Below.refl _ _⟩
    (fun x => { tmps := #[.pointer (some ⟨p, 0, none⟩), .agg #[.int .i64 k, .string n, .string t, .slice A l c, .bool b], .pointer (some ⟨w.heap.size, 0, none⟩), .pointer (some ⟨w.heap.size + 1, 0, none⟩), .int .i64 ((fromBack s.names x).1 : Int), .string (fromBack s.names x).2, .pointer (some ⟨p, 0, none⟩), .pointer (some ⟨p, 0, none⟩), .pointer (some ⟨p, 1, none⟩), .slice a s.names.length vc, .func (.func 151) #[] #[.pointer (some ⟨w.heap.size + 1 + 1, 0, none⟩)], .int .i64 ((fromBack s.names x).1 : Int), .string (fromBack s.names x).2, undef, undef, undef, undef, undef, undef, undef, undef, undef, undef, undef, undef, undef, undef, undef, undef, undef, undef, undef, undef, undef, undef, undef, undef, undef, undef, undef, undef, undef, undef, undef, undef, undef, undef, undef, undef, undef, undef, undef, undef], defers := [] }) ?assign ?body ?done ?stop
  case assign =>
    intro r x W K hK
    gi_wp2
    exact hK
  case body =>
    rintro r pre x W ⟨hpre, hB⟩ hlen
    have hsz := HE.out.size
    have hlt := HE.out.lt
    have b0 := (hB.cell (p := ⟨w.heap.size, 0, none⟩) (by show w.heap.size < _; omega)).trans HE.out.c0
    have b1 := (hB.cell (p := ⟨w.heap.size + 1, 1, none⟩) (by show w.heap.size + 1 < _; omega)).trans HE.out.c1
    have b2 := (hB.cell (p := ⟨p, 1, none⟩) (by show p < _; omega)).trans HE.out.cp
    have b3 := (World.frozen?_of_block (a := ⟨p, 1, none⟩) (hB.block p (by omega))).trans (HE.out.frozen 1)
    have HB := Lib.hid hB
    have HQ := Lib.hid hpre
    clear hB hpre hsz hlt
    obtain ⟨i, hi⟩ : ∃ i, (fromBack s.names x).1 = i := ⟨_, rfl⟩
    obtain ⟨y, hy⟩ : ∃ y, (fromBack s.names x).2 = y := ⟨_, rfl⟩
    have hil : i < s.names.length := by
      have : (fromBack s.names x).1 = s.names.length - 1 - x := rfl
      omega
    have HI := Lib.hid hi
    have HY := Lib.hid hy
    rw [hi, hy]
    clear hi hy
    obtain ⟨g, hga, hcap⟩ : ∃ g, a = some ⟨g, 0, none⟩ ∧ s.names.length ≤ vc := by
      rcases HE.out.names with ⟨e, e2⟩ | ⟨g, cap, e, _, hr⟩
      · rw [e2] at hil
        exact absurd hil (Nat.not_lt_zero _)
      · simp only [Value.slice.injEq] at e
        obtain ⟨_, _, hle, _⟩ := row_heap hr
        exact ⟨g, e.1, by rw [e.2.2]; exact hle⟩
    subst hga
    have hil2 : (i : Int) ≤ (vc : Int) := by omega
    have hil3 : i ≤ vc := by omega
    by_cases hx : y.toList = n.toList
    · have d1 : (y.toList == n.toList) = true := beq_iff_eq.2 hx
      have HX := Lib.hid hx
      clear hx
      gi_wp2
      have hmx : Tryz.prog.follows .mixedOrders = true := by kernel_rfl
      gi_region_with_o (fail)
      all_goals gi_wp2
      all_goals (
        have hB2 := below_setCell (HB.out.trans (Below.refl w1.heap.size W)) ⟨p, 1, none⟩ (show p < w1.heap.size by have := HE.out.lt; have := HE.out.size; omega) (.slice (some ⟨g, 0, none⟩) i vc)
        refine ⟨KeepsOthers.from (KeepsOthers.trans (KeepsOthers.drew _) (KeepsOthers.setCell _ _ _)) _, rfl, pre, x, rfl, HQ.out, by rw [HY.out]; exact HX.out, ?_⟩
        rw [HI.out]
        exact ⟨hB2.os, hB2.tape, hB2.output, hB2.size, hB2.block⟩)
    · have d1 : (y.toList == n.toList) = false := beq_eq_false_iff_ne.2 hx
      have HX := Lib.hid hx
      clear hx
      gi_wp2
      exact ⟨KeepsFrom.refl _ _, Below.refl _ _, fun z hz => (List.mem_append.1 hz).elim (HQ.out z) (fun e => by simp at e; subst e; rw [HY.out]; exact HX.out), HB.out⟩
  case done =>
    rintro D ys W hD rfl ⟨hne, hB⟩ hK
    have HD := Lib.hid hD
    have HB := Lib.hid hB
    have HK := Lib.hid hK
    have hlast : lastN n s.names = none := lastN_none (fun j hj => hne j (List.mem_range.2 hj))
    have HP := e_page HE HB
    have hon := EndAt.on HE HB HK HD HP
    have y0 := hon.c0
    have y1 := hon.c1
    obtain ⟨a2, vc2, y2⟩ := hon.cp
    have HM := Lib.hid hb
    clear hne hB hD hon
    have hc : s.close n = if s.names = [] then { s with kept := if hasN LK n = true then s.kept - 1 else s.kept, m := tagM n s.m } else s := by unfold Pg.close; rw [hlast]
    clear hlast
    by_cases hn : s.names = []
    · have q2 : decide ((0 : Int) < (s.names.length : Int)) = false := by rw [hn]; rfl
      have q3 : decide (0 < s.names.length) = false := by rw [hn]; rfl
      rw [if_pos hn] at hc
      have HC := Lib.hid hc
      clear hc hn
      have HKK := Lib.hid hk
      cases hks : hasN LK n with
      | true =>
        have HKs := Lib.hid hks
        by_cases hz : 0 < s.kept
        · have HZ := Lib.hid hz
          have z1 : decide ((0 : Int) < (s.kept : Int)) = true := decide_eq_true (by omega)
          have z2 : decide (0 < s.kept) = true := decide_eq_true hz
          have HC : Hid (s.close n = { s with kept := s.kept - 1, m := tagM n s.m }) := Lib.hid (by rw [HC.out, hks]; rfl)
          clear hks hz
          gi_wp2_with (first
            | (refine ⟨trivial, ?_⟩; gi_at_call 97; refine (callsIn_wide.2 (e_lines HP HM)).mono ?_; rintro e w4 ⟨rfl, h4⟩; obtain ⟨m0, m1, ⟨a4, vc4, m2⟩, m3, m4, m5⟩ := EndAt.on HE HB HK HD h4)
            | (refine ⟨trivial, ?_⟩; gi_at_call 98; refine (callsIn_wide.2 (pg_keeps h4)).mono ?_; rw [HKs.out]; rintro e w5 ⟨rfl, h5⟩; obtain ⟨n0, n1, ⟨a5, vc5, n2⟩, n3, n4, n5⟩ := EndAt.on HE HB HK HD h5))
          have hw : ((s.kept - 1 : Nat) : Int) = (s.kept : Int) - 1 := by have := HZ.out; omega
          have hz := e_kept h5.out (s.kept - 1)
          rw [hw] at hz
          refine ⟨by simp, .inl ⟨_, _, rfl, run_takeDeferred (by exact (e_deferred HE HB HK HD (Lib.hid hz))), ?_⟩⟩
          exact ⟨_, results_none rfl _ _ _, rfl, by rw [HC.out]; exact EndAt.out HE HB HK HD (Lib.hid hz) _⟩
        · have z1 : decide ((0 : Int) < (s.kept : Int)) = false := decide_eq_false (by omega)
          have z2 : decide (0 < s.kept) = false := decide_eq_false hz
          have HC : Hid (s.close n = { s with m := tagM n s.m }) := Lib.hid (by
            have e0 : s.kept - 1 = s.kept := by omega
            rw [HC.out, hks, e0]
            rfl)
          clear hks hz
          gi_wp2_with (first
            | (refine ⟨trivial, ?_⟩; gi_at_call 97; refine (callsIn_wide.2 (e_lines HP HM)).mono ?_; rintro e w4 ⟨rfl, h4⟩; obtain ⟨m0, m1, ⟨a4, vc4, m2⟩, m3, m4, m5⟩ := EndAt.on HE HB HK HD h4)
            | (refine ⟨trivial, ?_⟩; gi_at_call 98; refine (callsIn_wide.2 (pg_keeps h4)).mono ?_; rw [HKs.out]; rintro e w5 ⟨rfl, h5⟩; obtain ⟨n0, n1, ⟨a5, vc5, n2⟩, n3, n4, n5⟩ := EndAt.on HE HB HK HD h5))
          refine ⟨by simp, .inl ⟨_, _, rfl, run_takeDeferred (EndAt.on HE HB HK HD h5).d, ?_⟩⟩
          exact ⟨_, results_none rfl _ _ _, rfl, by rw [HC.out]; exact EndAt.out HE HB HK HD h5 _⟩
      | false =>
        have HKs := Lib.hid hks
        have HC : Hid (s.close n = { s with m := tagM n s.m }) := Lib.hid (by rw [HC.out, hks]; rfl)
        clear hks
        gi_wp2_with (first
          | (refine ⟨trivial, ?_⟩; gi_at_call 97; refine (callsIn_wide.2 (e_lines HP HM)).mono ?_; rintro e w4 ⟨rfl, h4⟩; obtain ⟨m0, m1, ⟨a4, vc4, m2⟩, m3, m4, m5⟩ := EndAt.on HE HB HK HD h4)
          | (refine ⟨trivial, ?_⟩; gi_at_call 98; refine (callsIn_wide.2 (pg_keeps h4)).mono ?_; rw [HKs.out]; rintro e w5 ⟨rfl, h5⟩; obtain ⟨n0, n1, ⟨a5, vc5, n2⟩, n3, n4, n5⟩ := EndAt.on HE HB HK HD h5))
        refine ⟨by simp, .inl ⟨_, _, rfl, run_takeDeferred (EndAt.on HE HB HK HD h5).d, ?_⟩⟩
        exact ⟨_, results_none rfl _ _ _, rfl, by rw [HC.out]; exact EndAt.out HE HB HK HD h5 _⟩
    · have q2 : decide ((0 : Int) < (s.names.length : Int)) = true := decide_eq_true (by have := List.length_pos_iff.2 hn; omega)
      have q3 : decide (0 < s.names.length) = true := decide_eq_true (List.length_pos_iff.2 hn)
      rw [if_neg hn] at hc
      have HC := Lib.hid hc
      clear hc hn
      gi_wp2
      refine ⟨by simp, .inl ⟨_, _, rfl, run_takeDeferred hK, ?_⟩⟩
      exact ⟨_, results_none rfl _ _ _, rfl, by rw [HC.out]; exact EndAt.out HE HB HK HD HP _⟩
  case stop =>
    rintro D c0 pre W hD ⟨k0, hk0, rfl⟩ ⟨rfl, ini, last, e1, e2, e3, hB⟩ hK
    gi_wp2
    refine ⟨by simp, .inl ⟨_, _, rfl, run_takeDeferred hK, ?_⟩⟩
    have hki : k0 = ini.length + 1 := by have := congrArg List.length e1; simpa using this
    rw [hki, List.range_succ] at e1
    obtain ⟨h5, h6⟩ := List.append_inj' e1 rfl
    have hlast : ini.length = last := by simpa using h6
    have hlt : last < s.names.length := by omega
    have hcl : s.close n = { s with names := s.names.take (fromBack s.names last).1 } := by
      unfold Pg.close
      rw [lastN_back hlt e3 (fun j hj => e2 j (by rw [← h5, List.mem_range]; omega))]
    have hfl : (fromBack s.names last).1 < s.names.length := by
      have : (fromBack s.names last).1 = s.names.length - 1 - last := rfl
      omega
    refine ⟨_, results_none rfl _ _ _, rfl, ?_⟩
    rw [hcl]
    exact Lib.hid (HE.out.cut _ hfl (hB.trans (belowK_b (w := w1) (Nat.le_refl _) W D _ _ hD hK rfl rfl)))
end
end Go.Proofs.YteccaekalcjihaaGreatDoor.Rend
set_option linter.unusedVariables false
set_option linter.unusedSimpArgs false
namespace Go.Proofs.YteccaekalcjihaaGreatDoor.Rend
open Go.RowKit Go.Lib Go.Maps Go.Proofs.YteccaekalcjihaaGreatDoor.Buf Go.Proofs.YteccaekalcjihaaGreatDoor.Flow Go.Proofs.YteccaekalcjihaaGreatDoor.PTn Go.Proofs.YteccaekalcjihaaGreatDoorW.PrintWords
def fStart (p : Nat) : Value := .func (.func 38) #[.pointer (some ⟨p, 0, none⟩)] #[]
def fEnd (p : Nat) : Value := .func (.func 39) #[.pointer (some ⟨p, 0, none⟩)] #[]
def fText (B : Nat) : Value := .func (.func 40) #[] #[.pointer (some ⟨B, 0, none⟩)]
def rdF (v : Value) : Option (DataW Value × List MemPlace) := some (.held v, [])
def li (k : Int) : Lit := .int .i64 k
def does0 : DataW Value := .map []
def does1 (p : Nat) : DataW Value := does0.put (li 1) (.held (fStart p))
def does2 (p : Nat) : DataW Value := (does1 p).put (li 2) (.held (fEnd p))
def does3 (p B : Nat) : DataW Value := (does2 p).put (li 0) (.held (fText B))
theorem intKeys : Keyed Tryz.prog 3 := int_keyed Tryz.underlying3
theorem key_of (k : Int) (h : (Lit.int .i64 k).wf = true) : keyOf Tryz.prog 3 (.int .i64 k) = some (li k) := keyOf_int_mk Tryz.underlying3 h
theorem li_ne {a b : Int} (h : a ≠ b) : li a ≠ li b := by
  intro e
  simp only [li, Lit.int.injEq] at e
  exact h e.2
theorem isKey (k : Int) : WideAt.IsKeyLit (li k) := by simp [li, WideAt.IsKeyLit]
theorem isMap0 : IsMap does0 := isMap_empty
theorem isMap1 (p : Nat) : IsMap (does1 p) := isMap0.put _ _
theorem isMap2 (p : Nat) : IsMap (does2 p) := (isMap1 p).put _ _
theorem does_start (p B : Nat) (z : DataW Value) : (does3 p B).atKey (li 1) z = .held (fStart p) ∧ Maps.has (does3 p B) (li 1) = true := by
  unfold does3 does2
  rw [atKey_put_other (li_ne (by decide)), atKey_put_other (li_ne (by decide)), has_put_other (li_ne (by decide)), has_put_other (li_ne (by decide))]
  exact ⟨atKey_put_same isMap0 (isKey 1) _ _, has_put_same isMap0 (isKey 1) _⟩
theorem does_end (p B : Nat) (z : DataW Value) : (does3 p B).atKey (li 2) z = .held (fEnd p) ∧ Maps.has (does3 p B) (li 2) = true := by
  unfold does3
  rw [atKey_put_other (li_ne (by decide)), has_put_other (li_ne (by decide))]
  exact ⟨atKey_put_same (isMap1 p) (isKey 2) _ _, has_put_same (isMap1 p) (isKey 2) _⟩
theorem does_text (p B : Nat) (z : DataW Value) : (does3 p B).atKey (li 0) z = .held (fText B) ∧ Maps.has (does3 p B) (li 0) = true :=
  ⟨atKey_put_same (isMap2 p) (isKey 0) _ _, has_put_same (isMap2 p) (isKey 0) _⟩
theorem does_other (p B : Nat) (k : Int) (h0 : k ≠ 0) (h1 : k ≠ 1) (h2 : k ≠ 2) (z : DataW Value) : (does3 p B).atKey (li k) z = z ∧ Maps.has (does3 p B) (li k) = false := by
  unfold does3 does2 does1
  rw [atKey_put_other (li_ne h0), atKey_put_other (li_ne h2), atKey_put_other (li_ne h1), has_put_other (li_ne h0), has_put_other (li_ne h2), has_put_other (li_ne h1)]
  exact ⟨rfl, rfl⟩
section
variable {w0 w w' : World} {p B r : Nat} {s s' : Pg}
structure RAt (w0 w : World) (p B r : Nat) (s : Pg) : Prop where
  below : Below w0.heap.size w0 w
  page : ∃ F, Pge w p F s ∧ (∀ k, F k → w0.heap.size ≤ k) ∧ ¬ F B ∧ ¬ F r
  var : w.heap[B]? = some (.cells #[.pointer (some ⟨p, 0, none⟩)] 62 (0, 0))
  map : w.ownsMap Tryz.prog 3 rdF r 3 (does3 p B)
theorem map_kp {F : Nat → Prop} {n : Nat} {D : DataW Value} (h : w.ownsMap Tryz.prog 3 rdF r n D) (hk : Kp F w w') (hn : ¬ F r) : w'.ownsMap Tryz.prog 3 rdF r n D := by
  have hlt := h.lt
  obtain ⟨es, clock, hb, hf, hs, hD⟩ := h
  exact ⟨es, clock, (hk.block r hlt hn).trans hb, hf, hs, hD⟩
theorem RAt.does (h : RAt w0 w p B r s) (hd : ∀ F, Pge w p F s → PDoes w w' p F s') : RAt w0 w' p B r s' := by
  obtain ⟨h1, ⟨F, h2, h3, h4, h5⟩, h6, h7⟩ := h
  obtain ⟨F', h8, h9, h10⟩ := hd F h2
  have hB := Buf.lt_of_heap h6
  have hr := h7.lt
  refine ⟨h1.trans (h9.below h1.size (fun k hk hf => by have := h3 k hf; omega)), ⟨F', h8, fun k hk => ?_, fun e => ?_, fun e => ?_⟩, (h9.block B hB h4).trans h6, map_kp h7 h9 h5⟩
  · rcases h10 k hk with e | e
    · exact h3 k e
    · exact Nat.le_trans h1.size e
  · rcases h10 B e with e | e
    · exact h4 e
    · omega
  · rcases h10 r e with e | e
    · exact h5 e
    · omega
theorem RAt.then (h : RAt w0 w p B r s) (hb : Below w.heap.size w w') : RAt w0 w' p B r s := h.does (fun F hp => hp.refl.below hb)
theorem r_call {f : Nat} {args : Array Value} {x : Ending} (h : Hid (RAt w0 w p B r s)) (hall : ∀ F, Pge w p F s → Calls Tryz.prog f args w fun e w' => e = x ∧ Hid (PDoes w w' p F s')) :
    Calls Tryz.prog f args w fun e w' => e = x ∧ Hid (RAt w0 w' p B r s') := by
  obtain ⟨F, h2, h3, h4, h5⟩ := h.out.page
  refine (hall F h2).mono ?_
  rintro e w' ⟨h6, h7⟩
  refine ⟨h6, Lib.hid ?_⟩
  obtain ⟨F', h8, h9, h10⟩ := h7.out
  have h1 := h.out.below
  have hB := Buf.lt_of_heap h.out.var
  have hr := h.out.map.lt
  refine ⟨h1.trans (h9.below h1.size (fun k hk hf => by have := h3 k hf; omega)), ⟨F', h8, fun k hk => ?_, fun e => ?_, fun e => ?_⟩, (h9.block B hB h4).trans h.out.var, map_kp h.out.map h9 h5⟩
  · rcases h10 k hk with e | e
    · exact h3 k e
    · exact Nat.le_trans h1.size e
  · rcases h10 B e with e | e
    · exact h4 e
    · omega
  · rcases h10 r e with e | e
    · exact h5 e
    · omega
theorem r_start (h : Hid (RAt w0 w p B r s)) (k : Int) (n t : ByteArray) (A : Option Addr) (l c : Nat) (b : Bool) (hb : Hid (s.m.ends ≤ 900000000 ∧ s.names.length ≤ 1000000000 ∧ s.kept ≤ 1000000000)) :
    Calls Tryz.prog 38 #[.pointer (some ⟨p, 0, none⟩), .agg #[.int .i64 k, .string n, .string t, .slice A l c, .bool b]] w fun e w' => e = .returned (.tuple #[]) ∧ Hid (RAt w0 w' p B r (s.start n)) :=
  r_call h (fun F hp => start_at hp k n t A l c b hb.out.1 hb.out.2.1 hb.out.2.2)
theorem r_end (h : Hid (RAt w0 w p B r s)) (k : Int) (n t : ByteArray) (A : Option Addr) (l c : Nat) (b : Bool) (hb : Hid (s.m.ends ≤ 900000000 ∧ s.names.length ≤ 1000000000 ∧ s.kept ≤ 1000000000)) :
    Calls Tryz.prog 39 #[.pointer (some ⟨p, 0, none⟩), .agg #[.int .i64 k, .string n, .string t, .slice A l c, .bool b]] w fun e w' => e = .returned (.tuple #[]) ∧ Hid (RAt w0 w' p B r (s.close n)) :=
  r_call h (fun F hp => end_at hp k n t A l c b hb.out.1 hb.out.2.1 hb.out.2.2)
theorem r_text (h : Hid (RAt w0 w p B r s)) (k : Int) (n t : ByteArray) (A : Option Addr) (l c : Nat) (b : Bool) (hb : Hid (s.m.size + t.size ≤ 1000000000)) :
    Calls Tryz.prog 40 #[.agg #[.int .i64 k, .string n, .string t, .slice A l c, .bool b], .pointer (some ⟨B, 0, none⟩)] w fun e w' => e = .returned (.tuple #[]) ∧ Hid (RAt w0 w' p B r (s.text t)) :=
  r_call h (fun F hp => text_at hp B (by rw [Lib.cell_of_heap h.out.var]; rfl) (Buf.lt_of_heap h.out.var) k n t A l c b hb.out)
theorem r_told (h : Hid (RAt w0 w p B r s)) {f : Nat} (hc : w.cell? ⟨p, 0, none⟩ = some (.pointer (some ⟨f, 0, none⟩))) :
    Calls Tryz.prog 42 #[.pointer (some ⟨f, 0, none⟩)] w fun e w' => e = .returned (.string ⟨s.m.told.toArray⟩) ∧ Hid (RAt w0 w' p B r s) :=
  r_call h (fun F hp => pg_text (Lib.hid hp) hc)
theorem r_look (h : RAt w0 w p B r s) (k : Int) (hk : (Lit.int .i64 k).wf = true) (hz : (zeroValue 68).run Tryz.prog w = .ok .nilFunc w) :
    ∃ v, (Instr.lookup 70 (.map (some r)) (.int .i64 k) true).run Tryz.prog w = .ok (.tuple #[v, .bool (Maps.has (does3 p B) (li k))]) w ∧ DataW.held v = (does3 p B).atKey (li k) (.held .nilFunc) := by
  obtain ⟨v, ps, h1, h2⟩ := h.map.look_ok intKeys Tryz.underlying70 hz (zd := .held .nilFunc) (zp := []) rfl (key_of k hk)
  refine ⟨v, h1, ?_⟩
  unfold rdF at h2
  simp only [Option.some.injEq, Prod.mk.injEq] at h2
  exact h2.1
theorem r_cells (h : RAt w0 w p B r s) : (∃ f, w.cell? ⟨p, 0, none⟩ = some (.pointer (some ⟨f, 0, none⟩))) ∧ w.cell? ⟨B, 0, none⟩ = some (.pointer (some ⟨p, 0, none⟩)) := by
  obtain ⟨F, h2, _⟩ := h.page
  exact ⟨pg_cell0 h2, by rw [Lib.cell_of_heap h.var]; rfl⟩
def wMap (w : World) : World := (((w.alloc (.cells #[.pointer none, .slice none 0 0, .int .i64 0, .slice none 0 0] 119)).alloc (.cells #[.pointer (some ⟨w.heap.size, 0, none⟩), .slice none 0 0, .int .i64 0] 67)).alloc (.cells #[.pointer (some ⟨w.heap.size + 1, 0, none⟩)] 62)).alloc (.map #[] 0)
theorem grown_kp {a b : World} {r : Nat} (h : a.grownBy b (some r)) : Kp (fun k => k = r) a b := ⟨h.os, h.tape, h.output, h.size, fun k hk hn => h.block k hk (fun e => hn (Option.some.inj e))⟩
theorem pg_new (w : World) : Pge ((w.alloc (.cells #[.pointer none, .slice none 0 0, .int .i64 0, .slice none 0 0] 119)).alloc (.cells #[.pointer (some ⟨w.heap.size, 0, none⟩), .slice none 0 0, .int .i64 0] 67)) (w.heap.size + 1) (fun k => k = w.heap.size ∨ k = w.heap.size + 1) Pg.none := by
  have e := heap_alloc_new (w.alloc (.cells #[.pointer none, .slice none 0 0, .int .i64 0, .slice none 0 0] 119)) (.cells #[.pointer (some ⟨w.heap.size, 0, none⟩), .slice none 0 0, .int .i64 0] 67)
  rw [World.size_alloc] at e
  refine ⟨w.heap.size, .slice none 0 0, fun k => k = w.heap.size, e, World.ownsRow_nil _ _ _ _, (new_fl w).kp (G := fun _ => False) ((Kp.refl _ _).alloc _) (fun _ _ h => h), Or.inr rfl, fun k e => by simp [Value.ownBlock] at e, fun k e => Or.inl e, by omega, fun k e => by simp [Value.ownBlock] at e, fun k e => ?_⟩
  simp
  omega
theorem render_start (w : World) : ∃ w5 w6 w7,
    (Instr.mapUpdate 70 (.map (some (w.heap.size + 1 + 1 + 1))) (.int .i64 1) (fStart (w.heap.size + 1))).run Tryz.prog (wMap w) = .ok () w5 ∧
    (Instr.mapUpdate 70 (.map (some (w.heap.size + 1 + 1 + 1))) (.int .i64 2) (fEnd (w.heap.size + 1))).run Tryz.prog w5 = .ok () w6 ∧
    (Instr.mapUpdate 70 (.map (some (w.heap.size + 1 + 1 + 1))) (.int .i64 0) (fText (w.heap.size + 1 + 1))).run Tryz.prog w6 = .ok () w7 ∧
    w5.cell? ⟨w.heap.size + 1 + 1, 0, none⟩ = some (.pointer (some ⟨w.heap.size + 1, 0, none⟩)) ∧ w6.cell? ⟨w.heap.size + 1 + 1, 0, none⟩ = some (.pointer (some ⟨w.heap.size + 1, 0, none⟩)) ∧
    RAt w w7 (w.heap.size + 1) (w.heap.size + 1 + 1) (w.heap.size + 1 + 1 + 1) Pg.none := by
  obtain ⟨W2, hW2⟩ : ∃ W2, (w.alloc (.cells #[.pointer none, .slice none 0 0, .int .i64 0, .slice none 0 0] 119)).alloc (.cells #[.pointer (some ⟨w.heap.size, 0, none⟩), .slice none 0 0, .int .i64 0] 67) = W2 := ⟨_, rfl⟩
  have hp := pg_new w
  have hB2 : Below w.heap.size w W2 := by rw [← hW2]; exact ((Below.refl _ w).alloc (Nat.le_refl _) _).alloc (by simp) _
  have hs2 : W2.heap.size = w.heap.size + 1 + 1 := by rw [← hW2]; simp
  rw [hW2] at hp
  have hm : wMap w = (W2.alloc (.cells #[.pointer (some ⟨w.heap.size + 1, 0, none⟩)] 62)).alloc (.map #[] 0) := by rw [← hW2]; rfl
  have hs3 : (W2.alloc (.cells #[.pointer (some ⟨w.heap.size + 1, 0, none⟩)] 62)).heap.size = w.heap.size + 1 + 1 + 1 := by simp [hs2]
  have hown0 := World.ownsMap_made (W2.alloc (.cells #[.pointer (some ⟨w.heap.size + 1, 0, none⟩)] 62)) Tryz.prog 3 rdF
  rw [← hm, hs3] at hown0
  have hvar : (wMap w).heap[w.heap.size + 1 + 1]? = some (.cells #[.pointer (some ⟨w.heap.size + 1, 0, none⟩)] 62 (0, 0)) := by
    rw [hm]
    have e := heap_alloc_new W2 (.cells #[.pointer (some ⟨w.heap.size + 1, 0, none⟩)] 62)
    rw [hs2] at e
    exact (Lib.alloc_old _ _ _ (by rw [hs3]; omega)).trans e
  have hk3 : Kp (fun _ => False) W2 (wMap w) := by rw [hm]; exact ((Kp.refl _ _).alloc _).alloc _
  have hlen : maxLen = 9223372036854775807 := rfl
  obtain ⟨w5, h5, o5, g5⟩ := hown0.update intKeys Tryz.underlying70 (by omega) (key_of 1 (by decide)) (val := fStart (w.heap.size + 1)) (d := .held (fStart (w.heap.size + 1))) (ps := []) rfl
  obtain ⟨w6, h6, o6, g6⟩ := o5.update intKeys Tryz.underlying70 (by omega) (key_of 2 (by decide)) (val := fEnd (w.heap.size + 1)) (d := .held (fEnd (w.heap.size + 1))) (ps := []) rfl
  obtain ⟨w7, h7, o7, g7⟩ := o6.update intKeys Tryz.underlying70 (by omega) (key_of 0 (by decide)) (val := fText (w.heap.size + 1 + 1)) (d := .held (fText (w.heap.size + 1 + 1))) (ps := []) rfl
  have k5 := grown_kp g5
  have k6 := k5.trans (grown_kp g6) (fun _ _ e => e)
  have k7 := k6.trans (grown_kp g7) (fun _ _ e => e)
  have hlt := Buf.lt_of_heap hvar
  have hne : w.heap.size + 1 + 1 ≠ w.heap.size + 1 + 1 + 1 := by omega
  have v5 := (k5.block _ hlt hne).trans hvar
  have v6 := (k6.block _ hlt hne).trans hvar
  have v7 := (k7.block _ hlt hne).trans hvar
  refine ⟨w5, w6, w7, h5, h6, h7, by rw [Lib.cell_of_heap v5]; rfl, by rw [Lib.cell_of_heap v6]; rfl, ⟨?_, ⟨fun k => k = w.heap.size ∨ k = w.heap.size + 1, (hp.kp hk3 (fun _ _ h => h)).kp k7 (fun k e e2 => by omega), fun k e => by omega, by omega, by omega⟩, v7, o7⟩⟩
  exact (hB2.trans (hk3.below (by omega) (fun _ _ h => h))).trans (k7.below (by have := hk3.size; omega) (fun k hk e => by omega))
theorem step_size (x : S40) (s : Pg) : (s.step x).m.size ≤ s.m.size + x.f2.size + 201 ∧ (s.step x).names.length ≤ s.names.length + 1 ∧ (s.step x).kept ≤ s.kept + 1 := by
  have htag : ∀ (n : ByteArray) (m : M), (tagM n m).size ≤ m.size + 101 := fun n m => by
    have h1 : (brM n m).size ≤ m.size + 1 := by
      unfold brM
      split
      · exact line_size m
      · omega
    unfold tagM
    split
    · omega
    · have := brk_size (linesN n) (brM n m)
      omega
  have hbn : ∀ (n : ByteArray) (l : List ByteArray), (bodyN n l).length ≤ l.length := fun n l => by
    unfold bodyN
    split
    · exact List.length_filter_le _ _
    · exact Nat.le_refl _
  unfold Pg.step
  split
  · unfold Pg.start
    split
    · have := hbn x.f1 s.names
      refine ⟨by simp; omega, by simp; omega, by simp⟩
    · split
      · have := htag x.f1 s.m
        refine ⟨by simp only; omega, by simp, ?_⟩
        simp only
        split <;> omega
      · have := hbn x.f1 s.names
        refine ⟨by simp; omega, by simp only; omega, by simp⟩
  · split
    · unfold Pg.close
      split
      · refine ⟨by simp; omega, by simp; omega, by simp⟩
      · split
        · have := htag x.f1 s.m
          refine ⟨by simp only; omega, by simp, ?_⟩
          simp only
          split <;> omega
        · refine ⟨by omega, by omega, by omega⟩
    · split
      · unfold Pg.text
        split
        · have := put_size (decide (0 < s.kept)) x.f2.data.toList s.m
          have hl : x.f2.data.toList.length = x.f2.size := by simp
          refine ⟨by simp only; omega, by simp, by simp⟩
        · refine ⟨by omega, by omega, by omega⟩
      · refine ⟨by omega, by omega, by omega⟩
theorem all_size : ∀ (l : List S40) (s : Pg), (∀ x ∈ l, x.f2.size ≤ 10000) → (Pg.all l s).m.size ≤ s.m.size + 10300 * l.length ∧ (Pg.all l s).names.length ≤ s.names.length + l.length ∧ (Pg.all l s).kept ≤ s.kept + l.length
  | [], s, _ => by simp [Pg.all]
  | x :: l, s, h => by
    have h1 := all_size l (s.step x) (fun y hy => h y (List.mem_cons_of_mem _ hy))
    have h2 := step_size x s
    have h3 := h x List.mem_cons_self
    simp only [Pg.all, List.foldl_cons, List.length_cons] at h1 ⊢
    omega
def fits (l : List S40) : Bool := decide (l.length ≤ 2000) && l.all fun x => decide (x.f2.size ≤ 10000) && (Lit.int .i64 x.f0).wf
theorem fits_all {l : List S40} (h : fits l = true) : l.length ≤ 2000 ∧ (∀ x ∈ l, x.f2.size ≤ 10000) ∧ ∀ x ∈ l, (Lit.int .i64 x.f0).wf = true := by
  unfold fits at h
  simp only [Bool.and_eq_true, decide_eq_true_eq, List.all_eq_true] at h
  exact ⟨h.1, fun x hx => (h.2 x hx).1, fun x hx => (h.2 x hx).2⟩
theorem tok_cells {w : World} {A : Option Addr} {l : List S40} (h : Kd.C k40 w A l.length l) (i : Nat) (hi : i < l.length) : ∃ ad A3 c3, A = some ad ∧ w.cell? (ad.add (i * 5)) = some (.int .i64 (l[i]).f0) ∧ w.cell? ⟨(ad.add (i * 5)).block, (ad.add (i * 5)).off + 1, none⟩ = some (.string (l[i]).f1) ∧ w.cell? ⟨(ad.add (i * 5)).block, (ad.add (i * 5)).off + 2, none⟩ = some (.string (l[i]).f2) ∧ w.cell? ⟨(ad.add (i * 5)).block, (ad.add (i * 5)).off + 3, none⟩ = some (.slice A3 (l[i]).f3.length c3) ∧ w.cell? ⟨(ad.add (i * 5)).block, (ad.add (i * 5)).off + 4, none⟩ = some (.bool (l[i]).f4) := by
  have hg : rd_T40 l (i : Int) = l[i] := by simp [rd_T40, hi]
  obtain ⟨ad, A3, c3, h1, h2, h3, h4, h5, h6, _⟩ := at_T40 h (i : Int) (by omega) (by omega)
  rw [hg] at h2 h3 h4 h5 h6
  exact ⟨ad, A3, c3, h1, by simpa using h2, by simpa using h3, by simpa using h4, by simpa using h5, by simpa using h6⟩
theorem zeroF (w : World) : (zeroValue 68).run Tryz.prog w = .ok .nilFunc w := by kernel_rfl
theorem take_one' (l : List S40) (i : Nat) (h : i < l.length) : l.take (i + 1) = l.take i ++ [l[i]] := by
  rw [List.take_succ_eq_append_getElem h]
set_option maxHeartbeats 8000000 in
set_option maxRecDepth 100000 in
theorem render_at (A : Option Addr) (c : Nat) (l : List S40) (w : World) (hr : Kd.C k40 w A l.length l) (hc : l.length ≤ c) (hf : fits l = true) :
    Calls Tryz.prog 14 #[.slice A l.length c] w fun e w' => e = .returned (.string ⟨(Pg.all l Pg.none).m.told.toArray⟩) ∧ Below w.heap.size w w' := by
  have hmm := @run_makeMap Tryz.prog
  have hmf : ∀ (fn : Fn) (first cap : Array Value) (w : World), (Instr.makeFunc fn first cap).run Tryz.prog w = .ok (.func fn first cap) w := fun _ _ _ _ => rfl
  obtain ⟨w5, w6, w7, h5, h6, h7, v5, v6, hR⟩ := render_start w
  unfold fStart wMap at h5
  unfold fEnd at h6
  unfold fText at h7
  have HR := Lib.hid hR
  have HC := Lib.hid hr
  have HF := Lib.hid (fits_all hf)
  have hl2 : l.length ≤ 2000 := HF.out.1
  clear hr hR hf
  go_enter Tryz.func14, Tryz.ntmps14
  go_wp2_with (go_at_call 37; refine (new_at w).mono ?_; rintro e w1 ⟨rfl, rfl⟩)
  obtain ⟨p, hp⟩ : ∃ p, w.heap.size + 1 = p := ⟨_, rfl⟩
  obtain ⟨B, hB⟩ : ∃ B, p + 1 = B := ⟨_, rfl⟩
  obtain ⟨r, hr⟩ : ∃ r, B + 1 = r := ⟨_, rfl⟩
  rw [hp, hB, hr] at HR
  clear h5 h6 h7 v5 v6
  simp only [hp, hB, hr]
  clear hp hB hr
  go_loopg [21] (l.length + 1) (fun kq v w' => ∃ i : Nat, v = .int .i64 i ∧ Hid (i ≤ l.length) ∧ Hid (l.length < i + kq) ∧ Hid (RAt w w' p B r (Pg.all (l.take i) Pg.none)))
  case atStart => exact ⟨0, rfl, Lib.hid (Nat.zero_le _), Lib.hid (by omega), HR⟩
  case round =>
    obtain ⟨i, rfl, HI, HK, HS⟩ := hrel
    clear HR
    have hi := HI.out
    by_cases hlt : i < l.length
    · have d1 : decide ((i : Int) < (l.length : Int)) = true := decide_eq_true (by omega)
      have d2 : decide (i < l.length) = true := decide_eq_true hlt
      obtain ⟨x, hx⟩ : ∃ x, l[i] = x := ⟨_, rfl⟩
      have hmem : x ∈ l := hx ▸ List.getElem_mem hlt
      have hwf := HF.out.2.2 x hmem
      have hts := HF.out.2.1 x hmem
      have hsz := all_size (l.take i) Pg.none (fun y hy => HF.out.2.1 y (List.mem_of_mem_take hy))
      obtain ⟨s0, hs0⟩ : ∃ s0, Pg.all (l.take i) Pg.none = s0 := ⟨_, rfl⟩
      have HN : Hid (Pg.all (l.take (i + 1)) Pg.none = s0.step x) := Lib.hid (by rw [take_one' l i hlt, hx, all_snoc, hs0])
      rw [hs0] at hsz HS
      have hlen : (l.take i).length ≤ 2000 := by simp; omega
      have h0 : Pg.none.m.size = 0 ∧ Pg.none.names.length = 0 ∧ Pg.none.kept = 0 := ⟨rfl, rfl, rfl⟩
      have hends : s0.m.ends ≤ s0.m.size := by unfold M.size; omega
      obtain ⟨ad, A3, c3, rfl, c0, c1, c2, c3', c4⟩ := tok_cells (Kd.C_below HC.out HS.out.below) i hlt
      rw [hx] at c0 c1 c2 c3' c4
      have HX := Lib.hid hx
      have HZ1 : Hid (s0.m.ends ≤ 900000000 ∧ s0.names.length ≤ 1000000000 ∧ s0.kept ≤ 1000000000) := Lib.hid (by omega)
      have HZ0 : Hid (s0.m.size + x.f2.size ≤ 1000000000) := Lib.hid (by omega)
      clear hx hmem hts hsz hlen h0 hends hs0
      have HA : Hid (RAt w (wr.alloc (.cells #[.int .i64 x.f0, .string x.f1, .string x.f2, .slice A3 x.f3.length c3, .bool x.f4] 40)) p B r s0) := Lib.hid (HS.out.then ((Below.refl _ wr).alloc (Nat.le_refl _) _))
      cases gk with
      | zero => exact absurd HK.out (by omega)
      | succ k1 =>
        rcases (show x.f0 = 1 ∨ x.f0 = 2 ∨ x.f0 = 0 ∨ (x.f0 ≠ 0 ∧ x.f0 ≠ 1 ∧ x.f0 ≠ 2) by omega) with hk | hk | hk | ⟨hk0, hk1, hk2⟩
        · rw [hk] at c0 HA
          have hst : s0.step x = s0.start x.f1 := by unfold Pg.step; rw [if_pos hk]
          obtain ⟨v, hlook, hv⟩ := r_look HA.out 1 (by decide) (zeroF _)
          rw [(does_start _ _ (.held .nilFunc)).1] at hv
          rw [(does_start _ _ (.held .nilFunc)).2] at hlook
          have hv := DataW.held.inj hv
          subst hv
          unfold fStart at hlook
          have HN2 : Hid (Pg.all (l.take (i + 1)) Pg.none = s0.start x.f1) := Lib.hid (by rw [HN.out, hst])
          clear hst hk
          go_wp2_with (go_at_call 38; refine (r_start HA _ _ _ _ _ _ _ HZ1).mono ?_; rintro e w8 ⟨rfl, h8⟩)
          go_roundg k1
          case measure => omega
          case rel => exact ⟨i + 1, by go_num, Lib.hid (by omega), Lib.hid (by have := HK.out; omega), by rw [HN2.out]; exact h8⟩
        · rw [hk] at c0 HA
          have hst : s0.step x = s0.close x.f1 := by unfold Pg.step; rw [if_neg (by rw [hk]; decide), if_pos hk]
          obtain ⟨v, hlook, hv⟩ := r_look HA.out 2 (by decide) (zeroF _)
          rw [(does_end _ _ (.held .nilFunc)).1] at hv
          rw [(does_end _ _ (.held .nilFunc)).2] at hlook
          have hv := DataW.held.inj hv
          subst hv
          unfold fEnd at hlook
          have HN2 : Hid (Pg.all (l.take (i + 1)) Pg.none = s0.close x.f1) := Lib.hid (by rw [HN.out, hst])
          clear hst hk
          go_wp2_with (go_at_call 39; refine (r_end HA _ _ _ _ _ _ _ HZ1).mono ?_; rintro e w8 ⟨rfl, h8⟩)
          go_roundg k1
          case measure => omega
          case rel => exact ⟨i + 1, by go_num, Lib.hid (by omega), Lib.hid (by have := HK.out; omega), by rw [HN2.out]; exact h8⟩
        · rw [hk] at c0 HA
          have hst : s0.step x = s0.text x.f2 := by unfold Pg.step; rw [if_neg (by rw [hk]; decide), if_neg (by rw [hk]; decide), if_pos hk]
          obtain ⟨v, hlook, hv⟩ := r_look HA.out 0 (by decide) (zeroF _)
          rw [(does_text _ _ (.held .nilFunc)).1] at hv
          rw [(does_text _ _ (.held .nilFunc)).2] at hlook
          have hv := DataW.held.inj hv
          subst hv
          unfold fText at hlook
          have HN2 : Hid (Pg.all (l.take (i + 1)) Pg.none = s0.text x.f2) := Lib.hid (by rw [HN.out, hst])
          clear hst hk
          go_wp2_with (go_at_call 40; refine (r_text HA _ _ _ _ _ _ _ HZ0).mono ?_; rintro e w8 ⟨rfl, h8⟩)
          go_roundg k1
          case measure => omega
          case rel => exact ⟨i + 1, by go_num, Lib.hid (by omega), Lib.hid (by have := HK.out; omega), by rw [HN2.out]; exact h8⟩
        · have hst : s0.step x = s0 := by unfold Pg.step; rw [if_neg hk1, if_neg hk2, if_neg hk0]
          obtain ⟨v, hlook, hv⟩ := r_look HA.out x.f0 hwf (zeroF _)
          rw [(does_other _ _ _ hk0 hk1 hk2 _).1] at hv
          rw [(does_other _ _ _ hk0 hk1 hk2 (.held .nilFunc)).2] at hlook
          have hv := DataW.held.inj hv
          subst hv
          have HN2 : Hid (Pg.all (l.take (i + 1)) Pg.none = s0) := Lib.hid (by rw [HN.out, hst])
          clear hst hk0 hk1 hk2
          go_wp2_with fail
          go_roundg k1
          case measure => omega
          case rel => exact ⟨i + 1, by go_num, Lib.hid (by omega), Lib.hid (by have := HK.out; omega), by rw [HN2.out]; exact HA⟩
    · have d1 : decide ((i : Int) < (l.length : Int)) = false := decide_eq_false (by omega)
      have d2 : decide (i < l.length) = false := decide_eq_false hlt
      have hie : i = l.length := by omega
      have HS2 : Hid (RAt w wr p B r (Pg.all l Pg.none)) := by
        have h := HS.out
        rw [hie, List.take_length] at h
        exact Lib.hid h
      clear HS hie
      obtain ⟨⟨f, e0⟩, e1⟩ := r_cells HS2.out
      go_wp2_with (go_at_call 42; refine (r_told HS2 e0).mono ?_; rintro e w8 ⟨rfl, h8⟩)
      go_ret
      exact ⟨rfl, h8.out.below⟩
end
end Go.Proofs.YteccaekalcjihaaGreatDoor.Rend
set_option linter.unusedVariables false
namespace Go.Proofs.YteccaekalcjihaaGreatDoor.PTn
open Go.RowKit Go.Proofs.YteccaekalcjihaaGreatDoorW.PrintWords Go.Proofs.YteccaekalcjihaaGreatDoor.Rend
def render_Render.f (l : List S40) : Option ByteArray := if fits l = true then some ⟨(Pg.all l Pg.none).m.told.toArray⟩ else none
theorem render_Render.calls (A0 : Option Addr) (c0 : Nat) (l0 : List S40) (r : ByteArray) (w : World) (hr0 : Kd.C k40 w A0 l0.length l0) (hc0 : l0.length ≤ c0) (h : render_Render.f l0 = some r) :
    Calls Tryz.prog 14 #[.slice A0 l0.length c0] w fun e w' => e = .returned (.string r) ∧ Below w.heap.size w w' := by
  unfold render_Render.f at h
  by_cases hf : fits l0 = true
  · rw [if_pos hf] at h
    have hr := Option.some.inj h
    subst hr
    exact render_at A0 c0 l0 w hr0 hc0 hf
  · rw [if_neg hf] at h
    cases h
end Go.Proofs.YteccaekalcjihaaGreatDoor.PTn
set_option linter.unusedVariables false
set_option linter.unusedSimpArgs false
namespace Go.Proofs.YteccaekalcjihaaGreatDoor.PTn
open Go.RowKit Go.Lib Go.Proofs.YteccaekalcjihaaGreatDoorW.PrintWords Go.Proofs.YteccaekalcjihaaGreatDoorW.PrintLast Go.Proofs.YteccaekalcjihaaGreatDoorW.PrintMore
def exP (p : Nat) : Value := .pointer (some ⟨p, 0, none⟩)
def exF (n : Nat) (p q : Nat) : Value := .func (.func n) #[] #[exP p, exP q]
def exV (n : Nat) : Value := .func (.func n) #[] #[]
theorem run_mkf (fn : Fn) (first cap : Array Value) (w : World) : (Instr.makeFunc fn first cap).run Tryz.prog w = .ok (.func fn first cap) w := rfl
set_option maxHeartbeats 1000000 in
theorem then1_at (f g : Fn) (f1 f2 g1 g2 : Array Value) (w : World) : Calls Tryz.prog 49 #[.func f f1 f2, .func g g1 g2] w fun e w' => e = .returned (exF 106 (w.heap.size + 1) w.heap.size) ∧ w' = (w.alloc (.cells #[.func f f1 f2] 25)).alloc (.cells #[.func g g1 g2] 24) := by
  have hmf := run_mkf
  go_enter Tryz.func49, Tryz.ntmps49
  go_wp2
  go_ret
  exact ⟨rfl, rfl⟩
set_option maxHeartbeats 1000000 in
theorem then2_at (f g : Fn) (f1 f2 g1 g2 : Array Value) (w : World) : Calls Tryz.prog 50 #[.func f f1 f2, .func g g1 g2] w fun e w' => e = .returned (exF 107 (w.heap.size + 1) w.heap.size) ∧ w' = (w.alloc (.cells #[.func f f1 f2] 84)).alloc (.cells #[.func g g1 g2] 29) := by
  have hmf := run_mkf
  go_enter Tryz.func50, Tryz.ntmps50
  go_wp2
  go_ret
  exact ⟨rfl, rfl⟩
set_option maxHeartbeats 1000000 in
theorem then3_at (f g : Fn) (f1 f2 g1 g2 : Array Value) (w : World) : Calls Tryz.prog 51 #[.func f f1 f2, .func g g1 g2] w fun e w' => e = .returned (exF 108 (w.heap.size + 1) w.heap.size) ∧ w' = (w.alloc (.cells #[.func f f1 f2] 25)).alloc (.cells #[.func g g1 g2] 27) := by
  have hmf := run_mkf
  go_enter Tryz.func51, Tryz.ntmps51
  go_wp2
  go_ret
  exact ⟨rfl, rfl⟩
structure Cap (w : World) (p : Nat) (v : Value) : Prop where
  cell : w.cell? ⟨p, 0, none⟩ = some v
  lt : p < w.heap.size
theorem Cap.then {w w' : World} {p : Nat} {v : Value} (h : Cap w p v) (hb : Below w.heap.size w w') : Cap w' p v := ⟨(hb.cell (p := ⟨p, 0, none⟩) h.lt).trans h.cell, Nat.lt_of_lt_of_le h.lt hb.size⟩
set_option maxHeartbeats 2000000 in
set_option maxRecDepth 100000 in
theorem read_at (A0 : Option Addr) (c0 : Nat) (l0 : List Int) (r1 r2 : ByteArray) (w : World) (p q : Nat) (hp : Cap w p (exV 6)) (hq : Cap w q (exV 7)) (hr0 : Kd.C (Kd.int .u8) w A0 l0.length l0) (hc0 : l0.length ≤ c0) (h1 : utf_Decode.f l0 = some r1) (h2 : lines_Norm.f r1 = some r2) :
    Calls Tryz.prog 106 #[.slice A0 l0.length c0, exP p, exP q] w fun e w' => e = .returned (.string r2) ∧ Below w.heap.size w w' := by
  have H1 := Aside0.mk h1
  have H2 := Aside0.mk h2
  have HR := Aside0.mk hr0
  have HP := Aside0.mk hp
  have HQ := Aside0.mk hq
  have k1 := hp.cell
  have k2 := hq.cell
  unfold exV at k1 k2
  unfold exP
  clear h1 h2 hr0 hp hq
  go_enter Tryz.func106, Tryz.ntmps106
  go_wp2
  go_region_with (first | (go_at_call 7; refine (utf_Decode.calls A0 c0 l0 r1 _ (Kd.C_below HR.out (by first | exact Below.refl _ _ | exact below_drew (Below.refl _ _))) hc0 H1.out).mono ?_; rintro e w1 ⟨rfl, hb⟩; have HB1 : Aside0 (Below w.heap.size w w1) := ⟨below_step (by first | exact Below.refl _ _ | exact below_drew (Below.refl _ _)) hb⟩; have k3 := (HP.out.then HB1.out).cell; unfold exV at k3; clear hb) | (go_at_call 6; refine (lines_Norm.calls r1 r2 _ H2.out).mono ?_; rintro e w2 ⟨rfl, hb⟩; have HB2 : Aside0 (Below w.heap.size w w2) := ⟨below_step (by first | exact HB1.out | exact below_drew HB1.out) hb⟩; clear hb))
  all_goals (
    go_wp2
    go_ret
    exact ⟨rfl, HB2.out⟩)
set_option maxHeartbeats 2000000 in
set_option maxRecDepth 100000 in
theorem pieces_at (k : Nat) (A0 : Option Addr) (c0 : Nat) (l0 : List Int) (r1 r2 : ByteArray) (r3 : List S40) (w : World) (hG : GW w) (p q p2 q2 : Nat) (hp : Cap w p (exV 6)) (hq : Cap w q (exV 7))
    (hp2 : Cap w p2 (exV 8)) (hq2 : Cap w q2 (exF 106 p q)) (hr0 : Kd.C (Kd.int .u8) w A0 l0.length l0) (hc0 : l0.length ≤ c0) (h1 : utf_Decode.f l0 = some r1) (h2 : lines_Norm.f r1 = some r2) (h3 : drive_Drive.f k r2 = some r3) :
    Calls Tryz.prog 108 #[.slice A0 l0.length c0, exP p2, exP q2] w fun e w' => ∃ A c, e = .returned (.slice A r3.length c) ∧ Kd.C k40 w' A r3.length r3 ∧ r3.length ≤ c ∧ Below w.heap.size w w' := by
  have H1 := Aside0.mk h1
  have H2 := Aside0.mk h2
  have H3 := Aside0.mk h3
  have HR := Aside0.mk hr0
  have HP := Aside0.mk hp
  have HQ := Aside0.mk hq
  have HP2 := Aside0.mk hp2
  have HG := Aside0.mk hG
  have k1 := hp2.cell
  have k2 := hq2.cell
  unfold exV at k1
  unfold exF exP at k2
  unfold exP
  clear h1 h2 h3 hr0 hp hq hp2 hq2 hG
  go_enter Tryz.func108, Tryz.ntmps108
  go_wp2
  go_region_with (first | (go_at_call 106; refine (read_at A0 c0 l0 r1 r2 _ p q (HP.out.then (by first | exact Below.refl _ _ | exact below_drew (Below.refl _ _))) (HQ.out.then (by first | exact Below.refl _ _ | exact below_drew (Below.refl _ _))) (Kd.C_below HR.out (by first | exact Below.refl _ _ | exact below_drew (Below.refl _ _))) hc0 H1.out H2.out).mono ?_; rintro e w1 ⟨rfl, hb⟩; have HB1 : Aside0 (Below w.heap.size w w1) := ⟨below_step (by first | exact Below.refl _ _ | exact below_drew (Below.refl _ _)) hb⟩; have k3 := (HP2.out.then HB1.out).cell; unfold exV at k3; clear hb) | (go_at_call 8; refine (drive_Drive.calls k r2 r3 _ (HG.out.at (by first | exact HB1.out | exact below_drew HB1.out)) H3.out).mono ?_; rintro e w2 ⟨v, rfl, hn, hb⟩; have HB2 : Aside0 (Below w.heap.size w w2) := ⟨below_step (by first | exact HB1.out | exact below_drew HB1.out) hb⟩; obtain ⟨A, c, rfl⟩ := Kd.N_slice hn; have HN := Aside0.mk (Kd.N_reads' hn).2; clear hb hn))
  all_goals (
    go_wp2
    go_ret
    exact ⟨A, c, rfl, HN.out.2, HN.out.1, HB2.out⟩)
set_option maxHeartbeats 2000000 in
set_option maxRecDepth 100000 in
theorem told_at (k : Nat) (A0 : Option Addr) (c0 : Nat) (l0 : List Int) (r1 r2 r4 : ByteArray) (r3 : List S40) (w : World) (hG : GW w) (p q p2 q2 p3 q3 : Nat) (hp : Cap w p (exV 6)) (hq : Cap w q (exV 7))
    (hp2 : Cap w p2 (exV 8)) (hq2 : Cap w q2 (exF 106 p q)) (hp3 : Cap w p3 (exV 14)) (hq3 : Cap w q3 (exF 108 p2 q2)) (hr0 : Kd.C (Kd.int .u8) w A0 l0.length l0) (hc0 : l0.length ≤ c0) (h1 : utf_Decode.f l0 = some r1) (h2 : lines_Norm.f r1 = some r2) (h3 : drive_Drive.f k r2 = some r3) (h4 : render_Render.f r3 = some r4) :
    Calls Tryz.prog 107 #[.slice A0 l0.length c0, exP p3, exP q3] w fun e w' => e = .returned (.string r4) ∧ Below w.heap.size w w' := by
  have H1 := Aside0.mk h1
  have H2 := Aside0.mk h2
  have H3 := Aside0.mk h3
  have H4 := Aside0.mk h4
  have HR := Aside0.mk hr0
  have HP := Aside0.mk hp
  have HQ := Aside0.mk hq
  have HP2 := Aside0.mk hp2
  have HQ2 := Aside0.mk hq2
  have HP3 := Aside0.mk hp3
  have HG := Aside0.mk hG
  have k1 := hp3.cell
  have k2 := hq3.cell
  unfold exV at k1
  unfold exF exP at k2
  unfold exP
  clear h1 h2 h3 h4 hr0 hp hq hp2 hq2 hp3 hq3 hG
  go_enter Tryz.func107, Tryz.ntmps107
  go_wp2
  go_region_with (first | (go_at_call 108; refine (pieces_at k A0 c0 l0 r1 r2 r3 _ (HG.out.at (by first | exact Below.refl _ _ | exact below_drew (Below.refl _ _))) p q p2 q2 (HP.out.then (by first | exact Below.refl _ _ | exact below_drew (Below.refl _ _))) (HQ.out.then (by first | exact Below.refl _ _ | exact below_drew (Below.refl _ _))) (HP2.out.then (by first | exact Below.refl _ _ | exact below_drew (Below.refl _ _))) (HQ2.out.then (by first | exact Below.refl _ _ | exact below_drew (Below.refl _ _))) (Kd.C_below HR.out (by first | exact Below.refl _ _ | exact below_drew (Below.refl _ _))) hc0 H1.out H2.out H3.out).mono ?_; rintro e w1 ⟨A, c, rfl, hn, hc, hb⟩; have HB1 : Aside0 (Below w.heap.size w w1) := ⟨below_step (by first | exact Below.refl _ _ | exact below_drew (Below.refl _ _)) hb⟩; have k3 := (HP3.out.then HB1.out).cell; unfold exV at k3; have HN := Aside0.mk hn; have HCC := Aside0.mk hc; clear hb hn hc) | (go_at_call 14; refine (render_Render.calls A c r3 r4 _ (by first | exact HN.out | exact Kd.C_drew HN.out) HCC.out H4.out).mono ?_; rintro e w2 ⟨rfl, hb⟩; have HB2 : Aside0 (Below w.heap.size w w2) := ⟨below_step (by first | exact HB1.out | exact below_drew HB1.out) hb⟩; clear hb))
  all_goals (
    go_wp2
    go_ret
    exact ⟨rfl, HB2.out⟩)
theorem cap_new (w : World) (v : Value) (t : Nat) : Cap (w.alloc (.cells #[v] t)) w.heap.size v := ⟨by rw [Lib.cell_of_heap (heap_alloc_new w _)]; rfl, by simp⟩
theorem Cap.alloc {w : World} {p : Nat} {v : Value} (h : Cap w p v) (o : Obj) : Cap (w.alloc o) p v := h.then ((Below.refl _ w).alloc (Nat.le_refl _) o)
def wEx (w : World) : World := ((((((w.alloc (.cells #[exV 7] 25)).alloc (.cells #[exV 6] 24)).alloc (.cells #[exF 106 (w.heap.size + 1) w.heap.size] 25)).alloc (.cells #[exV 8] 27)).alloc (.cells #[exF 108 (w.heap.size + 1 + 1 + 1) (w.heap.size + 1 + 1)] 84)).alloc (.cells #[exV 14] 29))
structure ExAt (w w1 : World) : Prop where
  below : Below w.heap.size w w1
  q1 : Cap w1 w.heap.size (exV 7)
  p1 : Cap w1 (w.heap.size + 1) (exV 6)
  q2 : Cap w1 (w.heap.size + 1 + 1) (exF 106 (w.heap.size + 1) w.heap.size)
  p2 : Cap w1 (w.heap.size + 1 + 1 + 1) (exV 8)
  q3 : Cap w1 (w.heap.size + 1 + 1 + 1 + 1) (exF 108 (w.heap.size + 1 + 1 + 1) (w.heap.size + 1 + 1))
  p3 : Cap w1 (w.heap.size + 1 + 1 + 1 + 1 + 1) (exV 14)
theorem cap_new' (w : World) (n : Nat) (hn : w.heap.size = n) (v : Value) (t : Nat) : Cap (w.alloc (.cells #[v] t)) n v := hn ▸ cap_new w v t
theorem exAt (w : World) : ExAt w (wEx w) := by
  unfold wEx
  refine ⟨((((((Below.refl _ w).alloc (Nat.le_refl _) _).alloc (by simp <;> omega) _).alloc (by simp <;> omega) _).alloc (by simp <;> omega) _).alloc (by simp <;> omega) _).alloc (by simp <;> omega) _, ?_, ?_, ?_, ?_, ?_, ?_⟩
  · exact (((((cap_new' w _ rfl _ _).alloc _).alloc _).alloc _).alloc _).alloc _
  · exact ((((cap_new' _ _ (by simp) _ _).alloc _).alloc _).alloc _).alloc _
  · exact (((cap_new' _ _ (by simp) _ _).alloc _).alloc _).alloc _
  · exact ((cap_new' _ _ (by simp) _ _).alloc _).alloc _
  · exact (cap_new' _ _ (by simp) _ _).alloc _
  · exact cap_new' _ _ (by simp) _ _
noncomputable def exK (k : Nat) (l0 : List Int) : Option ByteArray := (utf_Decode.f l0).bind fun r1 => (lines_Norm.f r1).bind fun r2 => (drive_Drive.f k r2).bind fun r3 => render_Render.f r3
set_option maxHeartbeats 2000000 in
set_option maxRecDepth 100000 in
theorem extract_at (k : Nat) (A0 : Option Addr) (c0 : Nat) (l0 : List Int) (r : ByteArray) (w : World) (hG : GW w) (hr0 : Kd.C (Kd.int .u8) w A0 l0.length l0) (hc0 : l0.length ≤ c0) (h : exK k l0 = some r) :
    Calls Tryz.prog 16 #[.slice A0 l0.length c0] w fun e w' => e = .returned (.string r) ∧ Below w.heap.size w w' := by
  unfold exK at h
  obtain ⟨r1, h1, h⟩ := Option.bind_eq_some_iff.1 h
  obtain ⟨r2, h2, h⟩ := Option.bind_eq_some_iff.1 h
  obtain ⟨r3, h3, h4⟩ := Option.bind_eq_some_iff.1 h
  clear h
  have H1 := Aside0.mk h1
  have H2 := Aside0.mk h2
  have H3 := Aside0.mk h3
  have H4 := Aside0.mk h4
  have HR := Aside0.mk hr0
  have HG := Aside0.mk hG
  have HE := Aside0.mk (exAt w)
  clear h1 h2 h3 h4 hr0 hG h
  go_enter Tryz.func16, Tryz.ntmps16
  go_wp2_with (first | (go_at_call 49; refine (then1_at _ _ _ _ _ _ _).mono ?_; rintro e w1 ⟨rfl, rfl⟩; unfold exF exP) | (go_at_call 51; refine (then3_at _ _ _ _ _ _ _).mono ?_; rintro e w1 ⟨rfl, rfl⟩; unfold exF exP) | (go_at_call 50; refine (then2_at _ _ _ _ _ _ _).mono ?_; rintro e w1 ⟨rfl, rfl⟩; unfold exF exP) | (go_at_call 107; refine (told_at k A0 c0 l0 r1 r2 r r3 (wEx w) (HG.out.at HE.out.below) (w.heap.size + 1) w.heap.size (w.heap.size + 1 + 1 + 1) (w.heap.size + 1 + 1) (w.heap.size + 1 + 1 + 1 + 1 + 1) (w.heap.size + 1 + 1 + 1 + 1) HE.out.p1 HE.out.q1 HE.out.p2 HE.out.q2 HE.out.p3 HE.out.q3 (Kd.C_below HR.out (HE.out.below.mono (Nat.le_refl _))) hc0 H1.out H2.out H3.out H4.out).mono ?_; rintro e w2 ⟨rfl, hb⟩; have HB2 := Aside0.mk (below_step HE.out.below hb); clear hb))
  go_ret
  exact ⟨rfl, HB2.out⟩
noncomputable def extract_Extract.f (l0 : List Int) : Option ByteArray := exK 1000 l0
theorem extract_Extract.calls (A0 : Option Addr) (c0 : Nat) (l0 : List Int) (r : ByteArray) (w : World) (hG : GW w) (hr0 : Kd.C (Kd.int .u8) w A0 l0.length l0) (hc0 : l0.length ≤ c0) (h : extract_Extract.f l0 = some r) :
    Calls Tryz.prog 16 #[.slice A0 l0.length c0] w fun e w' => e = .returned (.string r) ∧ Below w.heap.size w w' := extract_at 1000 A0 c0 l0 r w hG hr0 hc0 h
end Go.Proofs.YteccaekalcjihaaGreatDoor.PTn
namespace Go.Proofs.YteccaekalcjihaaGreatDoor.PTn
open Go.RowKit Go.Proofs.YteccaekalcjihaaGreatDoorW.PrintWords Go.Proofs.YteccaekalcjihaaGreatDoorW.PrintLast Go.Proofs.YteccaekalcjihaaGreatDoorW.PrintMore
attribute [local go_sem] max2_int min2_int max_two min_two max_three min_three max_four min_four
set_option linter.unusedVariables false
set_option linter.unusedSimpArgs false
def strings_HasPrefix.f (a0 : ByteArray) (a1 : ByteArray) : Option (Bool) := (stringslite_HasPrefix.f a0 a1).bind fun t265 => (some t265)
set_option maxHeartbeats 8000000 in
set_option maxRecDepth 100000 in
theorem strings_HasPrefix.calls (a0 : ByteArray) (a1 : ByteArray) (r : Bool) (w : World) (h : strings_HasPrefix.f a0 a1 = some r) :
    Calls Tryz.prog 156 #[.string a0, .string a1] w fun e w' => e = .returned (.bool r) ∧ Drawn0 w w' := by
  have H : ((stringslite_HasPrefix.f a0 a1).bind fun t265 => (some t265)) = some r := h
  clear h
  replace H := Option.bind_eq_some_iff.mp H
  obtain ⟨t265, A30, H⟩ := H
  (try dsimp only at H)
  have A3 := Aside0.mk A30
  clear A30
  obtain rfl := Option.some.inj H
  go_enter Tryz.func156, Tryz.ntmps156
  go_wp2_with (first | ((with_reducible refine gate_callee (f := 125) rfl ?_); refine goesL_ (some 7) rfl rfl Tryz.func125 (by kernel_rfl) rfl #[.string a0, .string a1] rfl (by simp only [List.map_toArray, List.map_cons, List.map_nil] <;> rfl) ?_; (with_reducible refine (stringslite_HasPrefix.calls a0 a1 t265 _ A3.out).mono ?_); rintro e w' ⟨rfl, ⟨nd, rfl⟩⟩; refine ⟨_, rfl, ?_⟩))
  go_ret
  exact ⟨by first | rfl | (simp; done) | (simp [*]; done), by repeat (first | exact Drawn0.refl _ | apply Drawn0.step)⟩
end Go.Proofs.YteccaekalcjihaaGreatDoor.PTn
set_option linter.unusedVariables false
set_option linter.unusedSimpArgs false
namespace Go.Proofs.YteccaekalcjihaaGreatDoor.Repl
open Go.RowKit Go.Lib Go.Proofs.YteccaekalcjihaaGreatDoor.Buf Go.Proofs.YteccaekalcjihaaGreatDoorW.PrintWords
def grC (r : List Value) (ts : Int) (m : List Int) : Array Value := (r ++ (Value.int .i64 ts :: m.map (Value.int .u8))).toArray
def root0 : List Value := [.string ⟨#[]⟩, .int .i64 0, .string ⟨#[]⟩, .pointer none, .slice none 0 0]
def map0 : List Int := List.replicate 256 0
set_option maxRecDepth 100000 in
theorem zero_eq : Tryz.zeroCells255 = grC root0 0 map0 := by kernel_rfl
structure GR (w : World) (g : Nat) (r : List Value) (ts : Int) (m : List Int) : Prop where
  heap : w.heap[g]? = some (.cells (grC r ts m) 255 (0, 0))
  hr : r.length = 5
  hm : m.length = 256
section
variable {w : World} {g : Nat} {r : List Value} {ts : Int} {m : List Int}
theorem GR.lt (h : GR w g r ts m) : g < w.heap.size := Buf.lt_of_heap h.heap
theorem GR.below {w' : World} (h : GR w g r ts m) (hb : Below w.heap.size w w') : GR w' g r ts m := ⟨(hb.block g h.lt).trans h.heap, h.hr, h.hm⟩
theorem GR.frozen (h : GR w g r ts m) (j : Nat) : w.frozen? ⟨g, j, none⟩ = false := Lib.frozen_of_heap h.heap j
theorem GR.root (h : GR w g r ts m) (j : Nat) (hj : j < 5) : w.cell? ⟨g, j, none⟩ = r[j]? := by
  rw [Lib.cell_of_heap h.heap]
  have := h.hr
  simp [grC, List.getElem?_append, show j < r.length by omega]
theorem GR.size (h : GR w g r ts m) : w.cell? ⟨g, 5, none⟩ = some (.int .i64 ts) := by
  rw [Lib.cell_of_heap h.heap]
  have := h.hr
  simp [grC, List.getElem?_append, this]
theorem GR.map (h : GR w g r ts m) (c : Nat) (hc : c < 256) : w.cell? ⟨g, 6 + c, none⟩ = some (.int .u8 (m[c]'(by rw [h.hm]; exact hc))) := by
  rw [Lib.cell_of_heap h.heap]
  have h1 := h.hr
  have h2 := h.hm
  have e : 6 + c - 5 = c + 1 := by omega
  simp [grC, List.getElem?_append, h1, show ¬ 6 + c < 5 by omega, e, show c < m.length by omega]
theorem GR.setRoot (h : GR w g r ts m) (j : Nat) (hj : j < 5) (v : Value) : GR (w.setCell ⟨g, j, none⟩ v) g (r.set j v) ts m := by
  refine ⟨?_, by simpa using h.hr, h.hm⟩
  have := heap_setCell_self h.heap (j := j) v
  rw [this]
  have h1 := h.hr
  congr 2
  simp [grC, List.set_append, show j < r.length by omega]
theorem GR.setSize (h : GR w g r ts m) (t : Int) : GR (w.setCell ⟨g, 5, none⟩ (.int .i64 t)) g r t m := by
  refine ⟨?_, h.hr, h.hm⟩
  have := heap_setCell_self h.heap (j := 5) (.int .i64 t)
  rw [this]
  have h1 := h.hr
  congr 2
  simp [grC, List.set_append, h1]
theorem GR.setMap (h : GR w g r ts m) (c : Nat) (hc : c < 256) (x : Int) : GR (w.setCell ⟨g, 6 + c, none⟩ (.int .u8 x)) g r ts (m.set c x) := by
  refine ⟨?_, h.hr, by simpa using h.hm⟩
  have := heap_setCell_self h.heap (j := 6 + c) (.int .u8 x)
  rw [this]
  have h1 := h.hr
  have e : 6 + c - 5 = c + 1 := by omega
  congr 2
  simp [grC, List.set_append, h1, show ¬ 6 + c < 5 by omega, e, List.map_set]
theorem GR.drew (h : GR w g r ts m) : GR w.drew g r ts m := h.below (below_drew (Below.refl _ _))
end
def mapV (m : List Int) : Value := .agg (m.map (Value.int .u8)).toArray
theorem load_map {w : World} {g : Nat} {r : List Value} {ts : Int} {m : List Int} (h : GR w g r ts m) : (loadVar 211 ⟨g, 6, none⟩).run Tryz.prog w = .ok (mapV m) w := by
  have hl : (loadCells ⟨g, 6, none⟩ (m.map (Value.int .u8)).length).run Tryz.prog w = .ok (m.map (Value.int .u8)).toArray w :=
    run_loadCells_list (P := Tryz.prog) w ⟨g, 6, none⟩ (m.map (Value.int .u8)) (fun j v hv => by
      have hadd : (⟨g, 6, none⟩ : Addr).add j = ⟨g, 6 + j, none⟩ := by unfold Addr.add; split <;> simp_all
      have hj : j < 256 := by
        have := (List.getElem?_eq_some_iff.1 hv).1
        rw [List.length_map, h.hm] at this
        exact this
      rw [hadd, h.map j hj]
      rw [List.getElem?_map, List.getElem?_eq_getElem (by rw [h.hm]; exact hj)] at hv
      simpa using hv)
  have hagg : (isAgg 211).run Tryz.prog w = .ok true w := by kernel_rfl
  have hq : (Tryz.prog.info? 211).map (·.size) = some 256 := by kernel_rfl
  rw [List.length_map, h.hm] at hl
  cases hi : Tryz.prog.info? 211 with
  | none => rw [hi] at hq; cases hq
  | some i =>
    rw [hi] at hq
    have hs : i.size = 256 := by simpa using hq
    simp [loadVar, Sem.run_bind, hagg, sizeOf, typeInfo, hi, hs, hl, mapV]
theorem wpList_load_map {ops : Array Oper} {rest : List Oper} {o : Oper} {a : Act} {w : World} {Q : Exit → Act → World → Prop} {g : Nat} {r : List Value} {ts : Int} {m : List Int} (hgd : o.guard = none) (x : Operand) (ho : o.op = .load 211 x) (hx : a.eval x = .pointer (some ⟨g, 6, none⟩)) (hg : GR w g r ts m)
    (h : wpList Tryz.prog ops Q rest (a.put o.dst (mapV m)) w) : wpList Tryz.prog ops Q (o :: rest) a w :=
  wpList_plain hgd fun _ hK => by
    unfold Oper.wp execOp
    simp only [ho, hx, Instr.loadAt, Instr.sureAddr, Sem.run_bind, Sem.run_pure, Result.andThen_ok, load_map hg]
    exact hK _ _ h
theorem index_map (m : List Int) (i : Nat) (hi : i < m.length) (h256 : i < 256) (W : World) : (Instr.index 211 (mapV m) (.int .i64 i)).run Tryz.prog W = .ok (.int .u8 (m[i]'hi)) W := by
  have h1 : (m.map (Value.int .u8)).toArray[i]? = some (.int .u8 (m[i]'hi)) := by simp [hi]
  have hagg : (isAgg 5).run Tryz.prog W = .ok false W := by kernel_rfl
  have h2 : m[i]? = some (m[i]'hi) := List.getElem?_eq_getElem hi
  simp [Instr.index, mapV, run_underlying Tryz.underlying211, asIntOf, h1, h2, h256, Result.andThen, part, hagg]
def tab0 : List Value := List.replicate 10 (.pointer none)
theorem makes10 (W : World) : (Instr.makeSlice 251 (.int .i64 10) (.int .i64 10)).run Tryz.prog W = .ok (.slice (some ⟨W.heap.size, 0, none⟩) 10 10) (W.alloc (.cells tab0.toArray 250)) := by kernel_rfl
end Go.Proofs.YteccaekalcjihaaGreatDoor.Repl
set_option linter.unusedVariables false
set_option linter.unusedSimpArgs false
namespace Go.Proofs.YteccaekalcjihaaGreatDoor.Repl
open Go.RowKit Go.Lib Go.Proofs.YteccaekalcjihaaGreatDoor.Buf Go.Proofs.YteccaekalcjihaaGreatDoorW.PrintWords
def nodeC (v : ByteArray) (p : Int) (pre : ByteArray) (nx tb : Value) : Array Value := #[.string v, .int .i64 p, .string pre, nx, tb]
def Node (w : World) (b : Nat) (v : ByteArray) (p : Int) (pre : ByteArray) (nx tb : Value) : Prop := w.heap[b]? = some (.cells (nodeC v p pre nx tb) 253 (0, 0))
theorem Node.cells {w : World} {b : Nat} {v : ByteArray} {p : Int} {pre : ByteArray} {nx tb : Value} (h : Node w b v p pre nx tb) : w.cell? ⟨b, 0, none⟩ = some (.string v) ∧ w.cell? ⟨b, 1, none⟩ = some (.int .i64 p) ∧ w.cell? ⟨b, 2, none⟩ = some (.string pre) ∧ w.cell? ⟨b, 3, none⟩ = some nx ∧ w.cell? ⟨b, 4, none⟩ = some tb ∧ ∀ j, w.frozen? ⟨b, j, none⟩ = false := by
  refine ⟨?_, ?_, ?_, ?_, ?_, fun j => Lib.frozen_of_heap h j⟩
  all_goals (rw [Lib.cell_of_heap h]; rfl)
set_option maxRecDepth 100000 in
set_option maxHeartbeats 4000000 in
theorem add_empty (b : Nat) (val : ByteArray) (p : Int) (r : Value) (w : World) (pre : ByteArray) (nx tb : Value) (v0 : ByteArray) (h : Node w b v0 0 pre nx tb) :
    Calls Tryz.prog 248 #[.pointer (some ⟨b, 0, none⟩), .string ⟨#[]⟩, .string val, .int .i64 p, r] w fun e w' => e = .returned (.tuple #[]) ∧ w' = (w.setCell ⟨b, 0, none⟩ (.string val)).setCell ⟨b, 1, none⟩ (.int .i64 p) := by
  obtain ⟨c0, c1, c2, c3, c4, cf⟩ := h.cells
  have f0 := cf 0
  have f1 := cf 1
  have f1' : (w.setCell ⟨b, 0, none⟩ (.string val)).frozen? ⟨b, 1, none⟩ = false := by go_simp
  go_enter Tryz.func248, Tryz.ntmps248
  go_wp2
  refine bodyPost_ret (results_none rfl _ _ _) rfl ?_
  exact ⟨rfl, rfl⟩
structure Tr (w : World) (g t : Nat) (T : Nat) (A : List Int) (tab : List Value) : Prop where
  gr : GR w g [.string ⟨#[]⟩, .int .i64 0, .string ⟨#[]⟩, .pointer none, .slice (some ⟨t, 0, none⟩) 10 10] T A
  tb : w.heap[t]? = some (.cells tab.toArray 250 (0, 0))
  len : tab.length = 10
  ne : t ≠ g
theorem Tr.cell {w : World} {g t T : Nat} {A : List Int} {tab : List Value} (h : Tr w g t T A tab) (x : Nat) (hx : x < 10) : w.cell? ⟨t, x, none⟩ = tab[x]? ∧ w.frozen? ⟨t, x, none⟩ = false := by
  refine ⟨?_, Lib.frozen_of_heap h.tb x⟩
  rw [Lib.cell_of_heap h.tb]
  simp
theorem Tr.below {w w' : World} {g t T : Nat} {A : List Int} {tab : List Value} (h : Tr w g t T A tab) (hb : Below w.heap.size w w') : Tr w' g t T A tab := ⟨h.gr.below hb, (hb.block t (Buf.lt_of_heap h.tb)).trans h.tb, h.len, h.ne⟩
theorem Tr.set {w : World} {g t T : Nat} {A : List Int} {tab : List Value} (h : Tr w g t T A tab) (x : Nat) (v : Value) : Tr (w.setCell ⟨t, x, none⟩ v) g t T A (tab.set x v) := by
  refine ⟨⟨(Below.heap_setCell _ _ _ _ (fun e => h.ne e.symm)).trans h.gr.heap, h.gr.hr, h.gr.hm⟩, ?_, by simpa using h.len, h.ne⟩
  rw [heap_setCell_self h.tb (j := x) v]
  simp
theorem Tr.move {w w' : World} {g t T : Nat} {A : List Int} {tab : List Value} (h : Tr w g t T A tab) (h1 : w'.heap[g]? = w.heap[g]?) (h2 : w'.heap[t]? = w.heap[t]?) : Tr w' g t T A tab := ⟨⟨h1.trans h.gr.heap, h.gr.hr, h.gr.hm⟩, h2.trans h.tb, h.len, h.ne⟩
theorem Node.fill {w : World} {b : Nat} {v : ByteArray} {p : Int} {pre : ByteArray} {nx tb : Value} (h : Node w b v p pre nx tb) (v' : ByteArray) (p' : Int) : Node ((w.setCell ⟨b, 0, none⟩ (.string v')).setCell ⟨b, 1, none⟩ (.int .i64 p')) b v' p' pre nx tb := by
  have h1 := heap_setCell_self h (j := 0) (.string v')
  have h2 := heap_setCell_self h1 (j := 1) (.int .i64 p')
  exact h2
set_option maxRecDepth 100000 in
set_option maxHeartbeats 4000000 in
theorem add_one (g t T : Nat) (A : List Int) (tab : List Value) (ch : UInt8) (val : ByteArray) (p : Int) (x : Nat) (wr : World) (h : Tr wr g t T A tab) (hA : A[ch.toNat]? = some (x : Int)) (hx : x < 10) (hn : tab[x]? = some (.pointer none)) :
    Calls Tryz.prog 248 #[.pointer (some ⟨g, 0, none⟩), .string ⟨#[ch]⟩, .string val, .int .i64 p, .pointer (some ⟨g, 0, none⟩)] wr fun e w' => e = .returned (.tuple #[]) ∧ Tr w' g t T A (tab.set x (.pointer (some ⟨wr.heap.size, 0, none⟩))) ∧ Node w' wr.heap.size val p ⟨#[]⟩ (.pointer none) (.slice none 0 0) ∧ Kp (fun k => k = t) wr w' := by
  have hch : ch.toNat < 256 := ch.toNat_lt
  have hmp := h.gr.map ch.toNat hch
  rw [List.getElem?_eq_getElem (by rw [h.gr.hm]; exact hch)] at hA
  rw [Option.some.inj hA] at hmp
  obtain ⟨c, hc⟩ : ∃ c, ch.toNat = c := ⟨_, rfl⟩
  have h0 := h.gr.root 2 (by decide)
  have h4 := h.gr.root 4 (by decide)
  have hq := h.cell x hx
  rw [hn] at hq
  have hnn := hn
  obtain ⟨q1, q2⟩ := hq
  have k1 : (⟨#[ch]⟩ : ByteArray).toList.isEmpty = false := by rw [ByteArray.toList_eq]; rfl
  have k2 : ∀ W : World, (Instr.index 9 (.string ⟨#[ch]⟩) (.int .i64 0)).run Tryz.prog W = .ok (.int .u8 c) W := fun W => by rw [← hc]; kernel_rfl
  have k3 : ∀ W : World, (Instr.slice 9 (.string ⟨#[ch]⟩) (some (.int .i64 1)) none none).run Tryz.prog W = .ok (.string ⟨#[]⟩) W := fun W => by kernel_rfl
  have k4 : ∀ W : World, (binOp .neq 251 (.slice (some ⟨t, 0, none⟩) 10 10) (.slice none 0 0)).run Tryz.prog W = .ok (.bool true) W := fun W => by kernel_rfl
  have k5 : ∀ W : World, (binOp .eql 250 (.pointer none) (.pointer none)).run Tryz.prog W = .ok (.bool true) W := fun W => by kernel_rfl
  rw [hc] at hmp hch
  have g3 : (c : Int) < 256 := by omega
  have g4 : (x : Int) < 10 := by omega
  have g5 : (x : Int).toNat = x := by omega
  have HT := Aside0.mk h
  have hz : (⟨#[ch]⟩ : ByteArray).size = 1 := rfl
  clear h hA hn hc
  go_enter Tryz.func248, Tryz.ntmps248
  go_wp2
  go_region
  have HT2 : Aside0 (Tr wr.drew g t T A tab) := ⟨HT.out.below (below_drew (Below.refl _ _))⟩
  have hsz : wr.drew.heap.size = wr.heap.size := rfl
  have hkp : Kp (fun k => k = t) wr wr.drew := (Kp.of_below (below_drew (Below.refl _ _)) _)
  have HK := Aside0.mk hkp
  have q1' : wr.drew.cell? ⟨t, x, none⟩ = some (.pointer none) := by go_simp
  have q2' : wr.drew.frozen? ⟨t, x, none⟩ = false := by go_simp
  have h4' : wr.drew.cell? ⟨g, 4, none⟩ = some (.slice (some ⟨t, 0, none⟩) 10 10) := by go_simp
  obtain ⟨w2, hw2⟩ : ∃ w2, wr.drew = w2 := ⟨_, rfl⟩
  rw [hw2] at HT2 hsz HK q1' q2' h4'
  simp only [hw2]
  clear hw2 HT q1 q2 h4 hkp hmp h0
  have HSZ := Aside0.mk hsz
  clear hsz
  have q1a : ∀ o, (w2.alloc o).cell? ⟨t, x, none⟩ = some (.pointer none) := fun o => ((HT2.out.below ((Below.refl _ w2).alloc (Nat.le_refl _) o)).cell x hx).1.trans hnn
  have q2a : ∀ o, (w2.alloc o).frozen? ⟨t, x, none⟩ = false := fun o => ((HT2.out.below ((Below.refl _ w2).alloc (Nat.le_refl _) o)).cell x hx).2
  have HT3 : Aside0 (Tr ((w2.setCell ⟨t, x, none⟩ (.pointer (some ⟨w2.heap.size, 0, none⟩))).alloc (.cells (nodeC ⟨#[]⟩ 0 ⟨#[]⟩ (.pointer none) (.slice none 0 0)) 253)) g t T A (tab.set x (.pointer (some ⟨w2.heap.size, 0, none⟩)))) := ⟨(HT2.out.set x _).below ((Below.refl _ _).alloc (Nat.le_refl _) _)⟩
  have htl := Buf.lt_of_heap HT2.out.tb
  have HN3 : Aside0 (Node ((w2.setCell ⟨t, x, none⟩ (.pointer (some ⟨w2.heap.size, 0, none⟩))).alloc (.cells (nodeC ⟨#[]⟩ 0 ⟨#[]⟩ (.pointer none) (.slice none 0 0)) 253)) w2.heap.size ⟨#[]⟩ 0 ⟨#[]⟩ (.pointer none) (.slice none 0 0)) := ⟨by
    have := heap_alloc_new (w2.setCell ⟨t, x, none⟩ (.pointer (some ⟨w2.heap.size, 0, none⟩))) (.cells (nodeC ⟨#[]⟩ 0 ⟨#[]⟩ (.pointer none) (.slice none 0 0)) 253)
    simpa [World.setCell, Node] using this⟩
  have HK3 : Aside0 (Kp (fun k => k = t) wr ((w2.setCell ⟨t, x, none⟩ (.pointer (some ⟨w2.heap.size, 0, none⟩))).alloc (.cells (nodeC ⟨#[]⟩ 0 ⟨#[]⟩ (.pointer none) (.slice none 0 0)) 253))) := ⟨(HK.out.setCell (p := ⟨t, x, none⟩) rfl _).alloc _⟩
  clear htl
  have hlg := HT2.out.gr.lt
  have hlt := Buf.lt_of_heap HT2.out.tb
  unfold nodeC at HT3 HN3 HK3
  go_wp2
  obtain ⟨w3, hw3⟩ : ∃ w3, (w2.setCell ⟨t, x, none⟩ (.pointer (some ⟨w2.heap.size, 0, none⟩))).alloc (.cells #[.string ⟨#[]⟩, .int .i64 0, .string ⟨#[]⟩, .pointer none, .slice none 0 0] 253) = w3 := ⟨_, rfl⟩
  rw [hw3] at HT3 HN3 HK3
  rw [hw3]
  clear hw3 q1a q2a q1' q2' h4' HT2 HK
  obtain ⟨nb, hnb⟩ : ∃ nb, w2.heap.size = nb := ⟨_, rfl⟩
  rw [hnb] at HT3 HN3 HSZ hlg hlt
  (try simp only [hnb])
  clear hnb
  have s4 := HT3.out.gr.root 4 (by decide)
  have sx := (HT3.out.cell x hx).1
  rw [List.getElem?_set_self (by have := HT3.out.len; simp at this; omega)] at sx
  have HNE := Aside0.mk (show g ≠ nb ∧ t ≠ nb by omega)
  clear hlg hlt
  go_region_with (go_at_call 248; refine (add_empty nb val p _ w3.drew ⟨#[]⟩ (.pointer none) (.slice none 0 0) ⟨#[]⟩ HN3.out).mono ?_; rintro e w4 ⟨rfl, rfl⟩)
  all_goals (
    first | go_end0 | (simp only [Exit.inBlock, Exit.then]; refine bodyPost_ret (results_none rfl _ _ _) rfl ?_) | refine bodyPost_ret (results_none rfl _ _ _) rfl ?_
    rw [← HSZ.out]
    refine ⟨rfl, HT3.out.move ?_ ?_, Node.fill (w := w3.drew) HN3.out val p, ?_⟩
    · exact (Below.heap_setCell _ _ _ _ HNE.out.1).trans (Below.heap_setCell _ _ _ _ HNE.out.1)
    · exact (Below.heap_setCell _ _ _ _ HNE.out.2).trans (Below.heap_setCell _ _ _ _ HNE.out.2)
    · exact ((((HK3.out.mono (G := fun k => k = t ∨ k = nb) (fun k _ h => .inl h)).drew.setCell (p := ⟨nb, 0, none⟩) (.inr rfl) _).setCell (p := ⟨nb, 1, none⟩) (.inr rfl) _).mono (fun k hk h => h.elim id (fun e => absurd hk (by have := HSZ.out; omega)))))
theorem add_empty' (b : Nat) (val : ByteArray) (p : Int) (r : Value) (w : World) (pre : ByteArray) (nx tb : Value) (v0 : ByteArray) (h : Node w b v0 0 pre nx tb) :
    Calls Tryz.prog 248 #[.pointer (some ⟨b, 0, none⟩), .string ⟨#[]⟩, .string val, .int .i64 p, r] w fun e w' => e = .returned (.tuple #[]) ∧ Node w' b val p pre nx tb ∧ Kp (fun k => k = b) w w' := by
  refine (add_empty b val p r w pre nx tb v0 h).mono ?_
  rintro e w' ⟨rfl, rfl⟩
  exact ⟨rfl, h.fill val p, ((Kp.refl (fun k => k = b) w).setCell (p := ⟨b, 0, none⟩) rfl _).setCell (p := ⟨b, 1, none⟩) rfl _⟩
def k3 : ByteArray := ⟨#[239, 187, 191]⟩
def k2 : ByteArray := ⟨#[187, 191]⟩
theorem Node.setPre {w : World} {b : Nat} {v : ByteArray} {p : Int} {pre : ByteArray} {nx tb : Value} (h : Node w b v p pre nx tb) (pre' : ByteArray) : Node (w.setCell ⟨b, 2, none⟩ (.string pre')) b v p pre' nx tb := heap_setCell_self h (j := 2) (.string pre')
theorem Node.setNext {w : World} {b : Nat} {v : ByteArray} {p : Int} {pre : ByteArray} {nx tb : Value} (h : Node w b v p pre nx tb) (nx' : Value) : Node (w.setCell ⟨b, 3, none⟩ nx') b v p pre nx' tb := heap_setCell_self h (j := 3) nx'
set_option maxRecDepth 100000 in
set_option maxHeartbeats 1000000 in
theorem add_tail (b : Nat) (val : ByteArray) (p : Int) (r : Value) (w : World) (h : Node w b ⟨#[]⟩ 0 ⟨#[]⟩ (.pointer none) (.slice none 0 0)) :
    Calls Tryz.prog 248 #[.pointer (some ⟨b, 0, none⟩), .string k2, .string val, .int .i64 p, r] w fun e w' => e = .returned (.tuple #[]) ∧ Node w' b ⟨#[]⟩ 0 k2 (.pointer (some ⟨w.heap.size, 0, none⟩)) (.slice none 0 0) ∧ Node w' w.heap.size val p ⟨#[]⟩ (.pointer none) (.slice none 0 0) ∧ Kp (fun k => k = b) w w' := by
  obtain ⟨c0, c1, c2, c3, c4, cf⟩ := h.cells
  have f2 := cf 2
  have f3 := cf 3
  have k1 : k2.toList.isEmpty = false := by rw [ByteArray.toList_eq]; rfl
  have k4 : ∀ W : World, (binOp .neq 251 (.slice none 0 0) (.slice none 0 0)).run Tryz.prog W = .ok (.bool false) W := fun W => by kernel_rfl
  have HN := Aside0.mk h
  have hlt := Buf.lt_of_heap h
  have hal : ∀ (v : ByteArray) (o : Obj), Node ((w.setCell ⟨b, 2, none⟩ (.string v)).alloc o) b ⟨#[]⟩ 0 v (.pointer none) (.slice none 0 0) := fun v o => (Lib.alloc_old _ _ _ (by simpa [World.setCell] using hlt)).trans (HN.out.setPre v)
  have d3 : ∀ (v : ByteArray) (o : Obj), ((w.setCell ⟨b, 2, none⟩ (.string v)).alloc o).frozen? ⟨b, 3, none⟩ = false := fun v o => (hal v o).cells.2.2.2.2.2 3
  have e3 : ∀ (v : ByteArray) (o : Obj), ((w.setCell ⟨b, 2, none⟩ (.string v)).alloc o).cell? ⟨b, 3, none⟩ = some (.pointer none) := fun v o => (hal v o).cells.2.2.2.1
  clear hal
  obtain ⟨key, hkey⟩ : ∃ key, k2 = key := ⟨_, rfl⟩
  rw [hkey] at k1 ⊢
  have hs2 : ((w.setCell ⟨b, 2, none⟩ (.string key)).setCell ⟨b, 3, none⟩ (.pointer (some ⟨w.heap.size, 0, none⟩))).heap.size = w.heap.size := by simp [World.setCell]
  have HN3 : Aside0 (Node (((w.setCell ⟨b, 2, none⟩ (.string key)).setCell ⟨b, 3, none⟩ (.pointer (some ⟨w.heap.size, 0, none⟩))).alloc (.cells #[.string ⟨#[]⟩, .int .i64 0, .string ⟨#[]⟩, .pointer none, .slice none 0 0] 253)) w.heap.size ⟨#[]⟩ 0 ⟨#[]⟩ (.pointer none) (.slice none 0 0)) := ⟨by
    have := heap_alloc_new ((w.setCell ⟨b, 2, none⟩ (.string key)).setCell ⟨b, 3, none⟩ (.pointer (some ⟨w.heap.size, 0, none⟩))) (.cells (nodeC ⟨#[]⟩ 0 ⟨#[]⟩ (.pointer none) (.slice none 0 0)) 253)
    rw [hs2] at this
    exact this⟩
  have HB3 : Aside0 (Node (((w.setCell ⟨b, 2, none⟩ (.string key)).setCell ⟨b, 3, none⟩ (.pointer (some ⟨w.heap.size, 0, none⟩))).alloc (.cells #[.string ⟨#[]⟩, .int .i64 0, .string ⟨#[]⟩, .pointer none, .slice none 0 0] 253)) b ⟨#[]⟩ 0 key (.pointer (some ⟨w.heap.size, 0, none⟩)) (.slice none 0 0)) := ⟨(Lib.alloc_old _ _ _ (by rw [hs2]; exact hlt)).trans ((HN.out.setPre key).setNext _)⟩
  have HK3 : Aside0 (Kp (fun k => k = b) w (((w.setCell ⟨b, 2, none⟩ (.string key)).setCell ⟨b, 3, none⟩ (.pointer (some ⟨w.heap.size, 0, none⟩))).alloc (.cells #[.string ⟨#[]⟩, .int .i64 0, .string ⟨#[]⟩, .pointer none, .slice none 0 0] 253))) := ⟨(((Kp.refl (fun k => k = b) w).setCell (p := ⟨b, 2, none⟩) rfl _).setCell (p := ⟨b, 3, none⟩) rfl _).alloc _⟩
  have HNE := Aside0.mk (show b ≠ w.heap.size by omega)
  clear h cf hs2
  go_enter Tryz.func248, Tryz.ntmps248
  go_wp2_with (go_at_call 248; refine (add_empty' w.heap.size val p r (((w.setCell ⟨b, 2, none⟩ (.string key)).setCell ⟨b, 3, none⟩ (.pointer (some ⟨w.heap.size, 0, none⟩))).alloc (.cells #[.string ⟨#[]⟩, .int .i64 0, .string ⟨#[]⟩, .pointer none, .slice none 0 0] 253)) ⟨#[]⟩ (.pointer none) (.slice none 0 0) ⟨#[]⟩ HN3.out).mono ?_; rintro e w4 ⟨rfl, hn4, hk4⟩; have HN4 := Aside0.mk hn4; have HB4 : Aside0 (Node w4 b ⟨#[]⟩ 0 key (.pointer (some ⟨w.heap.size, 0, none⟩)) (.slice none 0 0)) := ⟨(hk4.block b (Buf.lt_of_heap HB3.out) HNE.out).trans HB3.out⟩; have HK4 : Aside0 (Kp (fun k => k = b) w w4) := ⟨(HK3.out.trans (G := fun k => k = w.heap.size) hk4 (fun k hk e => absurd hk (by omega)))⟩; clear hn4 hk4)
  first | go_end0 | (simp only [Exit.inBlock, Exit.then]; refine bodyPost_ret (results_none rfl _ _ _) rfl ?_) | refine bodyPost_ret (results_none rfl _ _ _) rfl ?_
  exact ⟨rfl, HB4.out, HN4.out, HK4.out⟩
set_option maxRecDepth 100000 in
set_option maxHeartbeats 4000000 in
theorem add_three (g t T : Nat) (A : List Int) (tab : List Value) (val : ByteArray) (p : Int) (x : Nat) (wr : World) (h : Tr wr g t T A tab) (hA : A[239]? = some (x : Int)) (hx : x < 10) (hn : tab[x]? = some (.pointer none)) :
    Calls Tryz.prog 248 #[.pointer (some ⟨g, 0, none⟩), .string k3, .string val, .int .i64 p, .pointer (some ⟨g, 0, none⟩)] wr fun e w' => e = .returned (.tuple #[]) ∧ Tr w' g t T A (tab.set x (.pointer (some ⟨wr.heap.size, 0, none⟩))) ∧ (∃ n2, wr.heap.size < n2 ∧ Node w' wr.heap.size ⟨#[]⟩ 0 k2 (.pointer (some ⟨n2, 0, none⟩)) (.slice none 0 0) ∧ Node w' n2 val p ⟨#[]⟩ (.pointer none) (.slice none 0 0)) ∧ Kp (fun k => k = t) wr w' := by
  have hch : 239 < 256 := by omega
  have hmp := h.gr.map 239 hch
  rw [List.getElem?_eq_getElem (by rw [h.gr.hm]; exact hch)] at hA
  rw [Option.some.inj hA] at hmp
  obtain ⟨c, hc⟩ : ∃ c : Nat, 239 = c := ⟨_, rfl⟩
  obtain ⟨key, hkey⟩ : ∃ key, k3 = key := ⟨_, rfl⟩
  obtain ⟨rest, hrest⟩ : ∃ rest, k2 = rest := ⟨_, rfl⟩
  have h0 := h.gr.root 2 (by decide)
  have h4 := h.gr.root 4 (by decide)
  have hq := h.cell x hx
  rw [hn] at hq
  have hnn := hn
  obtain ⟨q1, q2⟩ := hq
  have k1 : key.toList.isEmpty = false := by rw [← hkey, ByteArray.toList_eq]; rfl
  have kk2 : ∀ W : World, (Instr.index 9 (.string key) (.int .i64 0)).run Tryz.prog W = .ok (.int .u8 c) W := fun W => by rw [← hc, ← hkey]; kernel_rfl
  have kk3 : ∀ W : World, (Instr.slice 9 (.string key) (some (.int .i64 1)) none none).run Tryz.prog W = .ok (.string rest) W := fun W => by rw [← hkey, ← hrest]; kernel_rfl
  have k4 : ∀ W : World, (binOp .neq 251 (.slice (some ⟨t, 0, none⟩) 10 10) (.slice none 0 0)).run Tryz.prog W = .ok (.bool true) W := fun W => by kernel_rfl
  have k5 : ∀ W : World, (binOp .eql 250 (.pointer none) (.pointer none)).run Tryz.prog W = .ok (.bool true) W := fun W => by kernel_rfl
  rw [hc] at hmp hch
  have g3 : (c : Int) < 256 := by omega
  have g4 : (x : Int) < 10 := by omega
  have g5 : (x : Int).toNat = x := by omega
  have HT := Aside0.mk h
  have HTL := Aside0.mk (fun (b : Nat) (W : World) hn => hrest ▸ add_tail b val p (.pointer (some ⟨g, 0, none⟩)) W hn)
  rw [hkey, hrest]
  clear hkey hrest
  clear h hA hn hc
  go_enter Tryz.func248, Tryz.ntmps248
  go_wp2
  go_region
  have HT2 : Aside0 (Tr wr.drew g t T A tab) := ⟨HT.out.below (below_drew (Below.refl _ _))⟩
  have hsz : wr.drew.heap.size = wr.heap.size := rfl
  have hkp : Kp (fun k => k = t) wr wr.drew := (Kp.of_below (below_drew (Below.refl _ _)) _)
  have HK := Aside0.mk hkp
  have q1' : wr.drew.cell? ⟨t, x, none⟩ = some (.pointer none) := by go_simp
  have q2' : wr.drew.frozen? ⟨t, x, none⟩ = false := by go_simp
  have h4' : wr.drew.cell? ⟨g, 4, none⟩ = some (.slice (some ⟨t, 0, none⟩) 10 10) := by go_simp
  obtain ⟨w2, hw2⟩ : ∃ w2, wr.drew = w2 := ⟨_, rfl⟩
  rw [hw2] at HT2 hsz HK q1' q2' h4'
  simp only [hw2]
  clear hw2 HT q1 q2 h4 hkp hmp h0
  have HSZ := Aside0.mk hsz
  clear hsz
  have q1a : ∀ o, (w2.alloc o).cell? ⟨t, x, none⟩ = some (.pointer none) := fun o => ((HT2.out.below ((Below.refl _ w2).alloc (Nat.le_refl _) o)).cell x hx).1.trans hnn
  have q2a : ∀ o, (w2.alloc o).frozen? ⟨t, x, none⟩ = false := fun o => ((HT2.out.below ((Below.refl _ w2).alloc (Nat.le_refl _) o)).cell x hx).2
  have HT3 : Aside0 (Tr ((w2.setCell ⟨t, x, none⟩ (.pointer (some ⟨w2.heap.size, 0, none⟩))).alloc (.cells (nodeC ⟨#[]⟩ 0 ⟨#[]⟩ (.pointer none) (.slice none 0 0)) 253)) g t T A (tab.set x (.pointer (some ⟨w2.heap.size, 0, none⟩)))) := ⟨(HT2.out.set x _).below ((Below.refl _ _).alloc (Nat.le_refl _) _)⟩
  have htl := Buf.lt_of_heap HT2.out.tb
  have HN3 : Aside0 (Node ((w2.setCell ⟨t, x, none⟩ (.pointer (some ⟨w2.heap.size, 0, none⟩))).alloc (.cells (nodeC ⟨#[]⟩ 0 ⟨#[]⟩ (.pointer none) (.slice none 0 0)) 253)) w2.heap.size ⟨#[]⟩ 0 ⟨#[]⟩ (.pointer none) (.slice none 0 0)) := ⟨by
    have := heap_alloc_new (w2.setCell ⟨t, x, none⟩ (.pointer (some ⟨w2.heap.size, 0, none⟩))) (.cells (nodeC ⟨#[]⟩ 0 ⟨#[]⟩ (.pointer none) (.slice none 0 0)) 253)
    simpa [World.setCell, Node] using this⟩
  have HK3 : Aside0 (Kp (fun k => k = t) wr ((w2.setCell ⟨t, x, none⟩ (.pointer (some ⟨w2.heap.size, 0, none⟩))).alloc (.cells (nodeC ⟨#[]⟩ 0 ⟨#[]⟩ (.pointer none) (.slice none 0 0)) 253))) := ⟨(HK.out.setCell (p := ⟨t, x, none⟩) rfl _).alloc _⟩
  clear htl
  have hlg := HT2.out.gr.lt
  have hlt := Buf.lt_of_heap HT2.out.tb
  unfold nodeC at HT3 HN3 HK3
  go_wp2
  obtain ⟨w3, hw3⟩ : ∃ w3, (w2.setCell ⟨t, x, none⟩ (.pointer (some ⟨w2.heap.size, 0, none⟩))).alloc (.cells #[.string ⟨#[]⟩, .int .i64 0, .string ⟨#[]⟩, .pointer none, .slice none 0 0] 253) = w3 := ⟨_, rfl⟩
  rw [hw3] at HT3 HN3 HK3
  rw [hw3]
  clear hw3 q1a q2a q1' q2' h4' HT2 HK
  obtain ⟨nb, hnb⟩ : ∃ nb, w2.heap.size = nb := ⟨_, rfl⟩
  rw [hnb] at HT3 HN3 HSZ hlg hlt
  (try simp only [hnb])
  clear hnb
  have s4 := HT3.out.gr.root 4 (by decide)
  have sx := (HT3.out.cell x hx).1
  rw [List.getElem?_set_self (by have := HT3.out.len; simp at this; omega)] at sx
  have HNE := Aside0.mk (show g ≠ nb ∧ t ≠ nb by omega)
  clear hlg hlt
  go_region_with (go_at_call 248; refine (HTL.out nb w3.drew HN3.out).mono ?_; rintro e w4 ⟨rfl, hb4, hn4, hk4⟩; have HB4 := Aside0.mk hb4; have HN4 := Aside0.mk hn4; have HK4 := Aside0.mk hk4; clear hb4 hn4 hk4)
  all_goals (
    first | go_end0 | (simp only [Exit.inBlock, Exit.then]; refine bodyPost_ret (results_none rfl _ _ _) rfl ?_) | refine bodyPost_ret (results_none rfl _ _ _) rfl ?_
    rw [← HSZ.out]
    refine ⟨rfl, HT3.out.move ?_ ?_, ⟨_, ?_, HB4.out, HN4.out⟩, ?_⟩
    · exact HK4.out.block g HT3.out.gr.lt HNE.out.1
    · exact HK4.out.block t (Buf.lt_of_heap HT3.out.tb) HNE.out.2
    · have := Buf.lt_of_heap HN3.out
      exact this
    · exact (HK3.out.drew.trans (G := fun k => k = nb) HK4.out (fun k hk e => absurd hk (by have := HSZ.out; omega))))
end Go.Proofs.YteccaekalcjihaaGreatDoor.Repl
set_option linter.unusedVariables false
set_option linter.unusedSimpArgs false
namespace Go.Proofs.YteccaekalcjihaaGreatDoor.Repl
open Go.RowKit Go.Lib Go.Proofs.YteccaekalcjihaaGreatDoor.Buf Go.Proofs.YteccaekalcjihaaGreatDoorW.PrintWords
def mark (l : List UInt8) (m : List Int) : List Int := l.foldl (fun m c => m.set c.toNat 1) m
theorem mark_snoc (l : List UInt8) (c : UInt8) (m : List Int) : mark (l ++ [c]) m = (mark l m).set c.toNat 1 := by simp [mark]
def marks (K : List ByteArray) : Nat → List Int
  | 0 => map0
  | n + 1 => mark ((K[2 * n]?).getD ⟨#[]⟩).data.toList (marks K n)
theorem take_byte (s : ByteArray) (i : Nat) (h : i < s.size) : s.data.toList.take (i + 1) = s.data.toList.take i ++ [s[i]'h] := by
  have hl : i < s.data.toList.length := by simpa using h
  rw [List.take_succ_eq_append_getElem hl]
  rfl
def cnt (M : List Int) : Nat → Nat
  | 0 => 0
  | i + 1 => cnt M i + (if (M[i]?).getD 0 = 0 then 0 else 1)
theorem cnt_le (M : List Int) : ∀ i, cnt M i ≤ i
  | 0 => Nat.le_refl 0
  | i + 1 => by
    have := cnt_le M i
    simp only [cnt]
    split <;> omega
theorem cnt_mono (M : List Int) (i : Nat) : ∀ d, cnt M i ≤ cnt M (i + d)
  | 0 => Nat.le_refl _
  | d + 1 => by
    have := cnt_mono M i d
    show cnt M i ≤ cnt M (i + d + 1)
    simp only [cnt]
    omega
def asg (M : List Int) (ts : Int) : Nat → List Int
  | 0 => M
  | i + 1 => (asg M ts i).set i (if (M[i]?).getD 0 = 0 then ts else cnt M i)
def bits (M : List Int) : Prop := ∀ x ∈ M, x = 0 ∨ x = 1
theorem mark_bits (l : List UInt8) : ∀ (M : List Int), bits M → bits (mark l M) := by
  induction l with
  | nil => exact fun M h => h
  | cons c l ih =>
    intro M h
    refine ih _ fun x hx => ?_
    rcases List.mem_or_eq_of_mem_set hx with h1 | h1
    · exact h x h1
    · exact .inr h1
theorem marks_bits (K : List ByteArray) : ∀ n, bits (marks K n)
  | 0 => fun x hx => .inl (List.eq_of_mem_replicate hx)
  | n + 1 => mark_bits _ _ (marks_bits K n)
theorem index_str (s : ByteArray) (j : Nat) (hj : j < s.size) (W : World) : (Instr.index 9 (.string s) (.int .i64 j)).run Tryz.prog W = .ok (.int .u8 ((s[j]'hj).toNat)) W := by
  have h1 : s[j]? = some (s[j]'hj) := by simp [hj]
  simp [Instr.index, run_underlying Tryz.underlying9, asIntOf, h1, Result.andThen]
end Go.Proofs.YteccaekalcjihaaGreatDoor.Repl
set_option linter.unusedVariables false
set_option linter.unusedSimpArgs false
namespace Go.Proofs.YteccaekalcjihaaGreatDoor.Repl
open Go.RowKit Go.Lib Go.Proofs.YteccaekalcjihaaGreatDoor.Buf Go.Proofs.YteccaekalcjihaaGreatDoorW.PrintWords
def KS : List ByteArray := [⟨#[38]⟩, ⟨#[38, 97, 109, 112, 59]⟩, ⟨#[60]⟩, ⟨#[38, 108, 116, 59]⟩, ⟨#[62]⟩, ⟨#[38, 103, 116, 59]⟩, ⟨#[34]⟩, ⟨#[38, 113, 117, 111, 116, 59]⟩, ⟨#[39]⟩, ⟨#[38, 35, 51, 57, 59]⟩, ⟨#[13]⟩, ⟨#[38, 35, 49, 51, 59]⟩, ⟨#[0]⟩, ⟨#[239, 191, 189]⟩, k3, ⟨#[38, 35, 54, 53, 50, 55, 57, 59]⟩]
def kb : List UInt8 := [38, 60, 62, 34, 39, 13, 0]
def xs : List Nat := [3, 5, 6, 2, 4, 1, 0, 9]
def AS : List Int := asg (marks KS 8) 10 256
set_option maxRecDepth 100000 in
theorem ks_cnt : cnt (marks KS 8) 256 = 10 := by decide +kernel
set_option maxRecDepth 100000 in
theorem as_at : ∀ n (h : n < 7), AS[(kb[n]'h).toNat]? = some ((xs[n]'(by simp [xs]; omega) : Nat) : Int) := by decide +kernel
set_option maxRecDepth 100000 in
theorem as_239 : AS[239]? = some 9 := by decide +kernel
theorem ks_key : ∀ n (h : n < 7), (KS[2 * n]'(by simp [KS]; omega)).data = #[kb[n]'h] := by decide +kernel
theorem ks_key' (n : Nat) (h : n < 7) : KS[2 * n]'(by simp [KS]; omega) = ⟨#[kb[n]'h]⟩ := ByteArray.ext (ks_key n h)
structure Ent (w : World) (tab : List Value) (n : Nat) : Prop where
  one : ∀ i (h : i < 7), i < n → ∃ b, tab[xs[i]'(by simp [xs]; omega)]? = some (.pointer (some ⟨b, 0, none⟩)) ∧ Node w b (KS[2 * i + 1]'(by simp [KS]; omega)) (16 - 2 * (i : Int)) ⟨#[]⟩ (.pointer none) (.slice none 0 0)
  three : n = 8 → ∃ b n2, tab[9]? = some (.pointer (some ⟨b, 0, none⟩)) ∧ Node w b ⟨#[]⟩ 0 k2 (.pointer (some ⟨n2, 0, none⟩)) (.slice none 0 0) ∧ Node w n2 (KS[15]'(by decide)) 2 ⟨#[]⟩ (.pointer none) (.slice none 0 0)
  free : ∀ x, x < 10 → (∀ i (h : i < 8), i < n → xs[i]'(by simp [xs]; omega) ≠ x) → tab[x]? = some (.pointer none)
theorem Node.ne {w : World} {b t : Nat} {v : ByteArray} {p : Int} {pre : ByteArray} {nx tb : Value} {cs : Array Value} (h : Node w b v p pre nx tb) (ht : w.heap[t]? = some (.cells cs 250 (0, 0))) : b ≠ t := by
  rintro rfl
  unfold Node at h
  rw [h] at ht
  simp at ht
theorem Node.kp {w w' : World} {b t : Nat} {v : ByteArray} {p : Int} {pre : ByteArray} {nx tb : Value} (h : Node w b v p pre nx tb) (hk : Kp (fun k => k = t) w w') (hn : b ≠ t) : Node w' b v p pre nx tb := (hk.block b (Buf.lt_of_heap h) hn).trans h
theorem ent_zero (w : World) : Ent w tab0 0 := ⟨fun i h h0 => absurd h0 (by omega), fun h => by omega, fun x hx _ => by unfold tab0; rw [List.getElem?_replicate, if_pos hx]⟩
theorem xs_ne : ∀ i (h : i < 8) j (h2 : j < 8), i ≠ j → xs[i]'(by simp [xs]; omega) ≠ xs[j]'(by simp [xs]; omega) := by decide +kernel
theorem xs_lt : ∀ i (h : i < 8), xs[i]'(by simp [xs]; omega) < 10 := by decide +kernel
theorem Ent.step {w w' : World} {g t : Nat} {A : List Int} {tab : List Value} {n : Nat} (h : Ent w tab n) (hn : n < 7) (ht : Tr w g t 10 A tab) (b : Nat) (hb : Node w' b (KS[2 * n + 1]'(by simp [KS]; omega)) (16 - 2 * (n : Int)) ⟨#[]⟩ (.pointer none) (.slice none 0 0)) (hk : Kp (fun k => k = t) w w') :
    Ent w' (tab.set (xs[n]'(by simp [xs]; omega)) (.pointer (some ⟨b, 0, none⟩))) (n + 1) := by
  refine ⟨fun i h7 hi => ?_, fun h8 => by omega, fun x hx hne => ?_⟩
  · by_cases hin : i = n
    · subst hin
      exact ⟨b, by rw [List.getElem?_set_self (by rw [ht.len]; exact xs_lt i (by omega))], hb⟩
    · obtain ⟨b', h1, h2⟩ := h.one i h7 (by omega)
      refine ⟨b', ?_, h2.kp hk (h2.ne ht.tb)⟩
      rw [List.getElem?_set_ne (xs_ne n (by omega) i (by omega) (by omega))]
      exact h1
  · rw [List.getElem?_set_ne (hne n (by omega) (by omega))]
    exact h.free x hx (fun i h8 hi => hne i h8 (by omega))
theorem Ent.last {w w' : World} {g t : Nat} {A : List Int} {tab : List Value} (h : Ent w tab 7) (ht : Tr w g t 10 A tab) (b n2 : Nat) (hb : Node w' b ⟨#[]⟩ 0 k2 (.pointer (some ⟨n2, 0, none⟩)) (.slice none 0 0)) (hb2 : Node w' n2 (KS[15]'(by decide)) 2 ⟨#[]⟩ (.pointer none) (.slice none 0 0)) (hk : Kp (fun k => k = t) w w') :
    Ent w' (tab.set 9 (.pointer (some ⟨b, 0, none⟩))) 8 := by
  refine ⟨fun i h7 hi => ?_, fun _ => ⟨b, n2, by rw [List.getElem?_set_self (by rw [ht.len]; omega)], hb, hb2⟩, fun x hx hne => ?_⟩
  · obtain ⟨b', h1, h2⟩ := h.one i h7 h7
    refine ⟨b', ?_, h2.kp hk (h2.ne ht.tb)⟩
    rw [List.getElem?_set_ne (fun e => xs_ne 7 (by omega) i (by omega) (by omega) e)]
    exact h1
  · rw [List.getElem?_set_ne (show (9 : Nat) ≠ x from hne 7 (by omega) (by omega))]
    exact h.free x hx (fun i h8 hi => hne i h8 (by omega))
end Go.Proofs.YteccaekalcjihaaGreatDoor.Repl
set_option linter.unusedVariables false
set_option linter.unusedSimpArgs false
namespace Go.Proofs.YteccaekalcjihaaGreatDoor.Repl
open Go.RowKit Go.Lib Go.Proofs.YteccaekalcjihaaGreatDoor.Buf Go.Proofs.YteccaekalcjihaaGreatDoorW.PrintWords Go.Proofs.YteccaekalcjihaaGreatDoorW.PrintLast Go.Proofs.YteccaekalcjihaaGreatDoorW.PrintMore
set_option maxRecDepth 100000 in
set_option maxHeartbeats 4000000 in
theorem make_at (K : List ByteArray) (hKS : K = KS) (ad : Addr) (c : Nat) (w : World) (hl : K.length = 16) (hK : ∀ i (h : i < K.length), w.cell? (ad.add i) = some (.string K[i]) ∧ (K[i]).size ≤ 1000) (had : ad.block < w.heap.size) (hts : cnt (marks K 8) 256 = 10) :
    Calls Tryz.prog 241 #[.slice (some ad) 16 c] w fun e w' => e = .returned (.pointer (some ⟨w.heap.size, 0, none⟩)) ∧ (∃ t tab, Tr w' w.heap.size t 10 AS tab ∧ Ent w' tab 8) ∧ Below w.heap.size w w' := by
  have HK : Aside0 (∀ (W : World), Below w.heap.size w W → ∀ i (h : i < K.length), W.cell? (ad.add i) = some (.string K[i]) ∧ (K[i]).size ≤ 1000) := ⟨fun W hW i h => ⟨by
    have := hW.cell (p := ad.add i) (by unfold Addr.add; split <;> exact had)
    rw [this]
    exact (hK i h).1, (hK i h).2⟩⟩
  have HG0 : Aside0 (GR (w.alloc (.cells Tryz.zeroCells255 255)) w.heap.size root0 0 map0) := ⟨by
    rw [zero_eq]
    exact ⟨heap_alloc_new w _, rfl, by simp [map0]⟩⟩
  have HB0 := Aside0.mk ((Below.refl w.heap.size w).alloc (Nat.le_refl _) (.cells Tryz.zeroCells255 255))
  have HL := Aside0.mk hl
  clear hK
  go_enter Tryz.func241, Tryz.ntmps241
  go_wp2
  obtain ⟨g, hg⟩ : ∃ g, w.heap.size = g := ⟨_, rfl⟩
  have HGG := Aside0.mk hg
  rw [hg] at HG0 HB0
  simp only [hg]
  clear hg
  go_loopg [4] 10 (fun kq v4 wr => ∃ n : Nat, v4 = .int .i64 (2 * (n : Int)) ∧ Aside0 (n ≤ 8) ∧ Aside0 (8 < n + kq) ∧ Aside0 (GR wr g root0 0 (marks K n)) ∧ Aside0 (Below g w wr))
  case atStart => exact ⟨0, rfl, ⟨by omega⟩, ⟨by omega⟩, HG0, HB0⟩
  case round =>
    obtain ⟨n, rfl, HN, HQ, HG, HB⟩ := hrel
    clear HG0 HB0
    by_cases hn : n < 8
    · have d1 : decide (2 * (n : Int) < 16) = true := decide_eq_true (by omega)
      have d3 : 2 * (n : Int) < 16 := by omega
      have d4 : (2 * (n : Int)).toNat = 2 * n := by omega
      have d2 : decide (2 * n < 16) = true := decide_eq_true (by omega)
      obtain ⟨k0, k1⟩ := HK.out wr (by rw [HGG.out]; exact HB.out) (2 * n) (by rw [HL.out]; omega)
      obtain ⟨key, hkey⟩ : ∃ key, K[2 * n]'(by rw [HL.out]; omega) = key := ⟨_, rfl⟩
      rw [hkey] at k0 k1
      have b1 : 2 * (n : Int) ≤ 14 := by omega
      cases gk with
      | zero => exact absurd HQ.out (by omega)
      | succ k1 =>
      have HKEY := Aside0.mk hkey
      clear hkey
      go_wp2
      go_loopg [6] (key.size + 1) (fun kq2 v6 wr2 => ∃ j : Nat, v6 = .int .i64 j ∧ Aside0 (j ≤ key.size) ∧ Aside0 (key.size < j + kq2) ∧ Aside0 (GR wr2 g root0 0 (mark (key.data.toList.take j) (marks K n))) ∧ Aside0 (Below g w wr2))
      case atStart => exact ⟨0, rfl, ⟨by omega⟩, ⟨by omega⟩, ⟨by simpa [mark] using HG.out⟩, HB⟩
      case round =>
        obtain ⟨j, rfl, HJ, HQ2, HG2, HB2⟩ := hrel
        cases gk with
        | zero => exact absurd HQ2.out (by have := HJ.out; omega)
        | succ k2 =>
        by_cases hj : j < key.size
        · have e1 : decide ((j : Int) < (key.size : Int)) = true := decide_eq_true (by omega)
          have e2 : decide (j < key.size) = true := decide_eq_true hj
          have hlt : (key[j]'hj).toNat < 256 := (key[j]'hj).toNat_lt
          obtain ⟨ch, hch⟩ : ∃ ch : Nat, (key[j]'hj).toNat = ch := ⟨_, rfl⟩
          have hget : ∀ (W : World), (Instr.index 9 (.string key) (.int .i64 j)).run Tryz.prog W = .ok (.int .u8 ch) W := fun W => by
            rw [← hch]
            exact index_str key j hj W
          rw [hch] at hlt
          have g1 := HG2.out.map ch hlt
          have g2 := HG2.out.frozen (6 + ch)
          have g3 : (ch : Int) < 256 := by omega
          have HM : Aside0 (GR (wr.setCell ⟨g, 6 + ch, none⟩ (.int .u8 1)).drew g root0 0 (mark (key.data.toList.take (j + 1)) (marks K n))) := ⟨by
            rw [take_byte key j hj, mark_snoc, hch]
            exact (HG2.out.setMap ch hlt 1).drew⟩
          have HB3 : Aside0 (Below g w (wr.setCell ⟨g, 6 + ch, none⟩ (.int .u8 1)).drew) := ⟨below_drew (HB2.out.setCell (Nat.le_refl _) _)⟩
          have HJ3 : Aside0 (j + 1 ≤ key.size) := ⟨hj⟩
          have b2 : (j : Int) ≤ 1000 := by omega
          clear hch hj
          go_wp2
          go_region
          go_wp2
          go_roundg k2
          case rel => exact ⟨j + 1, rfl, HJ3, ⟨by have := HQ2.out; omega⟩, HM, HB3⟩
          case measure => exact Nat.lt_succ_self _
        · have e1 : decide ((j : Int) < (key.size : Int)) = false := decide_eq_false (by omega)
          have e2 : decide (j < key.size) = false := decide_eq_false hj
          have hjj : j = key.size := by have := HJ.out; omega
          have HM : Aside0 (GR wr g root0 0 (marks K (n + 1))) := ⟨by
            have h1 := HG2.out
            rw [hjj, List.take_of_length_le (by simp)] at h1
            unfold marks
            have h2 : K[2 * n]? = some key := by rw [List.getElem?_eq_getElem (by rw [HL.out]; omega), HKEY.out]
            rw [h2]
            exact h1⟩
          clear hj hjj
          go_wp2
          go_roundg k1
          case rel => exact ⟨n + 1, by rw [show 2 * (n : Int) + 2 = 2 * ((n + 1 : Nat) : Int) by omega], ⟨by omega⟩, ⟨by have := HQ.out; omega⟩, HM, HB2⟩
          case measure => exact Nat.lt_succ_self _
    · have d1 : decide (2 * (n : Int) < 16) = false := decide_eq_false (by omega)
      have d3 : ¬ 2 * (n : Int) < 16 := by omega
      have hn8 : n = 8 := by have := HN.out; omega
      obtain ⟨M, hM⟩ : ∃ M, marks K 8 = M := ⟨_, rfl⟩
      rw [hn8, hM] at HG
      have HMM := Aside0.mk hM
      clear hM hn hn8 HN HQ
      go_wp2_with (refine wpList_load_map rfl (.tmp 39) rfl rfl HG.out ?_)
      have HBITS : Aside0 (bits M) := ⟨HMM.out ▸ marks_bits K 8⟩
      have HML := Aside0.mk HG.out.hm
      go_loopg [41] 257 (fun kq v41 wr => ∃ i : Nat, v41 = .int .i64 i ∧ Aside0 (i ≤ 256) ∧ Aside0 (256 < i + kq) ∧ Aside0 (GR wr g root0 (cnt M i) M) ∧ Aside0 (Below g w wr))
      case atStart => exact ⟨0, rfl, ⟨by omega⟩, ⟨by omega⟩, HG, HB⟩
      case round =>
        obtain ⟨i, rfl, HI, HQ, HG2, HB2⟩ := hrel
        clear HG HB
        cases gk with
        | zero => exact absurd HQ.out (by have := HI.out; omega)
        | succ k2 =>
        by_cases hi : i < 256
        · have d1 : decide ((i : Int) < 256) = true := decide_eq_true (by omega)
          have d2 : decide (i < 256) = true := decide_eq_true hi
          have hml : i < M.length := by rw [HML.out]; exact hi
          have hix := index_map M i hml hi
          have c5 := HG2.out.size
          have f5 := HG2.out.frozen 5
          have hc := cnt_le M i
          have b1 : (cnt M i : Int) ≤ 256 := by omega
          have hbit := HBITS.out (M[i]'hml) (List.getElem_mem hml)
          have hgd : (M[i]?).getD 0 = M[i]'hml := by rw [List.getElem?_eq_getElem hml]; rfl
          have hset : ∀ t : Int, GR (wr.setCell ⟨g, 5, none⟩ (.int .i64 t)) g root0 t M := fun t => HG2.out.setSize t
          have HSET := Aside0.mk hset
          have HB3 : ∀ t : Value, Below g w (wr.setCell ⟨g, 5, none⟩ t) := fun t => HB2.out.setCell (Nat.le_refl _) t
          have HB3 := Aside0.mk HB3
          rcases hbit with h0 | h0
          · have HC : Aside0 (cnt M (i + 1) = cnt M i) := ⟨by simp only [cnt, hgd, h0, if_true, Nat.add_zero]⟩
            rw [h0] at hix
            clear hset hgd h0 hml hc
            go_wp2
            go_roundg k2
            case rel => exact ⟨i + 1, rfl, ⟨hi⟩, ⟨by have := HQ.out; omega⟩, ⟨by rw [HC.out]; exact HSET.out _⟩, ⟨HB3.out _⟩⟩
            case measure => exact Nat.lt_succ_self _
          · have HC : Aside0 ((cnt M (i + 1) : Int) = (cnt M i : Int) + 1) := ⟨by simp only [cnt, hgd, h0]; rw [if_neg (by omega)]; omega⟩
            rw [h0] at hix
            clear hset hgd h0 hml hc
            go_wp2
            go_roundg k2
            case rel => exact ⟨i + 1, rfl, ⟨hi⟩, ⟨by have := HQ.out; omega⟩, ⟨by rw [HC.out]; exact HSET.out _⟩, ⟨HB3.out _⟩⟩
            case measure => exact Nat.lt_succ_self _
        · have d1 : decide ((i : Int) < 256) = false := decide_eq_false (by omega)
          have d2 : decide (i < 256) = false := decide_eq_false hi
          have hi8 : i = 256 := by have := HI.out; omega
          have HG3 := HG2.out
          rw [hi8] at HG3
          obtain ⟨T, hT⟩ : ∃ T, cnt M 256 = T := ⟨_, rfl⟩
          rw [hT] at HG3
          have HT := Aside0.mk hT
          have HT2 : Aside0 (T = 10) := ⟨by rw [← hT, ← HMM.out]; exact hts⟩
          have HG3 := Aside0.mk HG3
          clear hi hi8 hT HG2 HI HQ
          go_wp2_with (refine wpList_load_map rfl (.tmp 56) rfl rfl HG3.out ?_)
          go_loopg [9, 58] 257 (fun kq v9 v58 wr => ∃ i : Nat, v9 = .int .u8 (cnt M i) ∧ v58 = .int .i64 i ∧ Aside0 (i ≤ 256) ∧ Aside0 (256 < i + kq) ∧ Aside0 (GR wr g root0 T (asg M T i)) ∧ Aside0 (Below g w wr))
          case atStart => exact ⟨0, rfl, rfl, ⟨by omega⟩, ⟨by omega⟩, HG3, HB2⟩
          case round =>
            obtain ⟨i, rfl, rfl, HI, HQ, HG, HB⟩ := hrel
            clear HG3 HB2
            cases gk with
            | zero => exact absurd HQ.out (by have := HI.out; omega)
            | succ k2 =>
            by_cases hi : i < 256
            · have d1 : decide ((i : Int) < 256) = true := decide_eq_true (by omega)
              have d2 : decide (i < 256) = true := decide_eq_true hi
              have hml : i < M.length := by rw [HML.out]; exact hi
              have hix := index_map M i hml hi
              have c5 := HG.out.size
              have f5 := HG.out.frozen 5
              have ci := HG.out.map i hi
              have fi := HG.out.frozen (6 + i)
              have hc : cnt M (i + 1) ≤ T := by
                have := cnt_mono M (i + 1) (256 - (i + 1))
                rw [show i + 1 + (256 - (i + 1)) = 256 by omega, HT.out] at this
                exact this
              have hT2 := HT2.out
              have b1 : (T : Int) ≤ 200 := by omega
              have b3 : (i : Int) < 256 := by omega
              have hbit := HBITS.out (M[i]'hml) (List.getElem_mem hml)
              have hgd : (M[i]?).getD 0 = M[i]'hml := by rw [List.getElem?_eq_getElem hml]; rfl
              have HB3 : ∀ t : Value, Below g w (wr.setCell ⟨g, 6 + i, none⟩ t) := fun t => HB.out.setCell (Nat.le_refl _) t
              have HB3 := Aside0.mk HB3
              rcases hbit with h0 | h0
              · have HC : Aside0 (cnt M (i + 1) = cnt M i) := ⟨by simp only [cnt, hgd, h0, if_true, Nat.add_zero]⟩
                have HGN : Aside0 (GR (wr.setCell ⟨g, 6 + i, none⟩ (.int .u8 T)).drew g root0 T (asg M T (i + 1))) := ⟨by
                  have := (HG.out.setMap i hi T).drew
                  simp only [asg, hgd, h0, if_true]
                  exact this⟩
                rw [h0] at hix
                clear hgd h0 hml hc hT2
                go_wp2
                go_region
                go_wp2
                go_roundg k2
                case rel => exact ⟨i + 1, by rw [HC.out], rfl, ⟨hi⟩, ⟨by have := HQ.out; omega⟩, HGN, ⟨below_drew (HB3.out _)⟩⟩
                case measure => exact Nat.lt_succ_self _
              · have HC : Aside0 ((cnt M (i + 1) : Int) = (cnt M i : Int) + 1) := ⟨by simp only [cnt, hgd, h0]; rw [if_neg (by omega)]; omega⟩
                have HGN : Aside0 (GR (wr.setCell ⟨g, 6 + i, none⟩ (.int .u8 (cnt M i))) g root0 T (asg M T (i + 1))) := ⟨by
                  have := HG.out.setMap i hi (cnt M i)
                  simp only [asg, hgd, h0]
                  rw [if_neg (by omega)]
                  exact this⟩
                have b4 : (cnt M i : Int) + 1 ≤ 200 := by rw [← HC.out]; omega
                rw [h0] at hix
                clear hgd h0 hml hc hT2
                go_wp2
                go_roundg k2
                case rel => exact ⟨i + 1, by rw [HC.out], rfl, ⟨hi⟩, ⟨by have := HQ.out; omega⟩, HGN, ⟨HB3.out _⟩⟩
                case measure => exact Nat.lt_succ_self _
            · have d1 : decide ((i : Int) < 256) = false := decide_eq_false (by omega)
              have d2 : decide (i < 256) = false := decide_eq_false hi
              have hi8 : i = 256 := by have := HI.out; omega
              have HG3 := HG.out
              rw [hi8, HT2.out] at HG3
              have c5 := HG3.size
              obtain ⟨A, hA⟩ : ∃ A, asg M (10 : Nat) 256 = A := ⟨_, rfl⟩
              rw [hA] at HG3
              have HA := Aside0.mk hA
              have c4 := HG3.root 4 (by decide)
              have f4 := HG3.frozen 4
              have HG3 := Aside0.mk HG3
              have hwr := HG3.out.lt
              have hmk := makes10
              have HAS : Aside0 (A = AS) := ⟨by rw [← HA.out, ← HMM.out, hKS]; rfl⟩
              have hlt := hwr
              have hgs : g ≠ wr.heap.size := by omega
              have HT5 : Aside0 (Tr ((wr.setCell ⟨g, 4, none⟩ (.slice (some ⟨wr.heap.size, 0, none⟩) 10 10)).alloc (.cells tab0.toArray 250)) g wr.heap.size 10 A tab0) := ⟨by
                have hz : (wr.setCell ⟨g, 4, none⟩ (.slice (some ⟨wr.heap.size, 0, none⟩) 10 10)).heap.size = wr.heap.size := by simp [World.setCell]
                refine ⟨?_, ?_, rfl, fun e => hgs e.symm⟩
                · exact (HG3.out.setRoot 4 (by decide) _).below ((Below.refl _ _).alloc (Nat.le_refl _) _)
                · have := heap_alloc_new (wr.setCell ⟨g, 4, none⟩ (.slice (some ⟨wr.heap.size, 0, none⟩) 10 10)) (.cells tab0.toArray 250)
                  rw [hz] at this
                  exact this⟩
              have HB5 : Aside0 (Below g w ((wr.setCell ⟨g, 4, none⟩ (.slice (some ⟨wr.heap.size, 0, none⟩) 10 10)).alloc (.cells tab0.toArray 250))) := ⟨(HB.out.setCell (p := ⟨g, 4, none⟩) (Nat.le_refl _) _).alloc (by have := HB.out.size; simp [World.setCell]; omega) _⟩
              clear hi hi8 HG HI HQ hA
              go_wp2
              obtain ⟨t, ht⟩ : ∃ t, wr.heap.size = t := ⟨_, rfl⟩
              rw [ht] at HT5 HB5 hgs
              simp only [ht]
              have HGT := Aside0.mk (show g < t by omega)
              clear hwr hlt hgs ht c4 f4 c5
              go_loopg [12] 10 (fun kq v12 wr => ∃ (n : Nat) (tab : List Value), v12 = .int .i64 (2 * (n : Int)) ∧ Aside0 (n ≤ 8) ∧ Aside0 (8 < n + kq) ∧ Aside0 (Tr wr g t 10 A tab) ∧ Aside0 (Ent wr tab n) ∧ Aside0 (Below g w wr))
              case atStart => exact ⟨0, tab0, rfl, ⟨by omega⟩, ⟨by omega⟩, HT5, ⟨ent_zero _⟩, HB5⟩
              case round =>
                obtain ⟨n, tab, rfl, HN, HQ, HT, HE, HB⟩ := hrel
                clear HT5 HB5
                cases gk with
                | zero => exact absurd HQ.out (by have := HN.out; omega)
                | succ k2 =>
                by_cases hn : n < 8
                · have d1 : decide (2 * (n : Int) < 16) = true := decide_eq_true (by omega)
                  have d3 : 2 * (n : Int) < 16 := by omega
                  have d4 : (2 * (n : Int)).toNat = 2 * n := by omega
                  have d5 : (2 * (n : Int) + 1).toNat = 2 * n + 1 := by omega
                  have d6 : 2 * (n : Int) + 1 < 16 := by omega
                  have d7 : 2 * (n : Int) ≤ 14 := by omega
                  have hl2 : 2 * n < K.length := by rw [HL.out]; omega
                  have hl3 : 2 * n + 1 < K.length := by rw [HL.out]; omega
                  have HKK := fun i h => (HK.out wr (by rw [HGG.out]; exact HB.out) i h).1
                  have k0 := HKK (2 * n) hl2
                  have k1 := HKK (2 * n + 1) hl3
                  clear HKK
                  obtain ⟨val, hval⟩ : ∃ val, K[2 * n + 1]'hl3 = val := ⟨_, rfl⟩
                  rw [hval] at k1
                  have HV := Aside0.mk hval
                  by_cases hn7 : n < 7
                  · obtain ⟨ch, hch⟩ : ∃ ch, kb[n]'hn7 = ch := ⟨_, rfl⟩
                    obtain ⟨x, hx⟩ : ∃ x, xs[n]'(by simp [xs]; omega) = x := ⟨_, rfl⟩
                    have hk0 : K[2 * n]'hl2 = ⟨#[ch]⟩ := by
                      rw [← hch, ← ks_key' n hn7]
                      subst hKS
                      rfl
                    rw [hk0] at k0
                    have hAx : A[ch.toNat]? = some (x : Int) := by rw [HAS.out, ← hch, ← hx]; exact as_at n hn7
                    have hx10 : x < 10 := hx ▸ xs_lt n hn
                    have hfree : tab[x]? = some (.pointer none) := HE.out.free x hx10 (fun i h8 hi => hx ▸ xs_ne i h8 n hn (by omega))
                    have HADD := Aside0.mk (fun (W : World) hW => add_one g t 10 A tab ch val (16 - 2 * (n : Int)) x W hW hAx hx10 hfree)
                    have HX := Aside0.mk hx
                    have hz : K[2 * n + 1]'hl3 = KS[2 * n + 1]'(by simp [KS]; omega) := by subst hKS; rfl
                    have HZ : Aside0 (KS[2 * n + 1]'(by simp [KS]; omega) = val) := ⟨by rw [← hz, hval]⟩
                    have HN7 := Aside0.mk hn7
                    clear hk0 hAx hx10 hfree hch hz hval
                    obtain ⟨m, hm⟩ : ∃ m, 2 * n + 1 = m := ⟨_, rfl⟩
                    rw [hm] at k1 d5
                    have hm1 : 2 * (n : Int) + 1 = (m : Int) := by omega
                    have hm2 : (m : Int) < 16 := by omega
                    have hm3 : m < 16 := by omega
                    have hw1 : IntKind.i64.wrap (2 * (n : Int) + 1) = (m : Int) := by
                      rw [hm1, i64_w]; unfold wrap64; omega
                    have hw2 : IntKind.i64.wrap (16 - 2 * (n : Int)) = 16 - 2 * (n : Int) := by
                      rw [i64_w]; unfold wrap64; omega
                    clear d5 d6 hm hm1
                    go_wp2
                    go_region_with (go_at_call 248; refine (HADD.out wr.drew (HT.out.below (below_drew (Below.refl _ _)))).mono ?_; rintro e w4 ⟨rfl, h1, h2, h3⟩; have HT4 := Aside0.mk h1; have HN4 := Aside0.mk h2; have HK4 : Aside0 (Kp (fun k => k = t) wr w4) := ⟨(Kp.of_below (below_drew (Below.refl _ _)) _).trans (G := fun k => k = t) h3 (fun _ _ e => e)⟩; clear h1 h2 h3)
                    all_goals (
                      go_wp2
                      go_roundg k2
                      case rel => exact ⟨n + 1, _, by rw [show 2 * (n : Int) + 2 = 2 * ((n + 1 : Nat) : Int) by omega], ⟨by omega⟩, ⟨by have := HQ.out; omega⟩, HT4, ⟨by
                        have := HE.out.step hn7 HT.out wr.drew.heap.size (w' := w4) (by rw [HZ.out]; exact HN4.out) HK4.out
                        rw [hx] at this
                        exact this⟩, ⟨HB.out.trans (HK4.out.below (by have := HT.out.gr.lt; omega) (fun k hk e => by have := HGT.out; omega))⟩⟩
                      case measure => exact Nat.lt_succ_self _)
                  · have hn8 : n = 7 := by omega
                    have hgen : ∀ (n : Nat) (h : n = 7) (h1 : 2 * n < KS.length) (h2 : 2 * n + 1 < KS.length), KS[2 * n]'h1 = k3 ∧ KS[2 * n + 1]'h2 = KS[15]'(by decide) := by
                      rintro _ rfl _ _
                      exact ⟨rfl, rfl⟩
                    have hk0 : K[2 * n]'hl2 = k3 := by subst hKS; exact (hgen n hn8 hl2 hl3).1
                    rw [hk0] at k0
                    have hAx : A[239]? = some ((9 : Nat) : Int) := by rw [HAS.out]; exact as_239
                    have HE7 : Aside0 (Ent wr tab 7) := ⟨hn8 ▸ HE.out⟩
                    have hfree : tab[9]? = some (.pointer none) := HE7.out.free 9 (by omega) (fun i h8 hi e => xs_ne i h8 7 (by omega) (by omega) e)
                    have HADD := Aside0.mk (fun (W : World) hW => add_three g t 10 A tab val (16 - 2 * (n : Int)) 9 W hW hAx (by omega) hfree)
                    have hz : K[2 * n + 1]'hl3 = KS[15]'(by decide) := by subst hKS; exact (hgen n hn8 hl2 hl3).2
                    have HZ : Aside0 (KS[15]'(by decide) = val) := ⟨by rw [← hz, hval]⟩
                    have HP2 : Aside0 (16 - 2 * (n : Int) = 2) := ⟨by omega⟩
                    have HN8 := Aside0.mk hn8
                    obtain ⟨key, hkey⟩ : ∃ key, k3 = key := ⟨_, rfl⟩
                    rw [hkey] at k0 HADD
                    clear hk0 hAx hfree hz hval hkey hn8 hgen hn7
                    obtain ⟨m, hm⟩ : ∃ m, 2 * n + 1 = m := ⟨_, rfl⟩
                    rw [hm] at k1 d5
                    have hm1 : 2 * (n : Int) + 1 = (m : Int) := by omega
                    have hm2 : (m : Int) < 16 := by omega
                    have hm3 : m < 16 := by omega
                    have hw1 : IntKind.i64.wrap (2 * (n : Int) + 1) = (m : Int) := by
                      rw [hm1, i64_w]; unfold wrap64; omega
                    have hw2 : IntKind.i64.wrap (16 - 2 * (n : Int)) = 16 - 2 * (n : Int) := by
                      rw [i64_w]; unfold wrap64; omega
                    clear d5 d6 hm hm1
                    go_wp2
                    go_region_with (go_at_call 248; refine (HADD.out wr.drew (HT.out.below (below_drew (Below.refl _ _)))).mono ?_; rintro e w4 ⟨rfl, h1, ⟨n2, h4, h5, h6⟩, h3⟩; have HT4 := Aside0.mk h1; have HN4 := Aside0.mk h5; have HN5 := Aside0.mk h6; have HK4 : Aside0 (Kp (fun k => k = t) wr w4) := ⟨(Kp.of_below (below_drew (Below.refl _ _)) _).trans (G := fun k => k = t) h3 (fun _ _ e => e)⟩; clear h1 h3 h4 h5 h6)
                    all_goals (
                      go_wp2
                      go_roundg k2
                      case rel => exact ⟨n + 1, _, by rw [show 2 * (n : Int) + 2 = 2 * ((n + 1 : Nat) : Int) by omega], ⟨by omega⟩, ⟨by have := HQ.out; omega⟩, HT4, ⟨by
                        have h5 := HN5.out
                        rw [HP2.out, ← HZ.out] at h5
                        rw [show n + 1 = 8 by have := HN8.out; omega]
                        exact HE7.out.last HT.out wr.drew.heap.size n2 (w' := w4) HN4.out h5 HK4.out⟩, ⟨HB.out.trans (HK4.out.below (by have := HT.out.gr.lt; omega) (fun k hk e => by have := HGT.out; omega))⟩⟩
                      case measure => exact Nat.lt_succ_self _)
                · have d1 : decide (2 * (n : Int) < 16) = false := decide_eq_false (by omega)
                  have d3 : ¬ 2 * (n : Int) < 16 := by omega
                  have hn8 : n = 8 := by have := HN.out; omega
                  have HE8 : Aside0 (Ent wr tab 8) := ⟨hn8 ▸ HE.out⟩
                  clear hn8 hn
                  go_wp2
                  go_ret
                  refine ⟨by rw [HGG.out]; rfl, ⟨t, tab, ?_, HE8.out⟩, ?_⟩
                  · rw [HGG.out, ← HAS.out]; exact HT.out
                  · rw [HGG.out]; exact HB.out
end Go.Proofs.YteccaekalcjihaaGreatDoor.Repl
set_option linter.unusedVariables false
set_option linter.unusedSimpArgs false
namespace Go.Proofs.YteccaekalcjihaaGreatDoor.Once
open Go.RowKit Go.Proofs.YteccaekalcjihaaGreatDoorW.PrintWords
theorem disable (w : World) : (callFunc 250 #[]).run Tryz.prog w = .ok (.value (.tuple #[])) w := run_call_mark0 Tryz.func250 (by kernel_rfl) (by kernel_rfl) (by kernel_rfl) .disable (by kernel_rfl) w
theorem enable (w : World) : (callFunc 252 #[]).run Tryz.prog w = .ok (.value (.tuple #[])) w := run_call_mark0 Tryz.func252 (by kernel_rfl) (by kernel_rfl) (by kernel_rfl) .enable (by kernel_rfl) w
theorem acquire (a : Addr) (w : World) : (callFunc 253 #[.pointer (some a)]).run Tryz.prog w = .ok (.value (.tuple #[])) w := run_call_marked Tryz.func253 (by kernel_rfl) (by kernel_rfl) (by kernel_rfl) .acquire (by kernel_rfl) a w
theorem releaseMerge (a : Addr) (w : World) : (callFunc 255 #[.pointer (some a)]).run Tryz.prog w = .ok (.value (.tuple #[])) w := run_call_marked Tryz.func255 (by kernel_rfl) (by kernel_rfl) (by kernel_rfl) .releaseMerge (by kernel_rfl) a w
set_option maxRecDepth 100000 in
set_option maxHeartbeats 1600000 in
theorem store_deferred (a : Addr) (x : Value) (u : FrameMode) (w : World) (hc : w.cell? a = some x) (hz : w.frozen? a = false) :
    CallsD Tryz.prog 239 #[.pointer (some a), .bool true] u w fun e u' w' => u' = u ∧ (e = .returned (.tuple #[]) ∧ w' = w.drew.setCell a (.int .u32 1)) := by
  have hc' : w.drew.cell? a = some x := by go_simp
  have hz' : w.drew.frozen? a = false := by go_simp
  have hst := run_call_store (P := Tryz.prog) Tryz.func245 (by kernel_rfl) (by kernel_rfl) (by kernel_rfl) (by kernel_rfl) (k := .u32) (y := 1) hc' hz'
  go_enter_d Tryz.func239, Tryz.ntmps239
  go_wp2
  go_region_calls
  all_goals (go_end0; exact ⟨rfl, rfl⟩)
set_option maxRecDepth 100000 in
set_option maxHeartbeats 1600000 in
theorem unlock_deferred (a : Addr) (u : FrameMode) (w : World) (hc : w.cell? a = some (.int .i32 1)) (hz : w.frozen? a = false) :
    CallsD Tryz.prog 238 #[.pointer (some a)] u w fun e u' w' => u' = u ∧ (e = .returned (.tuple #[]) ∧ w' = w.setCell a (.int .i32 0)) := by
  have hd := disable
  have he := enable
  have hr := releaseMerge
  have hadd := run_call_add (P := Tryz.prog) Tryz.func256 (by kernel_rfl) (by kernel_rfl) (by kernel_rfl) .i32 (by kernel_rfl) (y := -1) (s := 0) hc hz (by simp [go_sem]; rfl)
  have hcv := run_convert_to_unsafe (P := Tryz.prog) (src := 258) (dst := 137) Tryz.underlying258 Tryz.underlying137 (by kernel_rfl) hc
  go_enter_d Tryz.func238, Tryz.ntmps238
  go_wp2
  go_end0
  go_wp2
  go_end0
  exact ⟨rfl, rfl⟩
set_option maxRecDepth 100000 in
set_option maxHeartbeats 1600000 in
theorem lock_free (a : Addr) (w : World) (hc : w.cell? a = some (.int .i32 0)) (hz : w.frozen? a = false) :
    Calls Tryz.prog 237 #[.pointer (some a)] w fun e w' => e = .returned (.tuple #[]) ∧ w' = w.setCell a (.int .i32 1) := by
  have hd := disable
  have he := enable
  have ha := acquire
  have hcas := run_call_cas_hit (P := Tryz.prog) Tryz.func251 (by kernel_rfl) (by kernel_rfl) (by kernel_rfl) .i32 (by kernel_rfl) (y := 1) hc hz
  have hc' : (w.setCell a (.int .i32 1)).cell? a = some (.int .i32 1) := World.cell?_setCell_same w a _ hc
  have hcv := run_convert_to_unsafe (P := Tryz.prog) (src := 258) (dst := 137) Tryz.underlying258 Tryz.underlying137 (by kernel_rfl) hc'
  go_enter Tryz.func237, Tryz.ntmps237
  go_wp2
  first | go_end0 | (simp only [Exit.inBlock, Exit.then]; refine bodyPost_ret (results_none rfl _ _ _) rfl ?_) | refine bodyPost_ret (results_none rfl _ _ _) rfl ?_
  go_wp2
  go_end0
  exact ⟨rfl, rfl⟩
set_option maxHeartbeats 1600000 in
theorem load_at (a : Addr) (w : World) (hc : w.cell? a = some (.int .u32 0)) :
    Calls Tryz.prog 230 #[.pointer (some a)] w fun e w' => e = .returned (.bool false) ∧ w' = w := by
  have hl := run_call_load (P := Tryz.prog) Tryz.func236 (by kernel_rfl) (by kernel_rfl) (by kernel_rfl) .u32 (by kernel_rfl) (w := w) (a := a) (x := 0) hc
  go_enter Tryz.func230, Tryz.ntmps230
  go_wp2
  go_ret
  exact ⟨rfl, rfl⟩
structure Keeps (b off : Nat) (w : World) : Prop where
  c0 : w.cell? ⟨b, off, none⟩ = some (.int .u32 0)
  c1 : w.cell? ⟨b, off + 1, none⟩ = some (.int .i32 1)
  f0 : w.frozen? ⟨b, off, none⟩ = false
  f1 : w.frozen? ⟨b, off + 1, none⟩ = false
set_option maxRecDepth 100000 in
set_option maxHeartbeats 1600000 in
theorem slow_any (b off : Nat) (r : Addr) (w : World) (Q : World → Prop) (h0 : w.cell? ⟨b, off, none⟩ = some (.int .u32 0)) (h1 : w.cell? ⟨b, off + 1, none⟩ = some (.int .i32 0))
    (f0 : w.frozen? ⟨b, off, none⟩ = false) (f1 : w.frozen? ⟨b, off + 1, none⟩ = false)
    (hF : Calls Tryz.prog 220 #[.pointer (some r)] (w.setCell ⟨b, off + 1, none⟩ (.int .i32 1)) fun e w' => e = .returned (.tuple #[]) ∧ Keeps b off w' ∧ Q w') :
    Calls Tryz.prog 231 #[.pointer (some ⟨b, off, none⟩), .func (.func 220) #[.pointer (some r)] #[]] w fun e w' => e = .returned (.tuple #[]) ∧ ∃ w2, Q w2 ∧ Keeps b off w2 ∧ w' = (w2.drew.setCell ⟨b, off, none⟩ (.int .u32 1)).setCell ⟨b, off + 1, none⟩ (.int .i32 0) := by
  have hl : (w.setCell ⟨b, off + 1, none⟩ (.int .i32 1)).cell? ⟨b, off, none⟩ = some (.int .u32 0) := (World.cell?_setCell_other _ ⟨b, off + 1, none⟩ ⟨b, off, none⟩ _ (by simp)).trans h0
  have hnot : ∀ (x : Bool) (w : World), (Op.unary .not (.bool x)).run Tryz.prog w = .ok (.bool (!x)) w := fun _ _ => rfl
  go_enter_defers Tryz.func231, Tryz.ntmps231
  go_wp2_with (first | (go_at_call 237; refine (lock_free ⟨b, off + 1, none⟩ _ (by go_simp) (by go_simp)).mono ?_; rintro e w' ⟨rfl, rfl⟩) | (go_at_call 230; refine (load_at ⟨b, off, none⟩ _ hl).mono ?_; rintro e w' ⟨rfl, rfl⟩) | (go_at_call 220; refine hF.mono ?_; rintro e w2 ⟨rfl, hk, hq⟩))
  refine leaves_cons (f := 239) (args := #[.pointer (some ⟨b, off, none⟩), .bool true]) (by simp) (by simp [go_sem]) ?_
  refine (store_deferred ⟨b, off, none⟩ (.int .u32 0) .returning _ hk.c0 hk.f0).mono ?_
  rintro e u' w'' ⟨rfl, rfl, rfl⟩
  refine leaves_cons (f := 238) (args := #[.pointer (some ⟨b, off + 1, none⟩)]) (by simp [settle]) (by simp [go_sem]) ?_
  refine (unlock_deferred ⟨b, off + 1, none⟩ _ _ ?_ (by simp [hk.f1])).mono ?_
  · refine (World.cell?_setCell_other _ ⟨b, off, none⟩ ⟨b, off + 1, none⟩ _ (by simp)).trans ?_
    rw [World.cell?_drew]
    exact hk.c1
  rintro e u' w'' ⟨rfl, rfl, rfl⟩
  simp [Leaves, settle, results, Tryz.results231]
  exact ⟨w2, hq, hk, rfl⟩
set_option maxRecDepth 100000 in
set_option maxHeartbeats 1600000 in
theorem do_any (b off : Nat) (r : Addr) (w : World) (Q : World → Prop) (h0 : w.cell? ⟨b, off, none⟩ = some (.int .u32 0)) (h1 : w.cell? ⟨b, off + 1, none⟩ = some (.int .i32 0))
    (f0 : w.frozen? ⟨b, off, none⟩ = false) (f1 : w.frozen? ⟨b, off + 1, none⟩ = false)
    (hF : Calls Tryz.prog 220 #[.pointer (some r)] (w.setCell ⟨b, off + 1, none⟩ (.int .i32 1)) fun e w' => e = .returned (.tuple #[]) ∧ Keeps b off w' ∧ Q w') :
    Calls Tryz.prog 219 #[.pointer (some ⟨b, off, none⟩), .func (.func 220) #[.pointer (some r)] #[]] w fun e w' => e = .returned (.tuple #[]) ∧ ∃ w2, Q w2 ∧ Keeps b off w2 ∧ w' = (w2.drew.setCell ⟨b, off, none⟩ (.int .u32 1)).setCell ⟨b, off + 1, none⟩ (.int .i32 0) := by
  have HS := Aside0.mk (slow_any b off r w Q h0 h1 f0 f1 hF)
  have hnot : ∀ (x : Bool) (w : World), (Op.unary .not (.bool x)).run Tryz.prog w = .ok (.bool (!x)) w := fun _ _ => rfl
  clear hF h1 f0 f1
  go_enter Tryz.func219, Tryz.ntmps219
  go_wp2_with (first | (go_at_call 230; refine (load_at ⟨b, off, none⟩ _ h0).mono ?_; rintro e w' ⟨rfl, rfl⟩) | (go_at_call 231; refine HS.out.mono ?_; rintro e w1 ⟨rfl, w2, h2, h3, rfl⟩))
  first | go_end0 | (simp only [Exit.inBlock, Exit.then]; refine bodyPost_ret (results_none rfl _ _ _) rfl ?_) | refine bodyPost_ret (results_none rfl _ _ _) rfl ?_
  exact ⟨rfl, w2, h2, h3, rfl⟩
end Go.Proofs.YteccaekalcjihaaGreatDoor.Once
