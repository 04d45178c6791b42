/- Several texts of this claim, laid together into one file. -/
import Derived.Test.YtaejicolhliecaaMRef
import Derived.Deep.AppendLies
set_option linter.unusedSimpArgs false
set_option linter.unusedVariables false
/- The document's own Render over the model of a page: the walk. -/
set_option linter.unusedVariables false
set_option linter.unusedSimpArgs false
namespace Go.Proofs.Ytaejicolhliecaa.Rend
open Go.RowKit Go.Lib Go.Proofs.Ytaejicolhliecaa.Buf Go.Proofs.Ytaejicolhliecaa.Flow Go.Proofs.Ytaejicolhliecaa.PRe Go.Proofs.YtaejicolhliecaaW.PrintWords

theorem rr_new (w : World) : RR w (w.alloc (.cells #[.string ⟨#[]⟩, .int .i64 0, .string ⟨#[]⟩] 29)) w.heap.size (.slice none 0 0) Pg.none :=
  ⟨(Below.refl _ w).alloc (Nat.le_refl _) _, heap_alloc_new w _, Nat.le_refl _, World.ownsRow_nil _ _ _ _⟩

section
variable {w0 w w' w1 : World} {b T : Nat} {v : Value} {s : Pg}
theorem rt_new (h : RR w0 w b v s) (k : Int) (n t : ByteArray) (A : Option Addr) (l c : Nat) (sf : Bool) : RT w0 (w.alloc (.cells #[.int .i64 k, .string n, .string t, .slice A l c, .bool sf] 47)) b v s w.heap.size k n t A l c sf :=
  ⟨h.then ((Below.refl _ w).alloc (Nat.le_refl _) _), heap_alloc_new w _⟩
/-- The names ahead of place i, as cells to be appended. -/
theorem rr_news {a : Option Addr} {vc : Nat} (h : RR w0 w b (.slice a s.names.length vc) s) (i : Nat) (hi : i < s.names.length) : ∃ ad, a = some ad ∧ i ≤ vc ∧ ∀ o, ∀ j u, ((s.names.take i).map Value.string)[j]? = some u → (w.alloc o).cell? (ad.add j) = some u := by
  rcases h.row.2 with ⟨e, h0⟩ | ⟨g, cap, cur, e, _, hg, h1, h2, h3, h4⟩
  · omega
  · simp only [Value.slice.injEq] at e
    obtain ⟨rfl, _, rfl⟩ := e
    refine ⟨⟨g, 0, none⟩, rfl, by omega, fun o j u hu => ?_⟩
    have hj : j < i := by
      have := (List.getElem?_eq_some_iff.1 hu).1
      simp at this
      omega
    have hu2 : (s.names.map Value.string)[j]? = some u := by
      rw [List.map_take, List.getElem?_take, if_pos hj] at hu
      exact hu
    exact (h.row.alloc o).cells (g := g) rfl j u hu2
theorem row_shape {base : Nat} {v : Value} {e : TypeId} {n : Nat} {xs : List Value} (h : w.ownsRow base e 1 v n xs) : ∃ a c, v = .slice a n c := by
  rcases h.2 with ⟨rfl, rfl⟩ | ⟨g, cap, cur, rfl, _⟩
  · exact ⟨none, 0, rfl⟩
  · exact ⟨_, cap, rfl⟩
/-- An append onto a new empty row. -/
theorem RR.fresh {v' : Value} {names : List ByteArray} {o : Obj} (h : RR w0 w b v s) (hr : w'.ownsRow w0.heap.size 9 1 v' names.length (names.map Value.string)) (hg : (w.alloc o).grownBy w' (Value.slice (some ⟨w.heap.size, 0, none⟩) 0 0).ownBlock) : RR w0 w' b v' { s with names := names } := by
  refine h.other ?_ hr
  exact ((Below.refl _ w).alloc (Nat.le_refl _) o).grown hg (by simp) (fun k e => by simp [Value.ownBlock] at e; omega)
theorem strs_one (l : List ByteArray) : ∀ u ∈ l.map Value.string, u.oneCell' = true := by
  intro u hu
  obtain ⟨x, _, rfl⟩ := List.mem_map.1 hu
  rfl
theorem lastN_lt {n : ByteArray} : ∀ {l : List ByteArray} {i : Nat}, lastN n l = some i → i < l.length
  | [], _, h => by cases h
  | x :: l, i, h => by
    simp only [lastN] at h
    cases hl : lastN n l with
    | some j =>
      rw [hl] at h
      have := lastN_lt hl
      simp at h
      subst h
      simp
      omega
    | none =>
      rw [hl] at h
      simp only at h
      by_cases hx : x.toList = n.toList
      · rw [if_pos hx] at h
        cases h
        simp
      · rw [if_neg hx] at h
        cases h
end

set_option maxHeartbeats 16000000 in
set_option maxRecDepth 100000 in
theorem rrender_at (A : Option Addr) (c : Nat) (l : List S47) (w : World) (hr : Kd.C k47 w A l.length l) (hc : l.length ≤ c) (hf : fits l = true) :
    Calls Try.prog 28 #[.slice A l.length c] w fun e w' => e = .returned (.string ⟨(Pg.all l Pg.none).m.told.toArray⟩) ∧ Below w.heap.size w w' := by
  have HC := Lib.hid hr
  have HF := Lib.hid (fits_all hf)
  have HR := Lib.hid (rr_new w)
  have hl2 : l.length ≤ 2000 := HF.out.1
  obtain ⟨i0, hi0, hz0, hz1, hz2⟩ := info_parts infoStr
  clear hr hf
  go_enter Try.func28, Try.ntmps28
  go_wp2_with fail
  obtain ⟨b, hb⟩ : ∃ b, w.heap.size = b := ⟨_, rfl⟩
  rw [hb] at HR
  simp only [hb]
  clear hb
  go_loopg [4, 5, 6] (l.length + 1) (fun kq v4 v5 v6 w' => ∃ (i : Nat) (a : Option Addr) (vc : Nat), v4 = .slice a (Pg.all (l.take i) Pg.none).names.length vc ∧ v5 = .int .i64 ((Pg.all (l.take i) Pg.none).kept : Nat) ∧ v6 = .int .i64 i ∧ Hid (i ≤ l.length) ∧ Hid (l.length < i + kq) ∧ Hid (RR w w' b (.slice a (Pg.all (l.take i) Pg.none).names.length vc) (Pg.all (l.take i) Pg.none)))
  case atStart => exact ⟨0, none, 0, rfl, rfl, rfl, Lib.hid (Nat.zero_le _), Lib.hid (by omega), HR⟩
  case round =>
    obtain ⟨i, a, vc, rfl, rfl, rfl, HI, HK, HS⟩ := hrel
    clear HR
    have hi := HI.out
    by_cases hlt : i < l.length
    · have d1 : decide ((i : Int) < (l.length : Int)) = true := decide_eq_true (by omega)
      have d2 : decide (i < l.length) = true := decide_eq_true hlt
      obtain ⟨x, hx⟩ : ∃ x, l[i] = x := ⟨_, rfl⟩
      have hmem : x ∈ l := hx ▸ List.getElem_mem hlt
      have hts := HF.out.2.1 x hmem
      have hsz := all_size (l.take i) Pg.none (fun y hy => HF.out.2.1 y (List.mem_of_mem_take hy))
      have HN : Hid (Pg.all (l.take (i + 1)) Pg.none = (Pg.all (l.take i) Pg.none).step x) := Lib.hid (by rw [take_one' l i hlt, hx, all_snoc])
      generalize Pg.all (l.take i) Pg.none = s0 at *
      have hlen : (l.take i).length ≤ 2000 := by simp; omega
      have h0 : Pg.none.m.size = 0 ∧ Pg.none.names.length = 0 ∧ Pg.none.kept = 0 := ⟨rfl, rfl, rfl⟩
      obtain ⟨ad, A3, c3, rfl, c0, c1, c2, c3', c4⟩ := tok_cells (Kd.C_below HC.out HS.out.below) i hlt
      rw [hx] at c0 c1 c2 c3' c4
      have HZ : Hid (s0.m.size ≤ 700000000) := Lib.hid (by omega)
      have HL : Hid (s0.names.length ≤ 100000) := Lib.hid (by omega)
      have HKK : Hid (s0.kept ≤ 100000) := Lib.hid (by omega)
      have HZ0 : Hid (s0.m.size + x.f2.size ≤ 900000000) := Lib.hid (by omega)
      clear hx hmem hts hsz hlen h0
      have HA := Lib.hid (rt_new HS.out x.f0 x.f1 x.f2 A3 x.f3.length c3 x.f4)
      cases gk with
      | zero => exact absurd HK.out (by omega)
      | succ k1 =>
        rcases (show x.f0 = 1 ∨ x.f0 = 2 ∨ x.f0 = 0 ∨ (x.f0 ≠ 0 ∧ x.f0 ≠ 1 ∧ x.f0 ≠ 2) by omega) with hk | hk | hk | ⟨hk0, hk1, hk2⟩
        · cases hH : hasN LH x.f1 with
          | true =>
            by_cases hB : x.f1.toList = tBody
            · have q1 : (x.f1.toList == [98, 111, 100, 121]) = true := beq_iff_eq.2 hB
              have hbn : bodyN x.f1 s0.names = (noHead s0.names) := by unfold bodyN; rw [if_pos hB]
              have hst : s0.step x = s0.start x.f1 := by unfold Pg.step; rw [if_pos hk]
              have HN2 : Hid (Pg.all (l.take (i + 1)) Pg.none = { s0 with names := (noHead s0.names) ++ [x.f1] }) := Lib.hid (by rw [HN.out, hst]; unfold Pg.start; rw [if_pos hH, hbn])
              rw [hk] at c0 HA
              clear hst hbn hB hk HN
              go_wp2_with (first
                | (go_at_call 41; refine (k_keeps HA).mono ?_; generalize hasN LK x.f1 = kq0; clear HA; rintro e w1 ⟨rfl, h1⟩; obtain ⟨p0, p1, p2, _⟩ := h1.out.cells)
                | (go_at_call 42; refine (k_without h1 rfl HL).mono ?_; clear h1; rintro e w2 ⟨a2, vc2, rfl, h2⟩; obtain ⟨g0, g1, g2, _⟩ := h2.out.cells)
                | (go_at_call 43; refine (k_hides h2).mono ?_; rw [hH]; rintro e w3 ⟨rfl, h3⟩; obtain ⟨e0, e1, e2, _⟩ := h3.out.cells)
                | (at_builtin; refine wpList_append_lies _ rfl _ _ _ rfl w.heap.size 9 i0 (.string ⟨#[]⟩) 1 16 Try.underlying44 hi0 hz0 hz1 hz2 rfl (by decide) (.slice a2 (noHead s0.names).length vc2) (noHead s0.names).length _ rfl (h3.out.rr.row.alloc _) _ 1 1 [.string x.f1] rfl rfl (cell_one_new _ _ _) (one_str x.f1) (by decide) (by have := HL.out; have := noHead_len s0.names; unfold maxLen; omega) (by have := HL.out; have := noHead_len s0.names; omega) (by have := h3.out.rr.below.size; simp; omega) _ rfl ?_; intro g cap w4 hown hgrow hat hlt4))
              have h4 := (h3.out.then ((Below.refl _ w3).alloc (Nat.le_refl _) (.cells #[.string x.f1] 9))).appended (names := (noHead s0.names) ++ [x.f1]) hgrow (by rw [List.length_append, List.map_append]; exact hown)
              have HG : Hid (RR w w4 b (.slice (some ⟨g, 0, none⟩) ((noHead s0.names) ++ [x.f1]).length cap) { s0 with names := (noHead s0.names) ++ [x.f1] }) := Lib.hid (by rw [List.length_append]; exact h4.rr)
              go_roundg k1
              case measure => omega
              case rel => exact ⟨i + 1, (some ⟨g, 0, none⟩), cap, by rw [HN2.out]; simp, by rw [HN2.out], by go_num, Lib.hid (by omega), Lib.hid (by have := HK.out; omega), by rw [HN2.out]; exact HG⟩
            · have q1 : (x.f1.toList == [98, 111, 100, 121]) = false := beq_eq_false_iff_ne.2 hB
              have hbn : bodyN x.f1 s0.names = s0.names := by unfold bodyN; rw [if_neg hB]
              have hst : s0.step x = s0.start x.f1 := by unfold Pg.step; rw [if_pos hk]
              have HN2 : Hid (Pg.all (l.take (i + 1)) Pg.none = { s0 with names := s0.names ++ [x.f1] }) := Lib.hid (by rw [HN.out, hst]; unfold Pg.start; rw [if_pos hH, hbn])
              rw [hk] at c0 HA
              clear hst hbn hB hk HN
              go_wp2_with (first
                | (go_at_call 41; refine (k_keeps HA).mono ?_; generalize hasN LK x.f1 = kq0; clear HA; rintro e w1 ⟨rfl, h1⟩; obtain ⟨p0, p1, p2, _⟩ := h1.out.cells)
                | (go_at_call 43; refine (k_hides h1).mono ?_; rw [hH]; rintro e w3 ⟨rfl, h3⟩; obtain ⟨e0, e1, e2, _⟩ := h3.out.cells)
                | (at_builtin; refine wpList_append_lies _ rfl _ _ _ rfl w.heap.size 9 i0 (.string ⟨#[]⟩) 1 16 Try.underlying44 hi0 hz0 hz1 hz2 rfl (by decide) (.slice a s0.names.length vc) s0.names.length _ rfl (h3.out.rr.row.alloc _) _ 1 1 [.string x.f1] rfl rfl (cell_one_new _ _ _) (one_str x.f1) (by decide) (by have := HL.out; unfold maxLen; omega) (by have := HL.out; omega) (by have := h3.out.rr.below.size; simp; omega) _ rfl ?_; intro g cap w4 hown hgrow hat hlt4))
              have h4 := (h3.out.then ((Below.refl _ w3).alloc (Nat.le_refl _) (.cells #[.string x.f1] 9))).appended (names := s0.names ++ [x.f1]) hgrow (by rw [List.length_append, List.map_append]; exact hown)
              have HG : Hid (RR w w4 b (.slice (some ⟨g, 0, none⟩) (s0.names ++ [x.f1]).length cap) { s0 with names := s0.names ++ [x.f1] }) := Lib.hid (by rw [List.length_append]; exact h4.rr)
              go_roundg k1
              case measure => omega
              case rel => exact ⟨i + 1, (some ⟨g, 0, none⟩), cap, by rw [HN2.out]; simp, by rw [HN2.out], by go_num, Lib.hid (by omega), Lib.hid (by have := HK.out; omega), by rw [HN2.out]; exact HG⟩
          | false =>
            by_cases hN : bodyN x.f1 s0.names = []
            · cases hK : hasN LK x.f1 with
              | true =>
                by_cases hB : x.f1.toList = tBody
                · have q1 : (x.f1.toList == [98, 111, 100, 121]) = true := beq_iff_eq.2 hB
                  have hbn : bodyN x.f1 s0.names = (noHead s0.names) := by unfold bodyN; rw [if_pos hB]
                  have hst : s0.step x = s0.start x.f1 := by unfold Pg.step; rw [if_pos hk]
                  have HN2 : Hid (Pg.all (l.take (i + 1)) Pg.none = { names := (noHead s0.names), kept := s0.kept + 1, m := tagM x.f1 s0.m }) := Lib.hid (by rw [HN.out, hst]; unfold Pg.start; rw [if_neg (by rw [hH]; simp), if_pos hN, if_pos hK, ← hbn, hN])
                  rw [hbn] at hN
                  have q2 : decide ((0 : Int) < ((noHead s0.names).length : Int)) = false := by rw [hN]; rfl
                  have q3 : decide (0 < (noHead s0.names).length) = false := by rw [hN]; rfl
                  rw [hk] at c0 HA
                  clear hst hbn hB hk HN hN
                  go_wp2_with (first
                    | (go_at_call 41; refine (k_keeps HA).mono ?_; rw [hK]; clear HA; rintro e w1 ⟨rfl, h1⟩; obtain ⟨p0, p1, p2, _⟩ := h1.out.cells)
                    | (go_at_call 42; refine (k_without h1 rfl HL).mono ?_; clear h1; rintro e w2 ⟨a2, vc2, rfl, h2⟩; obtain ⟨g0, g1, g2, _⟩ := h2.out.cells)
                    | (go_at_call 43; refine (k_hides h2).mono ?_; rw [hH]; rintro e w3 ⟨rfl, h3⟩; obtain ⟨e0, e1, e2, _⟩ := h3.out.cells)
                    | (go_at_call 44; refine (k_lines h3 HZ).mono ?_; clear h3; rintro e w4 ⟨rfl, h4⟩; obtain ⟨m0, m1, m2, _⟩ := h4.out.cells))
                  go_roundg k1
                  case measure => omega
                  case rel => exact ⟨i + 1, a2, vc2, by rw [HN2.out], by rw [HN2.out]; have := HKK.out; congr 1; (try unfold wrap64); simp only; omega, by go_num, Lib.hid (by omega), Lib.hid (by have := HK.out; omega), by rw [HN2.out]; exact Lib.hid ⟨h4.out.rr.below, h4.out.rr.flow, h4.out.rr.bge, h4.out.rr.row⟩⟩
                · have q1 : (x.f1.toList == [98, 111, 100, 121]) = false := beq_eq_false_iff_ne.2 hB
                  have hbn : bodyN x.f1 s0.names = s0.names := by unfold bodyN; rw [if_neg hB]
                  have hst : s0.step x = s0.start x.f1 := by unfold Pg.step; rw [if_pos hk]
                  have HN2 : Hid (Pg.all (l.take (i + 1)) Pg.none = { names := s0.names, kept := s0.kept + 1, m := tagM x.f1 s0.m }) := Lib.hid (by rw [HN.out, hst]; unfold Pg.start; rw [if_neg (by rw [hH]; simp), if_pos hN, if_pos hK, ← hbn, hN])
                  rw [hbn] at hN
                  have q2 : decide ((0 : Int) < (s0.names.length : Int)) = false := by rw [hN]; rfl
                  have q3 : decide (0 < s0.names.length) = false := by rw [hN]; rfl
                  rw [hk] at c0 HA
                  clear hst hbn hB hk HN hN
                  go_wp2_with (first
                    | (go_at_call 41; refine (k_keeps HA).mono ?_; rw [hK]; clear HA; rintro e w1 ⟨rfl, h1⟩; obtain ⟨p0, p1, p2, _⟩ := h1.out.cells)
                    | (go_at_call 43; refine (k_hides h1).mono ?_; rw [hH]; rintro e w3 ⟨rfl, h3⟩; obtain ⟨e0, e1, e2, _⟩ := h3.out.cells)
                    | (go_at_call 44; refine (k_lines h3 HZ).mono ?_; clear h3; rintro e w4 ⟨rfl, h4⟩; obtain ⟨m0, m1, m2, _⟩ := h4.out.cells))
                  go_roundg k1
                  case measure => omega
                  case rel => exact ⟨i + 1, a, vc, by rw [HN2.out], by rw [HN2.out]; have := HKK.out; congr 1; (try unfold wrap64); simp only; omega, by go_num, Lib.hid (by omega), Lib.hid (by have := HK.out; omega), by rw [HN2.out]; exact Lib.hid ⟨h4.out.rr.below, h4.out.rr.flow, h4.out.rr.bge, h4.out.rr.row⟩⟩
              | false =>
                by_cases hB : x.f1.toList = tBody
                · have q1 : (x.f1.toList == [98, 111, 100, 121]) = true := beq_iff_eq.2 hB
                  have hbn : bodyN x.f1 s0.names = (noHead s0.names) := by unfold bodyN; rw [if_pos hB]
                  have hst : s0.step x = s0.start x.f1 := by unfold Pg.step; rw [if_pos hk]
                  have HN2 : Hid (Pg.all (l.take (i + 1)) Pg.none = { names := (noHead s0.names), kept := s0.kept, m := tagM x.f1 s0.m }) := Lib.hid (by rw [HN.out, hst]; unfold Pg.start; rw [if_neg (by rw [hH]; simp), if_pos hN, if_neg (by rw [hK]; simp), ← hbn, hN])
                  rw [hbn] at hN
                  have q2 : decide ((0 : Int) < ((noHead s0.names).length : Int)) = false := by rw [hN]; rfl
                  have q3 : decide (0 < (noHead s0.names).length) = false := by rw [hN]; rfl
                  rw [hk] at c0 HA
                  clear hst hbn hB hk HN hN
                  go_wp2_with (first
                    | (go_at_call 41; refine (k_keeps HA).mono ?_; rw [hK]; clear HA; rintro e w1 ⟨rfl, h1⟩; obtain ⟨p0, p1, p2, _⟩ := h1.out.cells)
                    | (go_at_call 42; refine (k_without h1 rfl HL).mono ?_; clear h1; rintro e w2 ⟨a2, vc2, rfl, h2⟩; obtain ⟨g0, g1, g2, _⟩ := h2.out.cells)
                    | (go_at_call 43; refine (k_hides h2).mono ?_; rw [hH]; rintro e w3 ⟨rfl, h3⟩; obtain ⟨e0, e1, e2, _⟩ := h3.out.cells)
                    | (go_at_call 44; refine (k_lines h3 HZ).mono ?_; clear h3; rintro e w4 ⟨rfl, h4⟩; obtain ⟨m0, m1, m2, _⟩ := h4.out.cells))
                  go_roundg k1
                  case measure => omega
                  case rel => exact ⟨i + 1, a2, vc2, by rw [HN2.out], by rw [HN2.out], by go_num, Lib.hid (by omega), Lib.hid (by have := HK.out; omega), by rw [HN2.out]; exact Lib.hid ⟨h4.out.rr.below, h4.out.rr.flow, h4.out.rr.bge, h4.out.rr.row⟩⟩
                · have q1 : (x.f1.toList == [98, 111, 100, 121]) = false := beq_eq_false_iff_ne.2 hB
                  have hbn : bodyN x.f1 s0.names = s0.names := by unfold bodyN; rw [if_neg hB]
                  have hst : s0.step x = s0.start x.f1 := by unfold Pg.step; rw [if_pos hk]
                  have HN2 : Hid (Pg.all (l.take (i + 1)) Pg.none = { names := s0.names, kept := s0.kept, m := tagM x.f1 s0.m }) := Lib.hid (by rw [HN.out, hst]; unfold Pg.start; rw [if_neg (by rw [hH]; simp), if_pos hN, if_neg (by rw [hK]; simp), ← hbn, hN])
                  rw [hbn] at hN
                  have q2 : decide ((0 : Int) < (s0.names.length : Int)) = false := by rw [hN]; rfl
                  have q3 : decide (0 < s0.names.length) = false := by rw [hN]; rfl
                  rw [hk] at c0 HA
                  clear hst hbn hB hk HN hN
                  go_wp2_with (first
                    | (go_at_call 41; refine (k_keeps HA).mono ?_; rw [hK]; clear HA; rintro e w1 ⟨rfl, h1⟩; obtain ⟨p0, p1, p2, _⟩ := h1.out.cells)
                    | (go_at_call 43; refine (k_hides h1).mono ?_; rw [hH]; rintro e w3 ⟨rfl, h3⟩; obtain ⟨e0, e1, e2, _⟩ := h3.out.cells)
                    | (go_at_call 44; refine (k_lines h3 HZ).mono ?_; clear h3; rintro e w4 ⟨rfl, h4⟩; obtain ⟨m0, m1, m2, _⟩ := h4.out.cells))
                  go_roundg k1
                  case measure => omega
                  case rel => exact ⟨i + 1, a, vc, by rw [HN2.out], by rw [HN2.out], by go_num, Lib.hid (by omega), Lib.hid (by have := HK.out; omega), by rw [HN2.out]; exact Lib.hid ⟨h4.out.rr.below, h4.out.rr.flow, h4.out.rr.bge, h4.out.rr.row⟩⟩
            · by_cases hB : x.f1.toList = tBody
              · have q1 : (x.f1.toList == [98, 111, 100, 121]) = true := beq_iff_eq.2 hB
                have hbn : bodyN x.f1 s0.names = (noHead s0.names) := by unfold bodyN; rw [if_pos hB]
                have hst : s0.step x = s0.start x.f1 := by unfold Pg.step; rw [if_pos hk]
                have HN2 : Hid (Pg.all (l.take (i + 1)) Pg.none = { s0 with names := (noHead s0.names) }) := Lib.hid (by rw [HN.out, hst]; unfold Pg.start; rw [if_neg (by rw [hH]; simp), if_neg hN, hbn])
                rw [hbn] at hN
                have q2 : decide ((0 : Int) < ((noHead s0.names).length : Int)) = true := decide_eq_true (by have := List.length_pos_iff.2 hN; omega)
                have q3 : decide (0 < (noHead s0.names).length) = true := decide_eq_true (List.length_pos_iff.2 hN)
                rw [hk] at c0 HA
                clear hst hbn hB hk HN hN
                go_wp2_with (first
                  | (go_at_call 41; refine (k_keeps HA).mono ?_; generalize hasN LK x.f1 = kq0; clear HA; rintro e w1 ⟨rfl, h1⟩; obtain ⟨p0, p1, p2, _⟩ := h1.out.cells)
                  | (go_at_call 42; refine (k_without h1 rfl HL).mono ?_; clear h1; rintro e w2 ⟨a2, vc2, rfl, h2⟩; obtain ⟨g0, g1, g2, _⟩ := h2.out.cells)
                  | (go_at_call 43; refine (k_hides h2).mono ?_; rw [hH]; rintro e w3 ⟨rfl, h3⟩; obtain ⟨e0, e1, e2, _⟩ := h3.out.cells))
                go_roundg k1
                case measure => omega
                case rel => exact ⟨i + 1, a2, vc2, by rw [HN2.out], by rw [HN2.out], by go_num, Lib.hid (by omega), Lib.hid (by have := HK.out; omega), by rw [HN2.out]; exact Lib.hid ⟨h3.out.rr.below, h3.out.rr.flow, h3.out.rr.bge, h3.out.rr.row⟩⟩
              · have q1 : (x.f1.toList == [98, 111, 100, 121]) = false := beq_eq_false_iff_ne.2 hB
                have hbn : bodyN x.f1 s0.names = s0.names := by unfold bodyN; rw [if_neg hB]
                have hst : s0.step x = s0.start x.f1 := by unfold Pg.step; rw [if_pos hk]
                have HN2 : Hid (Pg.all (l.take (i + 1)) Pg.none = { s0 with names := s0.names }) := Lib.hid (by rw [HN.out, hst]; unfold Pg.start; rw [if_neg (by rw [hH]; simp), if_neg hN, hbn])
                rw [hbn] at hN
                have q2 : decide ((0 : Int) < (s0.names.length : Int)) = true := decide_eq_true (by have := List.length_pos_iff.2 hN; omega)
                have q3 : decide (0 < s0.names.length) = true := decide_eq_true (List.length_pos_iff.2 hN)
                rw [hk] at c0 HA
                clear hst hbn hB hk HN hN
                go_wp2_with (first
                  | (go_at_call 41; refine (k_keeps HA).mono ?_; generalize hasN LK x.f1 = kq0; clear HA; rintro e w1 ⟨rfl, h1⟩; obtain ⟨p0, p1, p2, _⟩ := h1.out.cells)
                  | (go_at_call 43; refine (k_hides h1).mono ?_; rw [hH]; rintro e w3 ⟨rfl, h3⟩; obtain ⟨e0, e1, e2, _⟩ := h3.out.cells))
                go_roundg k1
                case measure => omega
                case rel => exact ⟨i + 1, a, vc, by rw [HN2.out], by rw [HN2.out], by go_num, Lib.hid (by omega), Lib.hid (by have := HK.out; omega), by rw [HN2.out]; exact Lib.hid ⟨h3.out.rr.below, h3.out.rr.flow, h3.out.rr.bge, h3.out.rr.row⟩⟩
        · cases hlast : lastN x.f1 s0.names with
          | some i1 =>
            have hst : s0.step x = s0.close x.f1 := by unfold Pg.step; rw [if_neg (by rw [hk]; decide), if_pos hk]
            have hi1 := lastN_lt hlast
            have HN2 : Hid (Pg.all (l.take (i + 1)) Pg.none = { s0 with names := s0.names.take i1 }) := Lib.hid (by rw [HN.out, hst]; unfold Pg.close; rw [hlast])
            have hli : lastI x.f1 s0.names = (i1 : Int) := by unfold lastI; rw [hlast]
            have q4 : decide ((0 : Int) ≤ (i1 : Int)) = true := decide_eq_true (by omega)
            have HI1 := Lib.hid hi1
            rw [hk] at c0 HA
            clear hst hk HN hlast hi1
            have hvcI : (i1 : Int) ≤ (s0.names.length : Int) := by have := HI1.out; omega
            go_wp2_with (first
              | (go_at_call 41; refine (k_keeps HA).mono ?_; generalize hasN LK x.f1 = kq0; clear HA; rintro e w1 ⟨rfl, h1⟩; obtain ⟨p0, p1, p2, _⟩ := h1.out.cells)
              | (go_at_call 45; refine (k_last h1 rfl HL).mono ?_; rw [hli]; clear h1; rintro e w2 ⟨rfl, h2⟩; obtain ⟨g0, g1, g2, _⟩ := h2.out.cells; obtain ⟨ad2, had, hvc, HNW⟩ := rr_news h2.out.rr i1 HI1.out)
              | (at_builtin; refine wpList_append_own_at _ rfl _ _ 44 rfl w.heap.size 9 i0 (.string ⟨#[]⟩) 1 16 Try.underlying44 hi0 hz0 hz1 hz2 rfl (by decide) (.slice (some ⟨w2.heap.size, 0, none⟩) 0 0) 0 [] rfl (World.ownsRow_made w2 #[] 0 (by have := h2.out.rr.below.size; omega) (by decide) rfl) ad2 i1 vc ((s0.names.take i1).map Value.string) (by rw [← had]; rfl) (by have := HI1.out; simp; omega) (HNW _) (strs_one _) (by have := HI1.out; have := HL.out; unfold maxLen; omega) (by have := HI1.out; have := HL.out; omega) (by have := h2.out.rr.below.size; simp; omega) ?_; intro v3 w3 hown hgrow hnil hloc))
            have hlt2 : (s0.names.take i1).length = i1 := by have := HI1.out; simp; omega
            have hown : w3.ownsRow w.heap.size 9 1 v3 (s0.names.take i1).length ((s0.names.take i1).map Value.string) := by rw [hlt2]; rw [List.nil_append, Nat.zero_add] at hown; exact hown
            have h3 := h2.out.rr.fresh hown hgrow
            obtain ⟨a3, vc3, rfl⟩ : ∃ a3 vc3, v3 = .slice a3 (s0.names.take i1).length vc3 := row_shape hown
            go_roundg k1
            case measure => omega
            case rel => exact ⟨i + 1, a3, vc3, by rw [HN2.out], by rw [HN2.out], by go_num, Lib.hid (by omega), Lib.hid (by have := HK.out; omega), by rw [HN2.out]; exact Lib.hid h3⟩
          | none =>
            by_cases hN : s0.names = []
            · cases hK : hasN LK x.f1 with
              | true =>
                by_cases hz : 0 < s0.kept
                · have hst : s0.step x = s0.close x.f1 := by unfold Pg.step; rw [if_neg (by rw [hk]; decide), if_pos hk]
                  have hli : lastI x.f1 s0.names = -1 := by unfold lastI; rw [hlast]
                  have HN2 : Hid (Pg.all (l.take (i + 1)) Pg.none = { s0 with kept := s0.kept - 1, m := tagM x.f1 s0.m }) := Lib.hid (by rw [HN.out, hst]; unfold Pg.close; rw [hlast]; simp only; rw [if_pos hN, if_pos hK])
                  have q2 : decide ((0 : Int) < (s0.names.length : Int)) = false := by rw [hN]; rfl
                  have q3 : decide (0 < s0.names.length) = false := by rw [hN]; rfl
                  have z1 : decide ((0 : Int) < (s0.kept : Int)) = true := decide_eq_true (by omega)
                  have z2 : decide (0 < s0.kept) = true := decide_eq_true hz
                  have HZK := Lib.hid hz
                  rw [hk] at c0 HA
                  clear hst hk HN hlast hN hz
                  go_wp2_with (first
                    | (go_at_call 41; refine (k_keeps HA).mono ?_; rw [hK]; clear HA; rintro e w1 ⟨rfl, h1⟩; obtain ⟨p0, p1, p2, _⟩ := h1.out.cells)
                    | (go_at_call 45; refine (k_last h1 rfl HL).mono ?_; rw [hli]; clear h1; rintro e w2 ⟨rfl, h2⟩; obtain ⟨g0, g1, g2, _⟩ := h2.out.cells)
                    | (go_at_call 44; refine (k_lines h2 HZ).mono ?_; clear h2; rintro e w4 ⟨rfl, h4⟩; obtain ⟨m0, m1, m2, _⟩ := h4.out.cells))
                  go_roundg k1
                  case measure => omega
                  case rel => exact ⟨i + 1, a, vc, by rw [HN2.out], by rw [HN2.out]; have := HZK.out; have := HKK.out; congr 1; (try unfold wrap64); simp only; omega, by go_num, Lib.hid (by omega), Lib.hid (by have := HK.out; omega), by rw [HN2.out]; exact Lib.hid ⟨h4.out.rr.below, h4.out.rr.flow, h4.out.rr.bge, h4.out.rr.row⟩⟩
                · have hst : s0.step x = s0.close x.f1 := by unfold Pg.step; rw [if_neg (by rw [hk]; decide), if_pos hk]
                  have hli : lastI x.f1 s0.names = -1 := by unfold lastI; rw [hlast]
                  have HN2 : Hid (Pg.all (l.take (i + 1)) Pg.none = { s0 with m := tagM x.f1 s0.m }) := Lib.hid (by rw [HN.out, hst]; unfold Pg.close; rw [hlast]; simp only; rw [if_pos hN, if_pos hK, show s0.kept - 1 = s0.kept by omega])
                  have q2 : decide ((0 : Int) < (s0.names.length : Int)) = false := by rw [hN]; rfl
                  have q3 : decide (0 < s0.names.length) = false := by rw [hN]; rfl
                  have z1 : decide ((0 : Int) < (s0.kept : Int)) = false := decide_eq_false (by omega)
                  have z2 : decide (0 < s0.kept) = false := decide_eq_false hz
                  rw [hk] at c0 HA
                  clear hst hk HN hlast hN hz
                  go_wp2_with (first
                    | (go_at_call 41; refine (k_keeps HA).mono ?_; rw [hK]; clear HA; rintro e w1 ⟨rfl, h1⟩; obtain ⟨p0, p1, p2, _⟩ := h1.out.cells)
                    | (go_at_call 45; refine (k_last h1 rfl HL).mono ?_; rw [hli]; clear h1; rintro e w2 ⟨rfl, h2⟩; obtain ⟨g0, g1, g2, _⟩ := h2.out.cells)
                    | (go_at_call 44; refine (k_lines h2 HZ).mono ?_; clear h2; rintro e w4 ⟨rfl, h4⟩; obtain ⟨m0, m1, m2, _⟩ := h4.out.cells))
                  go_roundg k1
                  case measure => omega
                  case rel => exact ⟨i + 1, a, vc, by rw [HN2.out], by rw [HN2.out], by go_num, Lib.hid (by omega), Lib.hid (by have := HK.out; omega), by rw [HN2.out]; exact Lib.hid ⟨h4.out.rr.below, h4.out.rr.flow, h4.out.rr.bge, h4.out.rr.row⟩⟩
              | false =>
                have hst : s0.step x = s0.close x.f1 := by unfold Pg.step; rw [if_neg (by rw [hk]; decide), if_pos hk]
                have hli : lastI x.f1 s0.names = -1 := by unfold lastI; rw [hlast]
                have HN2 : Hid (Pg.all (l.take (i + 1)) Pg.none = { s0 with m := tagM x.f1 s0.m }) := Lib.hid (by rw [HN.out, hst]; unfold Pg.close; rw [hlast]; simp only; rw [if_pos hN, if_neg (by rw [hK]; simp)])
                have q2 : decide ((0 : Int) < (s0.names.length : Int)) = false := by rw [hN]; rfl
                have q3 : decide (0 < s0.names.length) = false := by rw [hN]; rfl
                rw [hk] at c0 HA
                clear hst hk HN hlast hN
                go_wp2_with (first
                  | (go_at_call 41; refine (k_keeps HA).mono ?_; rw [hK]; clear HA; rintro e w1 ⟨rfl, h1⟩; obtain ⟨p0, p1, p2, _⟩ := h1.out.cells)
                  | (go_at_call 45; refine (k_last h1 rfl HL).mono ?_; rw [hli]; clear h1; rintro e w2 ⟨rfl, h2⟩; obtain ⟨g0, g1, g2, _⟩ := h2.out.cells)
                  | (go_at_call 44; refine (k_lines h2 HZ).mono ?_; clear h2; rintro e w4 ⟨rfl, h4⟩; obtain ⟨m0, m1, m2, _⟩ := h4.out.cells))
                go_roundg k1
                case measure => omega
                case rel => exact ⟨i + 1, a, vc, by rw [HN2.out], by rw [HN2.out], by go_num, Lib.hid (by omega), Lib.hid (by have := HK.out; omega), by rw [HN2.out]; exact Lib.hid ⟨h4.out.rr.below, h4.out.rr.flow, h4.out.rr.bge, h4.out.rr.row⟩⟩
            · have hst : s0.step x = s0.close x.f1 := by unfold Pg.step; rw [if_neg (by rw [hk]; decide), if_pos hk]
              have hli : lastI x.f1 s0.names = -1 := by unfold lastI; rw [hlast]
              have HN2 : Hid (Pg.all (l.take (i + 1)) Pg.none = s0) := Lib.hid (by rw [HN.out, hst]; unfold Pg.close; rw [hlast]; exact if_neg hN)
              have q2 : decide ((0 : Int) < (s0.names.length : Int)) = true := decide_eq_true (by have := List.length_pos_iff.2 hN; omega)
              have q3 : decide (0 < s0.names.length) = true := decide_eq_true (List.length_pos_iff.2 hN)
              rw [hk] at c0 HA
              clear hst hk HN hlast hN
              go_wp2_with (first
                | (go_at_call 41; refine (k_keeps HA).mono ?_; generalize hasN LK x.f1 = kq0; clear HA; rintro e w1 ⟨rfl, h1⟩; obtain ⟨p0, p1, p2, _⟩ := h1.out.cells)
                | (go_at_call 45; refine (k_last h1 rfl HL).mono ?_; rw [hli]; clear h1; rintro e w2 ⟨rfl, h2⟩; obtain ⟨g0, g1, g2, _⟩ := h2.out.cells))
              go_roundg k1
              case measure => omega
              case rel => exact ⟨i + 1, a, vc, by rw [HN2.out], by rw [HN2.out], by go_num, Lib.hid (by omega), Lib.hid (by have := HK.out; omega), by rw [HN2.out]; exact Lib.hid h2.out.rr⟩
        · by_cases hN : s0.names = []
          · have hst : s0.step x = s0.text x.f2 := by unfold Pg.step; rw [if_neg (by rw [hk]; decide), if_neg (by rw [hk]; decide), if_pos hk]
            have HN2 : Hid (Pg.all (l.take (i + 1)) Pg.none = { s0 with m := s0.m.put (decide (0 < s0.kept)) x.f2.data.toList }) := Lib.hid (by rw [HN.out, hst]; exact if_pos hN)
            have q2 : ((s0.names.length : Int) == 0) = true := by rw [hN]; rfl
            have q3 : (s0.names.length == 0) = true := by rw [hN]; rfl
            rw [hk] at c0 HA
            clear hst hk HN hN
            go_wp2_with (first
              | (go_at_call 41; refine (k_keeps HA).mono ?_; generalize hasN LK x.f1 = kq0; clear HA; rintro e w1 ⟨rfl, h1⟩; obtain ⟨p0, p1, p2, _⟩ := h1.out.cells)
              | (go_at_call 19; refine (k_do h1 _ HZ0).mono ?_; rintro e w2 ⟨rfl, h2⟩))
            go_roundg k1
            case measure => omega
            case rel => exact ⟨i + 1, a, vc, by rw [HN2.out], by rw [HN2.out], by go_num, Lib.hid (by omega), Lib.hid (by have := HK.out; omega), by rw [HN2.out]; exact Lib.hid h2.out.rr⟩
          · have hst : s0.step x = s0.text x.f2 := by unfold Pg.step; rw [if_neg (by rw [hk]; decide), if_neg (by rw [hk]; decide), if_pos hk]
            have HN2 : Hid (Pg.all (l.take (i + 1)) Pg.none = s0) := Lib.hid (by rw [HN.out, hst]; exact if_neg hN)
            have q2 : ((s0.names.length : Int) == 0) = false := beq_eq_false_iff_ne.2 (fun e => hN (List.length_eq_zero_iff.1 (by omega)))
            have q3 : (s0.names.length == 0) = false := beq_eq_false_iff_ne.2 (fun e => hN (List.length_eq_zero_iff.1 e))
            rw [hk] at c0 HA
            clear hst hk HN hN
            go_wp2_with (first
              | (go_at_call 41; refine (k_keeps HA).mono ?_; generalize hasN LK x.f1 = kq0; clear HA; rintro e w1 ⟨rfl, h1⟩; obtain ⟨p0, p1, p2, _⟩ := h1.out.cells))
            go_roundg k1
            case measure => omega
            case rel => exact ⟨i + 1, a, vc, by rw [HN2.out], by rw [HN2.out], by go_num, Lib.hid (by omega), Lib.hid (by have := HK.out; omega), by rw [HN2.out]; exact Lib.hid h1.out.rr⟩
        · have hst : s0.step x = s0 := by unfold Pg.step; rw [if_neg hk1, if_neg hk2, if_neg hk0]
          have HN2 : Hid (Pg.all (l.take (i + 1)) Pg.none = s0) := Lib.hid (by rw [HN.out, hst])
          have k0 : (x.f0 == 0) = false := beq_eq_false_iff_ne.2 hk0
          have k1' : (x.f0 == 1) = false := beq_eq_false_iff_ne.2 hk1
          have k2 : (x.f0 == 2) = false := beq_eq_false_iff_ne.2 hk2
          clear hst hk0 hk1 hk2 HN
          go_wp2_with (go_at_call 41; refine (k_keeps HA).mono ?_; generalize hasN LK x.f1 = kq0; clear HA; rintro e w1 ⟨rfl, h1⟩; obtain ⟨p0, p1, p2, _⟩ := h1.out.cells)
          go_roundg k1
          case measure => omega
          case rel => exact ⟨i + 1, a, vc, by rw [HN2.out], by rw [HN2.out], by go_num, Lib.hid (by omega), Lib.hid (by have := HK.out; omega), by rw [HN2.out]; exact Lib.hid h1.out.rr⟩
    · have d1 : decide ((i : Int) < (l.length : Int)) = false := decide_eq_false (by omega)
      have d2 : decide (i < l.length) = false := decide_eq_false hlt
      have hie : i = l.length := by omega
      have HE : Hid (Pg.all l Pg.none = Pg.all (l.take i) Pg.none) := Lib.hid (by rw [hie, List.take_length])
      generalize Pg.all (l.take i) Pg.none = s0 at *
      obtain ⟨e0, _⟩ := rf_cells HS.out.flow
      go_wp2_with fail
      go_ret
      exact ⟨by rw [HE.out]; rfl, HS.out.below⟩
end Go.Proofs.Ytaejicolhliecaa.Rend

/- flailref19.Render as the print's texts want it: one plain function of the tokens, and its contract. -/
set_option linter.unusedVariables false
namespace Go.Proofs.Ytaejicolhliecaa.PRe
open Go.RowKit Go.Proofs.YtaejicolhliecaaW.PrintWords Go.Proofs.Ytaejicolhliecaa.Rend

def flailref19_Render.f (l : List S47) : Option ByteArray := if fits l = true then some ⟨(Pg.all l Pg.none).m.told.toArray⟩ else none
theorem flailref19_Render.calls (A0 : Option Addr) (c0 : Nat) (l0 : List S47) (r : ByteArray) (w : World) (hr0 : Kd.C k47 w A0 l0.length l0) (hc0 : l0.length ≤ c0) (h : flailref19_Render.f l0 = some r) :
    Calls Try.prog 28 #[.slice A0 l0.length c0] w fun e w' => e = .returned (.string r) ∧ Below w.heap.size w w' := by
  unfold flailref19_Render.f at h
  by_cases hf : fits l0 = true
  · rw [if_pos hf] at h
    have hr := Option.some.inj h
    subst hr
    exact rrender_at A0 c0 l0 w hr0 hc0 hf
  · rw [if_neg hf] at h
    cases h
end Go.Proofs.Ytaejicolhliecaa.PRe
