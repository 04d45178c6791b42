/- Several flows side by side, each in blocks of its own, all made behind a world: what is done to one leaves the others as they are. -/
import Derived.Test.YtaejicolhliecaaFlow3
set_option linter.unusedVariables false
namespace Go.Proofs.Ytaejicolhliecaa.Flow
open Go.RowKit Go.Lib Go.Proofs.Ytaejicolhliecaa.Buf

/-- The flows of the list, all behind w0. -/
def Sys (w0 w : World) (l : List (Nat × M)) : Prop :=
  Below w0.heap.size w0 w ∧ ∃ col : Nat → Nat, (∀ k, col k ≠ 0 → w0.heap.size ≤ k ∧ k < w.heap.size) ∧ ∀ i (p : Nat × M), l[i]? = some p → Fl w p.1 (fun k => col k = i + 1) p.2

theorem Sys.below {w0 w : World} {l : List (Nat × M)} (h : Sys w0 w l) : Below w0.heap.size w0 w := h.1

theorem sys_nil (w0 : World) : Sys w0 w0 [] := ⟨Below.refl _ w0, fun _ => 0, fun k h => absurd rfl h, fun i p h => by simp at h⟩

/-- What was made elsewhere. -/
theorem Sys.then {w0 w w' : World} {l : List (Nat × M)} (h : Sys w0 w l) (hb : Below w.heap.size w w') : Sys w0 w' l := by
  obtain ⟨h1, col, hc, hf⟩ := h
  refine ⟨h1.trans ⟨hb.os, hb.tape, hb.output, hb.size, fun k hk => hb.block k (Nat.lt_of_lt_of_le hk h1.size)⟩, col, fun k hk => ⟨(hc k hk).1, Nat.lt_of_lt_of_le (hc k hk).2 hb.size⟩, fun i p hp => ?_⟩
  exact (hf i p hp).kp (G := fun _ => False) (Kp.of_below hb _) (fun _ _ h => h)

theorem Sys.drawn {w0 w w' : World} {l : List (Nat × M)} (h : Sys w0 w l) (n : Nat) : Sys w0 (w.drewN n) l := h.then ⟨rfl, rfl, rfl, Nat.le_refl _, fun _ _ => rfl⟩

theorem fl_mono {w : World} {b : Nat} {F G : Nat → Prop} {m : M} (h : Fl w b F m) (hi : ∀ k, F k → G k) (hG : ∀ k, G k → k < w.heap.size) : Fl w b G m := by
  obtain ⟨a, v, l, h⟩ := h
  exact ⟨a, v, l, h.heap, h.addr, h.told, h.blanks, h.nv, h.nl, h.apart, hi _ h.fb, fun k e => hi _ (h.fv k e), fun k e => hi _ (h.fl k e), hG⟩

/-- A new one. -/
theorem Sys.new {w0 w : World} {l : List (Nat × M)} (h : Sys w0 w l) : Sys w0 (w.alloc (.cells #[.pointer none, .slice none 0 0, .int .i64 0, .slice none 0 0] 62)) (l ++ [(w.heap.size, M.none)]) := by
  obtain ⟨h1, col, hc, hf⟩ := h
  refine ⟨h1.alloc h1.size _, fun k => if k = w.heap.size then l.length + 1 else col k, fun k hk => ?_, fun i p hp => ?_⟩
  · by_cases e : k = w.heap.size
    · subst e
      exact ⟨h1.size, by simp⟩
    · simp only [if_neg e] at hk
      exact ⟨(hc k hk).1, by simp; have := (hc k hk).2; omega⟩
  · have hcs : col w.heap.size = 0 := by
      by_cases e : col w.heap.size = 0
      · exact e
      · exact absurd (hc _ e).2 (by omega)
    by_cases hi : i < l.length
    · rw [List.getElem?_append_left hi] at hp
      have hk := (hf i p hp).kp (G := fun _ => False) ((Kp.refl (fun _ => False) w).alloc (.cells #[.pointer none, .slice none 0 0, .int .i64 0, .slice none 0 0] 62)) (fun _ _ h => h)
      refine fl_mono hk (fun k e => ?_) (fun k e => ?_)
      · by_cases e2 : k = w.heap.size
        · subst e2
          rw [hcs] at e
          omega
        · simp only [if_neg e2]
          exact e
      · simp only at e
        by_cases e2 : k = w.heap.size
        · simp only [if_pos e2] at e
          omega
        · simp only [if_neg e2] at e
          have := (hc k (by omega)).2
          simp
          omega
    · have hil : i = l.length := by
        have := (List.getElem?_eq_some_iff.1 hp).1
        simp at this
        omega
      subst hil
      rw [List.getElem?_append_right (Nat.le_refl _)] at hp
      simp at hp
      subst hp
      refine fl_mono (new_fl w) (fun k e => ?_) (fun k e => ?_)
      · simp only [if_pos e]
      · simp only at e
        by_cases e2 : k = w.heap.size
        · subst e2
          simp
        · simp only [if_neg e2] at e
          have := (hc k (by omega)).2
          simp
          omega

/-- A step of the flow i. -/
theorem Sys.use {w0 w : World} {l : List (Nat × M)} {i b : Nat} {m : M} (h : Sys w0 w l) (hi : l[i]? = some (b, m)) : ∃ F, Fl w b F m ∧ ∀ w' m', Does w w' b F m' → Sys w0 w' (l.set i (b, m')) := by
  obtain ⟨h1, col, hc, hf⟩ := h
  refine ⟨fun k => col k = i + 1, hf i (b, m) hi, ?_⟩
  rintro w' m' ⟨F', hF', hk, hn⟩
  have hbase : ∀ k, k < w0.heap.size → ¬ (col k = i + 1) := fun k hk e => by
    have := (hc k (by omega)).1
    omega
  have hFin : ∀ k, F' k → k < w'.heap.size := by
    obtain ⟨_, _, _, hh⟩ := hF'
    exact hh.fin
  classical
  refine ⟨h1.trans (hk.below h1.size hbase), fun k => if F' k then i + 1 else if col k = i + 1 then 0 else col k, fun k hk0 => ?_, fun j p hp => ?_⟩
  · by_cases e : F' k
    · rcases hn k e with e2 | e2
      · exact ⟨(hc k (by omega)).1, hFin k e⟩
      · exact ⟨Nat.le_trans h1.size e2, hFin k e⟩
    · simp only [if_neg e] at hk0
      by_cases e2 : col k = i + 1
      · simp [if_pos e2] at hk0
      · simp only [if_neg e2] at hk0
        exact ⟨(hc k hk0).1, Nat.lt_of_lt_of_le (hc k hk0).2 hk.size⟩
  · have hil := (List.getElem?_eq_some_iff.1 hi).1
    have hfin2 : ∀ k, (if F' k then i + 1 else if col k = i + 1 then 0 else col k) = j + 1 → k < w'.heap.size := fun k e => by
      by_cases e2 : F' k
      · exact hFin k e2
      · simp only [if_neg e2] at e
        by_cases e3 : col k = i + 1
        · simp [if_pos e3] at e
        · simp only [if_neg e3] at e
          exact Nat.lt_of_lt_of_le (hc k (by omega)).2 hk.size
    by_cases hj : j = i
    · subst hj
      rw [List.getElem?_set_self hil] at hp
      simp only [Option.some.injEq] at hp
      subst hp
      refine fl_mono hF' (fun k e => ?_) hfin2
      simp only [if_pos e]
    · rw [List.getElem?_set_ne (fun e => hj e.symm)] at hp
      have hk2 := (hf j p hp).kp hk (fun k e e2 => hj (by omega))
      refine fl_mono hk2 (fun k e => ?_) hfin2
      have hnF : ¬ F' k := fun e2 => by
        rcases hn k e2 with e3 | e3
        · omega
        · have := (hc k (by omega)).2
          omega
      have hni : ¬ col k = i + 1 := by omega
      simp only [if_neg hnF, if_neg hni]
      exact e

theorem set_same' {l : List (Nat × M)} {i : Nat} {p : Nat × M} (h : l[i]? = some p) : l.set i p = l := by
  apply List.ext_getElem?
  intro j
  rw [List.getElem?_set]
  split
  · rename_i e
    subst e
    have := (List.getElem?_eq_some_iff.1 h).1
    rw [if_pos this, h]
  · rfl

section
variable {w0 w : World} {l : List (Nat × M)} {b : Nat} {m : M}

theorem sys_new (h : Sys w0 w l) : Calls Try.prog 17 #[] w fun e w' => ∃ b, e = .returned (.pointer (some ⟨b, 0, none⟩)) ∧ Hid (Sys w0 w' (l ++ [(b, M.none)])) := by
  refine (new_at w).mono ?_
  rintro e w' ⟨h1, h2⟩
  subst h2
  exact ⟨_, h1, Lib.hid h.new⟩
theorem sys_put (i : Nat) (h : Hid (Sys w0 w l)) (hi : l[i]? = some (b, m)) (s : ByteArray) (k : Bool) (hb : Hid (m.size + s.size ≤ 1000000000)) : Calls Try.prog 22 #[.pointer (some ⟨b, 0, none⟩), .string s, .bool k] w fun e w' => e = .returned (.tuple #[]) ∧ Hid (Sys w0 w' (l.set i (b, m.put k s.data.toList))) := by
  obtain ⟨F, h1, h2⟩ := h.out.use hi
  refine (put_at h1 s k hb.out).mono ?_
  rintro e w' ⟨h3, h4⟩
  exact ⟨h3, Lib.hid (h2 _ _ h4)⟩
theorem sys_line (i : Nat) (h : Hid (Sys w0 w l)) (hi : l[i]? = some (b, m)) (hb : Hid (m.ends ≤ 1000000000)) : Calls Try.prog 23 #[.pointer (some ⟨b, 0, none⟩)] w fun e w' => e = .returned (.tuple #[]) ∧ Hid (Sys w0 w' (l.set i (b, m.line))) := by
  obtain ⟨F, h1, h2⟩ := h.out.use hi
  refine (line_at h1 hb.out).mono ?_
  rintro e w' ⟨h3, h4⟩
  exact ⟨h3, Lib.hid (h2 _ _ h4)⟩
theorem sys_brk (i : Nat) (h : Hid (Sys w0 w l)) (hi : l[i]? = some (b, m)) (hb : Hid (m.ends ≤ 1000000000)) (n : Int) (hn : (Lit.int .i64 n).wf = true) : Calls Try.prog 24 #[.pointer (some ⟨b, 0, none⟩), .int .i64 n] w fun e w' => e = .returned (.tuple #[]) ∧ Hid (Sys w0 w' (l.set i (b, m.brk n))) := by
  obtain ⟨F, h1, h2⟩ := h.out.use hi
  refine (brk_at h1 hb.out n hn).mono ?_
  rintro e w' ⟨h3, h4⟩
  exact ⟨h3, Lib.hid (h2 _ _ h4)⟩
theorem sys_does (i : Nat) (h : Hid (Sys w0 w l)) (hi : l[i]? = some (b, m)) (a : Act) (hn : (Lit.int .i64 a.n).wf = true) (hb : Hid (m.size + a.s.size ≤ 900000000)) : Calls Try.prog 18 #[.pointer (some ⟨b, 0, none⟩), a.val] w fun e w' => e = .returned (.tuple #[]) ∧ Hid (Sys w0 w' (l.set i (b, m.does a))) := by
  obtain ⟨F, h1, h2⟩ := h.out.use hi
  refine (does_at h1 a hn hb.out).mono ?_
  rintro e w' ⟨h3, h4⟩
  exact ⟨h3, Lib.hid (h2 _ _ h4)⟩
theorem sys_text (i : Nat) (h : Hid (Sys w0 w l)) (hi : l[i]? = some (b, m)) : Calls Try.prog 20 #[.pointer (some ⟨b, 0, none⟩)] w fun e w' => e = .returned (.string ⟨m.told.toArray⟩) ∧ Hid (Sys w0 w' l) := by
  obtain ⟨F, h1, h2⟩ := h.out.use hi
  refine (text_at h1).mono ?_
  rintro e w' ⟨h3, h4, h5⟩
  have := h2 w' m ⟨F, h4, h5, fun k hf => Or.inl hf⟩
  rw [set_same' hi] at this
  exact ⟨h3, Lib.hid this⟩
end
end Go.Proofs.Ytaejicolhliecaa.Flow
