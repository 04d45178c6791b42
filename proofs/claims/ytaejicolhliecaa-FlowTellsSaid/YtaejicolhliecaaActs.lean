/- A slice of things that are done, as it came in: a list of them, with its cells. -/
import Derived.Test.YtaejicolhliecaaPFlx1
import Derived.Deep.Slices
import Derived.Test.YtaejicolhliecaaAwake
set_option linter.unusedVariables false
namespace Go.Proofs.Ytaejicolhliecaa.Flow
open Go.Deep Go.RowKit Go.Lib Go.Proofs.Ytaejicolhliecaa.Buf Go.Proofs.Ytaejicolhliecaa.PFl Go.Proofs.YtaejicolhliecaaW.PrintWords

theorem actFields : ∃ fs : Array Field, Try.prog.underlying 32 = some (.struct fs) ∧ fs.map (fun f => (f.type, f.offset)) = #[(3, 0), (9, 1), (4, 2), (3, 3)] := ⟨_, Try.underlying32, by simp⟩
theorem actCells : Try.prog.cellsOf 32 = 4 := by kernel_rfl
theorem intCells : Try.prog.cellsOf 3 = 1 := by kernel_rfl
theorem strCells1 : Try.prog.cellsOf 9 = 1 := by kernel_rfl
theorem boolCells : Try.prog.cellsOf 4 = 1 := by kernel_rfl

theorem four {α : Type} : ∀ (l : List α), l.length = 4 → ∃ a b c d, l = [a, b, c, d]
  | [a, b, c, d], _ => ⟨a, b, c, d, rfl⟩
instance : Inhabited S32 := ⟨z32⟩

section
variable {H : Type} {enc : TypeId × Value → H} {W : World} {base : Nat} {spare : Nat → Bool} {held : Bool}

theorem open_act {n : Nat} {cs : List Value} {y : DataW H × List MemPlace} (h : DataW.trod enc Try.prog W base spare held n 32 cs = some y) : ∃ x : S32, cs = [.int .i64 x.f0, .string x.f1, .bool x.f2, .int .i64 x.f3] ∧ (Lit.int .i64 x.f3).wf = true := by
  obtain ⟨fs, hu, hp⟩ := actFields
  obtain ⟨xs, k, _, _, hl, hxl, hf⟩ := DataW.trod_struct hu h
  rw [actCells] at hl
  have hfs : fs.size = 4 := by have := congrArg Array.size hp; simpa using this
  have g : ∀ (i : Nat) (t : TypeId × Nat), (#[(3, 0), (9, 1), (4, 2), (3, 3)] : Array (TypeId × Nat))[i]? = some t → DataW.trod enc Try.prog W base spare held k t.1 ((cs.drop t.2).take (Try.prog.cellsOf t.1)) = xs[i]? := by
    intro i t ht
    rw [← hp, Array.getElem?_map] at ht
    obtain ⟨f, hf1, rfl⟩ := Option.map_eq_some_iff.1 ht
    exact hf i f hf1
  have g0 := g 0 (3, 0) rfl
  have g1 := g 1 (9, 1) rfl
  have g2 := g 2 (4, 2) rfl
  have g3 := g 3 (3, 3) rfl
  rw [hfs] at hxl
  obtain ⟨y0, y1, y2, y3, rfl⟩ := four xs hxl
  obtain ⟨v0, v1, v2, v3, rfl⟩ := four cs hl
  · simp only [intCells, strCells1, boolCells, List.drop_zero, List.drop_succ_cons, List.take_succ_cons, List.take_zero, List.getElem?_cons_zero, List.getElem?_cons_succ] at g0 g1 g2 g3
    obtain ⟨k0, e0, _, _⟩ := DataW.trod_int Try.underlying3 g0
    obtain ⟨s1, e1, _, _⟩ := DataW.trod_string Try.underlying9 g1
    obtain ⟨b2, e2, _⟩ := DataW.trod_bool Try.underlying4 g2
    obtain ⟨n3, e3, _, hw⟩ := DataW.trod_int Try.underlying3 g3
    simp only [List.cons.injEq, and_true] at e0 e1 e2 e3
    subst e0 e1 e2 e3
    exact ⟨⟨k0, s1, b2, n3⟩, rfl, hw⟩

theorem open_acts {a : Option Addr} {len cap : Nat} {d : DataW H} {ps : List MemPlace} (h : DataW.Trod enc Try.prog W base spare held 22 (.slice a len cap) d ps) :
    ∃ l : List S32, l.length = len ∧ len ≤ cap ∧ Kd.C k32 W a l.length l ∧ ∀ x ∈ l, (Lit.int .i64 x.f3).wf = true := by
  obtain ⟨fuel, hf⟩ := h
  rcases open_slice Try.underlying22 hf with ⟨hcs, _⟩ | ⟨ad, l, c, m, n, D, Pl, hcs, hb, hl, hm, hmm, _, each⟩
  · simp [Value.cells] at hcs
    obtain ⟨rfl, rfl, rfl⟩ := hcs
    exact ⟨[], rfl, Nat.le_refl _, ⟨rfl, by simp, fun h => absurd h (by simp)⟩, by simp⟩
  · simp [Value.cells] at hcs
    obtain ⟨rfl, rfl, rfl⟩ := hcs
    have hlm : len ≤ m := by rw [hmm]; split <;> omega
    rw [actCells] at each
    obtain ⟨q, hq⟩ := choose_lt (α := S32) (n := m) (p := fun i x => W.cells? base (ad.add (i * 4)) 4 = some [.int .i64 x.f0, .string x.f1, .bool x.f2, .int .i64 x.f3] ∧ (Lit.int .i64 x.f3).wf = true) (fun i hi => by
      obtain ⟨cs', h1, h2⟩ := each i hi
      obtain ⟨x, e, hw⟩ := open_act h2
      exact ⟨x, by rw [h1, e], hw⟩)
    refine ⟨(List.range len).map q, by simp, hl, ⟨rfl, by simp; unfold maxLen at hm; omega, fun _ => ⟨ad, rfl, ?_⟩⟩, ?_⟩
    · intro j p hp
      rw [List.getElem?_map] at hp
      obtain ⟨i, hi, rfl⟩ := Option.map_eq_some_iff.1 hp
      obtain ⟨hj, e⟩ := List.getElem?_eq_some_iff.1 hi
      simp at hj e
      subst e
      obtain ⟨h1, _⟩ := hq j (by omega)
      obtain ⟨_, _, hcell⟩ := World.cells?_some h1
      refine ⟨_, rfl, k32_mk W (q j), fun i u hu => ?_⟩
      have hi4 : i < 4 := by
        have := (List.getElem?_eq_some_iff.1 hu).1
        simpa using this
      have := hcell i hi4
      rw [Go.Deep.add_add] at this
      exact this.trans hu
    · intro x hx
      simp only [List.mem_map, List.mem_range] at hx
      obtain ⟨i, hi, rfl⟩ := hx
      exact (hq i (by omega)).2
end
end Go.Proofs.Ytaejicolhliecaa.Flow
