/- Several texts of this claim, laid together into one file. -/
import Derived.Test.YtaejicolhliecaaMPage
set_option linter.unusedSimpArgs false
set_option linter.unusedVariables false
/- A page: what a text does (the closure that Render makes). -/
set_option linter.unusedVariables false
set_option linter.unusedSimpArgs false
namespace Go.Proofs.Ytaejicolhliecaa.Rend
open Go.RowKit Go.Lib Go.Proofs.Ytaejicolhliecaa.Buf Go.Proofs.Ytaejicolhliecaa.Flow Go.Proofs.Ytaejicolhliecaa.PRe

/-- A token's value. -/
def tok (k : Int) (n t : ByteArray) (A : Option Addr) (l c : Nat) (b : Bool) : Value := .agg #[.int .i64 k, .string n, .string t, .slice A l c, .bool b]
def tcells (k : Int) (n t : ByteArray) (A : Option Addr) (l c : Nat) (b : Bool) : Obj := .cells #[.int .i64 k, .string n, .string t, .slice A l c, .bool b] 47

section
variable {w w' w1 w2 : World} {p : Nat} {F G : Nat → Prop} {s s1 s2 : Pg}

theorem own_len {v : Value} {e : TypeId} {n : Nat} {xs : List Value} (h : w.ownsRow 0 e 1 v n xs) : ∃ a c, v = .slice a n c := by
  rcases h.2 with ⟨rfl, rfl⟩ | ⟨g, cap, cur, rfl, _⟩
  · exact ⟨none, 0, rfl⟩
  · exact ⟨_, cap, rfl⟩

theorem drew_below (w : World) : Below w.heap.size w w.drew := ⟨rfl, rfl, rfl, Nat.le_refl _, fun _ _ => rfl⟩

theorem pg_put_d (h : Hid (PDoes w w1 p F s)) {f : Nat} (hc : w1.cell? ⟨p, 0, none⟩ = some (.pointer (some ⟨f, 0, none⟩))) (t : ByteArray) (k : Bool) (hb : Hid (s.m.size + t.size ≤ 1000000000)) : Calls Try.prog 22 #[.pointer (some ⟨f, 0, none⟩), .string t, .bool k] w1.drew fun e w' => e = .returned (.tuple #[]) ∧ Hid (PDoes w w' p F { s with m := s.m.put k t.data.toList }) := by
  obtain ⟨F1, h1, h2, h3⟩ := h.out
  have h1' := h1.below (drew_below w1)
  refine (pg_put (Lib.hid h1') (f := f) hc t k hb).mono ?_
  rintro e w' ⟨h4, h5⟩
  exact ⟨h4, Lib.hid (PDoes.trans' h2.drew h3 h5.out)⟩

set_option maxHeartbeats 4000000 in
set_option maxRecDepth 100000 in
theorem text_at (h : Pge w p F s) (B : Nat) (hv : w.cell? ⟨B, 0, none⟩ = some (.pointer (some ⟨p, 0, none⟩))) (hBl : B < w.heap.size) (k : Int) (n t : ByteArray) (A : Option Addr) (l c : Nat) (b : Bool) (hb : s.m.size + t.size ≤ 1000000000) :
    Calls Try.prog 40 #[tok k n t A l c b, .pointer (some ⟨B, 0, none⟩)] w fun e w' => e = .returned (.tuple #[]) ∧ Hid (PDoes w w' p F (s.text t)) := by
  have hbel : Below w.heap.size w (w.alloc (tcells k n t A l c b)) := (Below.refl _ w).alloc (Nat.le_refl _) _
  have HP := Lib.hid (h.refl.below hbel)
  obtain ⟨f, v, H, hp⟩ := h.below hbel
  obtain ⟨c0, c1, c2, hf⟩ := page_cells hp
  obtain ⟨va, vc, rfl⟩ := own_len hp.row
  have cB : (w.alloc (tcells k n t A l c b)).cell? ⟨B, 0, none⟩ = some (.pointer (some ⟨p, 0, none⟩)) := (hbel.cell (p := ⟨B, 0, none⟩) hBl).trans hv
  have HB := Lib.hid hb
  have hs : s.text t = if s.names = [] then { s with m := s.m.put (decide (0 < s.kept)) t.data.toList } else s := rfl
  clear h hp hbel hf hv hb
  unfold tcells at *
  unfold tok
  by_cases hn : s.names = []
  · have d1 : ((s.names.length : Int) == 0) = true := by rw [hn]; rfl
    rw [if_pos hn] at hs
    have HS := Lib.hid hs
    clear hs hn
    have d2 : decide ((0 : Int) < (s.kept : Int)) = decide (0 < s.kept) := by
      by_cases e : 0 < s.kept
      · rw [decide_eq_true e]; exact decide_eq_true (by omega)
      · rw [decide_eq_false e]; exact decide_eq_false (by omega)
    go_enter Try.func40, Try.ntmps40
    go_wp2_with fail
    go_region_with (go_at_call 22; refine (pg_put_d HP c0 t _ HB).mono ?_; rintro e w2 ⟨rfl, h2⟩)
    all_goals (
      go_wp2_with fail
      go_end0
      exact ⟨rfl, by rw [HS.out]; exact h2⟩)
  · have d1 : ((s.names.length : Int) == 0) = false := by
      rw [beq_eq_false_iff_ne]
      intro e
      exact hn (List.length_eq_zero_iff.1 (by omega))
    rw [if_neg hn] at hs
    have HS := Lib.hid hs
    clear hs hn
    go_enter Try.func40, Try.ntmps40
    go_wp2_with fail
    go_end0
    exact ⟨rfl, by rw [HS.out]; exact HP⟩
end
end Go.Proofs.Ytaejicolhliecaa.Rend
