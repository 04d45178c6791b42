/- Several texts of this claim, laid together into one file. -/
import Derived.Test.YteccaekalcjihaaGreatDoorLotB
import Derived.Test.YteccaekalcjihaaGreatDoorLotD
import Derived.Test.YteccaekalcjihaaGreatDoorLotE
import Derived.Laws.Tables
import Derived.Laws.Rows
import Derived.Test.YteccaekalcjihaaGreatDoorLotC
set_option linter.unusedSimpArgs false
set_option linter.unusedVariables false
set_option linter.unusedVariables false
namespace Go.Proofs.YteccaekalcjihaaGreatDoor.PTn
open Go.RowKit Go.Lib Go.Proofs.YteccaekalcjihaaGreatDoor.Buf Go.Proofs.YteccaekalcjihaaGreatDoorW.PrintWords Go.Proofs.YteccaekalcjihaaGreatDoorW.PrintLast Go.Proofs.YteccaekalcjihaaGreatDoorW.PrintMore
def tgGo (s : ByteArray) : Nat → Nat → Option Nat
  | 0, _ => none
  | k + 1, t => if t < s.size then (sign_Space.f (bt s (t : Int))).bind fun b => if b = true ∨ bt s (t : Int) = 47 ∨ bt s (t : Int) = 62 then some t else tgGo s k (t + 1) else none
def tag_Read.f (s : ByteArray) (i : Int) : Option (Int × ByteArray × ByteArray × (List S38) × Bool × Int × Bool) :=
  if 0 ≤ i ∧ i ≤ (s.size : Int) ∧ s.size ≤ 1000000000 then (tag_place_name.f s i).bind fun n => if n = 1 ∨ n = 2 then (tgGo s (s.size + 1) (i + n).toNat).bind fun t =>
    (attrs_reader_spaces.f (s.size + 2) s (t : Int)).bind fun x => if 0 ≤ x.2 ∧ x.2 < (s.size : Int) ∧ bt s x.2 = 62 ∧ i + n ≤ (t : Int) ∧ t ≤ s.size then
      (sign_Lower.f (s.extract (i + n).toNat t)).bind fun lo => (lines_Clean.f lo).bind fun nm => some (if n = 1 then 1 else 2, nm, ⟨#[]⟩, [], false, x.2 + 1, true)
    else none else none else none
theorem spaces_same : ∀ (k : Nat) (s s' : ByteArray) (i j : Int), attrs_reader_spaces.l0 k s i = some (s', j) → s' = s
  | 0, s, s', i, j, h => by simp [attrs_reader_spaces.l0] at h
  | k + 1, s, s', i, j, h => by
    simp only [attrs_reader_spaces.l0] at h
    split at h
    · split at h
      · obtain ⟨b, _, h⟩ := Option.bind_eq_some_iff.1 h
        split at h
        · exact spaces_same k s s' _ j h
        · exact (Prod.mk.inj (Option.some.inj h)).1.symm
      · cases h
    · exact (Prod.mk.inj (Option.some.inj h)).1.symm
theorem tgGo_step {s : ByteArray} {k t r : Nat} (h : tgGo s (k + 1) t = some r) : ∃ ht : t < s.size, ∃ b, sign_Space.f ((s[t]'ht).toNat : Int) = some b ∧ ((r = t ∧ (b = true ∨ (b = false ∧ (s[t]'ht).toNat = 47) ∨ (b = false ∧ (s[t]'ht).toNat ≠ 47 ∧ (s[t]'ht).toNat = 62))) ∨ (b = false ∧ (s[t]'ht).toNat ≠ 47 ∧ (s[t]'ht).toNat ≠ 62 ∧ tgGo s k (t + 1) = some r)) := by
  simp only [tgGo] at h
  split at h
  · rename_i ht
    refine ⟨ht, ?_⟩
    have hb : bt s (t : Int) = ((s[t]'ht).toNat : Int) := by simp [bt, ht]
    rw [hb] at h
    obtain ⟨b, h1, h⟩ := Option.bind_eq_some_iff.1 h
    refine ⟨b, h1, ?_⟩
    split at h
    · rename_i hc
      refine .inl ⟨(Option.some.inj h).symm, ?_⟩
      cases b
      · rcases hc with hc | hc | hc
        · cases hc
        · exact .inr (.inl ⟨rfl, by omega⟩)
        · exact .inr (.inr ⟨rfl, by omega, by omega⟩)
      · exact .inl rfl
    · rename_i hc
      refine .inr ⟨?_, ?_, ?_, h⟩
      · cases b
        · rfl
        · exact absurd (.inl rfl) hc
      · exact fun e => hc (.inr (.inl (by omega)))
      · exact fun e => hc (.inr (.inr (by omega)))
  · cases h
def tok0 : Array Value := #[.int .i64 0, .string ⟨#[]⟩, .string ⟨#[]⟩, .slice none 0 0, .bool false]
structure TAt (w wk : World) : Prop where
  below : Below w.heap.size w wk
  size : w.heap.size < wk.heap.size
  blk : wk.heap[w.heap.size]? = some (.cells tok0 40 (0, 0))
theorem TAt.then {w w1 w2 : World} (h : TAt w w1) (hb : Below w1.heap.size w1 w2) : TAt w w2 :=
  ⟨h.below.trans (hb.mono h.below.size), Nat.lt_of_lt_of_le h.size hb.size, (hb.block _ h.size).trans h.blk⟩
theorem TAt.drewN {w w1 : World} (h : TAt w w1) (n : Nat) : TAt w (w1.drewN n) := ⟨pw_below_drewN h.below n, h.size, h.blk⟩
theorem TAt.start (w : World) : TAt w (w.alloc (.cells tok0 40)) := ⟨(Below.refl _ _).alloc (Nat.le_refl _) _, by simp, heap_alloc_new w _⟩
theorem TAt.puts {w w1 : World} (h : TAt w w1) (a b c d e : Value) : Below w.heap.size w (((((w1.setCell ⟨w.heap.size, 0, none⟩ a).setCell ⟨w.heap.size, 1, none⟩ b).setCell ⟨w.heap.size, 2, none⟩ c).setCell ⟨w.heap.size, 3, none⟩ d).setCell ⟨w.heap.size, 4, none⟩ e) ∧
    (((((w1.setCell ⟨w.heap.size, 0, none⟩ a).setCell ⟨w.heap.size, 1, none⟩ b).setCell ⟨w.heap.size, 2, none⟩ c).setCell ⟨w.heap.size, 3, none⟩ d).setCell ⟨w.heap.size, 4, none⟩ e).heap[w.heap.size]? = some (.cells #[a, b, c, d, e] 40 (0, 0)) :=
  ⟨((((h.below.setCell (Nat.le_refl _) _).setCell (Nat.le_refl _) _).setCell (Nat.le_refl _) _).setCell (Nat.le_refl _) _).setCell (Nat.le_refl _) _,
   heap_setCell_self (heap_setCell_self (heap_setCell_self (heap_setCell_self (heap_setCell_self h.blk (j := 0) a) (j := 1) b) (j := 2) c) (j := 3) d) (j := 4) e⟩
theorem TAt.facts {w w1 : World} (h : TAt w w1) : (w1.cell? ⟨w.heap.size, 0, none⟩ = some (.int .i64 0) ∧ w1.cell? ⟨w.heap.size, 1, none⟩ = some (.string ⟨#[]⟩) ∧ w1.cell? ⟨w.heap.size, 2, none⟩ = some (.string ⟨#[]⟩) ∧ w1.cell? ⟨w.heap.size, 3, none⟩ = some (.slice none 0 0) ∧ w1.cell? ⟨w.heap.size, 4, none⟩ = some (.bool false)) ∧ ∀ j, w1.frozen? ⟨w.heap.size, j, none⟩ = false := by
  refine ⟨⟨?_, ?_, ?_, ?_, ?_⟩, fun j => Lib.frozen_of_heap h.blk j⟩ <;> (rw [Lib.cell_of_heap h.blk]; rfl)
set_option maxHeartbeats 8000000 in
set_option maxRecDepth 100000 in
theorem tag_start (s nm lo : ByteArray) (i f t : Nat) (hq : (i : Int) + 1 = (f : Int)) (j : Int) (w : World) (h0 : (i : Int) ≤ (s.size : Int)) (hl : (s.size : Int) ≤ 1000000000) (hn : Aside0 (tag_place_name.f s (i : Int) = some 1)) (ht : Aside0 (tgGo s (s.size + 1) f = some t)) (hx : Aside0 (attrs_reader_spaces.f (s.size + 2) s (t : Int) = some (s, j))) (hj0 : 0 ≤ j) (hj1 : j < (s.size : Int)) (hb : Aside0 (bt s j = 62)) (h1 : (f : Int) ≤ (t : Int)) (h2 : (t : Int) ≤ (s.size : Int)) (hlo : Aside0 (sign_Lower.f (s.extract f t) = some lo)) (hnm : Aside0 (lines_Clean.f lo = some nm)) :
    Calls Tryz.prog 73 #[.string s, .int .i64 (i : Int)] w fun e w' => e = .returned (.tuple #[.agg #[.int .i64 1, .string nm, .string ⟨#[]⟩, .slice none 0 0, .bool false], .int .i64 (j + 1), .bool true]) ∧ Below w.heap.size w w' := by
  have HT := Aside0.mk (TAt.start w)
  have hu := Tryz.underlying140
  have HJ0 := Aside0.mk hj0
  have HJ1 := Aside0.mk hj1
  go_enter Tryz.func73, Tryz.ntmps73
  go_wp2_with (go_at_call 126; (with_reducible refine (tag_place_name.calls s (i : Int) 1 _ hn.out).mono ?_); rintro e w1 ⟨rfl, hb1⟩; have HT1 := Aside0.mk (HT.out.then hb1); clear hb1 HT)
  go_loopg [10] (s.size + 1) (fun kq v10 w' => ∃ tq : Nat, v10 = .int .i64 tq ∧ Aside0 (TAt w w') ∧ Aside0 (tgGo s kq tq = some t))
  case atStart => exact ⟨f, rfl, HT1, ht⟩
  case round =>
    clear HT1 ht
    obtain ⟨tq, rfl, HT1, HG⟩ := hrel
    cases gk with
    | zero => exact absurd HG.out (by simp [tgGo])
    | succ k1 =>
      obtain ⟨ht, b, hsp, hcase⟩ := tgGo_step HG.out
      obtain ⟨c, hc⟩ : ∃ c, s[tq]'ht = c := ⟨_, rfl⟩
      rw [hc] at hsp hcase
      have HS := Aside0.mk hsp
      have c1 : decide ((tq : Int) < (s.size : Int)) = true := decide_eq_true (by omega)
      have c2 : decide (tq < s.size) = true := decide_eq_true ht
      have i0 : (0 : Int) ≤ (tq : Int) := by omega
      have i1 : (tq : Int) < (s.size : Int) := by omega
      clear HG hsp
      rcases hcase with ⟨rfl, rfl | ⟨rfl, h47⟩ | ⟨rfl, h47, h62⟩⟩ | ⟨rfl, h47, h62, hnext⟩
      · go_wp2_with (first | (go_at_call 112; (with_reducible refine (sign_Space.calls _ true _ HS.out).mono ?_); rintro e w2 ⟨rfl, ⟨nd, rfl⟩⟩; have HT2 := Aside0.mk (HT1.out.drewN nd)) | (go_at_call 20; (with_reducible refine (attrs_none s (t : Int) j _ (by omega) h2 hx HJ0.out HJ1.out hl hb).mono ?_); rintro e w3 ⟨rfl, hb3⟩; have HT3 := Aside0.mk (HT2.out.then hb3); clear hb3) | (go_at_call 60; (with_reducible refine (sign_Lower.calls _ lo _ hlo.out).mono ?_); rintro e w4 ⟨rfl, hb4⟩; have HT4 := Aside0.mk (HT3.out.then hb4); clear hb4) | (go_at_call 59; (with_reducible refine (lines_Clean.calls lo nm _ hnm.out).mono ?_); rintro e w5 ⟨rfl, hb5⟩; have HT5 := Aside0.mk (HT4.out.then hb5); obtain ⟨⟨k0, k1, k2, k3, k4⟩, kf⟩ := HT5.out.facts; have kf0 := kf 0; have kf1 := kf 1; have kf2 := kf 2; have kf3 := kf 3; have kf4 := kf 4; clear hb5 kf))
        refine bodyPost_ret (results_ctt rfl _ _ w.heap.size 40 #[.int .i64 1, .string nm, .string ⟨#[]⟩, .slice none 0 0, .bool false] (0, 0) _ rfl (TAt.puts HT5.out _ _ _ _ _).2 Tryz.underlying40 rfl (by kernel_rfl)) rfl ?_
        exact ⟨rfl, (TAt.puts HT5.out _ _ _ _ _).1⟩
      · have d1 : (((c.toNat : Nat) : Int) != 47) = false := by rw [h47]; rfl
        clear h47
        go_wp2_with (first | (go_at_call 112; (with_reducible refine (sign_Space.calls _ false _ HS.out).mono ?_); rintro e w2 ⟨rfl, ⟨nd, rfl⟩⟩; have HT2 := Aside0.mk (HT1.out.drewN nd)) | (go_at_call 20; (with_reducible refine (attrs_none s (t : Int) j _ (by omega) h2 hx HJ0.out HJ1.out hl hb).mono ?_); rintro e w3 ⟨rfl, hb3⟩; have HT3 := Aside0.mk (HT2.out.then hb3); clear hb3) | (go_at_call 60; (with_reducible refine (sign_Lower.calls _ lo _ hlo.out).mono ?_); rintro e w4 ⟨rfl, hb4⟩; have HT4 := Aside0.mk (HT3.out.then hb4); clear hb4) | (go_at_call 59; (with_reducible refine (lines_Clean.calls lo nm _ hnm.out).mono ?_); rintro e w5 ⟨rfl, hb5⟩; have HT5 := Aside0.mk (HT4.out.then hb5); obtain ⟨⟨k0, k1, k2, k3, k4⟩, kf⟩ := HT5.out.facts; have kf0 := kf 0; have kf1 := kf 1; have kf2 := kf 2; have kf3 := kf 3; have kf4 := kf 4; clear hb5 kf))
        refine bodyPost_ret (results_ctt rfl _ _ w.heap.size 40 #[.int .i64 1, .string nm, .string ⟨#[]⟩, .slice none 0 0, .bool false] (0, 0) _ rfl (TAt.puts HT5.out _ _ _ _ _).2 Tryz.underlying40 rfl (by kernel_rfl)) rfl ?_
        exact ⟨rfl, (TAt.puts HT5.out _ _ _ _ _).1⟩
      · have d1 : (((c.toNat : Nat) : Int) != 47) = true := bne_iff_ne.2 (by omega)
        have d2 : (((c.toNat : Nat) : Int) != 62) = false := by rw [h62]; rfl
        clear h47 h62
        go_wp2_with (first | (go_at_call 112; (with_reducible refine (sign_Space.calls _ false _ HS.out).mono ?_); rintro e w2 ⟨rfl, ⟨nd, rfl⟩⟩; have HT2 := Aside0.mk (HT1.out.drewN nd)) | (go_at_call 20; (with_reducible refine (attrs_none s (t : Int) j _ (by omega) h2 hx HJ0.out HJ1.out hl hb).mono ?_); rintro e w3 ⟨rfl, hb3⟩; have HT3 := Aside0.mk (HT2.out.then hb3); clear hb3) | (go_at_call 60; (with_reducible refine (sign_Lower.calls _ lo _ hlo.out).mono ?_); rintro e w4 ⟨rfl, hb4⟩; have HT4 := Aside0.mk (HT3.out.then hb4); clear hb4) | (go_at_call 59; (with_reducible refine (lines_Clean.calls lo nm _ hnm.out).mono ?_); rintro e w5 ⟨rfl, hb5⟩; have HT5 := Aside0.mk (HT4.out.then hb5); obtain ⟨⟨k0, k1, k2, k3, k4⟩, kf⟩ := HT5.out.facts; have kf0 := kf 0; have kf1 := kf 1; have kf2 := kf 2; have kf3 := kf 3; have kf4 := kf 4; clear hb5 kf))
        refine bodyPost_ret (results_ctt rfl _ _ w.heap.size 40 #[.int .i64 1, .string nm, .string ⟨#[]⟩, .slice none 0 0, .bool false] (0, 0) _ rfl (TAt.puts HT5.out _ _ _ _ _).2 Tryz.underlying40 rfl (by kernel_rfl)) rfl ?_
        exact ⟨rfl, (TAt.puts HT5.out _ _ _ _ _).1⟩
      · have d1 : (((c.toNat : Nat) : Int) != 47) = true := bne_iff_ne.2 (by omega)
        have d2 : (((c.toNat : Nat) : Int) != 62) = true := bne_iff_ne.2 (by omega)
        have HNX := Aside0.mk hnext
        have b1 : (tq : Int) ≤ 1000000000 := by omega
        clear h47 h62 hnext
        go_wp2_with (go_at_call 112; (with_reducible refine (sign_Space.calls _ false _ HS.out).mono ?_); rintro e w2 ⟨rfl, ⟨nd, rfl⟩⟩; have HT2 := Aside0.mk (HT1.out.drewN nd))
        go_roundg k1
        case measure => omega
        case rel => exact ⟨tq + 1, rfl, HT2, HNX⟩
set_option maxHeartbeats 8000000 in
set_option maxRecDepth 100000 in
theorem tag_end (s nm lo : ByteArray) (i f t : Nat) (hq : (i : Int) + 2 = (f : Int)) (j : Int) (w : World) (h0 : (i : Int) ≤ (s.size : Int)) (hl : (s.size : Int) ≤ 1000000000) (hn : Aside0 (tag_place_name.f s (i : Int) = some 2)) (ht : Aside0 (tgGo s (s.size + 1) f = some t)) (hx : Aside0 (attrs_reader_spaces.f (s.size + 2) s (t : Int) = some (s, j))) (hj0 : 0 ≤ j) (hj1 : j < (s.size : Int)) (hb : Aside0 (bt s j = 62)) (h1 : (f : Int) ≤ (t : Int)) (h2 : (t : Int) ≤ (s.size : Int)) (hlo : Aside0 (sign_Lower.f (s.extract f t) = some lo)) (hnm : Aside0 (lines_Clean.f lo = some nm)) :
    Calls Tryz.prog 73 #[.string s, .int .i64 (i : Int)] w fun e w' => e = .returned (.tuple #[.agg #[.int .i64 2, .string nm, .string ⟨#[]⟩, .slice none 0 0, .bool false], .int .i64 (j + 1), .bool true]) ∧ Below w.heap.size w w' := by
  have HT := Aside0.mk (TAt.start w)
  have hu := Tryz.underlying140
  have HJ0 := Aside0.mk hj0
  have HJ1 := Aside0.mk hj1
  go_enter Tryz.func73, Tryz.ntmps73
  go_wp2_with (go_at_call 126; (with_reducible refine (tag_place_name.calls s (i : Int) 2 _ hn.out).mono ?_); rintro e w1 ⟨rfl, hb1⟩; have HT1 := Aside0.mk (HT.out.then hb1); clear hb1 HT)
  go_loopg [10] (s.size + 1) (fun kq v10 w' => ∃ tq : Nat, v10 = .int .i64 tq ∧ Aside0 (TAt w w') ∧ Aside0 (tgGo s kq tq = some t))
  case atStart => exact ⟨f, rfl, HT1, ht⟩
  case round =>
    clear HT1 ht
    obtain ⟨tq, rfl, HT1, HG⟩ := hrel
    cases gk with
    | zero => exact absurd HG.out (by simp [tgGo])
    | succ k1 =>
      obtain ⟨ht, b, hsp, hcase⟩ := tgGo_step HG.out
      obtain ⟨c, hc⟩ : ∃ c, s[tq]'ht = c := ⟨_, rfl⟩
      rw [hc] at hsp hcase
      have HS := Aside0.mk hsp
      have c1 : decide ((tq : Int) < (s.size : Int)) = true := decide_eq_true (by omega)
      have c2 : decide (tq < s.size) = true := decide_eq_true ht
      have i0 : (0 : Int) ≤ (tq : Int) := by omega
      have i1 : (tq : Int) < (s.size : Int) := by omega
      clear HG hsp
      rcases hcase with ⟨rfl, rfl | ⟨rfl, h47⟩ | ⟨rfl, h47, h62⟩⟩ | ⟨rfl, h47, h62, hnext⟩
      · go_wp2_with (first | (go_at_call 112; (with_reducible refine (sign_Space.calls _ true _ HS.out).mono ?_); rintro e w2 ⟨rfl, ⟨nd, rfl⟩⟩; have HT2 := Aside0.mk (HT1.out.drewN nd)) | (go_at_call 20; (with_reducible refine (attrs_none s (t : Int) j _ (by omega) h2 hx HJ0.out HJ1.out hl hb).mono ?_); rintro e w3 ⟨rfl, hb3⟩; have HT3 := Aside0.mk (HT2.out.then hb3); clear hb3) | (go_at_call 60; (with_reducible refine (sign_Lower.calls _ lo _ hlo.out).mono ?_); rintro e w4 ⟨rfl, hb4⟩; have HT4 := Aside0.mk (HT3.out.then hb4); clear hb4) | (go_at_call 59; (with_reducible refine (lines_Clean.calls lo nm _ hnm.out).mono ?_); rintro e w5 ⟨rfl, hb5⟩; have HT5 := Aside0.mk (HT4.out.then hb5); obtain ⟨⟨k0, k1, k2, k3, k4⟩, kf⟩ := HT5.out.facts; have kf0 := kf 0; have kf1 := kf 1; have kf2 := kf 2; have kf3 := kf 3; have kf4 := kf 4; clear hb5 kf))
        refine bodyPost_ret (results_ctt rfl _ _ w.heap.size 40 #[.int .i64 2, .string nm, .string ⟨#[]⟩, .slice none 0 0, .bool false] (0, 0) _ rfl (TAt.puts HT5.out _ _ _ _ _).2 Tryz.underlying40 rfl (by kernel_rfl)) rfl ?_
        exact ⟨rfl, (TAt.puts HT5.out _ _ _ _ _).1⟩
      · have d1 : (((c.toNat : Nat) : Int) != 47) = false := by rw [h47]; rfl
        clear h47
        go_wp2_with (first | (go_at_call 112; (with_reducible refine (sign_Space.calls _ false _ HS.out).mono ?_); rintro e w2 ⟨rfl, ⟨nd, rfl⟩⟩; have HT2 := Aside0.mk (HT1.out.drewN nd)) | (go_at_call 20; (with_reducible refine (attrs_none s (t : Int) j _ (by omega) h2 hx HJ0.out HJ1.out hl hb).mono ?_); rintro e w3 ⟨rfl, hb3⟩; have HT3 := Aside0.mk (HT2.out.then hb3); clear hb3) | (go_at_call 60; (with_reducible refine (sign_Lower.calls _ lo _ hlo.out).mono ?_); rintro e w4 ⟨rfl, hb4⟩; have HT4 := Aside0.mk (HT3.out.then hb4); clear hb4) | (go_at_call 59; (with_reducible refine (lines_Clean.calls lo nm _ hnm.out).mono ?_); rintro e w5 ⟨rfl, hb5⟩; have HT5 := Aside0.mk (HT4.out.then hb5); obtain ⟨⟨k0, k1, k2, k3, k4⟩, kf⟩ := HT5.out.facts; have kf0 := kf 0; have kf1 := kf 1; have kf2 := kf 2; have kf3 := kf 3; have kf4 := kf 4; clear hb5 kf))
        refine bodyPost_ret (results_ctt rfl _ _ w.heap.size 40 #[.int .i64 2, .string nm, .string ⟨#[]⟩, .slice none 0 0, .bool false] (0, 0) _ rfl (TAt.puts HT5.out _ _ _ _ _).2 Tryz.underlying40 rfl (by kernel_rfl)) rfl ?_
        exact ⟨rfl, (TAt.puts HT5.out _ _ _ _ _).1⟩
      · have d1 : (((c.toNat : Nat) : Int) != 47) = true := bne_iff_ne.2 (by omega)
        have d2 : (((c.toNat : Nat) : Int) != 62) = false := by rw [h62]; rfl
        clear h47 h62
        go_wp2_with (first | (go_at_call 112; (with_reducible refine (sign_Space.calls _ false _ HS.out).mono ?_); rintro e w2 ⟨rfl, ⟨nd, rfl⟩⟩; have HT2 := Aside0.mk (HT1.out.drewN nd)) | (go_at_call 20; (with_reducible refine (attrs_none s (t : Int) j _ (by omega) h2 hx HJ0.out HJ1.out hl hb).mono ?_); rintro e w3 ⟨rfl, hb3⟩; have HT3 := Aside0.mk (HT2.out.then hb3); clear hb3) | (go_at_call 60; (with_reducible refine (sign_Lower.calls _ lo _ hlo.out).mono ?_); rintro e w4 ⟨rfl, hb4⟩; have HT4 := Aside0.mk (HT3.out.then hb4); clear hb4) | (go_at_call 59; (with_reducible refine (lines_Clean.calls lo nm _ hnm.out).mono ?_); rintro e w5 ⟨rfl, hb5⟩; have HT5 := Aside0.mk (HT4.out.then hb5); obtain ⟨⟨k0, k1, k2, k3, k4⟩, kf⟩ := HT5.out.facts; have kf0 := kf 0; have kf1 := kf 1; have kf2 := kf 2; have kf3 := kf 3; have kf4 := kf 4; clear hb5 kf))
        refine bodyPost_ret (results_ctt rfl _ _ w.heap.size 40 #[.int .i64 2, .string nm, .string ⟨#[]⟩, .slice none 0 0, .bool false] (0, 0) _ rfl (TAt.puts HT5.out _ _ _ _ _).2 Tryz.underlying40 rfl (by kernel_rfl)) rfl ?_
        exact ⟨rfl, (TAt.puts HT5.out _ _ _ _ _).1⟩
      · have d1 : (((c.toNat : Nat) : Int) != 47) = true := bne_iff_ne.2 (by omega)
        have d2 : (((c.toNat : Nat) : Int) != 62) = true := bne_iff_ne.2 (by omega)
        have HNX := Aside0.mk hnext
        have b1 : (tq : Int) ≤ 1000000000 := by omega
        clear h47 h62 hnext
        go_wp2_with (go_at_call 112; (with_reducible refine (sign_Space.calls _ false _ HS.out).mono ?_); rintro e w2 ⟨rfl, ⟨nd, rfl⟩⟩; have HT2 := Aside0.mk (HT1.out.drewN nd))
        go_roundg k1
        case measure => omega
        case rel => exact ⟨tq + 1, rfl, HT2, HNX⟩
set_option maxRecDepth 100000 in
theorem tag_Read.calls (a0 : ByteArray) (a1 : Int) (r1 : Int) (r2 : ByteArray) (r3 : ByteArray) (r4 : List (S38)) (r5 : Bool) (r6 : Int) (r7 : Bool) (w : World) (hG : GW w) (h : tag_Read.f a0 a1 = some (r1, r2, r3, r4, r5, r6, r7)) :
    Calls Tryz.prog 73 #[.string a0, .int .i64 a1] w fun e w' => ∃ v3_ : Value, e = .returned (.tuple #[.agg #[.int .i64 r1, .string r2, .string r3, v3_, .bool r5], .int .i64 r6, .bool r7]) ∧ Kd.R k38 38 w' w.heap.size (fun _ => True) v3_ r4 ∧ Below w.heap.size w w' := by
  unfold tag_Read.f at h
  by_cases hc : 0 ≤ a1 ∧ a1 ≤ (a0.size : Int) ∧ a0.size ≤ 1000000000
  · rw [if_pos hc] at h
    obtain ⟨i, rfl⟩ : ∃ i : Nat, a1 = (i : Int) := ⟨a1.toNat, by omega⟩
    obtain ⟨n, hn, h⟩ := Option.bind_eq_some_iff.1 h
    by_cases hn2 : n = 1 ∨ n = 2
    · rw [if_pos hn2] at h
      obtain ⟨t, ht, h⟩ := Option.bind_eq_some_iff.1 h
      obtain ⟨⟨s', j⟩, hx, h⟩ := Option.bind_eq_some_iff.1 h
      have hs' := spaces_same _ _ _ _ _ hx
      subst hs'
      by_cases hj : 0 ≤ j ∧ j < (s'.size : Int) ∧ bt s' j = 62 ∧ (i : Int) + n ≤ (t : Int) ∧ t ≤ s'.size
      · rw [if_pos hj] at h
        obtain ⟨h1, h2, h3, h4, h5⟩ := hj
        obtain ⟨lo, hlo, h⟩ := Option.bind_eq_some_iff.1 h
        obtain ⟨nm, hnm, h⟩ := Option.bind_eq_some_iff.1 h
        rcases hn2 with rfl | rfl
        · simp only [Option.some.injEq, Prod.mk.injEq] at h
          obtain ⟨rfl, rfl, rfl, rfl, rfl, rfl, rfl⟩ := h
          have e1 : ((i : Int) + 1).toNat = i + 1 := by omega
          rw [e1] at ht hlo
          refine (tag_start s' nm lo i (i + 1) t (by omega) j w (by omega) (by omega) ⟨hn⟩ ⟨ht⟩ ⟨hx⟩ h1 h2 ⟨h3⟩ (by omega) (by omega) ⟨hlo⟩ ⟨hnm⟩).mono ?_
          rintro e w' ⟨rfl, hb⟩
          exact ⟨_, rfl, Kd.R_nil _ _ _ _ _, hb⟩
        · simp only [Option.some.injEq, Prod.mk.injEq] at h
          obtain ⟨rfl, rfl, rfl, rfl, rfl, rfl, rfl⟩ := h
          have e1 : ((i : Int) + 2).toNat = i + 2 := by omega
          rw [e1] at ht hlo
          refine (tag_end s' nm lo i (i + 2) t (by omega) j w (by omega) (by omega) ⟨hn⟩ ⟨ht⟩ ⟨hx⟩ h1 h2 ⟨h3⟩ (by omega) (by omega) ⟨hlo⟩ ⟨hnm⟩).mono ?_
          rintro e w' ⟨rfl, hb⟩
          exact ⟨_, rfl, Kd.R_nil _ _ _ _ _, hb⟩
      · rw [if_neg hj] at h
        cases h
    · rw [if_neg hn2] at h
      cases h
  · rw [if_neg hc] at h
    cases h
end Go.Proofs.YteccaekalcjihaaGreatDoor.PTn
namespace Go.Proofs.YteccaekalcjihaaGreatDoor.PTn
open Go.RowKit Go.Proofs.YteccaekalcjihaaGreatDoorW.PrintWords Go.Proofs.YteccaekalcjihaaGreatDoorW.PrintLast Go.Proofs.YteccaekalcjihaaGreatDoorW.PrintMore
attribute [local go_sem] max2_int min2_int max_two min_two max_three min_three max_four min_four
set_option linter.unusedVariables false
set_option linter.unusedSimpArgs false
noncomputable def tok_Next.f (k : Nat) (a0 : ByteArray) (a1 : Int) : Option (Int × ByteArray × ByteArray × (List (S38)) × Bool × Int × Bool) := (tok_inside.f a0 a1).bind fun t150 => ((tag_Begins.f a0 t150).bind fun t151 => (if t151 = true then ((tag_Read.f a0 t150).bind fun bt152 => (some (bt152.1, bt152.2.1, bt152.2.2.1, bt152.2.2.2.1, bt152.2.2.2.2.1, bt152.2.2.2.2.2.1, bt152.2.2.2.2.2.2))) else ((comment_Begins.f a0 t150).bind fun t161 => (if t161 = true then ((comment_Read.f a0 t150).bind fun bt162 => (some (bt162.1, bt162.2.1, bt162.2.2.1, bt162.2.2.2.1, bt162.2.2.2.2.1, bt162.2.2.2.2.2.1, bt162.2.2.2.2.2.2))) else ((doctype_Begins.f a0 t150).bind fun t171 => (if t171 = true then ((doctype_Read.f a0 t150).bind fun bt172 => (some (bt172.1, bt172.2.1, bt172.2.2.1, bt172.2.2.2.1, bt172.2.2.2.2.1, bt172.2.2.2.2.2.1, bt172.2.2.2.2.2.2))) else ((sign_Begins.f a0 t150 (⟨#[60, 47, 62]⟩ : ByteArray)).bind fun t181 => (if t181 = true then (some (0, (⟨#[]⟩ : ByteArray), (⟨#[]⟩ : ByteArray), ([] : List (S38)), false, wrap64 (t150 + 3), false)) else ((text_Read.f k a0 t150).bind fun bt182 => (if bt182.2 = t150 then (some (0, (⟨#[]⟩ : ByteArray), (⟨#[]⟩ : ByteArray), ([] : List (S38)), false, t150, false)) else (some (0, (⟨#[]⟩ : ByteArray), bt182.1, ([] : List (S38)), false, bt182.2, true))))))))))))
set_option maxHeartbeats 8000000 in
set_option maxRecDepth 100000 in
theorem tok_Next.calls (k : Nat) (a0 : ByteArray) (a1 : Int) (r1 : Int) (r2 : ByteArray) (r3 : ByteArray) (r4 : List (S38)) (r5 : Bool) (r6 : Int) (r7 : Bool) (w : World) (hG : GW w) (h : tok_Next.f k a0 a1 = some (r1, r2, r3, r4, r5, r6, r7)) :
    Calls Tryz.prog 27 #[.string a0, .int .i64 a1] w fun e w' => ∃ v3_ : Value, e = .returned (.tuple #[.agg #[.int .i64 r1, .string r2, .string r3, v3_, .bool r5], .int .i64 r6, .bool r7]) ∧ Kd.R k38 38 w' w.heap.size (fun _ => True) v3_ r4 ∧ Below w.heap.size w w' := by
  have hu40 := Tryz.underlying40
  have HB := Aside0.mk (Below.refl w.heap.size w)
  have H : ((tok_inside.f a0 a1).bind fun t150 => ((tag_Begins.f a0 t150).bind fun t151 => (if t151 = true then ((tag_Read.f a0 t150).bind fun bt152 => (some (bt152.1, bt152.2.1, bt152.2.2.1, bt152.2.2.2.1, bt152.2.2.2.2.1, bt152.2.2.2.2.2.1, bt152.2.2.2.2.2.2))) else ((comment_Begins.f a0 t150).bind fun t161 => (if t161 = true then ((comment_Read.f a0 t150).bind fun bt162 => (some (bt162.1, bt162.2.1, bt162.2.2.1, bt162.2.2.2.1, bt162.2.2.2.2.1, bt162.2.2.2.2.2.1, bt162.2.2.2.2.2.2))) else ((doctype_Begins.f a0 t150).bind fun t171 => (if t171 = true then ((doctype_Read.f a0 t150).bind fun bt172 => (some (bt172.1, bt172.2.1, bt172.2.2.1, bt172.2.2.2.1, bt172.2.2.2.2.1, bt172.2.2.2.2.2.1, bt172.2.2.2.2.2.2))) else ((sign_Begins.f a0 t150 (⟨#[60, 47, 62]⟩ : ByteArray)).bind fun t181 => (if t181 = true then (some (0, (⟨#[]⟩ : ByteArray), (⟨#[]⟩ : ByteArray), ([] : List (S38)), false, wrap64 (t150 + 3), false)) else ((text_Read.f k a0 t150).bind fun bt182 => (if bt182.2 = t150 then (some (0, (⟨#[]⟩ : ByteArray), (⟨#[]⟩ : ByteArray), ([] : List (S38)), false, t150, false)) else (some (0, (⟨#[]⟩ : ByteArray), bt182.1, ([] : List (S38)), false, bt182.2, true))))))))))))) = some (r1, r2, r3, r4, r5, r6, r7) := h
  clear h
  replace H := Option.bind_eq_some_iff.mp H
  obtain ⟨t150, A30, H⟩ := H
  (try dsimp only at H)
  have A3 := Aside0.mk A30
  clear A30
  replace H := Option.bind_eq_some_iff.mp H
  obtain ⟨t151, A40, H⟩ := H
  (try dsimp only at H)
  have A4 := Aside0.mk A40
  clear A40
  by_cases c5 : t151 = true
  · subst c5
    rw [if_pos rfl] at H
    replace H := Option.bind_eq_some_iff.mp H
    obtain ⟨⟨t152, t153, t154, t155, t158, t159, t160⟩, A60, H⟩ := H
    (try dsimp only at H)
    have A6 := Aside0.mk A60
    clear A60
    simp only [Option.some.injEq, Prod.mk.injEq] at H
    obtain ⟨rfl, rfl, rfl, rfl, rfl, rfl, rfl⟩ := H
    go_enter Tryz.func27, Tryz.ntmps27
    go_wp2_with (first | ((with_reducible refine gate_dst (N := 4) rfl ?_); refine box_event ?hg (N := 4) ?hd (cs := #[.int .i64 0, .string (⟨#[]⟩ : ByteArray), .string (⟨#[]⟩ : ByteArray), .slice none 0 0, .bool false]) (t := 40) ?hr ?_; (case hd => rfl); (case hg => rfl); (case hr => first | (go_simp; done) | (go_simp; rfl)); intro gb149 hg w7 hbox hb; have n0_ := Aside0.mk (below_step (by with_reducible repeat first | exact HB.out | apply below_alloc | apply pw_below_drewN | apply below_drew1) hb); have n1_ := Aside0.mk (hbox); have n2_ := Aside0.mk ((by rw [hg]; exact (below_size (by with_reducible repeat first | exact HB.out | apply below_alloc | apply pw_below_drewN | apply below_drew1)) : w.heap.size ≤ gb149)); have n3_ := Aside0.mk ((by rw [hg]; exact (below_size (by with_reducible repeat first | exact HB.out | apply below_alloc | apply pw_below_drewN | apply below_drew1)) : w.heap.size ≤ gb149)); clear HB; have HB := n0_; have BK149 := n1_; have GW149 := n2_; have GE149 := n3_; clear n0_ n1_ n2_ n3_; clear hb hbox hg) | ((with_reducible refine gate_callee (f := 71) rfl ?_); refine goesL_ (some 10) rfl rfl Tryz.func71 (by kernel_rfl) rfl #[.string a0, .int .i64 a1] rfl (by simp only [List.map_toArray, List.map_cons, List.map_nil] <;> rfl) ?_; (with_reducible refine (tok_inside.calls a0 a1 t150 _ A3.out).mono ?_); rintro e w8 ⟨rfl, hb⟩; refine ⟨_, rfl, ?_⟩; have n0_ := Aside0.mk (blk_below (g := gb149) (o := .cells #[.int .i64 0, .string (⟨#[]⟩ : ByteArray), .string (⟨#[]⟩ : ByteArray), .slice none 0 0, .bool false] 40 (0, 0)) (by (with_reducible repeat (first | refine blk_drewN ?_ _ | refine blk_drew ?_ | refine blk_alloc ?_ _)); exact BK149.out) hb); have n1_ := Aside0.mk (below_step (by repeat (first | (with_reducible first | exact HB.out | apply below_alloc | apply pw_below_drewN | apply below_drew1 | refine below_set ?_ GE149.out) | exact HB.out)) hb); clear BK149; clear HB; have BK149 := n0_; have HB := n1_; clear n0_ n1_; (try clear hb); (try clear hb2); (try clear hk); (try clear hi)) | ((with_reducible refine gate_callee (f := 72) rfl ?_); refine goesL_ (some 14) rfl rfl Tryz.func72 (by kernel_rfl) rfl #[.string a0, .int .i64 t150] rfl (by simp only [List.map_toArray, List.map_cons, List.map_nil] <;> rfl) ?_; (with_reducible refine (tag_Begins.calls a0 t150 true _ A4.out).mono ?_); rintro e w9 ⟨rfl, hb⟩; refine ⟨_, rfl, ?_⟩; have n0_ := Aside0.mk (blk_below (g := gb149) (o := .cells #[.int .i64 0, .string (⟨#[]⟩ : ByteArray), .string (⟨#[]⟩ : ByteArray), .slice none 0 0, .bool false] 40 (0, 0)) (by (with_reducible repeat (first | refine blk_drewN ?_ _ | refine blk_drew ?_ | refine blk_alloc ?_ _)); exact BK149.out) hb); have n1_ := Aside0.mk (below_step (by repeat (first | (with_reducible first | exact HB.out | apply below_alloc | apply pw_below_drewN | apply below_drew1 | refine below_set ?_ GE149.out) | exact HB.out)) hb); clear BK149; clear HB; have BK149 := n0_; have HB := n1_; clear n0_ n1_; (try clear hb); (try clear hb2); (try clear hk); (try clear hi)) | ((with_reducible refine gate_callee (f := 73) rfl ?_); refine goesL_ (some 17) rfl rfl Tryz.func73 (by kernel_rfl) rfl #[.string a0, .int .i64 t150] rfl (by simp only [List.map_toArray, List.map_cons, List.map_nil] <;> rfl) ?_; (with_reducible refine (tag_Read.calls a0 t150 t152 t153 t154 t155 t158 t159 t160 _ ?gw A6.out).mono ?_); (case gw => exact hG.at (by with_reducible repeat first | exact HB.out | apply below_alloc | apply pw_below_drewN | apply below_drew1)); rintro e w10 ⟨v156, rfl, ho0, hb⟩; refine ⟨_, rfl, ?_⟩; have n0_ := Aside0.mk (Kd.R_lower ho0 (below_size (by repeat (first | (with_reducible first | exact HB.out | apply below_alloc | apply pw_below_drewN | apply below_drew1 | refine below_set ?_ GE149.out) | exact HB.out)))); have n1_ := Aside0.mk (blk_below (g := gb149) (o := .cells #[.int .i64 0, .string (⟨#[]⟩ : ByteArray), .string (⟨#[]⟩ : ByteArray), .slice none 0 0, .bool false] 40 (0, 0)) (by (with_reducible repeat (first | refine blk_drewN ?_ _ | refine blk_drew ?_ | refine blk_alloc ?_ _)); exact BK149.out) hb); have n2_ := Aside0.mk (below_step (by repeat (first | (with_reducible first | exact HB.out | apply below_alloc | apply pw_below_drewN | apply below_drew1 | refine below_set ?_ GE149.out) | exact HB.out)) hb); clear BK149; clear HB; have HO157 := n0_; have BK149 := n1_; have HB := n2_; clear n0_ n1_ n2_; (try clear hb); (try clear hb2); (try clear hk); (try clear hi); (try clear ho0); have hcz11_0 : w10.cell? ⟨gb149, 0, none⟩ = some (.int .i64 0) := (blk_cell BK149.out 0).trans rfl; have hcz11_1 : w10.cell? ⟨gb149, 1, none⟩ = some (.string (⟨#[]⟩ : ByteArray)) := (blk_cell BK149.out 1).trans rfl; have hcz11_2 : w10.cell? ⟨gb149, 2, none⟩ = some (.string (⟨#[]⟩ : ByteArray)) := (blk_cell BK149.out 2).trans rfl; have hcz11_3 : w10.cell? ⟨gb149, 3, none⟩ = some (.slice none 0 0) := (blk_cell BK149.out 3).trans rfl; have hcz11_4 : w10.cell? ⟨gb149, 4, none⟩ = some (.bool false) := (blk_cell BK149.out 4).trans rfl; have hfz11_0 := blk_frozen BK149.out 0; have hfz11_1 := blk_frozen BK149.out 1; have hfz11_2 := blk_frozen BK149.out 2; have hfz11_3 := blk_frozen BK149.out 3; have hfz11_4 := blk_frozen BK149.out 4; obtain ⟨Ao12, co12, eo12⟩ := Kd.R_slice HO157.out; subst eo12))
    refine bodyPost_ret (results_ctt rfl _ _ gb149 40 #[.int .i64 t152, .string t153, .string t154, .slice Ao12 t155.length co12, .bool t158] (0, 0) _ rfl (by (with_reducible repeat (first | refine blk_drewN ?_ _ | refine blk_drew ?_ | refine blk_alloc ?_ _)); refine blk_put (cs := #[.int .i64 t152, .string t153, .string t154, .slice Ao12 t155.length co12, .bool false]) ?_ 4 _ rfl; (with_reducible repeat (first | refine blk_drewN ?_ _ | refine blk_drew ?_ | refine blk_alloc ?_ _)); refine blk_put (cs := #[.int .i64 t152, .string t153, .string t154, .slice none 0 0, .bool false]) ?_ 3 _ rfl; (with_reducible repeat (first | refine blk_drewN ?_ _ | refine blk_drew ?_ | refine blk_alloc ?_ _)); refine blk_put (cs := #[.int .i64 t152, .string t153, .string (⟨#[]⟩ : ByteArray), .slice none 0 0, .bool false]) ?_ 2 _ rfl; (with_reducible repeat (first | refine blk_drewN ?_ _ | refine blk_drew ?_ | refine blk_alloc ?_ _)); refine blk_put (cs := #[.int .i64 t152, .string (⟨#[]⟩ : ByteArray), .string (⟨#[]⟩ : ByteArray), .slice none 0 0, .bool false]) ?_ 1 _ rfl; (with_reducible repeat (first | refine blk_drewN ?_ _ | refine blk_drew ?_ | refine blk_alloc ?_ _)); refine blk_put (cs := #[.int .i64 0, .string (⟨#[]⟩ : ByteArray), .string (⟨#[]⟩ : ByteArray), .slice none 0 0, .bool false]) ?_ 0 _ rfl; (with_reducible repeat (first | refine blk_drewN ?_ _ | refine blk_drew ?_ | refine blk_alloc ?_ _)); exact BK149.out) Tryz.underlying40 rfl (by kernel_rfl)) rfl ?_
    exact ⟨_, by first | rfl | (simp [errW_none, errW_some] <;> rfl) | (simp [*, errW_none, errW_some] <;> rfl), by (with_reducible repeat (first | apply Kd.R_alloc | apply Kd.R_drewN | apply Kd.R_drew)); exact Kd.R_mono (Kd.R_far (p := ⟨gb149, 4, none⟩) (Kd.R_far (p := ⟨gb149, 3, none⟩) (Kd.R_far (p := ⟨gb149, 2, none⟩) (Kd.R_far (p := ⟨gb149, 1, none⟩) (Kd.R_far (p := ⟨gb149, 0, none⟩) (Kd.R_types HO157.out BK149.out (by decide)) (fun _ hk => hk.2) (.int .i64 t152)) (fun _ hk => hk.2) (.string t153)) (fun _ hk => hk.2) (.string t154)) (fun _ hk => hk.2) (.slice Ao12 t155.length co12)) (fun _ hk => hk.2) (.bool t158)) (fun _ hk => trivial), by repeat (first | (with_reducible first | exact HB.out | apply below_alloc | apply pw_below_drewN | apply below_drew1 | refine below_set ?_ GE149.out) | exact HB.out)⟩
  · replace c5 := Bool.eq_false_iff.mpr c5
    subst c5
    rw [if_neg (show ¬ (false = true) by decide)] at H
    replace H := Option.bind_eq_some_iff.mp H
    obtain ⟨t161, A130, H⟩ := H
    (try dsimp only at H)
    have A13 := Aside0.mk A130
    clear A130
    by_cases c14 : t161 = true
    · subst c14
      rw [if_pos rfl] at H
      replace H := Option.bind_eq_some_iff.mp H
      obtain ⟨⟨t162, t163, t164, t165, t168, t169, t170⟩, A150, H⟩ := H
      (try dsimp only at H)
      have A15 := Aside0.mk A150
      clear A150
      simp only [Option.some.injEq, Prod.mk.injEq] at H
      obtain ⟨rfl, rfl, rfl, rfl, rfl, rfl, rfl⟩ := H
      go_enter Tryz.func27, Tryz.ntmps27
      go_wp2_with (first | ((with_reducible refine gate_dst (N := 4) rfl ?_); refine box_event ?hg (N := 4) ?hd (cs := #[.int .i64 0, .string (⟨#[]⟩ : ByteArray), .string (⟨#[]⟩ : ByteArray), .slice none 0 0, .bool false]) (t := 40) ?hr ?_; (case hd => rfl); (case hg => rfl); (case hr => first | (go_simp; done) | (go_simp; rfl)); intro gb149 hg w16 hbox hb; have n0_ := Aside0.mk (below_step (by with_reducible repeat first | exact HB.out | apply below_alloc | apply pw_below_drewN | apply below_drew1) hb); have n1_ := Aside0.mk (hbox); have n2_ := Aside0.mk ((by rw [hg]; exact (below_size (by with_reducible repeat first | exact HB.out | apply below_alloc | apply pw_below_drewN | apply below_drew1)) : w.heap.size ≤ gb149)); have n3_ := Aside0.mk ((by rw [hg]; exact (below_size (by with_reducible repeat first | exact HB.out | apply below_alloc | apply pw_below_drewN | apply below_drew1)) : w.heap.size ≤ gb149)); clear HB; have HB := n0_; have BK149 := n1_; have GW149 := n2_; have GE149 := n3_; clear n0_ n1_ n2_ n3_; clear hb hbox hg) | ((with_reducible refine gate_callee (f := 71) rfl ?_); refine goesL_ (some 10) rfl rfl Tryz.func71 (by kernel_rfl) rfl #[.string a0, .int .i64 a1] rfl (by simp only [List.map_toArray, List.map_cons, List.map_nil] <;> rfl) ?_; (with_reducible refine (tok_inside.calls a0 a1 t150 _ A3.out).mono ?_); rintro e w17 ⟨rfl, hb⟩; refine ⟨_, rfl, ?_⟩; have n0_ := Aside0.mk (blk_below (g := gb149) (o := .cells #[.int .i64 0, .string (⟨#[]⟩ : ByteArray), .string (⟨#[]⟩ : ByteArray), .slice none 0 0, .bool false] 40 (0, 0)) (by (with_reducible repeat (first | refine blk_drewN ?_ _ | refine blk_drew ?_ | refine blk_alloc ?_ _)); exact BK149.out) hb); have n1_ := Aside0.mk (below_step (by repeat (first | (with_reducible first | exact HB.out | apply below_alloc | apply pw_below_drewN | apply below_drew1 | refine below_set ?_ GE149.out) | exact HB.out)) hb); clear BK149; clear HB; have BK149 := n0_; have HB := n1_; clear n0_ n1_; (try clear hb); (try clear hb2); (try clear hk); (try clear hi)) | ((with_reducible refine gate_callee (f := 72) rfl ?_); refine goesL_ (some 14) rfl rfl Tryz.func72 (by kernel_rfl) rfl #[.string a0, .int .i64 t150] rfl (by simp only [List.map_toArray, List.map_cons, List.map_nil] <;> rfl) ?_; (with_reducible refine (tag_Begins.calls a0 t150 false _ A4.out).mono ?_); rintro e w18 ⟨rfl, hb⟩; refine ⟨_, rfl, ?_⟩; have n0_ := Aside0.mk (blk_below (g := gb149) (o := .cells #[.int .i64 0, .string (⟨#[]⟩ : ByteArray), .string (⟨#[]⟩ : ByteArray), .slice none 0 0, .bool false] 40 (0, 0)) (by (with_reducible repeat (first | refine blk_drewN ?_ _ | refine blk_drew ?_ | refine blk_alloc ?_ _)); exact BK149.out) hb); have n1_ := Aside0.mk (below_step (by repeat (first | (with_reducible first | exact HB.out | apply below_alloc | apply pw_below_drewN | apply below_drew1 | refine below_set ?_ GE149.out) | exact HB.out)) hb); clear BK149; clear HB; have BK149 := n0_; have HB := n1_; clear n0_ n1_; (try clear hb); (try clear hb2); (try clear hk); (try clear hi)) | ((with_reducible refine gate_callee (f := 74) rfl ?_); refine goesL_ (some 24) rfl rfl Tryz.func74 (by kernel_rfl) rfl #[.string a0, .int .i64 t150] rfl (by simp only [List.map_toArray, List.map_cons, List.map_nil] <;> rfl) ?_; (with_reducible refine (comment_Begins.calls a0 t150 true _ A13.out).mono ?_); rintro e w19 ⟨rfl, hb⟩; refine ⟨_, rfl, ?_⟩; have n0_ := Aside0.mk (blk_below (g := gb149) (o := .cells #[.int .i64 0, .string (⟨#[]⟩ : ByteArray), .string (⟨#[]⟩ : ByteArray), .slice none 0 0, .bool false] 40 (0, 0)) (by (with_reducible repeat (first | refine blk_drewN ?_ _ | refine blk_drew ?_ | refine blk_alloc ?_ _)); exact BK149.out) hb); have n1_ := Aside0.mk (below_step (by repeat (first | (with_reducible first | exact HB.out | apply below_alloc | apply pw_below_drewN | apply below_drew1 | refine below_set ?_ GE149.out) | exact HB.out)) hb); clear BK149; clear HB; have BK149 := n0_; have HB := n1_; clear n0_ n1_; (try clear hb); (try clear hb2); (try clear hk); (try clear hi)) | ((with_reducible refine gate_callee (f := 75) rfl ?_); refine goesL_ (some 27) rfl rfl Tryz.func75 (by kernel_rfl) rfl #[.string a0, .int .i64 t150] rfl (by simp only [List.map_toArray, List.map_cons, List.map_nil] <;> rfl) ?_; (with_reducible refine (comment_Read.calls a0 t150 t162 t163 t164 t165 t168 t169 t170 _ A15.out).mono ?_); rintro e w20 ⟨v166, rfl, ho0, hb⟩; refine ⟨_, rfl, ?_⟩; have n0_ := Aside0.mk (Kd.R_lower ho0 (below_size (by repeat (first | (with_reducible first | exact HB.out | apply below_alloc | apply pw_below_drewN | apply below_drew1 | refine below_set ?_ GE149.out) | exact HB.out)))); have n1_ := Aside0.mk (blk_below (g := gb149) (o := .cells #[.int .i64 0, .string (⟨#[]⟩ : ByteArray), .string (⟨#[]⟩ : ByteArray), .slice none 0 0, .bool false] 40 (0, 0)) (by (with_reducible repeat (first | refine blk_drewN ?_ _ | refine blk_drew ?_ | refine blk_alloc ?_ _)); exact BK149.out) hb); have n2_ := Aside0.mk (below_step (by repeat (first | (with_reducible first | exact HB.out | apply below_alloc | apply pw_below_drewN | apply below_drew1 | refine below_set ?_ GE149.out) | exact HB.out)) hb); clear BK149; clear HB; have HO167 := n0_; have BK149 := n1_; have HB := n2_; clear n0_ n1_ n2_; (try clear hb); (try clear hb2); (try clear hk); (try clear hi); (try clear ho0); have hcz21_0 : w20.cell? ⟨gb149, 0, none⟩ = some (.int .i64 0) := (blk_cell BK149.out 0).trans rfl; have hcz21_1 : w20.cell? ⟨gb149, 1, none⟩ = some (.string (⟨#[]⟩ : ByteArray)) := (blk_cell BK149.out 1).trans rfl; have hcz21_2 : w20.cell? ⟨gb149, 2, none⟩ = some (.string (⟨#[]⟩ : ByteArray)) := (blk_cell BK149.out 2).trans rfl; have hcz21_3 : w20.cell? ⟨gb149, 3, none⟩ = some (.slice none 0 0) := (blk_cell BK149.out 3).trans rfl; have hcz21_4 : w20.cell? ⟨gb149, 4, none⟩ = some (.bool false) := (blk_cell BK149.out 4).trans rfl; have hfz21_0 := blk_frozen BK149.out 0; have hfz21_1 := blk_frozen BK149.out 1; have hfz21_2 := blk_frozen BK149.out 2; have hfz21_3 := blk_frozen BK149.out 3; have hfz21_4 := blk_frozen BK149.out 4; obtain ⟨Ao22, co22, eo22⟩ := Kd.R_slice HO167.out; subst eo22))
      refine bodyPost_ret (results_ctt rfl _ _ gb149 40 #[.int .i64 t162, .string t163, .string t164, .slice Ao22 t165.length co22, .bool t168] (0, 0) _ rfl (by (with_reducible repeat (first | refine blk_drewN ?_ _ | refine blk_drew ?_ | refine blk_alloc ?_ _)); refine blk_put (cs := #[.int .i64 t162, .string t163, .string t164, .slice Ao22 t165.length co22, .bool false]) ?_ 4 _ rfl; (with_reducible repeat (first | refine blk_drewN ?_ _ | refine blk_drew ?_ | refine blk_alloc ?_ _)); refine blk_put (cs := #[.int .i64 t162, .string t163, .string t164, .slice none 0 0, .bool false]) ?_ 3 _ rfl; (with_reducible repeat (first | refine blk_drewN ?_ _ | refine blk_drew ?_ | refine blk_alloc ?_ _)); refine blk_put (cs := #[.int .i64 t162, .string t163, .string (⟨#[]⟩ : ByteArray), .slice none 0 0, .bool false]) ?_ 2 _ rfl; (with_reducible repeat (first | refine blk_drewN ?_ _ | refine blk_drew ?_ | refine blk_alloc ?_ _)); refine blk_put (cs := #[.int .i64 t162, .string (⟨#[]⟩ : ByteArray), .string (⟨#[]⟩ : ByteArray), .slice none 0 0, .bool false]) ?_ 1 _ rfl; (with_reducible repeat (first | refine blk_drewN ?_ _ | refine blk_drew ?_ | refine blk_alloc ?_ _)); refine blk_put (cs := #[.int .i64 0, .string (⟨#[]⟩ : ByteArray), .string (⟨#[]⟩ : ByteArray), .slice none 0 0, .bool false]) ?_ 0 _ rfl; (with_reducible repeat (first | refine blk_drewN ?_ _ | refine blk_drew ?_ | refine blk_alloc ?_ _)); exact BK149.out) Tryz.underlying40 rfl (by kernel_rfl)) rfl ?_
      exact ⟨_, by first | rfl | (simp [errW_none, errW_some] <;> rfl) | (simp [*, errW_none, errW_some] <;> rfl), by (with_reducible repeat (first | apply Kd.R_alloc | apply Kd.R_drewN | apply Kd.R_drew)); exact Kd.R_mono (Kd.R_far (p := ⟨gb149, 4, none⟩) (Kd.R_far (p := ⟨gb149, 3, none⟩) (Kd.R_far (p := ⟨gb149, 2, none⟩) (Kd.R_far (p := ⟨gb149, 1, none⟩) (Kd.R_far (p := ⟨gb149, 0, none⟩) (Kd.R_types HO167.out BK149.out (by decide)) (fun _ hk => hk.2) (.int .i64 t162)) (fun _ hk => hk.2) (.string t163)) (fun _ hk => hk.2) (.string t164)) (fun _ hk => hk.2) (.slice Ao22 t165.length co22)) (fun _ hk => hk.2) (.bool t168)) (fun _ hk => trivial), by repeat (first | (with_reducible first | exact HB.out | apply below_alloc | apply pw_below_drewN | apply below_drew1 | refine below_set ?_ GE149.out) | exact HB.out)⟩
    · replace c14 := Bool.eq_false_iff.mpr c14
      subst c14
      rw [if_neg (show ¬ (false = true) by decide)] at H
      replace H := Option.bind_eq_some_iff.mp H
      obtain ⟨t171, A230, H⟩ := H
      (try dsimp only at H)
      have A23 := Aside0.mk A230
      clear A230
      by_cases c24 : t171 = true
      · subst c24
        rw [if_pos rfl] at H
        replace H := Option.bind_eq_some_iff.mp H
        obtain ⟨⟨t172, t173, t174, t175, t178, t179, t180⟩, A250, H⟩ := H
        (try dsimp only at H)
        have A25 := Aside0.mk A250
        clear A250
        simp only [Option.some.injEq, Prod.mk.injEq] at H
        obtain ⟨rfl, rfl, rfl, rfl, rfl, rfl, rfl⟩ := H
        go_enter Tryz.func27, Tryz.ntmps27
        go_wp2_with (first | ((with_reducible refine gate_dst (N := 4) rfl ?_); refine box_event ?hg (N := 4) ?hd (cs := #[.int .i64 0, .string (⟨#[]⟩ : ByteArray), .string (⟨#[]⟩ : ByteArray), .slice none 0 0, .bool false]) (t := 40) ?hr ?_; (case hd => rfl); (case hg => rfl); (case hr => first | (go_simp; done) | (go_simp; rfl)); intro gb149 hg w26 hbox hb; have n0_ := Aside0.mk (below_step (by with_reducible repeat first | exact HB.out | apply below_alloc | apply pw_below_drewN | apply below_drew1) hb); have n1_ := Aside0.mk (hbox); have n2_ := Aside0.mk ((by rw [hg]; exact (below_size (by with_reducible repeat first | exact HB.out | apply below_alloc | apply pw_below_drewN | apply below_drew1)) : w.heap.size ≤ gb149)); have n3_ := Aside0.mk ((by rw [hg]; exact (below_size (by with_reducible repeat first | exact HB.out | apply below_alloc | apply pw_below_drewN | apply below_drew1)) : w.heap.size ≤ gb149)); clear HB; have HB := n0_; have BK149 := n1_; have GW149 := n2_; have GE149 := n3_; clear n0_ n1_ n2_ n3_; clear hb hbox hg) | ((with_reducible refine gate_callee (f := 71) rfl ?_); refine goesL_ (some 10) rfl rfl Tryz.func71 (by kernel_rfl) rfl #[.string a0, .int .i64 a1] rfl (by simp only [List.map_toArray, List.map_cons, List.map_nil] <;> rfl) ?_; (with_reducible refine (tok_inside.calls a0 a1 t150 _ A3.out).mono ?_); rintro e w27 ⟨rfl, hb⟩; refine ⟨_, rfl, ?_⟩; have n0_ := Aside0.mk (blk_below (g := gb149) (o := .cells #[.int .i64 0, .string (⟨#[]⟩ : ByteArray), .string (⟨#[]⟩ : ByteArray), .slice none 0 0, .bool false] 40 (0, 0)) (by (with_reducible repeat (first | refine blk_drewN ?_ _ | refine blk_drew ?_ | refine blk_alloc ?_ _)); exact BK149.out) hb); have n1_ := Aside0.mk (below_step (by repeat (first | (with_reducible first | exact HB.out | apply below_alloc | apply pw_below_drewN | apply below_drew1 | refine below_set ?_ GE149.out) | exact HB.out)) hb); clear BK149; clear HB; have BK149 := n0_; have HB := n1_; clear n0_ n1_; (try clear hb); (try clear hb2); (try clear hk); (try clear hi)) | ((with_reducible refine gate_callee (f := 72) rfl ?_); refine goesL_ (some 14) rfl rfl Tryz.func72 (by kernel_rfl) rfl #[.string a0, .int .i64 t150] rfl (by simp only [List.map_toArray, List.map_cons, List.map_nil] <;> rfl) ?_; (with_reducible refine (tag_Begins.calls a0 t150 false _ A4.out).mono ?_); rintro e w28 ⟨rfl, hb⟩; refine ⟨_, rfl, ?_⟩; have n0_ := Aside0.mk (blk_below (g := gb149) (o := .cells #[.int .i64 0, .string (⟨#[]⟩ : ByteArray), .string (⟨#[]⟩ : ByteArray), .slice none 0 0, .bool false] 40 (0, 0)) (by (with_reducible repeat (first | refine blk_drewN ?_ _ | refine blk_drew ?_ | refine blk_alloc ?_ _)); exact BK149.out) hb); have n1_ := Aside0.mk (below_step (by repeat (first | (with_reducible first | exact HB.out | apply below_alloc | apply pw_below_drewN | apply below_drew1 | refine below_set ?_ GE149.out) | exact HB.out)) hb); clear BK149; clear HB; have BK149 := n0_; have HB := n1_; clear n0_ n1_; (try clear hb); (try clear hb2); (try clear hk); (try clear hi)) | ((with_reducible refine gate_callee (f := 74) rfl ?_); refine goesL_ (some 24) rfl rfl Tryz.func74 (by kernel_rfl) rfl #[.string a0, .int .i64 t150] rfl (by simp only [List.map_toArray, List.map_cons, List.map_nil] <;> rfl) ?_; (with_reducible refine (comment_Begins.calls a0 t150 false _ A13.out).mono ?_); rintro e w29 ⟨rfl, hb⟩; refine ⟨_, rfl, ?_⟩; have n0_ := Aside0.mk (blk_below (g := gb149) (o := .cells #[.int .i64 0, .string (⟨#[]⟩ : ByteArray), .string (⟨#[]⟩ : ByteArray), .slice none 0 0, .bool false] 40 (0, 0)) (by (with_reducible repeat (first | refine blk_drewN ?_ _ | refine blk_drew ?_ | refine blk_alloc ?_ _)); exact BK149.out) hb); have n1_ := Aside0.mk (below_step (by repeat (first | (with_reducible first | exact HB.out | apply below_alloc | apply pw_below_drewN | apply below_drew1 | refine below_set ?_ GE149.out) | exact HB.out)) hb); clear BK149; clear HB; have BK149 := n0_; have HB := n1_; clear n0_ n1_; (try clear hb); (try clear hb2); (try clear hk); (try clear hi)) | ((with_reducible refine gate_callee (f := 76) rfl ?_); refine goesL_ (some 34) rfl rfl Tryz.func76 (by kernel_rfl) rfl #[.string a0, .int .i64 t150] rfl (by simp only [List.map_toArray, List.map_cons, List.map_nil] <;> rfl) ?_; (with_reducible refine (doctype_Begins.calls a0 t150 true _ A23.out).mono ?_); rintro e w30 ⟨rfl, hb⟩; refine ⟨_, rfl, ?_⟩; have n0_ := Aside0.mk (blk_below (g := gb149) (o := .cells #[.int .i64 0, .string (⟨#[]⟩ : ByteArray), .string (⟨#[]⟩ : ByteArray), .slice none 0 0, .bool false] 40 (0, 0)) (by (with_reducible repeat (first | refine blk_drewN ?_ _ | refine blk_drew ?_ | refine blk_alloc ?_ _)); exact BK149.out) hb); have n1_ := Aside0.mk (below_step (by repeat (first | (with_reducible first | exact HB.out | apply below_alloc | apply pw_below_drewN | apply below_drew1 | refine below_set ?_ GE149.out) | exact HB.out)) hb); clear BK149; clear HB; have BK149 := n0_; have HB := n1_; clear n0_ n1_; (try clear hb); (try clear hb2); (try clear hk); (try clear hi)) | ((with_reducible refine gate_callee (f := 77) rfl ?_); refine goesL_ (some 37) rfl rfl Tryz.func77 (by kernel_rfl) rfl #[.string a0, .int .i64 t150] rfl (by simp only [List.map_toArray, List.map_cons, List.map_nil] <;> rfl) ?_; (with_reducible refine (doctype_Read.calls a0 t150 t172 t173 t174 t175 t178 t179 t180 _ A25.out).mono ?_); rintro e w31 ⟨v176, rfl, ho0, hb⟩; refine ⟨_, rfl, ?_⟩; have n0_ := Aside0.mk (Kd.R_lower ho0 (below_size (by repeat (first | (with_reducible first | exact HB.out | apply below_alloc | apply pw_below_drewN | apply below_drew1 | refine below_set ?_ GE149.out) | exact HB.out)))); have n1_ := Aside0.mk (blk_below (g := gb149) (o := .cells #[.int .i64 0, .string (⟨#[]⟩ : ByteArray), .string (⟨#[]⟩ : ByteArray), .slice none 0 0, .bool false] 40 (0, 0)) (by (with_reducible repeat (first | refine blk_drewN ?_ _ | refine blk_drew ?_ | refine blk_alloc ?_ _)); exact BK149.out) hb); have n2_ := Aside0.mk (below_step (by repeat (first | (with_reducible first | exact HB.out | apply below_alloc | apply pw_below_drewN | apply below_drew1 | refine below_set ?_ GE149.out) | exact HB.out)) hb); clear BK149; clear HB; have HO177 := n0_; have BK149 := n1_; have HB := n2_; clear n0_ n1_ n2_; (try clear hb); (try clear hb2); (try clear hk); (try clear hi); (try clear ho0); have hcz32_0 : w31.cell? ⟨gb149, 0, none⟩ = some (.int .i64 0) := (blk_cell BK149.out 0).trans rfl; have hcz32_1 : w31.cell? ⟨gb149, 1, none⟩ = some (.string (⟨#[]⟩ : ByteArray)) := (blk_cell BK149.out 1).trans rfl; have hcz32_2 : w31.cell? ⟨gb149, 2, none⟩ = some (.string (⟨#[]⟩ : ByteArray)) := (blk_cell BK149.out 2).trans rfl; have hcz32_3 : w31.cell? ⟨gb149, 3, none⟩ = some (.slice none 0 0) := (blk_cell BK149.out 3).trans rfl; have hcz32_4 : w31.cell? ⟨gb149, 4, none⟩ = some (.bool false) := (blk_cell BK149.out 4).trans rfl; have hfz32_0 := blk_frozen BK149.out 0; have hfz32_1 := blk_frozen BK149.out 1; have hfz32_2 := blk_frozen BK149.out 2; have hfz32_3 := blk_frozen BK149.out 3; have hfz32_4 := blk_frozen BK149.out 4; obtain ⟨Ao33, co33, eo33⟩ := Kd.R_slice HO177.out; subst eo33))
        refine bodyPost_ret (results_ctt rfl _ _ gb149 40 #[.int .i64 t172, .string t173, .string t174, .slice Ao33 t175.length co33, .bool t178] (0, 0) _ rfl (by (with_reducible repeat (first | refine blk_drewN ?_ _ | refine blk_drew ?_ | refine blk_alloc ?_ _)); refine blk_put (cs := #[.int .i64 t172, .string t173, .string t174, .slice Ao33 t175.length co33, .bool false]) ?_ 4 _ rfl; (with_reducible repeat (first | refine blk_drewN ?_ _ | refine blk_drew ?_ | refine blk_alloc ?_ _)); refine blk_put (cs := #[.int .i64 t172, .string t173, .string t174, .slice none 0 0, .bool false]) ?_ 3 _ rfl; (with_reducible repeat (first | refine blk_drewN ?_ _ | refine blk_drew ?_ | refine blk_alloc ?_ _)); refine blk_put (cs := #[.int .i64 t172, .string t173, .string (⟨#[]⟩ : ByteArray), .slice none 0 0, .bool false]) ?_ 2 _ rfl; (with_reducible repeat (first | refine blk_drewN ?_ _ | refine blk_drew ?_ | refine blk_alloc ?_ _)); refine blk_put (cs := #[.int .i64 t172, .string (⟨#[]⟩ : ByteArray), .string (⟨#[]⟩ : ByteArray), .slice none 0 0, .bool false]) ?_ 1 _ rfl; (with_reducible repeat (first | refine blk_drewN ?_ _ | refine blk_drew ?_ | refine blk_alloc ?_ _)); refine blk_put (cs := #[.int .i64 0, .string (⟨#[]⟩ : ByteArray), .string (⟨#[]⟩ : ByteArray), .slice none 0 0, .bool false]) ?_ 0 _ rfl; (with_reducible repeat (first | refine blk_drewN ?_ _ | refine blk_drew ?_ | refine blk_alloc ?_ _)); exact BK149.out) Tryz.underlying40 rfl (by kernel_rfl)) rfl ?_
        exact ⟨_, by first | rfl | (simp [errW_none, errW_some] <;> rfl) | (simp [*, errW_none, errW_some] <;> rfl), by (with_reducible repeat (first | apply Kd.R_alloc | apply Kd.R_drewN | apply Kd.R_drew)); exact Kd.R_mono (Kd.R_far (p := ⟨gb149, 4, none⟩) (Kd.R_far (p := ⟨gb149, 3, none⟩) (Kd.R_far (p := ⟨gb149, 2, none⟩) (Kd.R_far (p := ⟨gb149, 1, none⟩) (Kd.R_far (p := ⟨gb149, 0, none⟩) (Kd.R_types HO177.out BK149.out (by decide)) (fun _ hk => hk.2) (.int .i64 t172)) (fun _ hk => hk.2) (.string t173)) (fun _ hk => hk.2) (.string t174)) (fun _ hk => hk.2) (.slice Ao33 t175.length co33)) (fun _ hk => hk.2) (.bool t178)) (fun _ hk => trivial), by repeat (first | (with_reducible first | exact HB.out | apply below_alloc | apply pw_below_drewN | apply below_drew1 | refine below_set ?_ GE149.out) | exact HB.out)⟩
      · replace c24 := Bool.eq_false_iff.mpr c24
        subst c24
        rw [if_neg (show ¬ (false = true) by decide)] at H
        replace H := Option.bind_eq_some_iff.mp H
        obtain ⟨t181, A340, H⟩ := H
        (try dsimp only at H)
        have A34 := Aside0.mk A340
        clear A340
        by_cases c35 : t181 = true
        · subst c35
          rw [if_pos rfl] at H
          simp only [Option.some.injEq, Prod.mk.injEq] at H
          obtain ⟨rfl, rfl, rfl, rfl, rfl, rfl, rfl⟩ := H
          go_enter Tryz.func27, Tryz.ntmps27
          go_wp2_with (first | ((with_reducible refine gate_dst (N := 4) rfl ?_); refine box_event ?hg (N := 4) ?hd (cs := #[.int .i64 0, .string (⟨#[]⟩ : ByteArray), .string (⟨#[]⟩ : ByteArray), .slice none 0 0, .bool false]) (t := 40) ?hr ?_; (case hd => rfl); (case hg => rfl); (case hr => first | (go_simp; done) | (go_simp; rfl)); intro gb149 hg w36 hbox hb; have n0_ := Aside0.mk (below_step (by with_reducible repeat first | exact HB.out | apply below_alloc | apply pw_below_drewN | apply below_drew1) hb); have n1_ := Aside0.mk (hbox); have n2_ := Aside0.mk ((by rw [hg]; exact (below_size (by with_reducible repeat first | exact HB.out | apply below_alloc | apply pw_below_drewN | apply below_drew1)) : w.heap.size ≤ gb149)); have n3_ := Aside0.mk ((by rw [hg]; exact (below_size (by with_reducible repeat first | exact HB.out | apply below_alloc | apply pw_below_drewN | apply below_drew1)) : w.heap.size ≤ gb149)); clear HB; have HB := n0_; have BK149 := n1_; have GW149 := n2_; have GE149 := n3_; clear n0_ n1_ n2_ n3_; clear hb hbox hg) | ((with_reducible refine gate_callee (f := 71) rfl ?_); refine goesL_ (some 10) rfl rfl Tryz.func71 (by kernel_rfl) rfl #[.string a0, .int .i64 a1] rfl (by simp only [List.map_toArray, List.map_cons, List.map_nil] <;> rfl) ?_; (with_reducible refine (tok_inside.calls a0 a1 t150 _ A3.out).mono ?_); rintro e w37 ⟨rfl, hb⟩; refine ⟨_, rfl, ?_⟩; have n0_ := Aside0.mk (blk_below (g := gb149) (o := .cells #[.int .i64 0, .string (⟨#[]⟩ : ByteArray), .string (⟨#[]⟩ : ByteArray), .slice none 0 0, .bool false] 40 (0, 0)) (by (with_reducible repeat (first | refine blk_drewN ?_ _ | refine blk_drew ?_ | refine blk_alloc ?_ _)); exact BK149.out) hb); have n1_ := Aside0.mk (below_step (by repeat (first | (with_reducible first | exact HB.out | apply below_alloc | apply pw_below_drewN | apply below_drew1 | refine below_set ?_ GE149.out) | exact HB.out)) hb); clear BK149; clear HB; have BK149 := n0_; have HB := n1_; clear n0_ n1_; (try clear hb); (try clear hb2); (try clear hk); (try clear hi)) | ((with_reducible refine gate_callee (f := 72) rfl ?_); refine goesL_ (some 14) rfl rfl Tryz.func72 (by kernel_rfl) rfl #[.string a0, .int .i64 t150] rfl (by simp only [List.map_toArray, List.map_cons, List.map_nil] <;> rfl) ?_; (with_reducible refine (tag_Begins.calls a0 t150 false _ A4.out).mono ?_); rintro e w38 ⟨rfl, hb⟩; refine ⟨_, rfl, ?_⟩; have n0_ := Aside0.mk (blk_below (g := gb149) (o := .cells #[.int .i64 0, .string (⟨#[]⟩ : ByteArray), .string (⟨#[]⟩ : ByteArray), .slice none 0 0, .bool false] 40 (0, 0)) (by (with_reducible repeat (first | refine blk_drewN ?_ _ | refine blk_drew ?_ | refine blk_alloc ?_ _)); exact BK149.out) hb); have n1_ := Aside0.mk (below_step (by repeat (first | (with_reducible first | exact HB.out | apply below_alloc | apply pw_below_drewN | apply below_drew1 | refine below_set ?_ GE149.out) | exact HB.out)) hb); clear BK149; clear HB; have BK149 := n0_; have HB := n1_; clear n0_ n1_; (try clear hb); (try clear hb2); (try clear hk); (try clear hi)) | ((with_reducible refine gate_callee (f := 74) rfl ?_); refine goesL_ (some 24) rfl rfl Tryz.func74 (by kernel_rfl) rfl #[.string a0, .int .i64 t150] rfl (by simp only [List.map_toArray, List.map_cons, List.map_nil] <;> rfl) ?_; (with_reducible refine (comment_Begins.calls a0 t150 false _ A13.out).mono ?_); rintro e w39 ⟨rfl, hb⟩; refine ⟨_, rfl, ?_⟩; have n0_ := Aside0.mk (blk_below (g := gb149) (o := .cells #[.int .i64 0, .string (⟨#[]⟩ : ByteArray), .string (⟨#[]⟩ : ByteArray), .slice none 0 0, .bool false] 40 (0, 0)) (by (with_reducible repeat (first | refine blk_drewN ?_ _ | refine blk_drew ?_ | refine blk_alloc ?_ _)); exact BK149.out) hb); have n1_ := Aside0.mk (below_step (by repeat (first | (with_reducible first | exact HB.out | apply below_alloc | apply pw_below_drewN | apply below_drew1 | refine below_set ?_ GE149.out) | exact HB.out)) hb); clear BK149; clear HB; have BK149 := n0_; have HB := n1_; clear n0_ n1_; (try clear hb); (try clear hb2); (try clear hk); (try clear hi)) | ((with_reducible refine gate_callee (f := 76) rfl ?_); refine goesL_ (some 34) rfl rfl Tryz.func76 (by kernel_rfl) rfl #[.string a0, .int .i64 t150] rfl (by simp only [List.map_toArray, List.map_cons, List.map_nil] <;> rfl) ?_; (with_reducible refine (doctype_Begins.calls a0 t150 false _ A23.out).mono ?_); rintro e w40 ⟨rfl, hb⟩; refine ⟨_, rfl, ?_⟩; have n0_ := Aside0.mk (blk_below (g := gb149) (o := .cells #[.int .i64 0, .string (⟨#[]⟩ : ByteArray), .string (⟨#[]⟩ : ByteArray), .slice none 0 0, .bool false] 40 (0, 0)) (by (with_reducible repeat (first | refine blk_drewN ?_ _ | refine blk_drew ?_ | refine blk_alloc ?_ _)); exact BK149.out) hb); have n1_ := Aside0.mk (below_step (by repeat (first | (with_reducible first | exact HB.out | apply below_alloc | apply pw_below_drewN | apply below_drew1 | refine below_set ?_ GE149.out) | exact HB.out)) hb); clear BK149; clear HB; have BK149 := n0_; have HB := n1_; clear n0_ n1_; (try clear hb); (try clear hb2); (try clear hk); (try clear hi)) | ((with_reducible refine gate_callee (f := 58) rfl ?_); refine goesL_ (some 44) rfl rfl Tryz.func58 (by kernel_rfl) rfl #[.string a0, .int .i64 t150, .string (⟨#[60, 47, 62]⟩ : ByteArray)] rfl (by simp only [List.map_toArray, List.map_cons, List.map_nil] <;> rfl) ?_; (with_reducible refine (sign_Begins.calls a0 t150 (⟨#[60, 47, 62]⟩ : ByteArray) true _ A34.out).mono ?_); rintro e w41 ⟨rfl, hb⟩; refine ⟨_, rfl, ?_⟩; have n0_ := Aside0.mk (blk_below (g := gb149) (o := .cells #[.int .i64 0, .string (⟨#[]⟩ : ByteArray), .string (⟨#[]⟩ : ByteArray), .slice none 0 0, .bool false] 40 (0, 0)) (by (with_reducible repeat (first | refine blk_drewN ?_ _ | refine blk_drew ?_ | refine blk_alloc ?_ _)); exact BK149.out) hb); have n1_ := Aside0.mk (below_step (by repeat (first | (with_reducible first | exact HB.out | apply below_alloc | apply pw_below_drewN | apply below_drew1 | refine below_set ?_ GE149.out) | exact HB.out)) hb); clear BK149; clear HB; have BK149 := n0_; have HB := n1_; clear n0_ n1_; (try clear hb); (try clear hb2); (try clear hk); (try clear hi); have hcz42_0 : w41.cell? ⟨gb149, 0, none⟩ = some (.int .i64 0) := (blk_cell BK149.out 0).trans rfl; have hcz42_1 : w41.cell? ⟨gb149, 1, none⟩ = some (.string (⟨#[]⟩ : ByteArray)) := (blk_cell BK149.out 1).trans rfl; have hcz42_2 : w41.cell? ⟨gb149, 2, none⟩ = some (.string (⟨#[]⟩ : ByteArray)) := (blk_cell BK149.out 2).trans rfl; have hcz42_3 : w41.cell? ⟨gb149, 3, none⟩ = some (.slice none 0 0) := (blk_cell BK149.out 3).trans rfl; have hcz42_4 : w41.cell? ⟨gb149, 4, none⟩ = some (.bool false) := (blk_cell BK149.out 4).trans rfl; have hfz42_0 := blk_frozen BK149.out 0; have hfz42_1 := blk_frozen BK149.out 1; have hfz42_2 := blk_frozen BK149.out 2; have hfz42_3 := blk_frozen BK149.out 3; have hfz42_4 := blk_frozen BK149.out 4))
          refine bodyPost_ret (results_ctt rfl _ _ gb149 40 #[.int .i64 0, .string (⟨#[]⟩ : ByteArray), .string (⟨#[]⟩ : ByteArray), .slice none 0 0, .bool false] (0, 0) _ rfl (by (with_reducible repeat (first | refine blk_drewN ?_ _ | refine blk_drew ?_ | refine blk_alloc ?_ _)); refine blk_put (cs := #[.int .i64 0, .string (⟨#[]⟩ : ByteArray), .string (⟨#[]⟩ : ByteArray), .slice none 0 0, .bool false]) ?_ 4 _ rfl; (with_reducible repeat (first | refine blk_drewN ?_ _ | refine blk_drew ?_ | refine blk_alloc ?_ _)); refine blk_put (cs := #[.int .i64 0, .string (⟨#[]⟩ : ByteArray), .string (⟨#[]⟩ : ByteArray), .slice none 0 0, .bool false]) ?_ 3 _ rfl; (with_reducible repeat (first | refine blk_drewN ?_ _ | refine blk_drew ?_ | refine blk_alloc ?_ _)); refine blk_put (cs := #[.int .i64 0, .string (⟨#[]⟩ : ByteArray), .string (⟨#[]⟩ : ByteArray), .slice none 0 0, .bool false]) ?_ 2 _ rfl; (with_reducible repeat (first | refine blk_drewN ?_ _ | refine blk_drew ?_ | refine blk_alloc ?_ _)); refine blk_put (cs := #[.int .i64 0, .string (⟨#[]⟩ : ByteArray), .string (⟨#[]⟩ : ByteArray), .slice none 0 0, .bool false]) ?_ 1 _ rfl; (with_reducible repeat (first | refine blk_drewN ?_ _ | refine blk_drew ?_ | refine blk_alloc ?_ _)); refine blk_put (cs := #[.int .i64 0, .string (⟨#[]⟩ : ByteArray), .string (⟨#[]⟩ : ByteArray), .slice none 0 0, .bool false]) ?_ 0 _ rfl; (with_reducible repeat (first | refine blk_drewN ?_ _ | refine blk_drew ?_ | refine blk_alloc ?_ _)); exact BK149.out) Tryz.underlying40 rfl (by kernel_rfl)) rfl ?_
          exact ⟨_, by first | rfl | (simp [errW_none, errW_some] <;> rfl) | (simp [*, errW_none, errW_some] <;> rfl), by first | exact Kd.R_nil _ _ _ _ _ | exact Kd.N_nil _ _ _ _ _ | exact Kd.V_nil _ _ _ _ _ | exact Kd.Q_nil _ _ _ _ _ | exact Kd.S_nil _ _ _ _ _, by repeat (first | (with_reducible first | exact HB.out | apply below_alloc | apply pw_below_drewN | apply below_drew1 | refine below_set ?_ GE149.out) | exact HB.out)⟩
        · replace c35 := Bool.eq_false_iff.mpr c35
          subst c35
          rw [if_neg (show ¬ (false = true) by decide)] at H
          replace H := Option.bind_eq_some_iff.mp H
          obtain ⟨⟨t182, t183⟩, A430, H⟩ := H
          (try dsimp only at H)
          have A43 := Aside0.mk A430
          clear A430
          by_cases c44 : t183 = t150
          · rw [if_pos c44] at H
            have c44b0 : (t183 == t150) = true := beq_iff_eq.mpr c44
            have c44b1 : (t183 != t150) = false := bne_eq_false_iff_eq.mpr c44
            clear c44
            simp only [Option.some.injEq, Prod.mk.injEq] at H
            obtain ⟨rfl, rfl, rfl, rfl, rfl, rfl, rfl⟩ := H
            go_enter Tryz.func27, Tryz.ntmps27
            go_wp2_with (first | ((with_reducible refine gate_dst (N := 4) rfl ?_); refine box_event ?hg (N := 4) ?hd (cs := #[.int .i64 0, .string (⟨#[]⟩ : ByteArray), .string (⟨#[]⟩ : ByteArray), .slice none 0 0, .bool false]) (t := 40) ?hr ?_; (case hd => rfl); (case hg => rfl); (case hr => first | (go_simp; done) | (go_simp; rfl)); intro gb149 hg w45 hbox hb; have n0_ := Aside0.mk (below_step (by with_reducible repeat first | exact HB.out | apply below_alloc | apply pw_below_drewN | apply below_drew1) hb); have n1_ := Aside0.mk (hbox); have n2_ := Aside0.mk ((by rw [hg]; exact (below_size (by with_reducible repeat first | exact HB.out | apply below_alloc | apply pw_below_drewN | apply below_drew1)) : w.heap.size ≤ gb149)); have n3_ := Aside0.mk ((by rw [hg]; exact (below_size (by with_reducible repeat first | exact HB.out | apply below_alloc | apply pw_below_drewN | apply below_drew1)) : w.heap.size ≤ gb149)); clear HB; have HB := n0_; have BK149 := n1_; have GW149 := n2_; have GE149 := n3_; clear n0_ n1_ n2_ n3_; clear hb hbox hg) | ((with_reducible refine gate_callee (f := 71) rfl ?_); refine goesL_ (some 10) rfl rfl Tryz.func71 (by kernel_rfl) rfl #[.string a0, .int .i64 a1] rfl (by simp only [List.map_toArray, List.map_cons, List.map_nil] <;> rfl) ?_; (with_reducible refine (tok_inside.calls a0 a1 t150 _ A3.out).mono ?_); rintro e w46 ⟨rfl, hb⟩; refine ⟨_, rfl, ?_⟩; have n0_ := Aside0.mk (blk_below (g := gb149) (o := .cells #[.int .i64 0, .string (⟨#[]⟩ : ByteArray), .string (⟨#[]⟩ : ByteArray), .slice none 0 0, .bool false] 40 (0, 0)) (by (with_reducible repeat (first | refine blk_drewN ?_ _ | refine blk_drew ?_ | refine blk_alloc ?_ _)); exact BK149.out) hb); have n1_ := Aside0.mk (below_step (by repeat (first | (with_reducible first | exact HB.out | apply below_alloc | apply pw_below_drewN | apply below_drew1 | refine below_set ?_ GE149.out) | exact HB.out)) hb); clear BK149; clear HB; have BK149 := n0_; have HB := n1_; clear n0_ n1_; (try clear hb); (try clear hb2); (try clear hk); (try clear hi)) | ((with_reducible refine gate_callee (f := 72) rfl ?_); refine goesL_ (some 14) rfl rfl Tryz.func72 (by kernel_rfl) rfl #[.string a0, .int .i64 t150] rfl (by simp only [List.map_toArray, List.map_cons, List.map_nil] <;> rfl) ?_; (with_reducible refine (tag_Begins.calls a0 t150 false _ A4.out).mono ?_); rintro e w47 ⟨rfl, hb⟩; refine ⟨_, rfl, ?_⟩; have n0_ := Aside0.mk (blk_below (g := gb149) (o := .cells #[.int .i64 0, .string (⟨#[]⟩ : ByteArray), .string (⟨#[]⟩ : ByteArray), .slice none 0 0, .bool false] 40 (0, 0)) (by (with_reducible repeat (first | refine blk_drewN ?_ _ | refine blk_drew ?_ | refine blk_alloc ?_ _)); exact BK149.out) hb); have n1_ := Aside0.mk (below_step (by repeat (first | (with_reducible first | exact HB.out | apply below_alloc | apply pw_below_drewN | apply below_drew1 | refine below_set ?_ GE149.out) | exact HB.out)) hb); clear BK149; clear HB; have BK149 := n0_; have HB := n1_; clear n0_ n1_; (try clear hb); (try clear hb2); (try clear hk); (try clear hi)) | ((with_reducible refine gate_callee (f := 74) rfl ?_); refine goesL_ (some 24) rfl rfl Tryz.func74 (by kernel_rfl) rfl #[.string a0, .int .i64 t150] rfl (by simp only [List.map_toArray, List.map_cons, List.map_nil] <;> rfl) ?_; (with_reducible refine (comment_Begins.calls a0 t150 false _ A13.out).mono ?_); rintro e w48 ⟨rfl, hb⟩; refine ⟨_, rfl, ?_⟩; have n0_ := Aside0.mk (blk_below (g := gb149) (o := .cells #[.int .i64 0, .string (⟨#[]⟩ : ByteArray), .string (⟨#[]⟩ : ByteArray), .slice none 0 0, .bool false] 40 (0, 0)) (by (with_reducible repeat (first | refine blk_drewN ?_ _ | refine blk_drew ?_ | refine blk_alloc ?_ _)); exact BK149.out) hb); have n1_ := Aside0.mk (below_step (by repeat (first | (with_reducible first | exact HB.out | apply below_alloc | apply pw_below_drewN | apply below_drew1 | refine below_set ?_ GE149.out) | exact HB.out)) hb); clear BK149; clear HB; have BK149 := n0_; have HB := n1_; clear n0_ n1_; (try clear hb); (try clear hb2); (try clear hk); (try clear hi)) | ((with_reducible refine gate_callee (f := 76) rfl ?_); refine goesL_ (some 34) rfl rfl Tryz.func76 (by kernel_rfl) rfl #[.string a0, .int .i64 t150] rfl (by simp only [List.map_toArray, List.map_cons, List.map_nil] <;> rfl) ?_; (with_reducible refine (doctype_Begins.calls a0 t150 false _ A23.out).mono ?_); rintro e w49 ⟨rfl, hb⟩; refine ⟨_, rfl, ?_⟩; have n0_ := Aside0.mk (blk_below (g := gb149) (o := .cells #[.int .i64 0, .string (⟨#[]⟩ : ByteArray), .string (⟨#[]⟩ : ByteArray), .slice none 0 0, .bool false] 40 (0, 0)) (by (with_reducible repeat (first | refine blk_drewN ?_ _ | refine blk_drew ?_ | refine blk_alloc ?_ _)); exact BK149.out) hb); have n1_ := Aside0.mk (below_step (by repeat (first | (with_reducible first | exact HB.out | apply below_alloc | apply pw_below_drewN | apply below_drew1 | refine below_set ?_ GE149.out) | exact HB.out)) hb); clear BK149; clear HB; have BK149 := n0_; have HB := n1_; clear n0_ n1_; (try clear hb); (try clear hb2); (try clear hk); (try clear hi)) | ((with_reducible refine gate_callee (f := 58) rfl ?_); refine goesL_ (some 44) rfl rfl Tryz.func58 (by kernel_rfl) rfl #[.string a0, .int .i64 t150, .string (⟨#[60, 47, 62]⟩ : ByteArray)] rfl (by simp only [List.map_toArray, List.map_cons, List.map_nil] <;> rfl) ?_; (with_reducible refine (sign_Begins.calls a0 t150 (⟨#[60, 47, 62]⟩ : ByteArray) false _ A34.out).mono ?_); rintro e w50 ⟨rfl, hb⟩; refine ⟨_, rfl, ?_⟩; have n0_ := Aside0.mk (blk_below (g := gb149) (o := .cells #[.int .i64 0, .string (⟨#[]⟩ : ByteArray), .string (⟨#[]⟩ : ByteArray), .slice none 0 0, .bool false] 40 (0, 0)) (by (with_reducible repeat (first | refine blk_drewN ?_ _ | refine blk_drew ?_ | refine blk_alloc ?_ _)); exact BK149.out) hb); have n1_ := Aside0.mk (below_step (by repeat (first | (with_reducible first | exact HB.out | apply below_alloc | apply pw_below_drewN | apply below_drew1 | refine below_set ?_ GE149.out) | exact HB.out)) hb); clear BK149; clear HB; have BK149 := n0_; have HB := n1_; clear n0_ n1_; (try clear hb); (try clear hb2); (try clear hk); (try clear hi)) | ((with_reducible refine gate_callee (f := 78) rfl ?_); refine goesL_ (some 51) rfl rfl Tryz.func78 (by kernel_rfl) rfl #[.string a0, .int .i64 t150] rfl (by simp only [List.map_toArray, List.map_cons, List.map_nil] <;> rfl) ?_; (with_reducible refine (text_Read.calls k a0 t150 t182 t183 _ ?gw A43.out).mono ?_); (case gw => exact hG.at (by with_reducible repeat first | exact HB.out | apply below_alloc | apply pw_below_drewN | apply below_drew1)); rintro e w51 ⟨rfl, hb⟩; refine ⟨_, rfl, ?_⟩; have n0_ := Aside0.mk (blk_below (g := gb149) (o := .cells #[.int .i64 0, .string (⟨#[]⟩ : ByteArray), .string (⟨#[]⟩ : ByteArray), .slice none 0 0, .bool false] 40 (0, 0)) (by (with_reducible repeat (first | refine blk_drewN ?_ _ | refine blk_drew ?_ | refine blk_alloc ?_ _)); exact BK149.out) hb); have n1_ := Aside0.mk (below_step (by repeat (first | (with_reducible first | exact HB.out | apply below_alloc | apply pw_below_drewN | apply below_drew1 | refine below_set ?_ GE149.out) | exact HB.out)) hb); clear BK149; clear HB; have BK149 := n0_; have HB := n1_; clear n0_ n1_; (try clear hb); (try clear hb2); (try clear hk); (try clear hi); have hcz52_0 : w51.cell? ⟨gb149, 0, none⟩ = some (.int .i64 0) := (blk_cell BK149.out 0).trans rfl; have hcz52_1 : w51.cell? ⟨gb149, 1, none⟩ = some (.string (⟨#[]⟩ : ByteArray)) := (blk_cell BK149.out 1).trans rfl; have hcz52_2 : w51.cell? ⟨gb149, 2, none⟩ = some (.string (⟨#[]⟩ : ByteArray)) := (blk_cell BK149.out 2).trans rfl; have hcz52_3 : w51.cell? ⟨gb149, 3, none⟩ = some (.slice none 0 0) := (blk_cell BK149.out 3).trans rfl; have hcz52_4 : w51.cell? ⟨gb149, 4, none⟩ = some (.bool false) := (blk_cell BK149.out 4).trans rfl; have hfz52_0 := blk_frozen BK149.out 0; have hfz52_1 := blk_frozen BK149.out 1; have hfz52_2 := blk_frozen BK149.out 2; have hfz52_3 := blk_frozen BK149.out 3; have hfz52_4 := blk_frozen BK149.out 4))
            refine bodyPost_ret (results_ctt rfl _ _ gb149 40 #[.int .i64 0, .string (⟨#[]⟩ : ByteArray), .string (⟨#[]⟩ : ByteArray), .slice none 0 0, .bool false] (0, 0) _ rfl (by (with_reducible repeat (first | refine blk_drewN ?_ _ | refine blk_drew ?_ | refine blk_alloc ?_ _)); refine blk_put (cs := #[.int .i64 0, .string (⟨#[]⟩ : ByteArray), .string (⟨#[]⟩ : ByteArray), .slice none 0 0, .bool false]) ?_ 4 _ rfl; (with_reducible repeat (first | refine blk_drewN ?_ _ | refine blk_drew ?_ | refine blk_alloc ?_ _)); refine blk_put (cs := #[.int .i64 0, .string (⟨#[]⟩ : ByteArray), .string (⟨#[]⟩ : ByteArray), .slice none 0 0, .bool false]) ?_ 3 _ rfl; (with_reducible repeat (first | refine blk_drewN ?_ _ | refine blk_drew ?_ | refine blk_alloc ?_ _)); refine blk_put (cs := #[.int .i64 0, .string (⟨#[]⟩ : ByteArray), .string (⟨#[]⟩ : ByteArray), .slice none 0 0, .bool false]) ?_ 2 _ rfl; (with_reducible repeat (first | refine blk_drewN ?_ _ | refine blk_drew ?_ | refine blk_alloc ?_ _)); refine blk_put (cs := #[.int .i64 0, .string (⟨#[]⟩ : ByteArray), .string (⟨#[]⟩ : ByteArray), .slice none 0 0, .bool false]) ?_ 1 _ rfl; (with_reducible repeat (first | refine blk_drewN ?_ _ | refine blk_drew ?_ | refine blk_alloc ?_ _)); refine blk_put (cs := #[.int .i64 0, .string (⟨#[]⟩ : ByteArray), .string (⟨#[]⟩ : ByteArray), .slice none 0 0, .bool false]) ?_ 0 _ rfl; (with_reducible repeat (first | refine blk_drewN ?_ _ | refine blk_drew ?_ | refine blk_alloc ?_ _)); exact BK149.out) Tryz.underlying40 rfl (by kernel_rfl)) rfl ?_
            exact ⟨_, by first | rfl | (simp [errW_none, errW_some] <;> rfl) | (simp [*, errW_none, errW_some] <;> rfl), by first | exact Kd.R_nil _ _ _ _ _ | exact Kd.N_nil _ _ _ _ _ | exact Kd.V_nil _ _ _ _ _ | exact Kd.Q_nil _ _ _ _ _ | exact Kd.S_nil _ _ _ _ _, by repeat (first | (with_reducible first | exact HB.out | apply below_alloc | apply pw_below_drewN | apply below_drew1 | refine below_set ?_ GE149.out) | exact HB.out)⟩
          · rw [if_neg c44] at H
            have c44b0 : (t183 == t150) = false := beq_eq_false_iff_ne.mpr c44
            have c44b1 : (t183 != t150) = true := bne_iff_ne.mpr c44
            simp only [Option.some.injEq, Prod.mk.injEq] at H
            obtain ⟨rfl, rfl, rfl, rfl, rfl, rfl, rfl⟩ := H
            go_enter Tryz.func27, Tryz.ntmps27
            go_wp2_with (first | ((with_reducible refine gate_dst (N := 4) rfl ?_); refine box_event ?hg (N := 4) ?hd (cs := #[.int .i64 0, .string (⟨#[]⟩ : ByteArray), .string (⟨#[]⟩ : ByteArray), .slice none 0 0, .bool false]) (t := 40) ?hr ?_; (case hd => rfl); (case hg => rfl); (case hr => first | (go_simp; done) | (go_simp; rfl)); intro gb149 hg w53 hbox hb; have n0_ := Aside0.mk (below_step (by with_reducible repeat first | exact HB.out | apply below_alloc | apply pw_below_drewN | apply below_drew1) hb); have n1_ := Aside0.mk (hbox); have n2_ := Aside0.mk ((by rw [hg]; exact (below_size (by with_reducible repeat first | exact HB.out | apply below_alloc | apply pw_below_drewN | apply below_drew1)) : w.heap.size ≤ gb149)); have n3_ := Aside0.mk ((by rw [hg]; exact (below_size (by with_reducible repeat first | exact HB.out | apply below_alloc | apply pw_below_drewN | apply below_drew1)) : w.heap.size ≤ gb149)); clear HB; have HB := n0_; have BK149 := n1_; have GW149 := n2_; have GE149 := n3_; clear n0_ n1_ n2_ n3_; clear hb hbox hg) | ((with_reducible refine gate_callee (f := 71) rfl ?_); refine goesL_ (some 10) rfl rfl Tryz.func71 (by kernel_rfl) rfl #[.string a0, .int .i64 a1] rfl (by simp only [List.map_toArray, List.map_cons, List.map_nil] <;> rfl) ?_; (with_reducible refine (tok_inside.calls a0 a1 t150 _ A3.out).mono ?_); rintro e w54 ⟨rfl, hb⟩; refine ⟨_, rfl, ?_⟩; have n0_ := Aside0.mk (blk_below (g := gb149) (o := .cells #[.int .i64 0, .string (⟨#[]⟩ : ByteArray), .string (⟨#[]⟩ : ByteArray), .slice none 0 0, .bool false] 40 (0, 0)) (by (with_reducible repeat (first | refine blk_drewN ?_ _ | refine blk_drew ?_ | refine blk_alloc ?_ _)); exact BK149.out) hb); have n1_ := Aside0.mk (below_step (by repeat (first | (with_reducible first | exact HB.out | apply below_alloc | apply pw_below_drewN | apply below_drew1 | refine below_set ?_ GE149.out) | exact HB.out)) hb); clear BK149; clear HB; have BK149 := n0_; have HB := n1_; clear n0_ n1_; (try clear hb); (try clear hb2); (try clear hk); (try clear hi)) | ((with_reducible refine gate_callee (f := 72) rfl ?_); refine goesL_ (some 14) rfl rfl Tryz.func72 (by kernel_rfl) rfl #[.string a0, .int .i64 t150] rfl (by simp only [List.map_toArray, List.map_cons, List.map_nil] <;> rfl) ?_; (with_reducible refine (tag_Begins.calls a0 t150 false _ A4.out).mono ?_); rintro e w55 ⟨rfl, hb⟩; refine ⟨_, rfl, ?_⟩; have n0_ := Aside0.mk (blk_below (g := gb149) (o := .cells #[.int .i64 0, .string (⟨#[]⟩ : ByteArray), .string (⟨#[]⟩ : ByteArray), .slice none 0 0, .bool false] 40 (0, 0)) (by (with_reducible repeat (first | refine blk_drewN ?_ _ | refine blk_drew ?_ | refine blk_alloc ?_ _)); exact BK149.out) hb); have n1_ := Aside0.mk (below_step (by repeat (first | (with_reducible first | exact HB.out | apply below_alloc | apply pw_below_drewN | apply below_drew1 | refine below_set ?_ GE149.out) | exact HB.out)) hb); clear BK149; clear HB; have BK149 := n0_; have HB := n1_; clear n0_ n1_; (try clear hb); (try clear hb2); (try clear hk); (try clear hi)) | ((with_reducible refine gate_callee (f := 74) rfl ?_); refine goesL_ (some 24) rfl rfl Tryz.func74 (by kernel_rfl) rfl #[.string a0, .int .i64 t150] rfl (by simp only [List.map_toArray, List.map_cons, List.map_nil] <;> rfl) ?_; (with_reducible refine (comment_Begins.calls a0 t150 false _ A13.out).mono ?_); rintro e w56 ⟨rfl, hb⟩; refine ⟨_, rfl, ?_⟩; have n0_ := Aside0.mk (blk_below (g := gb149) (o := .cells #[.int .i64 0, .string (⟨#[]⟩ : ByteArray), .string (⟨#[]⟩ : ByteArray), .slice none 0 0, .bool false] 40 (0, 0)) (by (with_reducible repeat (first | refine blk_drewN ?_ _ | refine blk_drew ?_ | refine blk_alloc ?_ _)); exact BK149.out) hb); have n1_ := Aside0.mk (below_step (by repeat (first | (with_reducible first | exact HB.out | apply below_alloc | apply pw_below_drewN | apply below_drew1 | refine below_set ?_ GE149.out) | exact HB.out)) hb); clear BK149; clear HB; have BK149 := n0_; have HB := n1_; clear n0_ n1_; (try clear hb); (try clear hb2); (try clear hk); (try clear hi)) | ((with_reducible refine gate_callee (f := 76) rfl ?_); refine goesL_ (some 34) rfl rfl Tryz.func76 (by kernel_rfl) rfl #[.string a0, .int .i64 t150] rfl (by simp only [List.map_toArray, List.map_cons, List.map_nil] <;> rfl) ?_; (with_reducible refine (doctype_Begins.calls a0 t150 false _ A23.out).mono ?_); rintro e w57 ⟨rfl, hb⟩; refine ⟨_, rfl, ?_⟩; have n0_ := Aside0.mk (blk_below (g := gb149) (o := .cells #[.int .i64 0, .string (⟨#[]⟩ : ByteArray), .string (⟨#[]⟩ : ByteArray), .slice none 0 0, .bool false] 40 (0, 0)) (by (with_reducible repeat (first | refine blk_drewN ?_ _ | refine blk_drew ?_ | refine blk_alloc ?_ _)); exact BK149.out) hb); have n1_ := Aside0.mk (below_step (by repeat (first | (with_reducible first | exact HB.out | apply below_alloc | apply pw_below_drewN | apply below_drew1 | refine below_set ?_ GE149.out) | exact HB.out)) hb); clear BK149; clear HB; have BK149 := n0_; have HB := n1_; clear n0_ n1_; (try clear hb); (try clear hb2); (try clear hk); (try clear hi)) | ((with_reducible refine gate_callee (f := 58) rfl ?_); refine goesL_ (some 44) rfl rfl Tryz.func58 (by kernel_rfl) rfl #[.string a0, .int .i64 t150, .string (⟨#[60, 47, 62]⟩ : ByteArray)] rfl (by simp only [List.map_toArray, List.map_cons, List.map_nil] <;> rfl) ?_; (with_reducible refine (sign_Begins.calls a0 t150 (⟨#[60, 47, 62]⟩ : ByteArray) false _ A34.out).mono ?_); rintro e w58 ⟨rfl, hb⟩; refine ⟨_, rfl, ?_⟩; have n0_ := Aside0.mk (blk_below (g := gb149) (o := .cells #[.int .i64 0, .string (⟨#[]⟩ : ByteArray), .string (⟨#[]⟩ : ByteArray), .slice none 0 0, .bool false] 40 (0, 0)) (by (with_reducible repeat (first | refine blk_drewN ?_ _ | refine blk_drew ?_ | refine blk_alloc ?_ _)); exact BK149.out) hb); have n1_ := Aside0.mk (below_step (by repeat (first | (with_reducible first | exact HB.out | apply below_alloc | apply pw_below_drewN | apply below_drew1 | refine below_set ?_ GE149.out) | exact HB.out)) hb); clear BK149; clear HB; have BK149 := n0_; have HB := n1_; clear n0_ n1_; (try clear hb); (try clear hb2); (try clear hk); (try clear hi)) | ((with_reducible refine gate_callee (f := 78) rfl ?_); refine goesL_ (some 51) rfl rfl Tryz.func78 (by kernel_rfl) rfl #[.string a0, .int .i64 t150] rfl (by simp only [List.map_toArray, List.map_cons, List.map_nil] <;> rfl) ?_; (with_reducible refine (text_Read.calls k a0 t150 t182 t183 _ ?gw A43.out).mono ?_); (case gw => exact hG.at (by with_reducible repeat first | exact HB.out | apply below_alloc | apply pw_below_drewN | apply below_drew1)); rintro e w59 ⟨rfl, hb⟩; refine ⟨_, rfl, ?_⟩; have n0_ := Aside0.mk (blk_below (g := gb149) (o := .cells #[.int .i64 0, .string (⟨#[]⟩ : ByteArray), .string (⟨#[]⟩ : ByteArray), .slice none 0 0, .bool false] 40 (0, 0)) (by (with_reducible repeat (first | refine blk_drewN ?_ _ | refine blk_drew ?_ | refine blk_alloc ?_ _)); exact BK149.out) hb); have n1_ := Aside0.mk (below_step (by repeat (first | (with_reducible first | exact HB.out | apply below_alloc | apply pw_below_drewN | apply below_drew1 | refine below_set ?_ GE149.out) | exact HB.out)) hb); clear BK149; clear HB; have BK149 := n0_; have HB := n1_; clear n0_ n1_; (try clear hb); (try clear hb2); (try clear hk); (try clear hi); have hcz60_0 : w59.cell? ⟨gb149, 0, none⟩ = some (.int .i64 0) := (blk_cell BK149.out 0).trans rfl; have hcz60_1 : w59.cell? ⟨gb149, 1, none⟩ = some (.string (⟨#[]⟩ : ByteArray)) := (blk_cell BK149.out 1).trans rfl; have hcz60_2 : w59.cell? ⟨gb149, 2, none⟩ = some (.string (⟨#[]⟩ : ByteArray)) := (blk_cell BK149.out 2).trans rfl; have hcz60_3 : w59.cell? ⟨gb149, 3, none⟩ = some (.slice none 0 0) := (blk_cell BK149.out 3).trans rfl; have hcz60_4 : w59.cell? ⟨gb149, 4, none⟩ = some (.bool false) := (blk_cell BK149.out 4).trans rfl; have hfz60_0 := blk_frozen BK149.out 0; have hfz60_1 := blk_frozen BK149.out 1; have hfz60_2 := blk_frozen BK149.out 2; have hfz60_3 := blk_frozen BK149.out 3; have hfz60_4 := blk_frozen BK149.out 4))
            refine bodyPost_ret (results_ctt rfl _ _ gb149 40 #[.int .i64 0, .string (⟨#[]⟩ : ByteArray), .string t182, .slice none 0 0, .bool false] (0, 0) _ rfl (by (with_reducible repeat (first | refine blk_drewN ?_ _ | refine blk_drew ?_ | refine blk_alloc ?_ _)); refine blk_put (cs := #[.int .i64 0, .string (⟨#[]⟩ : ByteArray), .string t182, .slice none 0 0, .bool false]) ?_ 4 _ rfl; (with_reducible repeat (first | refine blk_drewN ?_ _ | refine blk_drew ?_ | refine blk_alloc ?_ _)); refine blk_put (cs := #[.int .i64 0, .string (⟨#[]⟩ : ByteArray), .string t182, .slice none 0 0, .bool false]) ?_ 3 _ rfl; (with_reducible repeat (first | refine blk_drewN ?_ _ | refine blk_drew ?_ | refine blk_alloc ?_ _)); refine blk_put (cs := #[.int .i64 0, .string (⟨#[]⟩ : ByteArray), .string (⟨#[]⟩ : ByteArray), .slice none 0 0, .bool false]) ?_ 2 _ rfl; (with_reducible repeat (first | refine blk_drewN ?_ _ | refine blk_drew ?_ | refine blk_alloc ?_ _)); refine blk_put (cs := #[.int .i64 0, .string (⟨#[]⟩ : ByteArray), .string (⟨#[]⟩ : ByteArray), .slice none 0 0, .bool false]) ?_ 1 _ rfl; (with_reducible repeat (first | refine blk_drewN ?_ _ | refine blk_drew ?_ | refine blk_alloc ?_ _)); refine blk_put (cs := #[.int .i64 0, .string (⟨#[]⟩ : ByteArray), .string (⟨#[]⟩ : ByteArray), .slice none 0 0, .bool false]) ?_ 0 _ rfl; (with_reducible repeat (first | refine blk_drewN ?_ _ | refine blk_drew ?_ | refine blk_alloc ?_ _)); exact BK149.out) Tryz.underlying40 rfl (by kernel_rfl)) rfl ?_
            exact ⟨_, by first | rfl | (simp [errW_none, errW_some] <;> rfl) | (simp [*, errW_none, errW_some] <;> rfl), by first | exact Kd.R_nil _ _ _ _ _ | exact Kd.N_nil _ _ _ _ _ | exact Kd.V_nil _ _ _ _ _ | exact Kd.Q_nil _ _ _ _ _ | exact Kd.S_nil _ _ _ _ _, by repeat (first | (with_reducible first | exact HB.out | apply below_alloc | apply pw_below_drewN | apply below_drew1 | refine below_set ?_ GE149.out) | exact HB.out)⟩
end Go.Proofs.YteccaekalcjihaaGreatDoor.PTn
namespace Go.Proofs.YteccaekalcjihaaGreatDoor.PTn
open Go.RowKit Go.Proofs.YteccaekalcjihaaGreatDoorW.PrintWords Go.Proofs.YteccaekalcjihaaGreatDoorW.PrintLast Go.Proofs.YteccaekalcjihaaGreatDoorW.PrintMore
attribute [local go_sem] max2_int min2_int max_two min_two max_three min_three max_four min_four
set_option linter.unusedVariables false
set_option linter.unusedSimpArgs false
noncomputable def raw_Text.f (a0 : ByteArray) (a1 : Bool) : Option (ByteArray) := if a1 = true then ((ref_Decode.f a0 false).bind fun t189 => ((lines_Clean.f t189).bind fun t190 => (some t190))) else ((lines_Clean.f a0).bind fun t191 => (some t191))
set_option maxHeartbeats 8000000 in
set_option maxRecDepth 100000 in
theorem raw_Text.calls (a0 : ByteArray) (a1 : Bool) (r : ByteArray) (w : World) (hG : GW w) (h : raw_Text.f a0 a1 = some r) :
    Calls Tryz.prog 135 #[.string a0, .bool a1] w fun e w' => e = .returned (.string r) ∧ Below w.heap.size w w' := by
  have HB := Aside0.mk (Below.refl w.heap.size w)
  have H : (if a1 = true then ((ref_Decode.f a0 false).bind fun t189 => ((lines_Clean.f t189).bind fun t190 => (some t190))) else ((lines_Clean.f a0).bind fun t191 => (some t191))) = some r := h
  clear h
  by_cases c3 : a1 = true
  · subst c3
    rw [if_pos rfl] at H
    replace H := Option.bind_eq_some_iff.mp H
    obtain ⟨t189, A40, H⟩ := H
    (try dsimp only at H)
    have A4 := Aside0.mk A40
    clear A40
    replace H := Option.bind_eq_some_iff.mp H
    obtain ⟨t190, A50, H⟩ := H
    (try dsimp only at H)
    have A5 := Aside0.mk A50
    clear A50
    obtain rfl := Option.some.inj H
    go_enter Tryz.func135, Tryz.ntmps135
    go_wp2_with (first | ((with_reducible refine gate_callee (f := 21) rfl ?_); refine goesL_ (some 7) rfl rfl Tryz.func21 (by kernel_rfl) rfl #[.string a0, .bool false] rfl (by simp only [List.map_toArray, List.map_cons, List.map_nil] <;> rfl) ?_; (with_reducible refine (ref_Decode.calls a0 false t189 _ ?gw A4.out).mono ?_); (case gw => exact hG.at (by with_reducible repeat first | exact HB.out | apply below_alloc | apply pw_below_drewN | apply below_drew1)); rintro e w6 ⟨rfl, hb⟩; refine ⟨_, rfl, ?_⟩; have n0_ := Aside0.mk (below_step (by with_reducible repeat first | exact HB.out | apply below_alloc | apply pw_below_drewN | apply below_drew1) hb); clear HB; have HB := n0_; clear n0_; (try clear hb); (try clear hb2); (try clear hk); (try clear hi)) | ((with_reducible refine gate_callee (f := 59) rfl ?_); refine goesL_ (some 9) rfl rfl Tryz.func59 (by kernel_rfl) rfl #[.string t189] rfl (by simp only [List.map_toArray, List.map_cons, List.map_nil] <;> rfl) ?_; (with_reducible refine (lines_Clean.calls t189 t190 _ A5.out).mono ?_); rintro e w7 ⟨rfl, hb⟩; refine ⟨_, rfl, ?_⟩; have n0_ := Aside0.mk (below_step (by with_reducible repeat first | exact HB.out | apply below_alloc | apply pw_below_drewN | apply below_drew1) hb); clear HB; have HB := n0_; clear n0_; (try clear hb); (try clear hb2); (try clear hk); (try clear hi)))
    go_ret
    exact ⟨by first | rfl | (simp [*] <;> rfl), by with_reducible repeat first | exact HB.out | apply below_alloc | apply pw_below_drewN | apply below_drew1⟩
  · replace c3 := Bool.eq_false_iff.mpr c3
    subst c3
    rw [if_neg (show ¬ (false = true) by decide)] at H
    replace H := Option.bind_eq_some_iff.mp H
    obtain ⟨t191, A80, H⟩ := H
    (try dsimp only at H)
    have A8 := Aside0.mk A80
    clear A80
    obtain rfl := Option.some.inj H
    go_enter Tryz.func135, Tryz.ntmps135
    go_wp2_with (first | ((with_reducible refine gate_callee (f := 59) rfl ?_); refine goesL_ (some 9) rfl rfl Tryz.func59 (by kernel_rfl) rfl #[.string a0] rfl (by simp only [List.map_toArray, List.map_cons, List.map_nil] <;> rfl) ?_; (with_reducible refine (lines_Clean.calls a0 t191 _ A8.out).mono ?_); rintro e w9 ⟨rfl, hb⟩; refine ⟨_, rfl, ?_⟩; have n0_ := Aside0.mk (below_step (by with_reducible repeat first | exact HB.out | apply below_alloc | apply pw_below_drewN | apply below_drew1) hb); clear HB; have HB := n0_; clear n0_; (try clear hb); (try clear hb2); (try clear hk); (try clear hi)))
    go_ret
    exact ⟨by first | rfl | (simp [*] <;> rfl), by with_reducible repeat first | exact HB.out | apply below_alloc | apply pw_below_drewN | apply below_drew1⟩
end Go.Proofs.YteccaekalcjihaaGreatDoor.PTn
namespace Go.Proofs.YteccaekalcjihaaGreatDoor.PTn
open Go.RowKit Go.Proofs.YteccaekalcjihaaGreatDoorW.PrintWords Go.Proofs.YteccaekalcjihaaGreatDoorW.PrintLast Go.Proofs.YteccaekalcjihaaGreatDoorW.PrintMore
attribute [local go_sem] max2_int min2_int max_two min_two max_three min_three max_four min_four
set_option linter.unusedVariables false
set_option linter.unusedSimpArgs false
def raw_Ends.j0 : Nat → ByteArray → Int → ByteArray → Bool → Option (Bool)
  | 0, _, _, _, _ => none
  | k + 1, x0, x1, x2, x24 => if x24 = true then (some false) else (if (wrap64 ((wrap64 (x1 + 2)) + (x2.size : Int))) = (x0.size : Int) then (some false) else (if 0 ≤ (wrap64 ((wrap64 (x1 + 2)) + (x2.size : Int))) then (if (wrap64 ((wrap64 (x1 + 2)) + (x2.size : Int))) < (x0.size : Int) then ((sign_Space.f (bt x0 (wrap64 ((wrap64 (x1 + 2)) + (x2.size : Int))))).bind fun t186 => (if t186 = true then (some true) else (if (bt x0 (wrap64 ((wrap64 (x1 + 2)) + (x2.size : Int)))) = 47 then (some true) else (some ((bt x0 (wrap64 ((wrap64 (x1 + 2)) + (x2.size : Int)))) == 62))))) else (none)) else (none)))
def raw_Ends.f (k : Nat) (a0 : ByteArray) (a1 : Int) (a2 : ByteArray) : Option (Bool) := if a2.toList = ([] : List UInt8) then (raw_Ends.j0 k a0 a1 a2 true) else ((sign_Begins.f a0 a1 (⟨#[60, 47]⟩ : ByteArray)).bind fun t184 => (if t184 = true then ((sign_Begins.f a0 (wrap64 (a1 + 2)) a2).bind fun t185 => (raw_Ends.j0 k a0 a1 a2 (!t185))) else (raw_Ends.j0 k a0 a1 a2 true)))
set_option maxHeartbeats 8000000 in
set_option maxRecDepth 100000 in
theorem raw_Ends.calls (k : Nat) (a0 : ByteArray) (a1 : Int) (a2 : ByteArray) (r : Bool) (w : World) (h : raw_Ends.f k a0 a1 a2 = some r) :
    Calls Tryz.prog 175 #[.string a0, .int .i64 a1, .string a2] w fun e w' => e = .returned (.bool r) ∧ Below w.heap.size w w' := by
  have HB := Aside0.mk (Below.refl w.heap.size w)
  have H : (if a2.toList = ([] : List UInt8) then (raw_Ends.j0 k a0 a1 a2 true) else ((sign_Begins.f a0 a1 (⟨#[60, 47]⟩ : ByteArray)).bind fun t184 => (if t184 = true then ((sign_Begins.f a0 (wrap64 (a1 + 2)) a2).bind fun t185 => (raw_Ends.j0 k a0 a1 a2 (!t185))) else (raw_Ends.j0 k a0 a1 a2 true)))) = some r := h
  clear h
  have HC4 := Aside0.mk H
  clear H
  go_enter Tryz.func175, Tryz.ntmps175
  go_upto_region 1 with (fail)
  go_cut [24] (fun v24 wc => ∃ (kq : Nat) (x24_3 : Bool), v24 = .bool x24_3 ∧ Aside0 (raw_Ends.j0 kq a0 a1 a2 x24_3 = some r) ∧ Aside0 (kq ≤ k) ∧ Aside0 (Below w.heap.size w wc))
  case first =>
    have H := HC4.out
    clear HC4
    by_cases c5 : a2.toList = ([] : List UInt8)
    · rw [if_pos c5] at H
      have c5b0 : (a2.toList == ([] : List UInt8)) = true := beq_iff_eq.mpr c5
      (try rw [show a2.toList.isEmpty = true from List.isEmpty_iff.mpr c5])
      have c5b1 : (a2.toList != ([] : List UInt8)) = false := bne_eq_false_iff_eq.mpr c5
      clear c5
      (first | rw [c5b0] | (simp only [i64_w, i32_w]; rw [c5b0]) | skip)
      have H' := Aside0.mk H
      clear H
      go_wp2
      go_meet
      case rel => exact ⟨_, (true), (by first | rfl | (simp; done) | (simp [*]; done)), H', ⟨by first | omega | exact Nat.le_refl _⟩, ⟨by with_reducible repeat first | exact HB.out | apply below_alloc | apply pw_below_drewN | apply below_drew1⟩⟩
    · rw [if_neg c5] at H
      have c5b0 : (a2.toList == ([] : List UInt8)) = false := beq_eq_false_iff_ne.mpr c5
      (try rw [show a2.toList.isEmpty = false from List.isEmpty_eq_false_iff.mpr c5])
      have c5b1 : (a2.toList != ([] : List UInt8)) = true := bne_iff_ne.mpr c5
      (first | rw [c5b0] | (simp only [i64_w, i32_w]; rw [c5b0]) | skip)
      replace H := Option.bind_eq_some_iff.mp H
      obtain ⟨t184, A60, H⟩ := H
      (try dsimp only at H)
      have A6 := Aside0.mk A60
      clear A60
      by_cases c7 : t184 = true
      · subst c7
        rw [if_pos rfl] at H
        replace H := Option.bind_eq_some_iff.mp H
        obtain ⟨t185, A80, H⟩ := H
        (try dsimp only at H)
        have A8 := Aside0.mk A80
        clear A80
        have H' := Aside0.mk H
        clear H
        go_wp2_with (first | (go_at_call 58; (with_reducible refine (sign_Begins.calls a0 a1 (⟨#[60, 47]⟩ : ByteArray) true _ A6.out).mono ?_); rintro e w9 ⟨rfl, hb⟩; have n0_ := Aside0.mk (below_step (by with_reducible repeat first | exact HB.out | apply below_alloc | apply pw_below_drewN | apply below_drew1) hb); clear HB; have HB := n0_; clear n0_; (try clear hb); (try clear hb2); (try clear hk); (try clear hi)) | (go_at_call 58; (with_reducible refine (sign_Begins.calls a0 (wrap64 (a1 + 2)) a2 t185 _ A8.out).mono ?_); rintro e w10 ⟨rfl, hb⟩; have n0_ := Aside0.mk (below_step (by with_reducible repeat first | exact HB.out | apply below_alloc | apply pw_below_drewN | apply below_drew1) hb); clear HB; have HB := n0_; clear n0_; (try clear hb); (try clear hb2); (try clear hk); (try clear hi)))
        go_meet
        case rel => exact ⟨_, (!t185), (by first | rfl | (simp; done) | (simp [*]; done)), H', ⟨by first | omega | exact Nat.le_refl _⟩, ⟨by with_reducible repeat first | exact HB.out | apply below_alloc | apply pw_below_drewN | apply below_drew1⟩⟩
      · replace c7 := Bool.eq_false_iff.mpr c7
        subst c7
        rw [if_neg (show ¬ (false = true) by decide)] at H
        have H' := Aside0.mk H
        clear H
        go_wp2_with (first | (go_at_call 58; (with_reducible refine (sign_Begins.calls a0 a1 (⟨#[60, 47]⟩ : ByteArray) false _ A6.out).mono ?_); rintro e w11 ⟨rfl, hb⟩; have n0_ := Aside0.mk (below_step (by with_reducible repeat first | exact HB.out | apply below_alloc | apply pw_below_drewN | apply below_drew1) hb); clear HB; have HB := n0_; clear n0_; (try clear hb); (try clear hb2); (try clear hk); (try clear hi)))
        go_meet
        case rel => exact ⟨_, (true), (by first | rfl | (simp; done) | (simp [*]; done)), H', ⟨by first | omega | exact Nat.le_refl _⟩, ⟨by with_reducible repeat first | exact HB.out | apply below_alloc | apply pw_below_drewN | apply below_drew1⟩⟩
  case rest =>
    clear HC4
    try clear c1
    try clear p2
    try clear c5
    try clear c5b0
    try clear c5b1
    try clear p6
    try clear c7
    obtain ⟨kq, x24_3, rfl, HA, HJ3, HB⟩ := hcut
    cases kq with
    | zero => exact absurd HA.out (by simp [raw_Ends.j0])
    | succ kj3 =>
      have H := HA.out
      clear HA
      simp only [raw_Ends.j0] at H
      by_cases c12 : x24_3 = true
      · subst c12
        rw [if_pos rfl] at H
        obtain rfl := Option.some.inj H
        go_wp2
        go_ret
        exact ⟨by first | rfl | (simp [*] <;> rfl), by with_reducible repeat first | exact HB.out | apply below_alloc | apply pw_below_drewN | apply below_drew1⟩
      · replace c12 := Bool.eq_false_iff.mpr c12
        subst c12
        rw [if_neg (show ¬ (false = true) by decide)] at H
        by_cases c13 : (wrap64 ((wrap64 (a1 + 2)) + (a2.size : Int))) = (a0.size : Int)
        · rw [if_pos c13] at H
          have c13b0 : ((wrap64 ((wrap64 (a1 + 2)) + (a2.size : Int))) == (a0.size : Int)) = true := beq_iff_eq.mpr c13
          have c13b1 : ((wrap64 ((wrap64 (a1 + 2)) + (a2.size : Int))) != (a0.size : Int)) = false := bne_eq_false_iff_eq.mpr c13
          clear c13
          obtain rfl := Option.some.inj H
          go_wp2
          go_ret
          exact ⟨by first | rfl | (simp [*] <;> rfl), by with_reducible repeat first | exact HB.out | apply below_alloc | apply pw_below_drewN | apply below_drew1⟩
        · rw [if_neg c13] at H
          have c13b0 : ((wrap64 ((wrap64 (a1 + 2)) + (a2.size : Int))) == (a0.size : Int)) = false := beq_eq_false_iff_ne.mpr c13
          have c13b1 : ((wrap64 ((wrap64 (a1 + 2)) + (a2.size : Int))) != (a0.size : Int)) = true := bne_iff_ne.mpr c13
          obtain ⟨ji14, hji14⟩ : ∃ j_ : Int, (wrap64 ((wrap64 (a1 + 2)) + (a2.size : Int))) = j_ := ⟨_, rfl⟩
          replace H : (if 0 ≤ (ji14) then (if (ji14) < (a0.size : Int) then ((sign_Space.f (bt a0 (ji14))).bind fun t186 => (if t186 = true then (some true) else (if (bt a0 (ji14)) = 47 then (some true) else (some ((bt a0 (ji14)) == 62))))) else (none)) else (none)) = some r := by first | (rw [hji14] at H; exact H) | (simp only [hji14] at H ⊢; exact H)
          (try rw [hji14] at c13b0)
          (try rw [hji14] at c13b1)
          have hji14w : (IntKind.i64.wrap ((wrap64 (a1 + 2)) + (a2.size : Int))) = ji14 := (i64_w _).trans hji14
          by_cases c15 : 0 ≤ (ji14)
          · rw [if_pos c15] at H
            have c15b0 : decide (0 ≤ (ji14)) = true := decide_eq_true c15
            clear c15
            by_cases c16 : (ji14) < (a0.size : Int)
            · rw [if_pos c16] at H
              have c16b0 : decide ((ji14) < (a0.size : Int)) = true := decide_eq_true c16
              clear c16
              replace H := Option.bind_eq_some_iff.mp H
              obtain ⟨t186, A180, H⟩ := H
              (try dsimp only at H)
              have A18 := Aside0.mk A180
              clear A180
              by_cases c19 : t186 = true
              · subst c19
                rw [if_pos rfl] at H
                obtain rfl := Option.some.inj H
                have p17 : 0 ≤ ((ji14) : Int) := of_decide_eq_true (by first | (with_reducible assumption) | assumption)
                have q17 : (ji14) < (a0.size : Int) := of_decide_eq_true (by first | (with_reducible assumption) | assumption)
                have hx17 := bt_at a0 (ji14)
                replace p17 := eq_true p17
                replace q17 := eq_true q17
                go_wp2_with (first | ((with_reducible refine gate_callee (f := 112) rfl ?_); refine goesL_ (some 38) rfl rfl Tryz.func112 (by kernel_rfl) rfl #[.int .u8 (bt a0 (ji14))] rfl (by (try simp only [List.map_toArray, List.map_cons, List.map_nil]); first | done | (simp only [hji14]; rfl) | rfl | (simp only [List.length_drop, List.length_take]; rfl)) ?_; (with_reducible refine (sign_Space.calls (bt a0 (ji14)) true _ A18.out).mono ?_); rintro e w' ⟨rfl, ⟨nd, rfl⟩⟩; refine ⟨_, rfl, ?_⟩))
                go_ret
                exact ⟨by first | rfl | (simp [errW_none, errW_some] <;> rfl) | (simp only [← hji14]; first | rfl | (simp [errW_none, errW_some] <;> rfl)) | (simp [*, errW_none, errW_some] <;> rfl), by with_reducible repeat first | exact HB.out | apply below_alloc | apply pw_below_drewN | apply below_drew1⟩
              · replace c19 := Bool.eq_false_iff.mpr c19
                subst c19
                rw [if_neg (show ¬ (false = true) by decide)] at H
                by_cases c20 : (bt a0 (ji14)) = 47
                · rw [if_pos c20] at H
                  have c20b0 : ((bt a0 (ji14)) == 47) = true := beq_iff_eq.mpr c20
                  have c20b1 : ((bt a0 (ji14)) != 47) = false := bne_eq_false_iff_eq.mpr c20
                  clear c20
                  obtain rfl := Option.some.inj H
                  have p17 : 0 ≤ ((ji14) : Int) := of_decide_eq_true (by first | (with_reducible assumption) | assumption)
                  have q17 : (ji14) < (a0.size : Int) := of_decide_eq_true (by first | (with_reducible assumption) | assumption)
                  have hx17 := bt_at a0 (ji14)
                  replace p17 := eq_true p17
                  replace q17 := eq_true q17
                  go_wp2_with (first | ((with_reducible refine gate_callee (f := 112) rfl ?_); refine goesL_ (some 38) rfl rfl Tryz.func112 (by kernel_rfl) rfl #[.int .u8 (bt a0 (ji14))] rfl (by (try simp only [List.map_toArray, List.map_cons, List.map_nil]); first | done | (simp only [hji14]; rfl) | rfl | (simp only [List.length_drop, List.length_take]; rfl)) ?_; (with_reducible refine (sign_Space.calls (bt a0 (ji14)) false _ A18.out).mono ?_); rintro e w' ⟨rfl, ⟨nd, rfl⟩⟩; refine ⟨_, rfl, ?_⟩))
                  go_ret
                  exact ⟨by first | rfl | (simp [errW_none, errW_some] <;> rfl) | (simp only [← hji14]; first | rfl | (simp [errW_none, errW_some] <;> rfl)) | (simp [*, errW_none, errW_some] <;> rfl), by with_reducible repeat first | exact HB.out | apply below_alloc | apply pw_below_drewN | apply below_drew1⟩
                · rw [if_neg c20] at H
                  have c20b0 : ((bt a0 (ji14)) == 47) = false := beq_eq_false_iff_ne.mpr c20
                  have c20b1 : ((bt a0 (ji14)) != 47) = true := bne_iff_ne.mpr c20
                  obtain rfl := Option.some.inj H
                  have p17 : 0 ≤ ((ji14) : Int) := of_decide_eq_true (by first | (with_reducible assumption) | assumption)
                  have q17 : (ji14) < (a0.size : Int) := of_decide_eq_true (by first | (with_reducible assumption) | assumption)
                  have hx17 := bt_at a0 (ji14)
                  replace p17 := eq_true p17
                  replace q17 := eq_true q17
                  go_wp2_with (first | ((with_reducible refine gate_callee (f := 112) rfl ?_); refine goesL_ (some 38) rfl rfl Tryz.func112 (by kernel_rfl) rfl #[.int .u8 (bt a0 (ji14))] rfl (by (try simp only [List.map_toArray, List.map_cons, List.map_nil]); first | done | (simp only [hji14]; rfl) | rfl | (simp only [List.length_drop, List.length_take]; rfl)) ?_; (with_reducible refine (sign_Space.calls (bt a0 (ji14)) false _ A18.out).mono ?_); rintro e w' ⟨rfl, ⟨nd, rfl⟩⟩; refine ⟨_, rfl, ?_⟩))
                  go_ret
                  exact ⟨by first | rfl | (simp [errW_none, errW_some] <;> rfl) | (simp only [← hji14]; first | rfl | (simp [errW_none, errW_some] <;> rfl)) | (simp [*, errW_none, errW_some] <;> rfl), by with_reducible repeat first | exact HB.out | apply below_alloc | apply pw_below_drewN | apply below_drew1⟩
            · rw [if_neg c16] at H
              exact absurd H (by simp)
          · rw [if_neg c15] at H
            exact absurd H (by simp)
end Go.Proofs.YteccaekalcjihaaGreatDoor.PTn
