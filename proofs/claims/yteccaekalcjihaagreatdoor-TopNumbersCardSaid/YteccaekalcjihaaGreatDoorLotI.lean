/- Several texts of this claim, laid together into one file. -/
import Derived.Test.YteccaekalcjihaaGreatDoorLotB
import Derived.Test.YteccaekalcjihaaGreatDoorLotH
import Derived.Test.YteccaekalcjihaaGreatDoorLotE
import Derived.Test.YteccaekalcjihaaGreatDoorLotC
import Derived.Lib.Builder
import Derived.Shelf.Strings.Builder1
import Derived.Shelf.Strings.Builder2
import Derived.Shelf.Small.Strs
import Derived.Shelf.Strings.Repeat
import Derived.Test.YteccaekalcjihaaGreatDoorProg
import Derived.Test.YteccaekalcjihaaGreatDoorLotD
set_option linter.unusedSimpArgs false
set_option linter.unusedVariables false
namespace Go.Proofs.YteccaekalcjihaaGreatDoor.PTn
open Go.RowKit Go.Proofs.YteccaekalcjihaaGreatDoorW.PrintWords Go.Proofs.YteccaekalcjihaaGreatDoorW.PrintLast Go.Proofs.YteccaekalcjihaaGreatDoorW.PrintMore
attribute [local go_sem] max2_int min2_int max_two min_two max_three min_three max_four min_four
set_option linter.unusedVariables false
set_option linter.unusedSimpArgs false
def attrs_reader_value.j0 : Nat → Bool → ByteArray → Int → Option (ByteArray × Bool × ByteArray × Int)
  | 0, _, _, _ => none
  | k + 1, x18, x1000, x1001 => if x18 = true then ((attrs_reader_quoted.f x1000 x1001).bind fun bt309 => (some (bt309.1, bt309.2.1, bt309.2.2.1, bt309.2.2.2))) else ((attrs_reader_is.f x1000 x1001 62).bind fun bt313 => (if bt313.1 = true then (some ((⟨#[]⟩ : ByteArray), true, bt313.2.1, bt313.2.2)) else (if bt313.2.2 = (bt313.2.1.size : Int) then (some ((⟨#[]⟩ : ByteArray), true, bt313.2.1, bt313.2.2)) else ((attrs_reader_upTo.f k bt313.2.1 bt313.2.2 (⟨#[62]⟩ : ByteArray)).bind fun bt316 => (some (bt316.1, true, bt316.2.1, bt316.2.2))))))
def attrs_reader_value.f (k : Nat) (s0_0 : ByteArray) (s0_1 : Int) : Option (ByteArray × Bool × ByteArray × Int) := (attrs_reader_spaces.f k s0_0 s0_1).bind fun bt296 => ((attrs_reader_is.f bt296.1 bt296.2 61).bind fun bt298 => (if bt298.1 = true then ((attrs_reader_spaces.f k bt298.2.1 (wrap64 (bt298.2.2 + 1))).bind fun bt301 => ((attrs_reader_is.f bt301.1 bt301.2 34).bind fun bt303 => (if bt303.1 = true then (attrs_reader_value.j0 k bt303.1 bt303.2.1 bt303.2.2) else ((attrs_reader_is.f bt303.2.1 bt303.2.2 39).bind fun bt306 => (attrs_reader_value.j0 k bt306.1 bt306.2.1 bt306.2.2))))) else (some ((⟨#[]⟩ : ByteArray), true, bt298.2.1, bt298.2.2))))
set_option maxHeartbeats 8000000 in
set_option maxRecDepth 100000 in
theorem attrs_reader_value.calls (k : Nat) (g : Nat) (s0_0 : ByteArray) (s0_1 : Int) (r1 : ByteArray) (r2 : Bool) (r3 : ByteArray) (r4 : Int) (w0 w : World) (hI : IsS92 w0 w g s0_0 s0_1) (hB : Below w0.heap.size w0 w) (h : attrs_reader_value.f k s0_0 s0_1 = some (r1, r2, r3, r4)) :
    Calls Tryz.prog 62 #[.pointer (some ⟨g, 0, none⟩)] w fun e w' => e = .returned (.tuple #[.string r1, .bool r2]) ∧ IsS92 w0 w' g r3 r4 ∧ Below w0.heap.size w0 w' ∧ KeepBut w w' g none := by
  have HI0 := Aside0.mk hI
  have HK := Aside0.mk (KeepBut.refl w g none)
  have HL := Aside0.mk hB.size
  clear hI
  have HW0 := Aside0.mk hB.size
  have HB := Aside0.mk hB
  clear hB
  have H : ((attrs_reader_spaces.f k s0_0 s0_1).bind fun bt296 => ((attrs_reader_is.f bt296.1 bt296.2 61).bind fun bt298 => (if bt298.1 = true then ((attrs_reader_spaces.f k bt298.2.1 (wrap64 (bt298.2.2 + 1))).bind fun bt301 => ((attrs_reader_is.f bt301.1 bt301.2 34).bind fun bt303 => (if bt303.1 = true then (attrs_reader_value.j0 k bt303.1 bt303.2.1 bt303.2.2) else ((attrs_reader_is.f bt303.2.1 bt303.2.2 39).bind fun bt306 => (attrs_reader_value.j0 k bt306.1 bt306.2.1 bt306.2.2))))) else (some ((⟨#[]⟩ : ByteArray), true, bt298.2.1, bt298.2.2))))) = some (r1, r2, r3, r4) := h
  clear h
  replace H := Option.bind_eq_some_iff.mp H
  obtain ⟨⟨t296, t297⟩, A20, H⟩ := H
  (try dsimp only at H)
  have A2 := Aside0.mk A20
  clear A20
  replace H := Option.bind_eq_some_iff.mp H
  obtain ⟨⟨t298, t299, t300⟩, A30, H⟩ := H
  (try dsimp only at H)
  have A3 := Aside0.mk A30
  clear A30
  by_cases c4 : t298 = true
  · subst c4
    rw [if_pos rfl] at H
    replace H := Option.bind_eq_some_iff.mp H
    obtain ⟨⟨t301, t302⟩, A50, H⟩ := H
    (try dsimp only at H)
    have A5 := Aside0.mk A50
    clear A50
    replace H := Option.bind_eq_some_iff.mp H
    obtain ⟨⟨t303, t304, t305⟩, A60, H⟩ := H
    (try dsimp only at H)
    have A6 := Aside0.mk A60
    clear A60
    have HC7 := Aside0.mk H
    clear H
    go_enter Tryz.func62, Tryz.ntmps62
    go_upto_if 18 with (first | (go_at_call 56; (with_reducible refine (attrs_reader_spaces.calls k g s0_0 s0_1 t296 t297 w0 _ ?side1 ?side2 A2.out).mono ?_); (case side1 => repeat (first | (with_reducible first | exact HI0.out | apply IsS92.alloc | apply IsS92.drewN | apply IsS92.drew | apply IsS92.set_0 | apply IsS92.set_1) | exact HI0.out)); (case side2 => repeat (first | (with_reducible first | exact HB.out | apply below_alloc | apply pw_below_drewN | apply below_drew1 | refine below_set ?_ (IsS92.ge HI0.out)) | exact HB.out)); rintro e w8 ⟨rfl, hi, hb, hk⟩; have n0_ := Aside0.mk (KeepBut.trans (by repeat (first | (with_reducible first | exact HK.out | apply KeepBut.set_ | apply keep_drewN | apply keep_drew | apply keep_alloc) | exact HK.out)) hk (.inl rfl)); have n1_ := Aside0.mk (hb); have n2_ := Aside0.mk (hi); clear HK; clear HB; clear HI0; have HK := n0_; have HB := n1_; have HI0 := n2_; clear n0_ n1_ n2_; (try clear hb); (try clear hb2); (try clear hk); (try clear hi)) | (go_at_call 57; (with_reducible refine (attrs_reader_is.calls g t296 t297 61 true t299 t300 w0 _ ?side1 ?side2 A3.out).mono ?_); (case side1 => repeat (first | (with_reducible first | exact HI0.out | apply IsS92.alloc | apply IsS92.drewN | apply IsS92.drew | apply IsS92.set_0 | apply IsS92.set_1) | exact HI0.out)); (case side2 => repeat (first | (with_reducible first | exact HB.out | apply below_alloc | apply pw_below_drewN | apply below_drew1 | refine below_set ?_ (IsS92.ge HI0.out)) | exact HB.out)); rintro e w9 ⟨rfl, hi, hb, hk⟩; have n0_ := Aside0.mk (KeepBut.trans (by repeat (first | (with_reducible first | exact HK.out | apply KeepBut.set_ | apply keep_drewN | apply keep_drew | apply keep_alloc) | exact HK.out)) hk (.inl rfl)); have n1_ := Aside0.mk (hb); have n2_ := Aside0.mk (hi); clear HK; clear HB; clear HI0; have HK := n0_; have HB := n1_; have HI0 := n2_; clear n0_ n1_ n2_; (try clear hb); (try clear hb2); (try clear hk); (try clear hi); obtain ⟨HGz10, hgz10⟩ := HI0.out; have hcz10_0 := cellS92_0 HGz10; have hcz10_1 := cellS92_1 HGz10; have hfz10_0 := blk_frozen HGz10 0; have hfz10_1 := blk_frozen HGz10 1; clear HGz10 hgz10) | (go_at_call 56; (with_reducible refine (attrs_reader_spaces.calls k g t299 (wrap64 (t300 + 1)) t301 t302 w0 _ ?side1 ?side2 A5.out).mono ?_); (case side1 => repeat (first | (with_reducible first | exact HI0.out | apply IsS92.alloc | apply IsS92.drewN | apply IsS92.drew | apply IsS92.set_0 | apply IsS92.set_1) | exact HI0.out)); (case side2 => repeat (first | (with_reducible first | exact HB.out | apply below_alloc | apply pw_below_drewN | apply below_drew1 | refine below_set ?_ (IsS92.ge HI0.out)) | exact HB.out)); rintro e w11 ⟨rfl, hi, hb, hk⟩; have n0_ := Aside0.mk (KeepBut.trans (by repeat (first | (with_reducible first | exact HK.out | apply KeepBut.set_ | apply keep_drewN | apply keep_drew | apply keep_alloc) | exact HK.out)) hk (.inl rfl)); have n1_ := Aside0.mk (hb); have n2_ := Aside0.mk (hi); clear HK; clear HB; clear HI0; have HK := n0_; have HB := n1_; have HI0 := n2_; clear n0_ n1_ n2_; (try clear hb); (try clear hb2); (try clear hk); (try clear hi)) | (go_at_call 57; (with_reducible refine (attrs_reader_is.calls g t301 t302 34 t303 t304 t305 w0 _ ?side1 ?side2 A6.out).mono ?_); (case side1 => repeat (first | (with_reducible first | exact HI0.out | apply IsS92.alloc | apply IsS92.drewN | apply IsS92.drew | apply IsS92.set_0 | apply IsS92.set_1) | exact HI0.out)); (case side2 => repeat (first | (with_reducible first | exact HB.out | apply below_alloc | apply pw_below_drewN | apply below_drew1 | refine below_set ?_ (IsS92.ge HI0.out)) | exact HB.out)); rintro e w12 ⟨rfl, hi, hb, hk⟩; have n0_ := Aside0.mk (KeepBut.trans (by repeat (first | (with_reducible first | exact HK.out | apply KeepBut.set_ | apply keep_drewN | apply keep_drew | apply keep_alloc) | exact HK.out)) hk (.inl rfl)); have n1_ := Aside0.mk (hb); have n2_ := Aside0.mk (hi); clear HK; clear HB; clear HI0; have HK := n0_; have HB := n1_; have HI0 := n2_; clear n0_ n1_ n2_; (try clear hb); (try clear hb2); (try clear hk); (try clear hi)))
    repeat (go_quiet (first | (go_at_call 56; (with_reducible refine (attrs_reader_spaces.calls k g s0_0 s0_1 t296 t297 w0 _ ?side1 ?side2 A2.out).mono ?_); (case side1 => repeat (first | (with_reducible first | exact HI0.out | apply IsS92.alloc | apply IsS92.drewN | apply IsS92.drew | apply IsS92.set_0 | apply IsS92.set_1) | exact HI0.out)); (case side2 => repeat (first | (with_reducible first | exact HB.out | apply below_alloc | apply pw_below_drewN | apply below_drew1 | refine below_set ?_ (IsS92.ge HI0.out)) | exact HB.out)); rintro e w8 ⟨rfl, hi, hb, hk⟩; have n0_ := Aside0.mk (KeepBut.trans (by repeat (first | (with_reducible first | exact HK.out | apply KeepBut.set_ | apply keep_drewN | apply keep_drew | apply keep_alloc) | exact HK.out)) hk (.inl rfl)); have n1_ := Aside0.mk (hb); have n2_ := Aside0.mk (hi); clear HK; clear HB; clear HI0; have HK := n0_; have HB := n1_; have HI0 := n2_; clear n0_ n1_ n2_; (try clear hb); (try clear hb2); (try clear hk); (try clear hi)) | (go_at_call 57; (with_reducible refine (attrs_reader_is.calls g t296 t297 61 true t299 t300 w0 _ ?side1 ?side2 A3.out).mono ?_); (case side1 => repeat (first | (with_reducible first | exact HI0.out | apply IsS92.alloc | apply IsS92.drewN | apply IsS92.drew | apply IsS92.set_0 | apply IsS92.set_1) | exact HI0.out)); (case side2 => repeat (first | (with_reducible first | exact HB.out | apply below_alloc | apply pw_below_drewN | apply below_drew1 | refine below_set ?_ (IsS92.ge HI0.out)) | exact HB.out)); rintro e w9 ⟨rfl, hi, hb, hk⟩; have n0_ := Aside0.mk (KeepBut.trans (by repeat (first | (with_reducible first | exact HK.out | apply KeepBut.set_ | apply keep_drewN | apply keep_drew | apply keep_alloc) | exact HK.out)) hk (.inl rfl)); have n1_ := Aside0.mk (hb); have n2_ := Aside0.mk (hi); clear HK; clear HB; clear HI0; have HK := n0_; have HB := n1_; have HI0 := n2_; clear n0_ n1_ n2_; (try clear hb); (try clear hb2); (try clear hk); (try clear hi); obtain ⟨HGz10, hgz10⟩ := HI0.out; have hcz10_0 := cellS92_0 HGz10; have hcz10_1 := cellS92_1 HGz10; have hfz10_0 := blk_frozen HGz10 0; have hfz10_1 := blk_frozen HGz10 1; clear HGz10 hgz10) | (go_at_call 56; (with_reducible refine (attrs_reader_spaces.calls k g t299 (wrap64 (t300 + 1)) t301 t302 w0 _ ?side1 ?side2 A5.out).mono ?_); (case side1 => repeat (first | (with_reducible first | exact HI0.out | apply IsS92.alloc | apply IsS92.drewN | apply IsS92.drew | apply IsS92.set_0 | apply IsS92.set_1) | exact HI0.out)); (case side2 => repeat (first | (with_reducible first | exact HB.out | apply below_alloc | apply pw_below_drewN | apply below_drew1 | refine below_set ?_ (IsS92.ge HI0.out)) | exact HB.out)); rintro e w11 ⟨rfl, hi, hb, hk⟩; have n0_ := Aside0.mk (KeepBut.trans (by repeat (first | (with_reducible first | exact HK.out | apply KeepBut.set_ | apply keep_drewN | apply keep_drew | apply keep_alloc) | exact HK.out)) hk (.inl rfl)); have n1_ := Aside0.mk (hb); have n2_ := Aside0.mk (hi); clear HK; clear HB; clear HI0; have HK := n0_; have HB := n1_; have HI0 := n2_; clear n0_ n1_ n2_; (try clear hb); (try clear hb2); (try clear hk); (try clear hi)) | (go_at_call 57; (with_reducible refine (attrs_reader_is.calls g t301 t302 34 t303 t304 t305 w0 _ ?side1 ?side2 A6.out).mono ?_); (case side1 => repeat (first | (with_reducible first | exact HI0.out | apply IsS92.alloc | apply IsS92.drewN | apply IsS92.drew | apply IsS92.set_0 | apply IsS92.set_1) | exact HI0.out)); (case side2 => repeat (first | (with_reducible first | exact HB.out | apply below_alloc | apply pw_below_drewN | apply below_drew1 | refine below_set ?_ (IsS92.ge HI0.out)) | exact HB.out)); rintro e w12 ⟨rfl, hi, hb, hk⟩; have n0_ := Aside0.mk (KeepBut.trans (by repeat (first | (with_reducible first | exact HK.out | apply KeepBut.set_ | apply keep_drewN | apply keep_drew | apply keep_alloc) | exact HK.out)) hk (.inl rfl)); have n1_ := Aside0.mk (hb); have n2_ := Aside0.mk (hi); clear HK; clear HB; clear HI0; have HK := n0_; have HB := n1_; have HI0 := n2_; clear n0_ n1_ n2_; (try clear hb); (try clear hb2); (try clear hk); (try clear hi))); go_upto_if 18 with (first | (go_at_call 56; (with_reducible refine (attrs_reader_spaces.calls k g s0_0 s0_1 t296 t297 w0 _ ?side1 ?side2 A2.out).mono ?_); (case side1 => repeat (first | (with_reducible first | exact HI0.out | apply IsS92.alloc | apply IsS92.drewN | apply IsS92.drew | apply IsS92.set_0 | apply IsS92.set_1) | exact HI0.out)); (case side2 => repeat (first | (with_reducible first | exact HB.out | apply below_alloc | apply pw_below_drewN | apply below_drew1 | refine below_set ?_ (IsS92.ge HI0.out)) | exact HB.out)); rintro e w8 ⟨rfl, hi, hb, hk⟩; have n0_ := Aside0.mk (KeepBut.trans (by repeat (first | (with_reducible first | exact HK.out | apply KeepBut.set_ | apply keep_drewN | apply keep_drew | apply keep_alloc) | exact HK.out)) hk (.inl rfl)); have n1_ := Aside0.mk (hb); have n2_ := Aside0.mk (hi); clear HK; clear HB; clear HI0; have HK := n0_; have HB := n1_; have HI0 := n2_; clear n0_ n1_ n2_; (try clear hb); (try clear hb2); (try clear hk); (try clear hi)) | (go_at_call 57; (with_reducible refine (attrs_reader_is.calls g t296 t297 61 true t299 t300 w0 _ ?side1 ?side2 A3.out).mono ?_); (case side1 => repeat (first | (with_reducible first | exact HI0.out | apply IsS92.alloc | apply IsS92.drewN | apply IsS92.drew | apply IsS92.set_0 | apply IsS92.set_1) | exact HI0.out)); (case side2 => repeat (first | (with_reducible first | exact HB.out | apply below_alloc | apply pw_below_drewN | apply below_drew1 | refine below_set ?_ (IsS92.ge HI0.out)) | exact HB.out)); rintro e w9 ⟨rfl, hi, hb, hk⟩; have n0_ := Aside0.mk (KeepBut.trans (by repeat (first | (with_reducible first | exact HK.out | apply KeepBut.set_ | apply keep_drewN | apply keep_drew | apply keep_alloc) | exact HK.out)) hk (.inl rfl)); have n1_ := Aside0.mk (hb); have n2_ := Aside0.mk (hi); clear HK; clear HB; clear HI0; have HK := n0_; have HB := n1_; have HI0 := n2_; clear n0_ n1_ n2_; (try clear hb); (try clear hb2); (try clear hk); (try clear hi); obtain ⟨HGz10, hgz10⟩ := HI0.out; have hcz10_0 := cellS92_0 HGz10; have hcz10_1 := cellS92_1 HGz10; have hfz10_0 := blk_frozen HGz10 0; have hfz10_1 := blk_frozen HGz10 1; clear HGz10 hgz10) | (go_at_call 56; (with_reducible refine (attrs_reader_spaces.calls k g t299 (wrap64 (t300 + 1)) t301 t302 w0 _ ?side1 ?side2 A5.out).mono ?_); (case side1 => repeat (first | (with_reducible first | exact HI0.out | apply IsS92.alloc | apply IsS92.drewN | apply IsS92.drew | apply IsS92.set_0 | apply IsS92.set_1) | exact HI0.out)); (case side2 => repeat (first | (with_reducible first | exact HB.out | apply below_alloc | apply pw_below_drewN | apply below_drew1 | refine below_set ?_ (IsS92.ge HI0.out)) | exact HB.out)); rintro e w11 ⟨rfl, hi, hb, hk⟩; have n0_ := Aside0.mk (KeepBut.trans (by repeat (first | (with_reducible first | exact HK.out | apply KeepBut.set_ | apply keep_drewN | apply keep_drew | apply keep_alloc) | exact HK.out)) hk (.inl rfl)); have n1_ := Aside0.mk (hb); have n2_ := Aside0.mk (hi); clear HK; clear HB; clear HI0; have HK := n0_; have HB := n1_; have HI0 := n2_; clear n0_ n1_ n2_; (try clear hb); (try clear hb2); (try clear hk); (try clear hi)) | (go_at_call 57; (with_reducible refine (attrs_reader_is.calls g t301 t302 34 t303 t304 t305 w0 _ ?side1 ?side2 A6.out).mono ?_); (case side1 => repeat (first | (with_reducible first | exact HI0.out | apply IsS92.alloc | apply IsS92.drewN | apply IsS92.drew | apply IsS92.set_0 | apply IsS92.set_1) | exact HI0.out)); (case side2 => repeat (first | (with_reducible first | exact HB.out | apply below_alloc | apply pw_below_drewN | apply below_drew1 | refine below_set ?_ (IsS92.ge HI0.out)) | exact HB.out)); rintro e w12 ⟨rfl, hi, hb, hk⟩; have n0_ := Aside0.mk (KeepBut.trans (by repeat (first | (with_reducible first | exact HK.out | apply KeepBut.set_ | apply keep_drewN | apply keep_drew | apply keep_alloc) | exact HK.out)) hk (.inl rfl)); have n1_ := Aside0.mk (hb); have n2_ := Aside0.mk (hi); clear HK; clear HB; clear HI0; have HK := n0_; have HB := n1_; have HI0 := n2_; clear n0_ n1_ n2_; (try clear hb); (try clear hb2); (try clear hk); (try clear hi))))
    (try simp only [Act.put, List.setIfInBounds_toArray, List.set_cons_zero, List.set_cons_succ])
    go_cut [18] (fun v18 wc => ∃ (kq : Nat) (x18_6 : Bool) (x1000_6 : ByteArray) (x1001_6 : Int), v18 = .bool x18_6 ∧ Aside0 (attrs_reader_value.j0 kq x18_6 x1000_6 x1001_6 = some (r1, r2, r3, r4)) ∧ Aside0 (kq ≤ k) ∧ Aside0 (IsS92 w0 wc g x1000_6 x1001_6) ∧ Aside0 (KeepBut w wc g none) ∧ Aside0 (Below w0.heap.size w0 wc))
    case first =>
      have H := HC7.out
      clear HC7
      by_cases c13 : t303 = true
      · subst c13
        rw [if_pos rfl] at H
        have H' := Aside0.mk H
        clear H
        go_wp2
        repeat (go_quiet (fail); try go_wp2)
        go_meet
        case rel => exact ⟨_, (true), (t304), (t305), (by first | rfl | (simp; done) | (simp [*]; done)), H', ⟨by first | omega | exact Nat.le_refl _⟩, ⟨by repeat (first | (with_reducible first | exact HI0.out | apply IsS92.alloc | apply IsS92.drewN | apply IsS92.drew | apply IsS92.set_0 | apply IsS92.set_1) | exact HI0.out)⟩, ⟨by repeat (first | (with_reducible first | exact HK.out | apply KeepBut.set_ | apply keep_drewN | apply keep_drew | apply keep_alloc) | exact HK.out)⟩, ⟨by repeat (first | (with_reducible first | exact HB.out | apply below_alloc | apply pw_below_drewN | apply below_drew1 | refine below_set ?_ (IsS92.ge HI0.out)) | exact HB.out)⟩⟩
      · replace c13 := Bool.eq_false_iff.mpr c13
        subst c13
        rw [if_neg (show ¬ (false = true) by decide)] at H
        replace H := Option.bind_eq_some_iff.mp H
        obtain ⟨⟨t306, t307, t308⟩, A140, H⟩ := H
        (try dsimp only at H)
        have A14 := Aside0.mk A140
        clear A140
        have H' := Aside0.mk H
        clear H
        go_wp2_with (first | (go_at_call 57; (with_reducible refine (attrs_reader_is.calls g t304 t305 39 t306 t307 t308 w0 _ ?side1 ?side2 A14.out).mono ?_); (case side1 => repeat (first | (with_reducible first | exact HI0.out | apply IsS92.alloc | apply IsS92.drewN | apply IsS92.drew | apply IsS92.set_0 | apply IsS92.set_1) | exact HI0.out)); (case side2 => repeat (first | (with_reducible first | exact HB.out | apply below_alloc | apply pw_below_drewN | apply below_drew1 | refine below_set ?_ (IsS92.ge HI0.out)) | exact HB.out)); rintro e w15 ⟨rfl, hi, hb, hk⟩; have n0_ := Aside0.mk (KeepBut.trans (by repeat (first | (with_reducible first | exact HK.out | apply KeepBut.set_ | apply keep_drewN | apply keep_drew | apply keep_alloc) | exact HK.out)) hk (.inl rfl)); have n1_ := Aside0.mk (hb); have n2_ := Aside0.mk (hi); clear HK; clear HB; clear HI0; have HK := n0_; have HB := n1_; have HI0 := n2_; clear n0_ n1_ n2_; (try clear hb); (try clear hb2); (try clear hk); (try clear hi)))
        repeat (go_quiet (first | (go_at_call 57; (with_reducible refine (attrs_reader_is.calls g t304 t305 39 t306 t307 t308 w0 _ ?side1 ?side2 A14.out).mono ?_); (case side1 => repeat (first | (with_reducible first | exact HI0.out | apply IsS92.alloc | apply IsS92.drewN | apply IsS92.drew | apply IsS92.set_0 | apply IsS92.set_1) | exact HI0.out)); (case side2 => repeat (first | (with_reducible first | exact HB.out | apply below_alloc | apply pw_below_drewN | apply below_drew1 | refine below_set ?_ (IsS92.ge HI0.out)) | exact HB.out)); rintro e w15 ⟨rfl, hi, hb, hk⟩; have n0_ := Aside0.mk (KeepBut.trans (by repeat (first | (with_reducible first | exact HK.out | apply KeepBut.set_ | apply keep_drewN | apply keep_drew | apply keep_alloc) | exact HK.out)) hk (.inl rfl)); have n1_ := Aside0.mk (hb); have n2_ := Aside0.mk (hi); clear HK; clear HB; clear HI0; have HK := n0_; have HB := n1_; have HI0 := n2_; clear n0_ n1_ n2_; (try clear hb); (try clear hb2); (try clear hk); (try clear hi))); try go_wp2_with (first | (go_at_call 57; (with_reducible refine (attrs_reader_is.calls g t304 t305 39 t306 t307 t308 w0 _ ?side1 ?side2 A14.out).mono ?_); (case side1 => repeat (first | (with_reducible first | exact HI0.out | apply IsS92.alloc | apply IsS92.drewN | apply IsS92.drew | apply IsS92.set_0 | apply IsS92.set_1) | exact HI0.out)); (case side2 => repeat (first | (with_reducible first | exact HB.out | apply below_alloc | apply pw_below_drewN | apply below_drew1 | refine below_set ?_ (IsS92.ge HI0.out)) | exact HB.out)); rintro e w15 ⟨rfl, hi, hb, hk⟩; have n0_ := Aside0.mk (KeepBut.trans (by repeat (first | (with_reducible first | exact HK.out | apply KeepBut.set_ | apply keep_drewN | apply keep_drew | apply keep_alloc) | exact HK.out)) hk (.inl rfl)); have n1_ := Aside0.mk (hb); have n2_ := Aside0.mk (hi); clear HK; clear HB; clear HI0; have HK := n0_; have HB := n1_; have HI0 := n2_; clear n0_ n1_ n2_; (try clear hb); (try clear hb2); (try clear hk); (try clear hi))))
        go_meet
        case rel => exact ⟨_, (t306), (t307), (t308), (by first | rfl | (simp; done) | (simp [*]; done)), H', ⟨by first | omega | exact Nat.le_refl _⟩, ⟨by repeat (first | (with_reducible first | exact HI0.out | apply IsS92.alloc | apply IsS92.drewN | apply IsS92.drew | apply IsS92.set_0 | apply IsS92.set_1) | exact HI0.out)⟩, ⟨by repeat (first | (with_reducible first | exact HK.out | apply KeepBut.set_ | apply keep_drewN | apply keep_drew | apply keep_alloc) | exact HK.out)⟩, ⟨by repeat (first | (with_reducible first | exact HB.out | apply below_alloc | apply pw_below_drewN | apply below_drew1 | refine below_set ?_ (IsS92.ge HI0.out)) | exact HB.out)⟩⟩
    case rest =>
      clear HC7
      try clear c1
      try clear p2
      try clear c4
      try clear c6
      try clear p6
      try clear c13
      try clear hcz10_0
      try clear hcz10_1
      try clear hfz10_0
      try clear hfz10_1
      obtain ⟨kq, x18_6, x1000_6, x1001_6, rfl, HA, HJ6, HI0, HK, HB⟩ := hcut
      cases kq with
      | zero => exact absurd HA.out (by simp [attrs_reader_value.j0])
      | succ kj6 =>
        have H := HA.out
        clear HA
        simp only [attrs_reader_value.j0] at H
        by_cases c16 : x18_6 = true
        · subst c16
          rw [if_pos rfl] at H
          replace H := Option.bind_eq_some_iff.mp H
          obtain ⟨⟨t309, t310, t311, t312⟩, A170, H⟩ := H
          (try dsimp only at H)
          have A17 := Aside0.mk A170
          clear A170
          simp only [Option.some.injEq, Prod.mk.injEq] at H
          obtain ⟨rfl, rfl, rfl, rfl⟩ := H
          go_wp2_with (first | (go_at_call 115; (with_reducible refine (attrs_reader_quoted.calls g x1000_6 x1001_6 t309 t310 t311 t312 w0 _ ?side1 ?side2 A17.out).mono ?_); (case side1 => repeat (first | (with_reducible first | exact HI0.out | apply IsS92.alloc | apply IsS92.drewN | apply IsS92.drew | apply IsS92.set_0 | apply IsS92.set_1) | exact HI0.out)); (case side2 => repeat (first | (with_reducible first | exact HB.out | apply below_alloc | apply pw_below_drewN | apply below_drew1 | refine below_set ?_ (IsS92.ge HI0.out)) | exact HB.out)); rintro e w18 ⟨rfl, hi, hb, hk⟩; have n0_ := Aside0.mk (KeepBut.trans (by repeat (first | (with_reducible first | exact HK.out | apply KeepBut.set_ | apply keep_drewN | apply keep_drew | apply keep_alloc) | exact HK.out)) hk (.inl rfl)); have n1_ := Aside0.mk (hb); have n2_ := Aside0.mk (hi); clear HK; clear HB; clear HI0; have HK := n0_; have HB := n1_; have HI0 := n2_; clear n0_ n1_ n2_; (try clear hb); (try clear hb2); (try clear hk); (try clear hi)))
          repeat (go_quiet (first | (go_at_call 115; (with_reducible refine (attrs_reader_quoted.calls g x1000_6 x1001_6 t309 t310 t311 t312 w0 _ ?side1 ?side2 A17.out).mono ?_); (case side1 => repeat (first | (with_reducible first | exact HI0.out | apply IsS92.alloc | apply IsS92.drewN | apply IsS92.drew | apply IsS92.set_0 | apply IsS92.set_1) | exact HI0.out)); (case side2 => repeat (first | (with_reducible first | exact HB.out | apply below_alloc | apply pw_below_drewN | apply below_drew1 | refine below_set ?_ (IsS92.ge HI0.out)) | exact HB.out)); rintro e w18 ⟨rfl, hi, hb, hk⟩; have n0_ := Aside0.mk (KeepBut.trans (by repeat (first | (with_reducible first | exact HK.out | apply KeepBut.set_ | apply keep_drewN | apply keep_drew | apply keep_alloc) | exact HK.out)) hk (.inl rfl)); have n1_ := Aside0.mk (hb); have n2_ := Aside0.mk (hi); clear HK; clear HB; clear HI0; have HK := n0_; have HB := n1_; have HI0 := n2_; clear n0_ n1_ n2_; (try clear hb); (try clear hb2); (try clear hk); (try clear hi))); try go_wp2_with (first | (go_at_call 115; (with_reducible refine (attrs_reader_quoted.calls g x1000_6 x1001_6 t309 t310 t311 t312 w0 _ ?side1 ?side2 A17.out).mono ?_); (case side1 => repeat (first | (with_reducible first | exact HI0.out | apply IsS92.alloc | apply IsS92.drewN | apply IsS92.drew | apply IsS92.set_0 | apply IsS92.set_1) | exact HI0.out)); (case side2 => repeat (first | (with_reducible first | exact HB.out | apply below_alloc | apply pw_below_drewN | apply below_drew1 | refine below_set ?_ (IsS92.ge HI0.out)) | exact HB.out)); rintro e w18 ⟨rfl, hi, hb, hk⟩; have n0_ := Aside0.mk (KeepBut.trans (by repeat (first | (with_reducible first | exact HK.out | apply KeepBut.set_ | apply keep_drewN | apply keep_drew | apply keep_alloc) | exact HK.out)) hk (.inl rfl)); have n1_ := Aside0.mk (hb); have n2_ := Aside0.mk (hi); clear HK; clear HB; clear HI0; have HK := n0_; have HB := n1_; have HI0 := n2_; clear n0_ n1_ n2_; (try clear hb); (try clear hb2); (try clear hk); (try clear hi))))
          go_ret2
          exact ⟨by first | rfl | (simp [*] <;> rfl), by repeat (first | (with_reducible first | exact HI0.out | apply IsS92.alloc | apply IsS92.drewN | apply IsS92.drew | apply IsS92.set_0 | apply IsS92.set_1) | exact HI0.out), by repeat (first | (with_reducible first | exact HB.out | apply below_alloc | apply pw_below_drewN | apply below_drew1 | refine below_set ?_ (IsS92.ge HI0.out)) | exact HB.out), by repeat (first | (with_reducible first | exact HK.out | apply KeepBut.set_ | apply keep_drewN | apply keep_drew | apply keep_alloc) | exact HK.out)⟩
        · replace c16 := Bool.eq_false_iff.mpr c16
          subst c16
          rw [if_neg (show ¬ (false = true) by decide)] at H
          replace H := Option.bind_eq_some_iff.mp H
          obtain ⟨⟨t313, t314, t315⟩, A190, H⟩ := H
          (try dsimp only at H)
          have A19 := Aside0.mk A190
          clear A190
          by_cases c20 : t313 = true
          · subst c20
            rw [if_pos rfl] at H
            simp only [Option.some.injEq, Prod.mk.injEq] at H
            obtain ⟨rfl, rfl, rfl, rfl⟩ := H
            go_wp2_with (first | (go_at_call 57; (with_reducible refine (attrs_reader_is.calls g x1000_6 x1001_6 62 true t314 t315 w0 _ ?side1 ?side2 A19.out).mono ?_); (case side1 => repeat (first | (with_reducible first | exact HI0.out | apply IsS92.alloc | apply IsS92.drewN | apply IsS92.drew | apply IsS92.set_0 | apply IsS92.set_1) | exact HI0.out)); (case side2 => repeat (first | (with_reducible first | exact HB.out | apply below_alloc | apply pw_below_drewN | apply below_drew1 | refine below_set ?_ (IsS92.ge HI0.out)) | exact HB.out)); rintro e w21 ⟨rfl, hi, hb, hk⟩; have n0_ := Aside0.mk (KeepBut.trans (by repeat (first | (with_reducible first | exact HK.out | apply KeepBut.set_ | apply keep_drewN | apply keep_drew | apply keep_alloc) | exact HK.out)) hk (.inl rfl)); have n1_ := Aside0.mk (hb); have n2_ := Aside0.mk (hi); clear HK; clear HB; clear HI0; have HK := n0_; have HB := n1_; have HI0 := n2_; clear n0_ n1_ n2_; (try clear hb); (try clear hb2); (try clear hk); (try clear hi)))
            repeat (go_quiet (first | (go_at_call 57; (with_reducible refine (attrs_reader_is.calls g x1000_6 x1001_6 62 true t314 t315 w0 _ ?side1 ?side2 A19.out).mono ?_); (case side1 => repeat (first | (with_reducible first | exact HI0.out | apply IsS92.alloc | apply IsS92.drewN | apply IsS92.drew | apply IsS92.set_0 | apply IsS92.set_1) | exact HI0.out)); (case side2 => repeat (first | (with_reducible first | exact HB.out | apply below_alloc | apply pw_below_drewN | apply below_drew1 | refine below_set ?_ (IsS92.ge HI0.out)) | exact HB.out)); rintro e w21 ⟨rfl, hi, hb, hk⟩; have n0_ := Aside0.mk (KeepBut.trans (by repeat (first | (with_reducible first | exact HK.out | apply KeepBut.set_ | apply keep_drewN | apply keep_drew | apply keep_alloc) | exact HK.out)) hk (.inl rfl)); have n1_ := Aside0.mk (hb); have n2_ := Aside0.mk (hi); clear HK; clear HB; clear HI0; have HK := n0_; have HB := n1_; have HI0 := n2_; clear n0_ n1_ n2_; (try clear hb); (try clear hb2); (try clear hk); (try clear hi))); try go_wp2_with (first | (go_at_call 57; (with_reducible refine (attrs_reader_is.calls g x1000_6 x1001_6 62 true t314 t315 w0 _ ?side1 ?side2 A19.out).mono ?_); (case side1 => repeat (first | (with_reducible first | exact HI0.out | apply IsS92.alloc | apply IsS92.drewN | apply IsS92.drew | apply IsS92.set_0 | apply IsS92.set_1) | exact HI0.out)); (case side2 => repeat (first | (with_reducible first | exact HB.out | apply below_alloc | apply pw_below_drewN | apply below_drew1 | refine below_set ?_ (IsS92.ge HI0.out)) | exact HB.out)); rintro e w21 ⟨rfl, hi, hb, hk⟩; have n0_ := Aside0.mk (KeepBut.trans (by repeat (first | (with_reducible first | exact HK.out | apply KeepBut.set_ | apply keep_drewN | apply keep_drew | apply keep_alloc) | exact HK.out)) hk (.inl rfl)); have n1_ := Aside0.mk (hb); have n2_ := Aside0.mk (hi); clear HK; clear HB; clear HI0; have HK := n0_; have HB := n1_; have HI0 := n2_; clear n0_ n1_ n2_; (try clear hb); (try clear hb2); (try clear hk); (try clear hi))))
            go_ret2
            exact ⟨by first | rfl | (simp [*] <;> rfl), by repeat (first | (with_reducible first | exact HI0.out | apply IsS92.alloc | apply IsS92.drewN | apply IsS92.drew | apply IsS92.set_0 | apply IsS92.set_1) | exact HI0.out), by repeat (first | (with_reducible first | exact HB.out | apply below_alloc | apply pw_below_drewN | apply below_drew1 | refine below_set ?_ (IsS92.ge HI0.out)) | exact HB.out), by repeat (first | (with_reducible first | exact HK.out | apply KeepBut.set_ | apply keep_drewN | apply keep_drew | apply keep_alloc) | exact HK.out)⟩
          · replace c20 := Bool.eq_false_iff.mpr c20
            subst c20
            rw [if_neg (show ¬ (false = true) by decide)] at H
            by_cases c22 : t315 = (t314.size : Int)
            · rw [if_pos c22] at H
              have c22b0 : (t315 == (t314.size : Int)) = true := beq_iff_eq.mpr c22
              have c22b1 : (t315 != (t314.size : Int)) = false := bne_eq_false_iff_eq.mpr c22
              clear c22
              simp only [Option.some.injEq, Prod.mk.injEq] at H
              obtain ⟨rfl, rfl, rfl, rfl⟩ := H
              go_wp2_with (first | (go_at_call 57; (with_reducible refine (attrs_reader_is.calls g x1000_6 x1001_6 62 false t314 t315 w0 _ ?side1 ?side2 A19.out).mono ?_); (case side1 => repeat (first | (with_reducible first | exact HI0.out | apply IsS92.alloc | apply IsS92.drewN | apply IsS92.drew | apply IsS92.set_0 | apply IsS92.set_1) | exact HI0.out)); (case side2 => repeat (first | (with_reducible first | exact HB.out | apply below_alloc | apply pw_below_drewN | apply below_drew1 | refine below_set ?_ (IsS92.ge HI0.out)) | exact HB.out)); rintro e w23 ⟨rfl, hi, hb, hk⟩; have n0_ := Aside0.mk (KeepBut.trans (by repeat (first | (with_reducible first | exact HK.out | apply KeepBut.set_ | apply keep_drewN | apply keep_drew | apply keep_alloc) | exact HK.out)) hk (.inl rfl)); have n1_ := Aside0.mk (hb); have n2_ := Aside0.mk (hi); clear HK; clear HB; clear HI0; have HK := n0_; have HB := n1_; have HI0 := n2_; clear n0_ n1_ n2_; (try clear hb); (try clear hb2); (try clear hk); (try clear hi); obtain ⟨HGz24, hgz24⟩ := HI0.out; have hcz24_0 := cellS92_0 HGz24; have hcz24_1 := cellS92_1 HGz24; have hfz24_0 := blk_frozen HGz24 0; have hfz24_1 := blk_frozen HGz24 1; clear HGz24 hgz24))
              repeat (go_quiet (first | (go_at_call 57; (with_reducible refine (attrs_reader_is.calls g x1000_6 x1001_6 62 false t314 t315 w0 _ ?side1 ?side2 A19.out).mono ?_); (case side1 => repeat (first | (with_reducible first | exact HI0.out | apply IsS92.alloc | apply IsS92.drewN | apply IsS92.drew | apply IsS92.set_0 | apply IsS92.set_1) | exact HI0.out)); (case side2 => repeat (first | (with_reducible first | exact HB.out | apply below_alloc | apply pw_below_drewN | apply below_drew1 | refine below_set ?_ (IsS92.ge HI0.out)) | exact HB.out)); rintro e w23 ⟨rfl, hi, hb, hk⟩; have n0_ := Aside0.mk (KeepBut.trans (by repeat (first | (with_reducible first | exact HK.out | apply KeepBut.set_ | apply keep_drewN | apply keep_drew | apply keep_alloc) | exact HK.out)) hk (.inl rfl)); have n1_ := Aside0.mk (hb); have n2_ := Aside0.mk (hi); clear HK; clear HB; clear HI0; have HK := n0_; have HB := n1_; have HI0 := n2_; clear n0_ n1_ n2_; (try clear hb); (try clear hb2); (try clear hk); (try clear hi); obtain ⟨HGz24, hgz24⟩ := HI0.out; have hcz24_0 := cellS92_0 HGz24; have hcz24_1 := cellS92_1 HGz24; have hfz24_0 := blk_frozen HGz24 0; have hfz24_1 := blk_frozen HGz24 1; clear HGz24 hgz24)); try go_wp2_with (first | (go_at_call 57; (with_reducible refine (attrs_reader_is.calls g x1000_6 x1001_6 62 false t314 t315 w0 _ ?side1 ?side2 A19.out).mono ?_); (case side1 => repeat (first | (with_reducible first | exact HI0.out | apply IsS92.alloc | apply IsS92.drewN | apply IsS92.drew | apply IsS92.set_0 | apply IsS92.set_1) | exact HI0.out)); (case side2 => repeat (first | (with_reducible first | exact HB.out | apply below_alloc | apply pw_below_drewN | apply below_drew1 | refine below_set ?_ (IsS92.ge HI0.out)) | exact HB.out)); rintro e w23 ⟨rfl, hi, hb, hk⟩; have n0_ := Aside0.mk (KeepBut.trans (by repeat (first | (with_reducible first | exact HK.out | apply KeepBut.set_ | apply keep_drewN | apply keep_drew | apply keep_alloc) | exact HK.out)) hk (.inl rfl)); have n1_ := Aside0.mk (hb); have n2_ := Aside0.mk (hi); clear HK; clear HB; clear HI0; have HK := n0_; have HB := n1_; have HI0 := n2_; clear n0_ n1_ n2_; (try clear hb); (try clear hb2); (try clear hk); (try clear hi); obtain ⟨HGz24, hgz24⟩ := HI0.out; have hcz24_0 := cellS92_0 HGz24; have hcz24_1 := cellS92_1 HGz24; have hfz24_0 := blk_frozen HGz24 0; have hfz24_1 := blk_frozen HGz24 1; clear HGz24 hgz24)))
              go_ret2
              exact ⟨by first | rfl | (simp [*] <;> rfl), by repeat (first | (with_reducible first | exact HI0.out | apply IsS92.alloc | apply IsS92.drewN | apply IsS92.drew | apply IsS92.set_0 | apply IsS92.set_1) | exact HI0.out), by repeat (first | (with_reducible first | exact HB.out | apply below_alloc | apply pw_below_drewN | apply below_drew1 | refine below_set ?_ (IsS92.ge HI0.out)) | exact HB.out), by repeat (first | (with_reducible first | exact HK.out | apply KeepBut.set_ | apply keep_drewN | apply keep_drew | apply keep_alloc) | exact HK.out)⟩
            · rw [if_neg c22] at H
              have c22b0 : (t315 == (t314.size : Int)) = false := beq_eq_false_iff_ne.mpr c22
              have c22b1 : (t315 != (t314.size : Int)) = true := bne_iff_ne.mpr c22
              replace H := Option.bind_eq_some_iff.mp H
              obtain ⟨⟨t316, t317, t318⟩, A250, H⟩ := H
              (try dsimp only at H)
              have A25 := Aside0.mk A250
              clear A250
              simp only [Option.some.injEq, Prod.mk.injEq] at H
              obtain ⟨rfl, rfl, rfl, rfl⟩ := H
              go_wp2_with (first | (go_at_call 57; (with_reducible refine (attrs_reader_is.calls g x1000_6 x1001_6 62 false t314 t315 w0 _ ?side1 ?side2 A19.out).mono ?_); (case side1 => repeat (first | (with_reducible first | exact HI0.out | apply IsS92.alloc | apply IsS92.drewN | apply IsS92.drew | apply IsS92.set_0 | apply IsS92.set_1) | exact HI0.out)); (case side2 => repeat (first | (with_reducible first | exact HB.out | apply below_alloc | apply pw_below_drewN | apply below_drew1 | refine below_set ?_ (IsS92.ge HI0.out)) | exact HB.out)); rintro e w26 ⟨rfl, hi, hb, hk⟩; have n0_ := Aside0.mk (KeepBut.trans (by repeat (first | (with_reducible first | exact HK.out | apply KeepBut.set_ | apply keep_drewN | apply keep_drew | apply keep_alloc) | exact HK.out)) hk (.inl rfl)); have n1_ := Aside0.mk (hb); have n2_ := Aside0.mk (hi); clear HK; clear HB; clear HI0; have HK := n0_; have HB := n1_; have HI0 := n2_; clear n0_ n1_ n2_; (try clear hb); (try clear hb2); (try clear hk); (try clear hi); obtain ⟨HGz27, hgz27⟩ := HI0.out; have hcz27_0 := cellS92_0 HGz27; have hcz27_1 := cellS92_1 HGz27; have hfz27_0 := blk_frozen HGz27 0; have hfz27_1 := blk_frozen HGz27 1; clear HGz27 hgz27) | (go_at_call 61; (with_reducible refine (attrs_reader_upTo.calls kj6 g t314 t315 (⟨#[62]⟩ : ByteArray) t316 t317 t318 w0 _ ?side1 ?side2 A25.out).mono ?_); (case side1 => repeat (first | (with_reducible first | exact HI0.out | apply IsS92.alloc | apply IsS92.drewN | apply IsS92.drew | apply IsS92.set_0 | apply IsS92.set_1) | exact HI0.out)); (case side2 => repeat (first | (with_reducible first | exact HB.out | apply below_alloc | apply pw_below_drewN | apply below_drew1 | refine below_set ?_ (IsS92.ge HI0.out)) | exact HB.out)); rintro e w28 ⟨rfl, hi, hb, hk⟩; have n0_ := Aside0.mk (KeepBut.trans (by repeat (first | (with_reducible first | exact HK.out | apply KeepBut.set_ | apply keep_drewN | apply keep_drew | apply keep_alloc) | exact HK.out)) hk (.inl rfl)); have n1_ := Aside0.mk (hb); have n2_ := Aside0.mk (hi); clear HK; clear HB; clear HI0; have HK := n0_; have HB := n1_; have HI0 := n2_; clear n0_ n1_ n2_; (try clear hb); (try clear hb2); (try clear hk); (try clear hi)))
              repeat (go_quiet (first | (go_at_call 57; (with_reducible refine (attrs_reader_is.calls g x1000_6 x1001_6 62 false t314 t315 w0 _ ?side1 ?side2 A19.out).mono ?_); (case side1 => repeat (first | (with_reducible first | exact HI0.out | apply IsS92.alloc | apply IsS92.drewN | apply IsS92.drew | apply IsS92.set_0 | apply IsS92.set_1) | exact HI0.out)); (case side2 => repeat (first | (with_reducible first | exact HB.out | apply below_alloc | apply pw_below_drewN | apply below_drew1 | refine below_set ?_ (IsS92.ge HI0.out)) | exact HB.out)); rintro e w26 ⟨rfl, hi, hb, hk⟩; have n0_ := Aside0.mk (KeepBut.trans (by repeat (first | (with_reducible first | exact HK.out | apply KeepBut.set_ | apply keep_drewN | apply keep_drew | apply keep_alloc) | exact HK.out)) hk (.inl rfl)); have n1_ := Aside0.mk (hb); have n2_ := Aside0.mk (hi); clear HK; clear HB; clear HI0; have HK := n0_; have HB := n1_; have HI0 := n2_; clear n0_ n1_ n2_; (try clear hb); (try clear hb2); (try clear hk); (try clear hi); obtain ⟨HGz27, hgz27⟩ := HI0.out; have hcz27_0 := cellS92_0 HGz27; have hcz27_1 := cellS92_1 HGz27; have hfz27_0 := blk_frozen HGz27 0; have hfz27_1 := blk_frozen HGz27 1; clear HGz27 hgz27) | (go_at_call 61; (with_reducible refine (attrs_reader_upTo.calls kj6 g t314 t315 (⟨#[62]⟩ : ByteArray) t316 t317 t318 w0 _ ?side1 ?side2 A25.out).mono ?_); (case side1 => repeat (first | (with_reducible first | exact HI0.out | apply IsS92.alloc | apply IsS92.drewN | apply IsS92.drew | apply IsS92.set_0 | apply IsS92.set_1) | exact HI0.out)); (case side2 => repeat (first | (with_reducible first | exact HB.out | apply below_alloc | apply pw_below_drewN | apply below_drew1 | refine below_set ?_ (IsS92.ge HI0.out)) | exact HB.out)); rintro e w28 ⟨rfl, hi, hb, hk⟩; have n0_ := Aside0.mk (KeepBut.trans (by repeat (first | (with_reducible first | exact HK.out | apply KeepBut.set_ | apply keep_drewN | apply keep_drew | apply keep_alloc) | exact HK.out)) hk (.inl rfl)); have n1_ := Aside0.mk (hb); have n2_ := Aside0.mk (hi); clear HK; clear HB; clear HI0; have HK := n0_; have HB := n1_; have HI0 := n2_; clear n0_ n1_ n2_; (try clear hb); (try clear hb2); (try clear hk); (try clear hi))); try go_wp2_with (first | (go_at_call 57; (with_reducible refine (attrs_reader_is.calls g x1000_6 x1001_6 62 false t314 t315 w0 _ ?side1 ?side2 A19.out).mono ?_); (case side1 => repeat (first | (with_reducible first | exact HI0.out | apply IsS92.alloc | apply IsS92.drewN | apply IsS92.drew | apply IsS92.set_0 | apply IsS92.set_1) | exact HI0.out)); (case side2 => repeat (first | (with_reducible first | exact HB.out | apply below_alloc | apply pw_below_drewN | apply below_drew1 | refine below_set ?_ (IsS92.ge HI0.out)) | exact HB.out)); rintro e w26 ⟨rfl, hi, hb, hk⟩; have n0_ := Aside0.mk (KeepBut.trans (by repeat (first | (with_reducible first | exact HK.out | apply KeepBut.set_ | apply keep_drewN | apply keep_drew | apply keep_alloc) | exact HK.out)) hk (.inl rfl)); have n1_ := Aside0.mk (hb); have n2_ := Aside0.mk (hi); clear HK; clear HB; clear HI0; have HK := n0_; have HB := n1_; have HI0 := n2_; clear n0_ n1_ n2_; (try clear hb); (try clear hb2); (try clear hk); (try clear hi); obtain ⟨HGz27, hgz27⟩ := HI0.out; have hcz27_0 := cellS92_0 HGz27; have hcz27_1 := cellS92_1 HGz27; have hfz27_0 := blk_frozen HGz27 0; have hfz27_1 := blk_frozen HGz27 1; clear HGz27 hgz27) | (go_at_call 61; (with_reducible refine (attrs_reader_upTo.calls kj6 g t314 t315 (⟨#[62]⟩ : ByteArray) t316 t317 t318 w0 _ ?side1 ?side2 A25.out).mono ?_); (case side1 => repeat (first | (with_reducible first | exact HI0.out | apply IsS92.alloc | apply IsS92.drewN | apply IsS92.drew | apply IsS92.set_0 | apply IsS92.set_1) | exact HI0.out)); (case side2 => repeat (first | (with_reducible first | exact HB.out | apply below_alloc | apply pw_below_drewN | apply below_drew1 | refine below_set ?_ (IsS92.ge HI0.out)) | exact HB.out)); rintro e w28 ⟨rfl, hi, hb, hk⟩; have n0_ := Aside0.mk (KeepBut.trans (by repeat (first | (with_reducible first | exact HK.out | apply KeepBut.set_ | apply keep_drewN | apply keep_drew | apply keep_alloc) | exact HK.out)) hk (.inl rfl)); have n1_ := Aside0.mk (hb); have n2_ := Aside0.mk (hi); clear HK; clear HB; clear HI0; have HK := n0_; have HB := n1_; have HI0 := n2_; clear n0_ n1_ n2_; (try clear hb); (try clear hb2); (try clear hk); (try clear hi))))
              go_ret2
              exact ⟨by first | rfl | (simp [*] <;> rfl), by repeat (first | (with_reducible first | exact HI0.out | apply IsS92.alloc | apply IsS92.drewN | apply IsS92.drew | apply IsS92.set_0 | apply IsS92.set_1) | exact HI0.out), by repeat (first | (with_reducible first | exact HB.out | apply below_alloc | apply pw_below_drewN | apply below_drew1 | refine below_set ?_ (IsS92.ge HI0.out)) | exact HB.out), by repeat (first | (with_reducible first | exact HK.out | apply KeepBut.set_ | apply keep_drewN | apply keep_drew | apply keep_alloc) | exact HK.out)⟩
  · replace c4 := Bool.eq_false_iff.mpr c4
    subst c4
    rw [if_neg (show ¬ (false = true) by decide)] at H
    simp only [Option.some.injEq, Prod.mk.injEq] at H
    obtain ⟨rfl, rfl, rfl, rfl⟩ := H
    go_enter Tryz.func62, Tryz.ntmps62
    go_wp2_with (first | (go_at_call 56; (with_reducible refine (attrs_reader_spaces.calls k g s0_0 s0_1 t296 t297 w0 _ ?side1 ?side2 A2.out).mono ?_); (case side1 => repeat (first | (with_reducible first | exact HI0.out | apply IsS92.alloc | apply IsS92.drewN | apply IsS92.drew | apply IsS92.set_0 | apply IsS92.set_1) | exact HI0.out)); (case side2 => repeat (first | (with_reducible first | exact HB.out | apply below_alloc | apply pw_below_drewN | apply below_drew1 | refine below_set ?_ (IsS92.ge HI0.out)) | exact HB.out)); rintro e w29 ⟨rfl, hi, hb, hk⟩; have n0_ := Aside0.mk (KeepBut.trans (by repeat (first | (with_reducible first | exact HK.out | apply KeepBut.set_ | apply keep_drewN | apply keep_drew | apply keep_alloc) | exact HK.out)) hk (.inl rfl)); have n1_ := Aside0.mk (hb); have n2_ := Aside0.mk (hi); clear HK; clear HB; clear HI0; have HK := n0_; have HB := n1_; have HI0 := n2_; clear n0_ n1_ n2_; (try clear hb); (try clear hb2); (try clear hk); (try clear hi)) | (go_at_call 57; (with_reducible refine (attrs_reader_is.calls g t296 t297 61 false t299 t300 w0 _ ?side1 ?side2 A3.out).mono ?_); (case side1 => repeat (first | (with_reducible first | exact HI0.out | apply IsS92.alloc | apply IsS92.drewN | apply IsS92.drew | apply IsS92.set_0 | apply IsS92.set_1) | exact HI0.out)); (case side2 => repeat (first | (with_reducible first | exact HB.out | apply below_alloc | apply pw_below_drewN | apply below_drew1 | refine below_set ?_ (IsS92.ge HI0.out)) | exact HB.out)); rintro e w30 ⟨rfl, hi, hb, hk⟩; have n0_ := Aside0.mk (KeepBut.trans (by repeat (first | (with_reducible first | exact HK.out | apply KeepBut.set_ | apply keep_drewN | apply keep_drew | apply keep_alloc) | exact HK.out)) hk (.inl rfl)); have n1_ := Aside0.mk (hb); have n2_ := Aside0.mk (hi); clear HK; clear HB; clear HI0; have HK := n0_; have HB := n1_; have HI0 := n2_; clear n0_ n1_ n2_; (try clear hb); (try clear hb2); (try clear hk); (try clear hi)))
    repeat (go_quiet (first | (go_at_call 56; (with_reducible refine (attrs_reader_spaces.calls k g s0_0 s0_1 t296 t297 w0 _ ?side1 ?side2 A2.out).mono ?_); (case side1 => repeat (first | (with_reducible first | exact HI0.out | apply IsS92.alloc | apply IsS92.drewN | apply IsS92.drew | apply IsS92.set_0 | apply IsS92.set_1) | exact HI0.out)); (case side2 => repeat (first | (with_reducible first | exact HB.out | apply below_alloc | apply pw_below_drewN | apply below_drew1 | refine below_set ?_ (IsS92.ge HI0.out)) | exact HB.out)); rintro e w29 ⟨rfl, hi, hb, hk⟩; have n0_ := Aside0.mk (KeepBut.trans (by repeat (first | (with_reducible first | exact HK.out | apply KeepBut.set_ | apply keep_drewN | apply keep_drew | apply keep_alloc) | exact HK.out)) hk (.inl rfl)); have n1_ := Aside0.mk (hb); have n2_ := Aside0.mk (hi); clear HK; clear HB; clear HI0; have HK := n0_; have HB := n1_; have HI0 := n2_; clear n0_ n1_ n2_; (try clear hb); (try clear hb2); (try clear hk); (try clear hi)) | (go_at_call 57; (with_reducible refine (attrs_reader_is.calls g t296 t297 61 false t299 t300 w0 _ ?side1 ?side2 A3.out).mono ?_); (case side1 => repeat (first | (with_reducible first | exact HI0.out | apply IsS92.alloc | apply IsS92.drewN | apply IsS92.drew | apply IsS92.set_0 | apply IsS92.set_1) | exact HI0.out)); (case side2 => repeat (first | (with_reducible first | exact HB.out | apply below_alloc | apply pw_below_drewN | apply below_drew1 | refine below_set ?_ (IsS92.ge HI0.out)) | exact HB.out)); rintro e w30 ⟨rfl, hi, hb, hk⟩; have n0_ := Aside0.mk (KeepBut.trans (by repeat (first | (with_reducible first | exact HK.out | apply KeepBut.set_ | apply keep_drewN | apply keep_drew | apply keep_alloc) | exact HK.out)) hk (.inl rfl)); have n1_ := Aside0.mk (hb); have n2_ := Aside0.mk (hi); clear HK; clear HB; clear HI0; have HK := n0_; have HB := n1_; have HI0 := n2_; clear n0_ n1_ n2_; (try clear hb); (try clear hb2); (try clear hk); (try clear hi))); try go_wp2_with (first | (go_at_call 56; (with_reducible refine (attrs_reader_spaces.calls k g s0_0 s0_1 t296 t297 w0 _ ?side1 ?side2 A2.out).mono ?_); (case side1 => repeat (first | (with_reducible first | exact HI0.out | apply IsS92.alloc | apply IsS92.drewN | apply IsS92.drew | apply IsS92.set_0 | apply IsS92.set_1) | exact HI0.out)); (case side2 => repeat (first | (with_reducible first | exact HB.out | apply below_alloc | apply pw_below_drewN | apply below_drew1 | refine below_set ?_ (IsS92.ge HI0.out)) | exact HB.out)); rintro e w29 ⟨rfl, hi, hb, hk⟩; have n0_ := Aside0.mk (KeepBut.trans (by repeat (first | (with_reducible first | exact HK.out | apply KeepBut.set_ | apply keep_drewN | apply keep_drew | apply keep_alloc) | exact HK.out)) hk (.inl rfl)); have n1_ := Aside0.mk (hb); have n2_ := Aside0.mk (hi); clear HK; clear HB; clear HI0; have HK := n0_; have HB := n1_; have HI0 := n2_; clear n0_ n1_ n2_; (try clear hb); (try clear hb2); (try clear hk); (try clear hi)) | (go_at_call 57; (with_reducible refine (attrs_reader_is.calls g t296 t297 61 false t299 t300 w0 _ ?side1 ?side2 A3.out).mono ?_); (case side1 => repeat (first | (with_reducible first | exact HI0.out | apply IsS92.alloc | apply IsS92.drewN | apply IsS92.drew | apply IsS92.set_0 | apply IsS92.set_1) | exact HI0.out)); (case side2 => repeat (first | (with_reducible first | exact HB.out | apply below_alloc | apply pw_below_drewN | apply below_drew1 | refine below_set ?_ (IsS92.ge HI0.out)) | exact HB.out)); rintro e w30 ⟨rfl, hi, hb, hk⟩; have n0_ := Aside0.mk (KeepBut.trans (by repeat (first | (with_reducible first | exact HK.out | apply KeepBut.set_ | apply keep_drewN | apply keep_drew | apply keep_alloc) | exact HK.out)) hk (.inl rfl)); have n1_ := Aside0.mk (hb); have n2_ := Aside0.mk (hi); clear HK; clear HB; clear HI0; have HK := n0_; have HB := n1_; have HI0 := n2_; clear n0_ n1_ n2_; (try clear hb); (try clear hb2); (try clear hk); (try clear hi))))
    go_ret2
    exact ⟨by first | rfl | (simp [*] <;> rfl), by repeat (first | (with_reducible first | exact HI0.out | apply IsS92.alloc | apply IsS92.drewN | apply IsS92.drew | apply IsS92.set_0 | apply IsS92.set_1) | exact HI0.out), by repeat (first | (with_reducible first | exact HB.out | apply below_alloc | apply pw_below_drewN | apply below_drew1 | refine below_set ?_ (IsS92.ge HI0.out)) | exact HB.out), by repeat (first | (with_reducible first | exact HK.out | apply KeepBut.set_ | apply keep_drewN | apply keep_drew | apply keep_alloc) | exact HK.out)⟩
end Go.Proofs.YteccaekalcjihaaGreatDoor.PTn
set_option linter.unusedVariables false
set_option linter.unusedSimpArgs false
namespace Go.Proofs.YteccaekalcjihaaGreatDoor.PTn
open Go.RowKit Go.Lib Go.Proofs.YteccaekalcjihaaGreatDoorW.PrintWords Go.Proofs.YteccaekalcjihaaGreatDoorW.PrintLast Go.Proofs.YteccaekalcjihaaGreatDoorW.PrintMore
def attL (V : List UInt8) : List UInt8 := 120 :: 61 :: 39 :: (V ++ [39, 62])
theorem attL_len (V : List UInt8) : (attL V).length = V.length + 5 := by simp [attL]
theorem spaces_stop (L : List UInt8) (k i : Nat) (x : UInt8) (h : L[i]? = some x) (hx : sign_Space.f (x.toNat : Int) = some false) : attrs_reader_spaces.f (k + 1) (tx L) (i : Int) = some (tx L, (i : Int)) := by
  obtain ⟨h1, h2⟩ := List.getElem?_eq_some_iff.1 h
  unfold attrs_reader_spaces.f
  rw [attrs_reader_spaces.l0, tx_size, if_pos (by omega), if_pos (by omega), tx_bt L i h1, h2, hx, Option.bind_some, if_neg (by decide)]
theorem is_at (L : List UInt8) (i : Nat) (x c : UInt8) (h : L[i]? = some x) : attrs_reader_is.f (tx L) (i : Int) (c.toNat : Int) = some (x == c, tx L, (i : Int)) := by
  obtain ⟨h1, h2⟩ := List.getElem?_eq_some_iff.1 h
  unfold attrs_reader_is.f
  rw [tx_size, if_pos (by omega), if_pos (by omega), tx_bt L i h1, h2]
  congr 2
  by_cases e : x = c
  · rw [e, beq_self_eq_true, beq_self_eq_true]
  · have e1 : (x == c) = false := beq_eq_false_iff_ne.2 e
    rw [e1, beq_eq_false_iff_ne.2 (fun e2 => e (UInt8.toNat_inj.1 (by omega)))]
theorem att0 (V : List UInt8) : (attL V)[0]? = some 120 := rfl
theorem att1 (V : List UInt8) : (attL V)[1]? = some 61 := rfl
theorem att2 (V : List UInt8) : (attL V)[2]? = some 39 := rfl
theorem attN (V : List UInt8) : (attL V)[V.length + 4]? = some 62 := by simp [attL]
theorem att_up (V : List UInt8) (hl : V.length ≤ 10000) (k : Nat) : attrs_reader_upTo.f (k + 1) (tx (attL V)) 0 ⟨#[47, 62, 61]⟩ = some (tx [120], tx (attL V), 1) := by
  have hs := attL_len V
  unfold attrs_reader_upTo.f
  rw [w64i (by omega) (by omega), Int.zero_add, attrs_reader_upTo.l0, tx_size, if_pos (by omega), if_pos (by omega), show (1 : Int) = ((1 : Nat) : Int) from rfl, tx_bt _ 1 (by omega)]
  have e : (attL V)[1]'(by omega) = 61 := rfl
  rw [e, show sign_Space.f ((61 : UInt8).toNat : Int) = some false by decide, Option.bind_some, if_neg (by decide), show strings_IndexByte.f ⟨#[47, 62, 61]⟩ ((61 : UInt8).toNat : Int) = some 2 by decide, Option.bind_some, if_pos (by decide), if_pos (by decide), if_pos (by decide), if_pos (by omega), tx_ex]
  rfl
theorem att_beg (V : List UInt8) (hl : V.length ≤ 10000) : sign_Begins.f (tx (attL V)) 0 ⟨#[47, 62]⟩ = some false := by
  have hs := attL_len V
  have := begins_tx (attL V) [47, 62] 0 (by omega) (by decide) (by omega)
  rw [show (⟨#[47, 62]⟩ : ByteArray) = tx [47, 62] from rfl, show (0 : Int) = ((0 : Nat) : Int) from rfl, this]
  have e : (lowL (((attL V).drop 0).take ([47, 62] : List UInt8).length) == [47, 62]) = false := rfl
  rw [e, Bool.and_false]
theorem att_quoted (V : List UInt8) (hl : V.length ≤ 10000) (hV : (39 : UInt8) ∉ V) : attrs_reader_quoted.f (tx (attL V)) 2 = some (tx V, true, tx (attL V), ((V.length + 4 : Nat) : Int)) := by
  have hs := attL_len V
  unfold attrs_reader_quoted.f
  have e : bt (tx (attL V)) 2 = 39 := tx_bt (attL V) 2 (by omega)
  have e1 : (tx (attL V)).extract 3 (attL V).length = tx (V ++ [39, 62]) := by rw [tx_ex, List.take_length]; rfl
  have e2 : strings_IndexByte.f (tx (V ++ [39, 62])) 39 = some (V.length : Int) := ibyte_some V [62] 39 hV
  have e3 : (tx (attL V)).extract 3 (3 + V.length) = tx V := by
    rw [tx_ex, List.drop_take, Nat.add_sub_cancel_left]
    show tx ((V ++ [39, 62]).take V.length) = _
    rw [List.take_left]
  rw [tx_size, if_pos (by omega), if_pos (by omega), show wrap64 ((2 : Int) + 1) = 3 from w64i (by decide) (by decide), if_pos (by omega), if_pos (by omega), e, show (3 : Int).toNat = 3 from rfl, e1, e2, Option.bind_some, if_neg (by omega), w64i (x := 3 + (V.length : Int)) (by omega) (by omega), if_pos (by omega), if_pos (by omega), show ((3 : Int) + (V.length : Int)).toNat = 3 + V.length by omega, e3, w64i (x := (V.length : Int) + 1) (by omega) (by omega), w64i (by omega) (by omega), show (3 : Int) + ((V.length : Int) + 1) = ((V.length + 4 : Nat) : Int) by omega]
theorem att_value (V : List UInt8) (hl : V.length ≤ 10000) (hV : (39 : UInt8) ∉ V) (k : Nat) : attrs_reader_value.f (k + 1) (tx (attL V)) 1 = some (tx V, true, tx (attL V), ((V.length + 4 : Nat) : Int)) := by
  have s1 : attrs_reader_spaces.f (k + 1) (tx (attL V)) 1 = some (tx (attL V), 1) := spaces_stop (attL V) k 1 61 (att1 V) (by decide)
  have s2 : attrs_reader_spaces.f (k + 1) (tx (attL V)) 2 = some (tx (attL V), 2) := spaces_stop (attL V) k 2 39 (att2 V) (by decide)
  have i1 : attrs_reader_is.f (tx (attL V)) 1 61 = some (true, tx (attL V), 1) := is_at (attL V) 1 61 61 (att1 V)
  have i2 : attrs_reader_is.f (tx (attL V)) 2 34 = some (false, tx (attL V), 2) := is_at (attL V) 2 39 34 (att2 V)
  have i3 : attrs_reader_is.f (tx (attL V)) 2 39 = some (true, tx (attL V), 2) := is_at (attL V) 2 39 39 (att2 V)
  have q := att_quoted V hl hV
  unfold attrs_reader_value.f
  rw [s1, Option.bind_some]
  simp only []
  rw [i1, Option.bind_some]
  simp only [if_true]
  rw [show wrap64 ((1 : Int) + 1) = 2 from w64i (by decide) (by decide), s2, Option.bind_some]
  simp only []
  rw [i2, Option.bind_some]
  simp only [Bool.false_eq_true, if_false]
  rw [i3, Option.bind_some]
  simp only []
  rw [attrs_reader_value.j0, if_pos rfl, q, Option.bind_some]
theorem clean_tx (L : List UInt8) (h : (0 : UInt8) ∉ L) : lines_Clean.f (tx L) = some (tx L) := by
  unfold lines_Clean.f noZero
  rw [tx_data, if_pos (by simpa [List.elem_eq_mem] using h)]
theorem low_x : sign_Lower.f (tx [120]) = some (tx [120]) := by decide +kernel
end Go.Proofs.YteccaekalcjihaaGreatDoor.PTn
set_option linter.unusedVariables false
set_option linter.unusedSimpArgs false
namespace Go.Proofs.YteccaekalcjihaaGreatDoor.PTn
open Go.RowKit Go.Lib Go.Proofs.YteccaekalcjihaaGreatDoor.Buf Go.Proofs.YteccaekalcjihaaGreatDoorW.PrintWords Go.Proofs.YteccaekalcjihaaGreatDoorW.PrintLast Go.Proofs.YteccaekalcjihaaGreatDoorW.PrintMore
def AB (w : World) (b : Nat) (n v : ByteArray) : Prop := w.heap[b]? = some (.cells #[.string n, .string v] 38 (0, 0))
theorem AB.cells {w : World} {b : Nat} {n v : ByteArray} (h : AB w b n v) : w.cell? ⟨b, 0, none⟩ = some (.string n) ∧ w.cell? ⟨b, 1, none⟩ = some (.string v) ∧ ∀ j, w.frozen? ⟨b, j, none⟩ = false := by
  refine ⟨?_, ?_, fun j => Lib.frozen_of_heap h j⟩ <;> (rw [Lib.cell_of_heap h]; rfl)
structure AR (w w' : World) (S : ByteArray) (i : Int) (n v : ByteArray) : Prop where
  i : IsS92 w w' w.heap.size S i
  b : Below w.heap.size w w'
  a : AB w' (w.heap.size + 1) n v
section
variable {w w1 w2 : World} {S n v : ByteArray} {i j : Int}
theorem AR.keep (h : AR w w1 S i n v) (h1 : IsS92 w w2 w.heap.size S j) (h2 : Below w.heap.size w w2) (h3 : KeepBut w1 w2 w.heap.size none) : AR w w2 S j n v := ⟨h1, h2, h3.blk h.a (by omega) (by simp)⟩
theorem AR.below (h : AR w w1 S i n v) (hb : Below w1.heap.size w1 w2) : AR w w2 S i n v := ⟨⟨(hb.block _ (Buf.lt_of_heap h.i.1)).trans h.i.1, h.i.2⟩, below_step h.b hb, (hb.block _ (Buf.lt_of_heap h.a)).trans h.a⟩
theorem AR.set0 (h : AR w w1 S i n v) (x : ByteArray) : AR w (w1.setCell ⟨w.heap.size + 1, 0, none⟩ (.string x)) S i x v := ⟨⟨(Below.heap_setCell w1 ⟨w.heap.size + 1, 0, none⟩ _ w.heap.size (by simp)).trans h.i.1, h.i.2⟩, h.b.setCell (by simp) _, heap_setCell_self h.a (j := 0) _⟩
theorem AR.set1 (h : AR w w1 S i n v) (x : ByteArray) : AR w (w1.setCell ⟨w.heap.size + 1, 1, none⟩ (.string x)) S i n x := ⟨⟨(Below.heap_setCell w1 ⟨w.heap.size + 1, 1, none⟩ _ w.heap.size (by simp)).trans h.i.1, h.i.2⟩, h.b.setCell (by simp) _, heap_setCell_self h.a (j := 1) _⟩
end
theorem AR.grown {w w1 : World} {S n v : ByteArray} {i : Int} (h : AR w w1 S i n v) (o : Obj) (cs : Array Value) (x : Value) (hc : cs[1]? = some x) (m : Nat) (hm : m = w1.heap.size) :
    Aside0 (IsS92 w ((w1.alloc o).alloc (.cells cs 38)).drew w.heap.size S i) ∧ Aside0 (Below w.heap.size w ((w1.alloc o).alloc (.cells cs 38)).drew) ∧ Aside0 (((w1.alloc o).alloc (.cells cs 38)).drew.cell? ⟨m + 1, 1, none⟩ = some x ∧ m + 1 ≠ w.heap.size ∧ m + 1 < ((w1.alloc o).alloc (.cells cs 38)).drew.heap.size) := by
  subst hm
  have hb : Below w1.heap.size w1 ((w1.alloc o).alloc (.cells cs 38)).drew := below_drew (((Below.refl _ w1).alloc (Nat.le_refl _) _).alloc (by simp) _)
  have h2 := h.below hb
  have hn : ((w1.alloc o).alloc (.cells cs 38)).drew.heap[w1.heap.size + 1]? = some (.cells cs 38 (0, 0)) := by
    have := heap_alloc_new (w1.alloc o) (.cells cs 38)
    show ((w1.alloc o).alloc (.cells cs 38)).heap[w1.heap.size + 1]? = _
    simpa using this
  have hs := h.b.size
  refine ⟨⟨h2.i⟩, ⟨h2.b⟩, ⟨?_, by omega, Buf.lt_of_heap hn⟩⟩
  rw [Lib.cell_of_heap hn]
  exact hc
theorem keep_cell {w w1 : World} {g p j : Nat} (h : KeepBut w w1 g none) (hp : p < w.heap.size) (hn : p ≠ g) : w1.drew.cell? ⟨p, j, none⟩ = w.cell? ⟨p, j, none⟩ := by
  have := h.2 p hp hn (Option.some_ne_none p)
  show w1.cell? ⟨p, j, none⟩ = _
  unfold World.cell?
  rw [this]
theorem push_at (a b : Value) (Z : Array Value) : (#[a, b] ++ Z)[1]? = some b := by
  rw [Array.getElem?_append_left (show 1 < (#[a, b] : Array Value).size from Nat.lt_succ_self 1)]
  rfl
set_option maxHeartbeats 1000000 in
theorem contains_nil (f : Fn) (f1 f2 : Array Value) (w : World) : Calls Tryz.prog 63 #[.slice none 0 0, .func f f1 f2] w fun e w' => e = .returned (.bool false) ∧ w' = w := by
  go_enter Tryz.func63, Tryz.ntmps63
  go_wp2
  refine wp_loop_rounds 1 ?_
  rw [rounds_succ]
  go_wp2
  go_ret
  exact ⟨rfl, rfl⟩
set_option maxHeartbeats 4000000 in
set_option maxRecDepth 100000 in
theorem attrs_one (V W : List UInt8) (w : World) (hG : GW w) (hl : V.length ≤ 10000) (hV : (39 : UInt8) ∉ V) (hd : ref_Decode.f (tx V) true = some (tx W)) (hW : (0 : UInt8) ∉ W) :
    Calls Tryz.prog 20 #[.string (tx (attL V)), .int .i64 0] w fun e w' => ∃ g c, e = .returned (.tuple #[.slice (some ⟨g, 0, none⟩) 1 c, .bool false, .int .i64 ((V.length + 5 : Nat) : Int), .bool true]) ∧ w'.cell? ⟨g, 1, none⟩ = some (.string (tx W)) ∧ Below w.heap.size w w' := by
  obtain ⟨hI0, hB0⟩ := an_start w (tx (attL V)) 0
  have HI0 := Aside0.mk hI0
  have HB0 := Aside0.mk hB0
  have HA0 : Aside0 (AB ((w.alloc (.cells #[.string (tx (attL V)), .int .i64 0] 92)).alloc (.cells #[.string ⟨#[]⟩, .string ⟨#[]⟩] 38)) (w.heap.size + 1) ⟨#[]⟩ ⟨#[]⟩) := ⟨by
    have := heap_alloc_new (w.alloc (.cells #[.string (tx (attL V)), .int .i64 0] 92)) (.cells #[.string ⟨#[]⟩, .string ⟨#[]⟩] 38)
    simpa [AB] using this⟩
  clear hI0 hB0
  have hsz : ((tx (attL V)).size : Int) = (V.length : Int) + 5 := by rw [tx_size, attL_len]; omega
  have l1 : (V.length : Int) ≤ 10000 := by omega
  have hsN := Aside0.mk (spaces_stop (attL V) 5 (V.length + 4) 62 (attN V) (by decide))
  have hs0 : Aside0 (attrs_reader_spaces.f 6 (tx (attL V)) 0 = some (tx (attL V), 0)) := ⟨spaces_stop (attL V) 5 0 120 (att0 V) (by decide)⟩
  have hiN : Aside0 (attrs_reader_is.f (tx (attL V)) ((V.length + 4 : Nat) : Int) 62 = some (true, tx (attL V), ((V.length + 4 : Nat) : Int))) := ⟨is_at (attL V) (V.length + 4) 62 62 (attN V)⟩
  have hi0 : Aside0 (attrs_reader_is.f (tx (attL V)) 0 62 = some (false, tx (attL V), 0)) := ⟨is_at (attL V) 0 120 62 (att0 V)⟩
  have hi1 : Aside0 (attrs_reader_is.f (tx (attL V)) 0 47 = some (false, tx (attL V), 0)) := ⟨is_at (attL V) 0 120 47 (att0 V)⟩
  have hup := Aside0.mk (att_up V hl 5)
  have hbg := Aside0.mk (att_beg V hl)
  have hvl := Aside0.mk (att_value V hl hV 5)
  have hcl := Aside0.mk (clean_tx W hW)
  have hcx := Aside0.mk (clean_tx [120] (by decide))
  have hd := Aside0.mk hd
  have hlx := Aside0.mk low_x
  obtain ⟨S, hS⟩ : ∃ S, tx (attL V) = S := ⟨_, rfl⟩
  obtain ⟨n, hn⟩ : ∃ n, V.length + 4 = n := ⟨_, rfl⟩
  rw [hS] at HI0 HB0 HA0 hsz hsN hs0 hiN hi0 hi1 hup hbg hvl ⊢
  rw [hn] at hsN hiN hvl
  rw [show V.length + 5 = n + 1 by omega]
  have c1 : decide ((S.size : Int) < 0) = false := decide_eq_false (by omega)
  have c2 : ((0 : Int) == (S.size : Int)) = false := beq_eq_false_iff_ne.2 (by omega)
  have c3 : ((n : Int) == (S.size : Int)) = false := beq_eq_false_iff_ne.2 (by omega)
  have l2 : (n : Int) ≤ 10004 := by omega
  clear hS hsz hn hl hV l1
  go_enter Tryz.func20, Tryz.ntmps20
  have hr0 := Aside0.mk (AR.mk HI0.out HB0.out HA0.out)
  obtain ⟨SV, hSV⟩ : ∃ x, tx V = x := ⟨_, rfl⟩
  obtain ⟨SW, hSW⟩ : ∃ x, tx W = x := ⟨_, rfl⟩
  obtain ⟨SX, hSX⟩ : ∃ x, tx [120] = x := ⟨_, rfl⟩
  rw [hSV] at hd hvl
  rw [hSW] at hd hcl ⊢
  rw [hSX] at hcx hlx hup
  clear hSV hSW hSX HI0 HB0 HA0 hW
  have hmf : ∀ (fn : Fn) (first cap : Array Value) (w : World), (Instr.makeFunc fn first cap).run Tryz.prog w = .ok (.func fn first cap) w := fun _ _ _ _ => rfl
  go_wp2
  refine wp_scope_ghost 0 (fun kq a' w' => ∃ (lv : Value) (u10 u11 u12 u13 u14 u15 u16 u17 u18 u19 u20 u21 u22 u23 u24 u25 u26 u27 u28 u29 u30 u31 u32 u33 u34 u35 u36 u37 u38 u39 u40 u41 u42 u43 u44 u45 u46 u47 u48 u49 u50 u51 u52 u53 u54 u55 u56 u57 u58 u59 u60 u61 u62 u63 u64 u65 u66 u67 u68 u69 u70 u71 u72 u73 u74 u75 u76 u77 u78 u79 u80 u81 u82 u83 u84 u85 u86 u87 u88 u89 u90 u91 u92 u93 u94 u95 : Value), a' = { tmps := #[.string S, .int .i64 0, undef, undef, lv, .bool false, .int .i64 0, .bool false, .pointer (some ⟨w.heap.size, 0, none⟩), .pointer (some ⟨w.heap.size + 1, 0, none⟩), u10, u11, u12, u13, u14, u15, u16, u17, u18, u19, u20, u21, u22, u23, u24, u25, u26, u27, u28, u29, u30, u31, u32, u33, u34, u35, u36, u37, u38, u39, u40, u41, u42, u43, u44, u45, u46, u47, u48, u49, u50, u51, u52, u53, u54, u55, u56, u57, u58, u59, u60, u61, u62, u63, u64, u65, u66, u67, u68, u69, u70, u71, u72, u73, u74, u75, u76, u77, u78, u79, u80, u81, u82, u83, u84, u85, u86, u87, u88, u89, u90, u91, u92, u93, u94, u95], defers := [] } ∧ ((kq = 2 ∧ lv = .slice none 0 0 ∧ Aside0 (AR w w' S 0 ⟨#[]⟩ ⟨#[]⟩)) ∨ (kq = 1 ∧ ∃ g c, lv = .slice (some ⟨g, 0, none⟩) 1 c ∧ Aside0 (IsS92 w w' w.heap.size S n) ∧ Aside0 (Below w.heap.size w w') ∧ Aside0 (w'.cell? ⟨g, 1, none⟩ = some (.string SW) ∧ g ≠ w.heap.size ∧ g < w'.heap.size)))) rfl ?_ ?_
  · intro kq a' w' hI J K hJ hK
    obtain ⟨lv, u10, u11, u12, u13, u14, u15, u16, u17, u18, u19, u20, u21, u22, u23, u24, u25, u26, u27, u28, u29, u30, u31, u32, u33, u34, u35, u36, u37, u38, u39, u40, u41, u42, u43, u44, u45, u46, u47, u48, u49, u50, u51, u52, u53, u54, u55, u56, u57, u58, u59, u60, u61, u62, u63, u64, u65, u66, u67, u68, u69, u70, u71, u72, u73, u74, u75, u76, u77, u78, u79, u80, u81, u82, u83, u84, u85, u86, u87, u88, u89, u90, u91, u92, u93, u94, u95, rfl, hI⟩ := hI
    rcases hI with ⟨rfl, rfl, HR⟩ | ⟨rfl, g, c, rfl, HI, HB, HC⟩
    · clear hr0
      go_wp2_with (first | (go_at_call 56; (with_reducible refine (attrs_reader_spaces.calls 6 _ S 0 S 0 w _ HR.out.i HR.out.b hs0.out).mono ?_); rintro e w1 ⟨rfl, hI, hB, hK1⟩; have HR1 := Aside0.mk (HR.out.keep hI hB hK1); obtain ⟨p1, p2, p3⟩ := s92_cells hI; clear hI hB hK1 HR) | (go_at_call 57; (with_reducible refine (attrs_reader_is.calls _ S 0 62 false S 0 w _ HR1.out.i HR1.out.b hi0.out).mono ?_); rintro e w2 ⟨rfl, hI, hB, hK1⟩; have HR2 := Aside0.mk (HR1.out.keep hI hB hK1); obtain ⟨p4, p5, p6⟩ := s92_cells hI; clear hI hB hK1 HR1) | (go_at_call 58; (with_reducible refine (sign_Begins.calls S 0 ⟨#[47, 62]⟩ false _ hbg.out).mono ?_); rintro e w3 ⟨rfl, hb⟩; have HR3 := Aside0.mk (HR2.out.below hb); obtain ⟨p7, p8, p9⟩ := s92_cells HR3.out.i; clear hb HR2) | (go_at_call 57; (with_reducible refine (attrs_reader_is.calls _ S 0 47 false S 0 w _ HR3.out.i HR3.out.b hi1.out).mono ?_); rintro e w4 ⟨rfl, hI, hB, hK1⟩; have HR4 := Aside0.mk (HR3.out.keep hI hB hK1); clear hI hB hK1 HR3) | (go_at_call 61; (with_reducible refine (attrs_reader_upTo.calls 6 _ S 0 ⟨#[47, 62, 61]⟩ SX S 1 w _ HR4.out.i HR4.out.b hup.out).mono ?_); rintro e w5 ⟨rfl, hI, hB, hK1⟩; have HR5 := Aside0.mk (HR4.out.keep hI hB hK1); clear hI hB hK1 HR4) | (go_at_call 60; (with_reducible refine (sign_Lower.calls SX SX _ hlx.out).mono ?_); rintro e w6 ⟨rfl, hb⟩; have HR6 := Aside0.mk (HR5.out.below hb); clear hb HR5) | (go_at_call 59; (with_reducible refine (lines_Clean.calls SX SX _ hcx.out).mono ?_); rintro e w7 ⟨rfl, hb⟩; have HR7 := Aside0.mk (HR6.out.below hb); obtain ⟨q1, q2, q3⟩ := AB.cells HR7.out.a; have q4 := q3 0; clear hb HR6 q3) | (go_at_call 62; (with_reducible refine (attrs_reader_value.calls 6 _ S 1 SV true S n w _ (HR7.out.set0 SX).i (HR7.out.set0 SX).b hvl.out).mono ?_); rintro e w8 ⟨rfl, hI, hB, hK1⟩; have HR8 := Aside0.mk ((HR7.out.set0 SX).keep hI hB hK1); obtain ⟨q5, q6, q7⟩ := AB.cells HR8.out.a; have q8 := q7 1; clear hI hB hK1 HR7 q7) | (go_at_call 21; (with_reducible refine (ref_Decode.calls SV true SW _ (hG.at (HR8.out.set1 SV).b) hd.out).mono ?_); rintro e w9 ⟨rfl, hb⟩; have HR9 := Aside0.mk ((HR8.out.set1 SV).below hb); clear hb HR8) | (go_at_call 59; (with_reducible refine (lines_Clean.calls SW SW _ hcl.out).mono ?_); rintro e w10 ⟨rfl, hb⟩; have HR10 := Aside0.mk (HR9.out.below hb); obtain ⟨q9, q10, q11⟩ := AB.cells HR10.out.a; have q12 := q11 1; have q13 := (AB.cells (HR10.out.set1 SW).a).1; have q14 := (AB.cells (HR10.out.set1 SW).a).2.1; clear hb HR9 q11) | (go_at_call 63; refine (contains_nil _ _ _ _).mono ?_; rintro e w11 ⟨rfl, rfl⟩))
      go_step3
      obtain ⟨z1, z2, z3⟩ := (HR10.out.set1 SW).grown (.cells #[.string SX, .string SW] 38) _ _ (push_at (.string SX) (.string SW) _) w10.heap.size (by simp [World.setCell])
      exact ⟨rfl, hK _ _ (Handed.intro 1 (by omega) (hJ _ _ _ ⟨_, _, _, _, _, _, _, _, _, _, _, _, _, _, _, _, _, _, _, _, _, _, _, _, _, _, _, _, _, _, _, _, _, _, _, _, _, _, _, _, _, _, _, _, _, _, _, _, _, _, _, _, _, _, _, _, _, _, _, _, _, _, _, _, _, _, _, _, _, _, _, _, _, _, _, _, _, _, _, _, _, _, _, _, _, _, _, rfl, .inr ⟨rfl, _, _, rfl, z1, z2, z3⟩⟩))⟩
    · clear hr0
      go_wp2_with (first | (go_at_call 56; (with_reducible refine (attrs_reader_spaces.calls 6 _ S n S n w _ HI.out HB.out hsN.out).mono ?_); rintro e w1 ⟨rfl, hI1, hB1, hK1⟩; have HI1 := Aside0.mk hI1; have HB1 := Aside0.mk hB1; have HC1 := Aside0.mk hK1; obtain ⟨p1, p2, p3⟩ := s92_cells hI1; clear hI1 hB1 hK1) | (go_at_call 57; (with_reducible refine (attrs_reader_is.calls _ S n 62 true S n w _ HI1.out HB1.out hiN.out).mono ?_); rintro e w2 ⟨rfl, hI2, hB2, hK2⟩; have HB2 := Aside0.mk hB2; have HC2 := Aside0.mk hK2; obtain ⟨p4, p5, _⟩ := s92_cells hI2; have p6 := s92_drew hI2; clear hI2 hB2 hK2))
      go_region
      all_goals (
        go_wp2
        rw [Exit.jump_ret]
        refine bodyPost_ret (results_tmp4 rfl _ _ _) rfl ?_
        exact ⟨g, c, rfl, (keep_cell (HC1.out.trans HC2.out (.inl rfl)) HC.out.2.2 HC.out.2.1).trans HC.out.1, below_drew1 HB2.out⟩)
  · intro hat
    go_wp2
    go_step3
    rename_i hh
    exact hh _ _ (hat.go 2 _ _ ⟨_, _, _, _, _, _, _, _, _, _, _, _, _, _, _, _, _, _, _, _, _, _, _, _, _, _, _, _, _, _, _, _, _, _, _, _, _, _, _, _, _, _, _, _, _, _, _, _, _, _, _, _, _, _, _, _, _, _, _, _, _, _, _, _, _, _, _, _, _, _, _, _, _, _, _, _, _, _, _, _, _, _, _, _, _, _, _, rfl, .inl ⟨rfl, rfl, hr0⟩⟩)
end Go.Proofs.YteccaekalcjihaaGreatDoor.PTn
namespace Go.Proofs.YteccaekalcjihaaGreatDoor.PTn
open Go.RowKit Go.Proofs.YteccaekalcjihaaGreatDoorW.PrintWords Go.Proofs.YteccaekalcjihaaGreatDoorW.PrintLast Go.Proofs.YteccaekalcjihaaGreatDoorW.PrintMore
attribute [local go_sem] max2_int min2_int max_two min_two max_three min_three max_four min_four
set_option linter.unusedVariables false
set_option linter.unusedSimpArgs false
def slices_Index_string_string.l0 : Nat → List ByteArray → ByteArray → Int → Int → Option (Int)
  | 0, _, _, _, _ => none
  | k + 1, x0, x1, x7, x8 => if x8 < x7 then (if 0 ≤ x8 then (if x8 < (x0.length : Int) then (if x1.toList = (rdOf ByteArray.empty x0 x8).toList then (some x8) else (slices_Index_string_string.l0 k x0 x1 x7 (wrap64 (x8 + 1)))) else (none)) else (none)) else (some (-1))
def slices_Index_string_string.f (k : Nat) (l0 : List ByteArray) (a1 : ByteArray) : Option (Int) := slices_Index_string_string.l0 k l0 a1 (l0.length : Int) 0
set_option maxHeartbeats 8000000 in
set_option maxRecDepth 100000 in
theorem slices_Index_string_string.calls (k : Nat) (A0 : Option Addr) (c0 : Nat) (l0 : List ByteArray) (a1 : ByteArray) (r : Int) (w : World) (hr0 : Kd.C Kd.string w A0 l0.length l0) (hc0 : l0.length ≤ c0) (h : slices_Index_string_string.f k l0 a1 = some r) :
    Calls Tryz.prog 200 #[.slice A0 l0.length c0, .string a1] w fun e w' => e = .returned (.int .i64 r) ∧ Drawn0 w w' := by
  have HR0 := Aside0.mk hr0
  have HC0 := Aside0.mk hc0
  clear hr0 hc0
  have H : (slices_Index_string_string.l0 k l0 a1 (l0.length : Int) 0) = some r := h
  clear h
  have H' := Aside0.mk H
  clear H
  go_enter Tryz.func200, Tryz.ntmps200
  go_wp2
  go_loopg [8] k (fun kq v8 w' => ∃ (x8_1 : Int), v8 = .int .i64 x8_1 ∧ Aside0 (slices_Index_string_string.l0 kq l0 a1 (l0.length : Int) x8_1 = some r) ∧ Aside0 (kq ≤ k) ∧ Drawn0 w w')
  case atStart => exact ⟨(0), (by first | rfl | (simp; done) | (simp [*]; done)), H', ⟨Nat.le_refl _⟩, by repeat (first | exact Drawn0.refl _ | apply Drawn0.step)⟩
  case round =>
    clear H'
    try clear c2
    try clear p2
    obtain ⟨x8_1, rfl, HA, HK1, ⟨m1, rfl⟩⟩ := hrel
    cases gk with
    | zero => exact absurd HA.out (by simp [slices_Index_string_string.l0])
    | succ k1 =>
      have H := HA.out
      clear HA
      simp only [slices_Index_string_string.l0] at H
      by_cases c3 : x8_1 < (l0.length : Int)
      · rw [if_pos c3] at H
        have c3b0 : decide (x8_1 < (l0.length : Int)) = true := decide_eq_true c3
        clear c3
        by_cases c4 : 0 ≤ x8_1
        · rw [if_pos c4] at H
          have c4b0 : decide (0 ≤ x8_1) = true := decide_eq_true c4
          clear c4
          by_cases c5 : x8_1 < (l0.length : Int)
          · rw [if_pos c5] at H
            have c5b0 : decide (x8_1 < (l0.length : Int)) = true := decide_eq_true c5
            clear c5
            by_cases c6 : a1.toList = (rdOf ByteArray.empty l0 x8_1).toList
            · rw [if_pos c6] at H
              have c6b0 : (a1.toList == (rdOf ByteArray.empty l0 x8_1).toList) = true := beq_iff_eq.mpr c6
              have c6b1 : (a1.toList != (rdOf ByteArray.empty l0 x8_1).toList) = false := bne_eq_false_iff_eq.mpr c6
              clear c6
              obtain rfl := Option.some.inj H
              have p242 : 0 ≤ (x8_1 : Int) := of_decide_eq_true (by first | (with_reducible assumption) | assumption)
              have q242 : x8_1 < (l0.length : Int) := of_decide_eq_true (by first | (with_reducible assumption) | assumption)
              obtain ⟨ad242, e242, hx242_0⟩ := Kd.at_string HR0.out x8_1 p242 q242
              cases e242
              replace p242 := eq_true p242
              replace q242 := eq_true q242
              go_wp2
              go_ret
              exact ⟨by first | rfl | (simp; done) | (simp [*]; done), by repeat (first | exact Drawn0.refl _ | apply Drawn0.step)⟩
            · rw [if_neg c6] at H
              have c6b0 : (a1.toList == (rdOf ByteArray.empty l0 x8_1).toList) = false := beq_eq_false_iff_ne.mpr c6
              have c6b1 : (a1.toList != (rdOf ByteArray.empty l0 x8_1).toList) = true := bne_iff_ne.mpr c6
              have H' := Aside0.mk H
              clear H
              have p242 : 0 ≤ (x8_1 : Int) := of_decide_eq_true (by first | (with_reducible assumption) | assumption)
              have q242 : x8_1 < (l0.length : Int) := of_decide_eq_true (by first | (with_reducible assumption) | assumption)
              obtain ⟨ad242, e242, hx242_0⟩ := Kd.at_string HR0.out x8_1 p242 q242
              cases e242
              replace p242 := eq_true p242
              replace q242 := eq_true q242
              go_wp2
              go_roundg k1
              case measure => have := HK1.out; omega
              case rel => exact ⟨(wrap64 (x8_1 + 1)), (by first | rfl | (simp; done) | (simp [*]; done)), H', ⟨by have := HK1.out; omega⟩, by repeat (first | exact Drawn0.refl _ | apply Drawn0.step)⟩
          · rw [if_neg c5] at H
            exact absurd H (by simp)
        · rw [if_neg c4] at H
          exact absurd H (by simp)
      · rw [if_neg c3] at H
        have c3b0 : decide (x8_1 < (l0.length : Int)) = false := decide_eq_false c3
        clear c3
        obtain rfl := Option.some.inj H
        go_wp2
        go_ret
        exact ⟨by first | rfl | (simp; done) | (simp [*]; done), by repeat (first | exact Drawn0.refl _ | apply Drawn0.step)⟩
end Go.Proofs.YteccaekalcjihaaGreatDoor.PTn
namespace Go.Proofs.YteccaekalcjihaaGreatDoor.PTn
open Go.RowKit Go.Proofs.YteccaekalcjihaaGreatDoorW.PrintWords Go.Proofs.YteccaekalcjihaaGreatDoorW.PrintLast Go.Proofs.YteccaekalcjihaaGreatDoorW.PrintMore
attribute [local go_sem] max2_int min2_int max_two min_two max_three min_three max_four min_four
set_option linter.unusedVariables false
set_option linter.unusedSimpArgs false
def slices_Contains_string_string.f (k : Nat) (l0 : List ByteArray) (a1 : ByteArray) : Option (Bool) := (slices_Index_string_string.f k l0 a1).bind fun t243 => (some (decide (t243 ≥ 0)))
set_option maxHeartbeats 8000000 in
set_option maxRecDepth 100000 in
theorem slices_Contains_string_string.calls (k : Nat) (A0 : Option Addr) (c0 : Nat) (l0 : List ByteArray) (a1 : ByteArray) (r : Bool) (w : World) (hr0 : Kd.C Kd.string w A0 l0.length l0) (hc0 : l0.length ≤ c0) (h : slices_Contains_string_string.f k l0 a1 = some r) :
    Calls Tryz.prog 181 #[.slice A0 l0.length c0, .string a1] w fun e w' => e = .returned (.bool r) ∧ Drawn0 w w' := by
  have HR0 := Aside0.mk hr0
  have HC0 := Aside0.mk hc0
  clear hr0 hc0
  have H : ((slices_Index_string_string.f k l0 a1).bind fun t243 => (some (decide (t243 ≥ 0)))) = some r := h
  clear h
  replace H := Option.bind_eq_some_iff.mp H
  obtain ⟨t243, A30, H⟩ := H
  (try dsimp only at H)
  have A3 := Aside0.mk A30
  clear A30
  obtain rfl := Option.some.inj H
  go_enter Tryz.func181, Tryz.ntmps181
  go_wp2_with (first | ((with_reducible refine gate_callee (f := 200) rfl ?_); refine goesL_ (some 7) rfl rfl Tryz.func200 (by kernel_rfl) rfl #[.slice A0 l0.length c0, .string a1] rfl (by simp only [List.map_toArray, List.map_cons, List.map_nil] <;> rfl) ?_; (with_reducible refine (slices_Index_string_string.calls k _ _ l0 a1 t243 _ ?side1 ?side2 A3.out).mono ?_); (case side1 => repeat (first | exact HR0.out | (with_reducible refine Kd.C_alloc ?_ _) | (with_reducible refine Kd.C_drewN ?_ _) | (with_reducible refine Kd.C_drew ?_))); (case side2 => exact HC0.out); rintro e w' ⟨rfl, ⟨nd, rfl⟩⟩; refine ⟨_, rfl, ?_⟩))
  go_ret
  exact ⟨by first | rfl | (simp; done) | (simp [*]; done), by repeat (first | exact Drawn0.refl _ | apply Drawn0.step)⟩
end Go.Proofs.YteccaekalcjihaaGreatDoor.PTn
namespace Go.Proofs.YteccaekalcjihaaGreatDoor.PTn
open Go.RowKit Go.Proofs.YteccaekalcjihaaGreatDoorW.PrintWords Go.Proofs.YteccaekalcjihaaGreatDoorW.PrintLast Go.Proofs.YteccaekalcjihaaGreatDoorW.PrintMore
attribute [local go_sem] max2_int min2_int max_two min_two max_three min_three max_four min_four
set_option linter.unusedVariables false
set_option linter.unusedSimpArgs false
def kinds_one.f (k : Nat) (a0 : ByteArray) (l1 : List ByteArray) : Option (Bool) := (slices_Contains_string_string.f k l1 a0).bind fun t244 => (some t244)
set_option maxHeartbeats 8000000 in
set_option maxRecDepth 100000 in
theorem kinds_one.calls (k : Nat) (a0 : ByteArray) (A1 : Option Addr) (c1 : Nat) (l1 : List ByteArray) (r : Bool) (w : World) (hr1 : Kd.C Kd.string w A1 l1.length l1) (hc1 : l1.length ≤ c1) (h : kinds_one.f k a0 l1 = some r) :
    Calls Tryz.prog 147 #[.string a0, .slice A1 l1.length c1] w fun e w' => e = .returned (.bool r) ∧ Drawn0 w w' := by
  have HR1 := Aside0.mk hr1
  have HC1 := Aside0.mk hc1
  clear hr1 hc1
  have H : ((slices_Contains_string_string.f k l1 a0).bind fun t244 => (some t244)) = some r := h
  clear h
  replace H := Option.bind_eq_some_iff.mp H
  obtain ⟨t244, A30, H⟩ := H
  (try dsimp only at H)
  have A3 := Aside0.mk A30
  clear A30
  obtain rfl := Option.some.inj H
  go_enter Tryz.func147, Tryz.ntmps147
  go_wp2_with (first | ((with_reducible refine gate_callee (f := 181) rfl ?_); refine goesL_ (some 7) rfl rfl Tryz.func181 (by kernel_rfl) rfl #[.slice A1 l1.length c1, .string a0] rfl (by simp only [List.map_toArray, List.map_cons, List.map_nil] <;> rfl) ?_; (with_reducible refine (slices_Contains_string_string.calls k _ _ l1 a0 t244 _ ?side1 ?side2 A3.out).mono ?_); (case side1 => repeat (first | exact HR1.out | (with_reducible refine Kd.C_alloc ?_ _) | (with_reducible refine Kd.C_drewN ?_ _) | (with_reducible refine Kd.C_drew ?_))); (case side2 => exact HC1.out); rintro e w' ⟨rfl, ⟨nd, rfl⟩⟩; refine ⟨_, rfl, ?_⟩))
  go_ret
  exact ⟨by first | rfl | (simp; done) | (simp [*]; done), by repeat (first | exact Drawn0.refl _ | apply Drawn0.step)⟩
end Go.Proofs.YteccaekalcjihaaGreatDoor.PTn
set_option linter.unusedVariables false
set_option linter.unusedSimpArgs false
namespace Go.Proofs.YteccaekalcjihaaGreatDoor.Rend
open Go.RowKit Go.Proofs.YteccaekalcjihaaGreatDoor.PTn Go.Proofs.YteccaekalcjihaaGreatDoorW.PrintWords Go.Proofs.YteccaekalcjihaaGreatDoorW.PrintLast
theorem wrap_up {i n : Nat} (h : i < n) (hn : n ≤ 1000) : wrap64 ((i : Int) + 1) = ((i + 1 : Nat) : Int) := by
  unfold wrap64
  omega
def hasN (L : List ByteArray) (s : ByteArray) : Bool := L.any (fun x => s.toList == x.toList)
theorem index_l0 (xs : List ByteArray) (s : ByteArray) (hn : xs.length ≤ 1000) (d : Nat) : ∀ (k i : Nat), xs.length - i = d → i ≤ xs.length → d < k →
    ∃ r, slices_Index_string_string.l0 k xs s (xs.length : Int) (i : Int) = some r ∧ decide (r ≥ 0) = hasN (xs.drop i) s := by
  induction d with
  | zero =>
    intro k i hd hi hk
    obtain ⟨k, rfl⟩ : ∃ m, k = m + 1 := ⟨k - 1, by omega⟩
    obtain rfl : i = xs.length := by omega
    refine ⟨-1, ?_, ?_⟩
    · simp only [slices_Index_string_string.l0]
      rw [if_neg (by omega)]
    · simp [hasN]
  | succ d ih =>
    intro k i hd hi hk
    obtain ⟨k, rfl⟩ : ∃ m, k = m + 1 := ⟨k - 1, by omega⟩
    have hlt : i < xs.length := by omega
    have hdrop : xs.drop i = xs[i] :: xs.drop (i + 1) := by simp
    have hrd : rdOf ByteArray.empty xs (i : Int) = xs[i] := by simp [rdOf, hlt]
    by_cases hc : s.toList = xs[i].toList
    · refine ⟨i, ?_, ?_⟩
      · simp only [slices_Index_string_string.l0]
        rw [if_pos (by omega), if_pos (by omega), if_pos (by omega), hrd, if_pos hc]
      · rw [hdrop]
        show decide ((i : Int) ≥ 0) = (s.toList == xs[i].toList || hasN (xs.drop (i + 1)) s)
        rw [beq_iff_eq.mpr hc, Bool.true_or]
        exact decide_eq_true (by omega)
    · obtain ⟨r, hr, hb⟩ := ih k (i + 1) (by omega) (by omega) (by omega)
      refine ⟨r, ?_, ?_⟩
      · simp only [slices_Index_string_string.l0]
        rw [if_pos (by omega), if_pos (by omega), if_pos (by omega), hrd, if_neg hc, wrap_up hlt hn]
        exact hr
      · rw [hb, hdrop]
        have hc' : (s.toList == xs[i].toList) = false := beq_eq_false_iff_ne.mpr hc
        show hasN (xs.drop (i + 1)) s = (s.toList == xs[i].toList || hasN (xs.drop (i + 1)) s)
        rw [hc', Bool.false_or]
theorem one_at (L : List ByteArray) (s : ByteArray) (k : Nat) (hn : L.length ≤ 1000) (hk : L.length < k) : kinds_one.f k s L = some (hasN L s) := by
  obtain ⟨r, hr, hb⟩ := index_l0 L s hn L.length k 0 (by omega) (by omega) hk
  unfold kinds_one.f slices_Contains_string_string.f slices_Index_string_string.f
  have hr' : slices_Index_string_string.l0 k L s (L.length : Int) 0 = some r := hr
  rw [hr']
  simp only [Option.bind_some]
  rw [hb, List.drop_zero]
def LH : List ByteArray := [(⟨#[104, 101, 97, 100]⟩ : ByteArray), (⟨#[105, 102, 114, 97, 109, 101]⟩ : ByteArray), (⟨#[110, 111, 101, 109, 98, 101, 100]⟩ : ByteArray), (⟨#[110, 111, 102, 114, 97, 109, 101, 115]⟩ : ByteArray), (⟨#[110, 111, 115, 99, 114, 105, 112, 116]⟩ : ByteArray), (⟨#[115, 99, 114, 105, 112, 116]⟩ : ByteArray), (⟨#[115, 116, 121, 108, 101]⟩ : ByteArray), (⟨#[116, 101, 109, 112, 108, 97, 116, 101]⟩ : ByteArray), (⟨#[116, 105, 116, 108, 101]⟩ : ByteArray)]
def LK : List ByteArray := [(⟨#[108, 105, 115, 116, 105, 110, 103]⟩ : ByteArray), (⟨#[112, 108, 97, 105, 110, 116, 101, 120, 116]⟩ : ByteArray), (⟨#[112, 114, 101]⟩ : ByteArray), (⟨#[116, 101, 120, 116, 97, 114, 101, 97]⟩ : ByteArray), (⟨#[120, 109, 112]⟩ : ByteArray)]
def L2 : List ByteArray := [(⟨#[98, 108, 111, 99, 107, 113, 117, 111, 116, 101]⟩ : ByteArray), (⟨#[104, 49]⟩ : ByteArray), (⟨#[104, 50]⟩ : ByteArray), (⟨#[104, 51]⟩ : ByteArray), (⟨#[104, 52]⟩ : ByteArray), (⟨#[104, 53]⟩ : ByteArray), (⟨#[104, 54]⟩ : ByteArray), (⟨#[108, 105, 115, 116, 105, 110, 103]⟩ : ByteArray), (⟨#[111, 108]⟩ : ByteArray), (⟨#[112]⟩ : ByteArray), (⟨#[112, 108, 97, 105, 110, 116, 101, 120, 116]⟩ : ByteArray), (⟨#[112, 114, 101]⟩ : ByteArray), (⟨#[116, 97, 98, 108, 101]⟩ : ByteArray), (⟨#[117, 108]⟩ : ByteArray), (⟨#[120, 109, 112]⟩ : ByteArray)]
def LA : List ByteArray := [(⟨#[97, 100, 100, 114, 101, 115, 115]⟩ : ByteArray), (⟨#[97, 114, 116, 105, 99, 108, 101]⟩ : ByteArray), (⟨#[97, 115, 105, 100, 101]⟩ : ByteArray), (⟨#[98, 111, 100, 121]⟩ : ByteArray), (⟨#[99, 101, 110, 116, 101, 114]⟩ : ByteArray), (⟨#[100, 100]⟩ : ByteArray), (⟨#[100, 101, 116, 97, 105, 108, 115]⟩ : ByteArray), (⟨#[100, 105, 97, 108, 111, 103]⟩ : ByteArray), (⟨#[100, 105, 114]⟩ : ByteArray), (⟨#[100, 105, 118]⟩ : ByteArray), (⟨#[100, 108]⟩ : ByteArray), (⟨#[100, 116]⟩ : ByteArray), (⟨#[102, 105, 101, 108, 100, 115, 101, 116]⟩ : ByteArray), (⟨#[102, 105, 103, 99, 97, 112, 116, 105, 111, 110]⟩ : ByteArray), (⟨#[102, 105, 103, 117, 114, 101]⟩ : ByteArray), (⟨#[102, 111, 111, 116, 101, 114]⟩ : ByteArray), (⟨#[102, 111, 114, 109]⟩ : ByteArray)]
def LB : List ByteArray := [(⟨#[104, 101, 97, 100, 101, 114]⟩ : ByteArray), (⟨#[104, 103, 114, 111, 117, 112]⟩ : ByteArray), (⟨#[104, 114]⟩ : ByteArray), (⟨#[104, 116, 109, 108]⟩ : ByteArray), (⟨#[108, 101, 103, 101, 110, 100]⟩ : ByteArray), (⟨#[108, 105]⟩ : ByteArray), (⟨#[109, 97, 105, 110]⟩ : ByteArray), (⟨#[109, 101, 110, 117]⟩ : ByteArray), (⟨#[110, 97, 118]⟩ : ByteArray), (⟨#[111, 112, 116, 105, 111, 110]⟩ : ByteArray), (⟨#[115, 101, 97, 114, 99, 104]⟩ : ByteArray), (⟨#[115, 101, 99, 116, 105, 111, 110]⟩ : ByteArray), (⟨#[115, 117, 109, 109, 97, 114, 121]⟩ : ByteArray), (⟨#[116, 114]⟩ : ByteArray)]
def linesN (s : ByteArray) : Int := if hasN L2 s = true then 2 else if hasN LA s = true then 1 else if hasN LB s = true then 1 else 0
theorem strs_row (w : World) (L : List ByteArray) (hl : L.length ≤ 1000) (t : Nat) : Kd.C Kd.string (w.alloc (.cells (L.map Value.string).toArray t)) (some ⟨w.heap.size, 0, none⟩) L.length L := by
  refine Kd.C_of_reads (h1 := fun _ => rfl) (d := ⟨#[]⟩) ⟨rfl, by omega, fun _ => ⟨_, rfl, fun j hj => ?_⟩⟩
  have hadd : (⟨w.heap.size, 0, none⟩ : Addr).add j = ⟨w.heap.size, j, none⟩ := by unfold Addr.add; split <;> simp_all
  rw [hadd, Lib.cell_of_heap (heap_alloc_new w _)]
  simp [hj, List.getD_eq_getElem?_getD]
theorem one_new (L : List ByteArray) (hl : L.length ≤ 100) (s : ByteArray) (w : World) (t : Nat) : Calls Tryz.prog 147 #[.string s, .slice (some ⟨w.heap.size, 0, none⟩) L.length L.length] (w.alloc (.cells (L.map Value.string).toArray t)) fun e w' => e = .returned (.bool (hasN L s)) ∧ Below w.heap.size w w' :=
  (kinds_one.calls 101 s _ _ L _ _ (strs_row w L (by omega) t) (Nat.le_refl _) (one_at L s 101 (by omega) (by omega))).mono fun e w' ⟨h1, n, h2⟩ => ⟨h1, h2 ▸ pw_below_drewN ((Below.refl _ w).alloc (Nat.le_refl _) _) n⟩
set_option maxHeartbeats 4000000 in
set_option maxRecDepth 100000 in
theorem hides_calls (s : ByteArray) (w : World) : Calls Tryz.prog 96 #[.string s] w fun e w' => e = .returned (.bool (hasN LH s)) ∧ Below w.heap.size w w' := by
  go_enter Tryz.func96, Tryz.ntmps96
  go_wp2_with (go_at_call 147; refine (one_new LH (by decide) s w 9).mono ?_; rintro e w1 ⟨rfl, hb⟩)
  go_ret
  exact ⟨rfl, hb⟩
set_option maxHeartbeats 4000000 in
set_option maxRecDepth 100000 in
theorem keeps_calls (s : ByteArray) (w : World) : Calls Tryz.prog 98 #[.string s] w fun e w' => e = .returned (.bool (hasN LK s)) ∧ Below w.heap.size w w' := by
  go_enter Tryz.func98, Tryz.ntmps98
  go_wp2_with (go_at_call 147; refine (one_new LK (by decide) s w 9).mono ?_; rintro e w1 ⟨rfl, hb⟩)
  go_ret
  exact ⟨rfl, hb⟩
set_option maxHeartbeats 8000000 in
set_option maxRecDepth 100000 in
theorem lines_calls (s : ByteArray) (w : World) : Calls Tryz.prog 149 #[.string s] w fun e w' => e = .returned (.int .i64 (linesN s)) ∧ Below w.heap.size w w' := by
  unfold linesN
  cases h2 : hasN L2 s with
  | true =>
    go_enter Tryz.func149, Tryz.ntmps149
    go_wp2_with (go_at_call 147; refine (one_new L2 (by decide) s w 9).mono ?_; rw [h2]; rintro e w1 ⟨rfl, hb⟩)
    go_ret
    exact ⟨rfl, hb⟩
  | false =>
    cases ha : hasN LA s with
    | true =>
      go_enter Tryz.func149, Tryz.ntmps149
      go_wp2_with (first | (go_at_call 147; refine (one_new L2 (by decide) s w 9).mono ?_; rw [h2]; rintro e w1 ⟨rfl, hb1⟩) | (go_at_call 147; refine (one_new LA (by decide) s w1 9).mono ?_; rw [ha]; rintro e w2 ⟨rfl, hb2⟩))
      go_ret
      exact ⟨rfl, below_step hb1 hb2⟩
    | false =>
      cases hb : hasN LB s with
      | true =>
        go_enter Tryz.func149, Tryz.ntmps149
        go_wp2_with (first | (go_at_call 147; refine (one_new L2 (by decide) s w 9).mono ?_; rw [h2]; rintro e w1 ⟨rfl, hb1⟩) | (go_at_call 147; refine (one_new LA (by decide) s w1 9).mono ?_; rw [ha]; rintro e w2 ⟨rfl, hb2⟩) | (go_at_call 147; refine (one_new LB (by decide) s w2 9).mono ?_; rw [hb]; rintro e w3 ⟨rfl, hb3⟩))
        go_ret
        exact ⟨rfl, below_step (below_step hb1 hb2) hb3⟩
      | false =>
        go_enter Tryz.func149, Tryz.ntmps149
        go_wp2_with (first | (go_at_call 147; refine (one_new L2 (by decide) s w 9).mono ?_; rw [h2]; rintro e w1 ⟨rfl, hb1⟩) | (go_at_call 147; refine (one_new LA (by decide) s w1 9).mono ?_; rw [ha]; rintro e w2 ⟨rfl, hb2⟩) | (go_at_call 147; refine (one_new LB (by decide) s w2 9).mono ?_; rw [hb]; rintro e w3 ⟨rfl, hb3⟩))
        go_ret
        exact ⟨rfl, below_step (below_step hb1 hb2) hb3⟩
theorem linesN_cases (s : ByteArray) : linesN s = 0 ∨ linesN s = 1 ∨ linesN s = 2 := by
  unfold linesN
  repeat' split
  all_goals simp
end Go.Proofs.YteccaekalcjihaaGreatDoor.Rend
namespace Go.Proofs
open Go.Shelf
def Tryz.lays105_ren : Go.Shelf.Ren := ⟨fun | 105 => 153 | 212 => 182 | 99 => 156 | 165 => 183 | 166 => 26 | 170 => 152 | 169 => 22 | 263 => 201 | 264 => 202 | 206 => 125 | 240 => 67 | 241 => 203 | 276 => 124 | 277 => 218 | n => n, fun | 9 => 9 | 3 => 3 | 4 => 4 | 20 => 20 | 0 => 0 | 46 => 168 | 109 => 169 | 5 => 5 | 72 => 44 | 76 => 52 | 51 => 183 | 146 => 184 | 53 => 177 | 148 => 186 | 70 => 42 | 37 => 22 | 75 => 47 | 127 => 102 | 164 => 137 | 80 => 45 | n => n, fun | n => n⟩
theorem Tryz.lays105 : Go.Proofs.Lays.n105 Tryz.prog Tryz.lays105_ren := {
  mixed := by kernel_rfl
  f99 := Tryz.func156.trans (congrArg some (by kernel_rfl))
  f105 := Tryz.func153.trans (congrArg some (by kernel_rfl))
  f165 := Tryz.func183.trans (congrArg some (by kernel_rfl))
  f166 := Tryz.func26.trans (congrArg some (by kernel_rfl))
  f169 := Tryz.func22.trans (congrArg some (by kernel_rfl))
  f170 := Tryz.func152.trans (congrArg some (by kernel_rfl))
  f206 := Tryz.func125.trans (congrArg some (by kernel_rfl))
  f212 := Tryz.func182.trans (congrArg some (by kernel_rfl))
  f240 := Tryz.func67.trans (congrArg some (by kernel_rfl))
  f241 := Tryz.func203.trans (congrArg some (by kernel_rfl))
  f263 := Tryz.func201.trans (congrArg some (by kernel_rfl))
  f264 := Tryz.func202.trans (congrArg some (by kernel_rfl))
  f276 := Tryz.func124.trans (congrArg some (by kernel_rfl))
  f277 := Tryz.func218.trans (congrArg some (by kernel_rfl))
  t0 := Tryz.underlying0
  a0 := Tryz.isAgg0
  z0 := Tryz.sizeOf0
  v0 := Tryz.zeroValue0
  t3 := Tryz.underlying3
  a3 := Tryz.isAgg3
  z3 := Tryz.sizeOf3
  v3 := Tryz.zeroValue3
  t4 := Tryz.underlying4
  a4 := Tryz.isAgg4
  z4 := Tryz.sizeOf4
  v4 := Tryz.zeroValue4
  t5 := Tryz.underlying5
  a5 := Tryz.isAgg5
  z5 := Tryz.sizeOf5
  v5 := Tryz.zeroValue5
  t9 := Tryz.underlying9
  a9 := Tryz.isAgg9
  z9 := Tryz.sizeOf9
  v9 := Tryz.zeroValue9
  t20 := Tryz.underlying20
  a20 := Tryz.isAgg20
  z20 := Tryz.sizeOf20
  v20 := Tryz.zeroValue20
  t37 := Tryz.underlying22
  a37 := Tryz.isAgg22
  z37 := Tryz.sizeOf22
  v37 := Tryz.zeroValue22
  t46 := Tryz.underlying168
  a46 := Tryz.isAgg168
  z46 := Tryz.sizeOf168
  v46 := Tryz.zeroValue168
  t51 := Tryz.underlying183
  a51 := Tryz.isAgg183
  z51 := Tryz.sizeOf183
  v51 := Tryz.zeroValue183
  t53 := Tryz.underlying177
  a53 := Tryz.isAgg177
  z53 := Tryz.sizeOf177
  v53 := Tryz.zeroValue177
  t70 := Tryz.underlying42
  a70 := Tryz.isAgg42
  z70 := Tryz.sizeOf42
  v70 := Tryz.zeroValue42
  t72 := Tryz.underlying44
  a72 := Tryz.isAgg44
  z72 := Tryz.sizeOf44
  v72 := Tryz.zeroValue44
  t75 := Tryz.underlying47
  a75 := Tryz.isAgg47
  z75 := Tryz.sizeOf47
  v75 := Tryz.zeroValue47
  t76 := Tryz.underlying52
  a76 := Tryz.isAgg52
  z76 := Tryz.sizeOf52
  v76 := Tryz.zeroValue52
  t109 := Tryz.underlying169
  a109 := Tryz.isAgg169
  z109 := Tryz.sizeOf169
  v109 := Tryz.zeroValue169
  t127 := Tryz.underlying102
  a127 := Tryz.isAgg102
  z127 := Tryz.sizeOf102
  v127 := Tryz.zeroValue102
  t146 := Tryz.underlying184
  a146 := Tryz.isAgg184
  z146 := Tryz.sizeOf184
  v146 := Tryz.zeroValue184
  t148 := Tryz.underlying186
  a148 := Tryz.isAgg186
  z148 := Tryz.sizeOf186
  v148 := Tryz.zeroValue186
  t164 := Tryz.underlying137
  a164 := Tryz.isAgg137
  z164 := Tryz.sizeOf137
  v164 := Tryz.zeroValue137 }
theorem Tryz.Builder_Extra_105 : Builder.Extra Tryz.prog Tryz.lays105_ren := {
  sizeBuilder := by kernel_rfl
  liesBuilder := by kernel_rfl
  t5 := Tryz.underlying5
  a5 := Tryz.isAgg5
  z5 := Tryz.sizeOf5
  v5 := Tryz.zeroValue5
  infoByte := by kernel_rfl
  cellsByte := by kernel_rfl
  sizeByte := by kernel_rfl
  neB5 := by decide }
open Go.RowKit Go.Lib in
theorem Tryz.strings_Repeat (s : ByteArray) (c : Nat) (w : World) (hc : c ≤ 9223372036854775807) (hlen : s.size * c ≤ 140737488355328) :
    Calls Tryz.prog 153 #[.string s, .int .i64 c] w fun e w' => e = .returned (.string ⟨(Lib.repeatL s.data.toList c).toArray⟩) ∧ Below w.heap.size w w' := Any.strings_Repeat Tryz.lays105 Tryz.Builder_Extra_105 s c w hc hlen
end Go.Proofs
set_option linter.unusedVariables false
namespace Go.Proofs.YteccaekalcjihaaGreatDoor.Flow
open Go.RowKit Go.Lib Go.Proofs.YteccaekalcjihaaGreatDoor.Buf
structure M where
  told : List UInt8
  blanks : List UInt8
  ends : Nat
def M.line (m : M) : M := { m with ends := m.ends + 1, blanks := [] }
def M.brk (n : Int) (m : M) : M := { m with ends := max m.ends (min n 100).toNat, blanks := [] }
def M.lose (m : M) : M := if m.ends = 0 ∧ m.blanks = [] then { m with blanks := [32] } else m
def M.keep (c : UInt8) (m : M) : M := if c = 10 ∨ c = 13 then m.line else { m with blanks := m.blanks ++ [c] }
def M.word (c : UInt8) (m : M) : M := { told := (if m.told = [] then [] else m.told ++ List.replicate m.ends 10 ++ m.blanks) ++ [c], blanks := [], ends := 0 }
def isBlank (c : UInt8) : Bool := c == 9 || c == 10 || c == 12 || c == 13 || c == 32
def M.put1 (k : Bool) (c : UInt8) (m : M) : M := if c = 0 then m else if isBlank c = true then (if k = true then m.keep c else m.lose) else m.word c
def M.put (k : Bool) (s : List UInt8) (m : M) : M := s.foldl (fun m c => m.put1 k c) m
structure IsF (w : World) (b : Nat) (F : Nat → Prop) (a v l : Value) (m : M) : Prop where
  heap : w.heap[b]? = some (.cells #[a, v, .int .i64 m.ends, l] 119 (0, 0))
  addr : a = .pointer none ∨ a = .pointer (some ⟨b, 0, none⟩)
  told : w.ownsRowF 0 5 1 v m.told.length (byteCells m.told)
  blanks : w.ownsRowF 0 5 1 l m.blanks.length (byteCells m.blanks)
  nv : v.ownBlock ≠ some b
  nl : l.ownBlock ≠ some b
  apart : ∀ k, v.ownBlock = some k → l.ownBlock ≠ some k
  fb : F b
  fv : ∀ k, v.ownBlock = some k → F k
  fl : ∀ k, l.ownBlock = some k → F k
  fin : ∀ k, F k → k < w.heap.size
def Fl (w : World) (b : Nat) (F : Nat → Prop) (m : M) : Prop := ∃ a v l, IsF w b F a v l m
theorem Fl.kp {w w' : World} {b : Nat} {F G : Nat → Prop} {m : M} (h : Fl w b F m) (hk : Kp G w w') (hd : ∀ k, F k → ¬ G k) : Fl w' b F m := by
  obtain ⟨a, v, l, h⟩ := h
  refine ⟨a, v, l, (hk.block b (Buf.lt_of_heap h.heap) (hd b h.fb)).trans h.heap, h.addr, ownsF_kp h.told hk (fun k e => hd k (h.fv k e)), ownsF_kp h.blanks hk (fun k e => hd k (h.fl k e)), h.nv, h.nl, h.apart, h.fb, h.fv, h.fl, fun k hf => Nat.lt_of_lt_of_le (h.fin k hf) hk.size⟩
theorem liesF : liesAt Tryz.prog Tryz.prog.depth 119 (4 / Tryz.prog.cellsOf 119) 0 44 1 = true := by kernel_rfl
theorem IsF.at {w : World} {b : Nat} {F : Nat → Prop} {a v l : Value} {m : M} (h : IsF w b F a v l m) : At w 119 b #[a, v, .int .i64 m.ends, l] v := ⟨h.heap, by simpa using h.addr, rfl, liesF⟩
def Does (w w' : World) (b : Nat) (F : Nat → Prop) (m' : M) : Prop := ∃ F', Fl w' b F' m' ∧ Kp F w w' ∧ ∀ k, F' k → F k ∨ w.heap.size ≤ k
section
variable {w : World} {b : Nat} {F : Nat → Prop} {m : M}
theorem cells_of {a v l : Value} (h : IsF w b F a v l m) : w.cell? ⟨b, 2, none⟩ = some (.int .i64 m.ends) ∧ w.cell? ⟨b, 3, none⟩ = some l ∧ (∀ j, w.frozen? ⟨b, j, none⟩ = false) := by
  refine ⟨?_, ?_, fun j => Lib.frozen_of_heap h.heap j⟩
  · rw [Lib.cell_of_heap h.heap]; rfl
  · rw [Lib.cell_of_heap h.heap]; rfl
theorem two_set {a v l : Value} (h : IsF w b F a v l m) (n : Nat) : Does w ((w.setCell ⟨b, 2, none⟩ (.int .i64 n)).setCell ⟨b, 3, none⟩ (.slice none 0 0)) b F { m with ends := n, blanks := [] } := by
  have hk : Kp F w ((w.setCell ⟨b, 2, none⟩ (.int .i64 n)).setCell ⟨b, 3, none⟩ (.slice none 0 0)) := ((Kp.refl F w).setCell (p := ⟨b, 2, none⟩) h.fb _).setCell (p := ⟨b, 3, none⟩) h.fb _
  have hk' : Kp (fun k => k = b) w ((w.setCell ⟨b, 2, none⟩ (.int .i64 n)).setCell ⟨b, 3, none⟩ (.slice none 0 0)) := ((Kp.refl (fun k => k = b) w).setCell (p := ⟨b, 2, none⟩) rfl _).setCell (p := ⟨b, 3, none⟩) rfl _
  have h1 := heap_setCell_self (heap_setCell_self h.heap (j := 2) (.int .i64 n)) (j := 3) (.slice none 0 0)
  refine ⟨F, ⟨a, v, .slice none 0 0, h1, h.addr, ownsF_kp h.told hk' (fun k e hb => h.nv (hb ▸ e)), ⟨by simp [byteCells], .inl ⟨rfl, rfl⟩⟩, h.nv, by simp [Value.ownBlock], fun k _ => by simp [Value.ownBlock], h.fb, h.fv, by simp [Value.ownBlock], fun k hf => Nat.lt_of_lt_of_le (h.fin k hf) hk.size⟩, hk, fun k hf => Or.inl hf⟩
set_option maxHeartbeats 1000000 in
set_option maxRecDepth 100000 in
theorem line_at (h : Fl w b F m) (hb : m.ends ≤ 1000000000) : Calls Tryz.prog 148 #[.pointer (some ⟨b, 0, none⟩)] w fun e w' => e = .returned (.tuple #[]) ∧ Does w w' b F m.line := by
  obtain ⟨a, v, l, h⟩ := h
  obtain ⟨c2, c3, hf⟩ := cells_of h
  have hf2 := hf 2
  have hf3 := hf 3
  have hd := two_set h (m.ends + 1)
  rw [Int.natCast_add] at hd
  have HD := Lib.hid hd
  clear h hf hd
  go_enter Tryz.func148, Tryz.ntmps148
  go_wp2
  go_end0
  exact ⟨rfl, HD.out⟩
set_option maxHeartbeats 1000000 in
set_option maxRecDepth 100000 in
theorem brk_at (h : Fl w b F m) (hb : m.ends ≤ 1000000000) (n : Int) (hn : (Lit.int .i64 n).wf = true) : Calls Tryz.prog 150 #[.pointer (some ⟨b, 0, none⟩), .int .i64 n] w fun e w' => e = .returned (.tuple #[]) ∧ Does w w' b F (m.brk n) := by
  obtain ⟨a, v, l, h⟩ := h
  obtain ⟨c2, c3, hf⟩ := cells_of h
  have hf2 := hf 2
  have hf3 := hf 3
  have hd := two_set h (max m.ends (min n 100).toNat)
  have e : ((max m.ends (min n 100).toNat : Nat) : Int) = max (m.ends : Int) (min n 100) := by omega
  rw [e] at hd
  have HD := Lib.hid hd
  clear h hf hd e
  go_enter Tryz.func150, Tryz.ntmps150
  go_wp2
  go_end0
  exact ⟨rfl, HD.out⟩
theorem lose_set {a v l : Value} (h : IsF w b F a v l m) : Does w ((w.setCell ⟨b, 3, none⟩ (.slice (some ⟨w.heap.size, 0, none⟩) 1 1)).alloc (.cells #[.int .u8 32] 5)) b F { m with blanks := [32] } := by
  have hlt := Buf.lt_of_heap h.heap
  have hs0 : (w.setCell ⟨b, 3, none⟩ (.slice (some ⟨w.heap.size, 0, none⟩) 1 1)).heap.size = w.heap.size := by simp [World.setCell]
  have hk : Kp (fun k => k = b) w ((w.setCell ⟨b, 3, none⟩ (.slice (some ⟨w.heap.size, 0, none⟩) 1 1)).alloc (.cells #[.int .u8 32] 5)) := ((Kp.refl (fun k => k = b) w).setCell (p := ⟨b, 3, none⟩) rfl _).alloc _
  have h1 : ((w.setCell ⟨b, 3, none⟩ (.slice (some ⟨w.heap.size, 0, none⟩) 1 1)).alloc (.cells #[.int .u8 32] 5)).heap[b]? = some (.cells (#[a, v, .int .i64 m.ends, l].setIfInBounds 3 (.slice (some ⟨w.heap.size, 0, none⟩) 1 1)) 119 (0, 0)) := (Lib.alloc_old _ _ b (by omega)).trans (heap_setCell_self h.heap (j := 3) (.slice (some ⟨w.heap.size, 0, none⟩) 1 1))
  have hnew : ((w.setCell ⟨b, 3, none⟩ (.slice (some ⟨w.heap.size, 0, none⟩) 1 1)).alloc (.cells #[.int .u8 32] 5)).heap[w.heap.size]? = some (.cells #[.int .u8 32] 5 (0, 0)) := by
    have := heap_alloc_new (w.setCell ⟨b, 3, none⟩ (.slice (some ⟨w.heap.size, 0, none⟩) 1 1)) (.cells #[.int .u8 32] 5)
    rw [hs0] at this
    exact this
  refine ⟨fun k => F k ∨ k = w.heap.size, ⟨a, v, _, h1, h.addr, ownsF_kp h.told hk (fun k e hb => h.nv (hb ▸ e)), ⟨rfl, .inr ⟨w.heap.size, 1, #[.int .u8 32], (0, 0), rfl, Nat.zero_le _, hnew, Nat.zero_le _, Nat.le_refl _, by decide, rfl, rfl⟩⟩, h.nv, ?_, ?_, Or.inl h.fb, fun k e => Or.inl (h.fv k e), ?_, ?_⟩, hk.mono (fun k _ e => by rw [e]; exact h.fb), ?_⟩
  · simp [Value.ownBlock]; omega
  · intro k e
    have := h.fin k (h.fv k e)
    simp [Value.ownBlock]; omega
  · intro k e
    simp [Value.ownBlock] at e
    exact Or.inr e.symm
  · intro k e
    have hs := hk.size
    rcases e with e | e
    · exact Nat.lt_of_lt_of_le (h.fin k e) hs
    · subst e
      simp [World.setCell]
  · rintro k (e | e)
    · exact Or.inl e
    · exact Or.inr (by omega)
theorem does_refl (h : Fl w b F m) : Does w w b F m := ⟨F, h, Kp.refl F w, fun k hf => Or.inl hf⟩
set_option maxHeartbeats 1000000 in
set_option maxRecDepth 100000 in
theorem lose_at (h : Fl w b F m) (hb : m.ends ≤ 1000000000) (c : Int) : Calls Tryz.prog 100 #[.pointer (some ⟨b, 0, none⟩), .int .u8 c] w fun e w' => e = .returned (.tuple #[]) ∧ Does w w' b F m.lose := by
  have hr := does_refl h
  obtain ⟨a, v, l, h⟩ := h
  obtain ⟨c2, c3, hf⟩ := cells_of h
  have hf2 := hf 2
  have hf3 := hf 3
  obtain ⟨ao, cap, rfl⟩ := own_slice w h.blanks
  have hd := lose_set h
  have hlt := Buf.lt_of_heap h.heap
  have ca : ∀ o, (w.alloc o).cell? ⟨b, 3, none⟩ = some (.slice ao m.blanks.length cap) := fun o => by
    rw [Lib.cell_of_heap ((Lib.alloc_old w o b hlt).trans h.heap)]; rfl
  have cf : ∀ o, (w.alloc o).frozen? ⟨b, 3, none⟩ = false := fun o => Lib.frozen_of_heap ((Lib.alloc_old w o b hlt).trans h.heap) 3
  have HD := Lib.hid hd
  have HR := Lib.hid hr
  have HM := Lib.hid (show m.lose = if m.ends = 0 ∧ m.blanks = [] then { m with blanks := [32] } else m from rfl)
  clear h hf hd hr
  by_cases h1 : m.ends = 0
  · have d1 : ((m.ends : Int) == 0) = true := by rw [h1]; rfl
    by_cases h2 : m.blanks = []
    · have d2 : ((m.blanks.length : Int) == 0) = true := by rw [h2]; rfl
      rw [if_pos ⟨h1, h2⟩] at HM
      clear h1 h2
      go_enter Tryz.func100, Tryz.ntmps100
      go_wp2
      go_end0
      exact ⟨rfl, by rw [HM.out]; exact HD.out⟩
    · have d2 : ((m.blanks.length : Int) == 0) = false := by
        rw [beq_eq_false_iff_ne]
        intro e
        exact h2 (List.length_eq_zero_iff.1 (by omega))
      rw [if_neg (fun e => h2 e.2)] at HM
      clear h1 h2
      go_enter Tryz.func100, Tryz.ntmps100
      go_wp2
      go_end0
      exact ⟨rfl, by rw [HM.out]; exact HR.out⟩
  · have d1 : ((m.ends : Int) == 0) = false := by
      rw [beq_eq_false_iff_ne]
      intro e
      exact h1 (by omega)
    rw [if_neg (fun e => h1 e.1)] at HM
    clear h1
    go_enter Tryz.func100, Tryz.ntmps100
    go_wp2
    go_end0
    exact ⟨rfl, by rw [HM.out]; exact HR.out⟩
end
end Go.Proofs.YteccaekalcjihaaGreatDoor.Flow
