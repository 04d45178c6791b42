/- Several texts of this claim, laid together into one file. -/
import Derived.Test.YtaejicolhliecaaProg
import Derived.Below
import Derived.Deep.Draws
import Derived.Deep.AppendLies
import Derived.Maps.AppendAt
import Derived.OwnWalk
import Derived.Laws.BytesArg
import Derived.Laws.MakeOwn
import Derived.Laws.OwnMore
import Derived.Deep.OwnRows
import Derived.Tactics
import Derived.Lib.ConvBytes
import Derived.Laws.Slices
import Derived.WalkKit
import Derived.KernelRfl
import Derived.RowKit3
import Derived.Deep.LoopGhost
import Derived.Deep.QuietTactic
import Derived.BigQuiet
import Derived.WideLaws
import Derived.Deep.DeepCutAuto
import Derived.Deep.CutBlock
import Derived.Deep.RegionHeld3
import Derived.Laws.Rows
import Derived.Lib.AppendStr
import Derived.ArgAppend
import Derived.Laws.IdiomCopy
import Derived.OrdersHeld
import Derived.Laws.BitsLemmas
import Derived.RowKit
import Derived.Test.YtaejicolhliecaaWWords
import Derived.Test.YtaejicolhliecaaWLast
import Derived.Test.YtaejicolhliecaaWTab
import Derived.Test.YtaejicolhliecaaWFour
import Derived.Test.YtaejicolhliecaaWQPut
import Derived.Test.YtaejicolhliecaaWApart
import Derived.Test.YtaejicolhliecaaWArr
import Derived.Test.YtaejicolhliecaaWZeros
import Derived.Test.YtaejicolhliecaaWFoot
import Derived.Test.YtaejicolhliecaaWKept
import Derived.Test.YtaejicolhliecaaWShare
import Derived.Test.YtaejicolhliecaaWN
import Derived.Test.YtaejicolhliecaaWFootNe
import Derived.Test.YtaejicolhliecaaWAt
import Derived.Test.YtaejicolhliecaaWEqStruct
import Derived.Test.YtaejicolhliecaaWRepsOne
import Derived.Test.YtaejicolhliecaaWInv
import Derived.Test.YtaejicolhliecaaWInvWords
import Derived.Test.YtaejicolhliecaaWGuard
import Derived.Test.YtaejicolhliecaaWNEv
import Derived.Test.YtaejicolhliecaaWMore
set_option linter.unusedSimpArgs false
set_option linter.unusedVariables false
/- Written by a program of this session out of the translation, for this claim: a part of the walk of what the law calls, or the row of the law. -/
namespace Go.Proofs.Ytaejicolhliecaa.PRe
open Go.RowKit Go.Proofs.YtaejicolhliecaaW.PrintWords Go.Proofs.YtaejicolhliecaaW.PrintLast Go.Proofs.YtaejicolhliecaaW.PrintMore
attribute [local go_sem] max2_int min2_int max_two min_two max_three min_three max_four min_four   -- for this text's walks alone
set_option linter.unusedVariables false
set_option linter.unusedSimpArgs false



def errW : Option Int → Value
  | none => .nilIface
  | some c => .iface 0 (.int .i64 c)
theorem errW_none : errW none = .nilIface := rfl
theorem errW_some (c : Int) : errW (some c) = .iface 0 (.int .i64 c) := rfl

theorem info9 : (Try.prog.info? 9).map (fun i => (i.zero, i.size, i.bytes)) = some (some (.string ⟨#[]⟩), 1, 16) := by kernel_rfl
theorem info47 : (Try.prog.info? 47).map (fun i => (i.zero, i.size, i.bytes)) = some (some (.agg #[(.int .i64 0), (.string ⟨#[]⟩), (.string ⟨#[]⟩), (.slice none 0 0), (.bool false)]), 5, 72) := by kernel_rfl
theorem info51 : (Try.prog.info? 51).map (fun i => (i.zero, i.size, i.bytes)) = some (some (.agg #[(.string ⟨#[]⟩), (.string ⟨#[]⟩)]), 2, 32) := by kernel_rfl
-- the values' own types
/-! #### struct type 51 -/
structure S51 where
  f0 : ByteArray
  f1 : ByteArray
def z51 : S51 := ⟨(⟨#[]⟩ : ByteArray), (⟨#[]⟩ : ByteArray)⟩
def k51 : Kd S51 := Kd.iso (Kd.pair Kd.string Kd.string) (fun x : S51 => (x.f0, x.f1))
theorem k51_open {w : World} {x : S51} {cs : List Value} (h : k51.K w x cs) : cs = [.string x.f0, .string x.f1] := by
  obtain ⟨_, _, rfl, rfl, rfl⟩ := h
  exact rfl
theorem k51_openM {w : World} {base : Nat} {ok : Nat → Prop} {x : S51} {cs : List Value} (h : k51.M w base ok x cs) : cs = [.string x.f0, .string x.f1] := by
  obtain ⟨_, _, rfl, rfl, rfl⟩ := h
  exact rfl
theorem k51_mk (w : World) (x : S51)  : k51.K w x [.string x.f0, .string x.f1] := ⟨[.string x.f0], [.string x.f1], rfl, rfl, rfl⟩
theorem k51_mkM (w : World) (base : Nat) (ok : Nat → Prop) (x : S51)  : k51.M w base ok x [.string x.f0, .string x.f1] := ⟨[.string x.f0], [.string x.f1], rfl, rfl, rfl⟩
theorem k51_mkF (W : World) (ok : Nat → Prop) (x : S51) : Kd.FK k51 W ok x [.string x.f0, .string x.f1] := fun W2 _ => k51_mk W2 x
def rd_T51 (xs : List S51) (i : Int) : S51 := xs.getD i.toNat z51
theorem at_T51 {w : World} {A : Option Addr} {n : Nat} {xs : List S51} (h : Kd.C k51 w A n xs) (i : Int) (h0 : 0 ≤ i) (h1 : i < n) : ∃ ad , A = some ad ∧ w.cell? (ad.add (i.toNat * 2)) = some (.string (rd_T51 xs i).f0) ∧ w.cell? ⟨(ad.add (i.toNat * 2)).block, (ad.add (i.toNat * 2)).off + 1, none⟩ = some (.string (rd_T51 xs i).f1) := by
  obtain ⟨ad, c, e, _, hK, hc0⟩ := Kd.C_get h z51 i h0 h1
  have hc : ∀ j u, c[j]? = some u → w.cell? (ad.add (i.toNat * 2 + j)) = some u := hc0
  obtain rfl := k51_open hK
  exact ⟨ad, e, hc 0 _ rfl, by rw [← add_field _ _ 1 (by omega)]; exact hc 1 _ rfl⟩

def rd_L3 (xs : List (List S51)) (i : Int) : (List S51) := xs.getD i.toNat ([] : List S51)
theorem at_L3 {w : World} {A : Option Addr} {n : Nat} {xs : List (List S51)} (h : Kd.C (Kd.slice 51 k51) w A n xs) (i : Int) (h0 : 0 ≤ i) (h1 : i < n) : ∃ ad A0 c0, A = some ad ∧ w.cell? (ad.add i.toNat) = some (.slice A0 (rd_L3 xs i).length c0) ∧ (rd_L3 xs i).length ≤ c0 ∧ k51.C w A0 (rd_L3 xs i).length (rd_L3 xs i) := by
  obtain ⟨ad, c, e, _, hK, hc0⟩ := Kd.C_get h ([] : List S51) i h0 h1
  have hc : ∀ j u, c[j]? = some u → w.cell? (ad.add (i.toNat * 1 + j)) = some u := hc0
  obtain ⟨A0, c0, rfl, l0, g0⟩ := hK
  exact ⟨ad, A0, c0, e, by have hq := hc 0 _ rfl; rwa [Nat.mul_one, Nat.add_zero] at hq, l0, g0⟩

/-! #### struct type 47 -/
structure S47 where
  f0 : Int
  f1 : ByteArray
  f2 : ByteArray
  f3 : (List S51)
  f4 : Bool
def z47 : S47 := ⟨(0 : Int), (⟨#[]⟩ : ByteArray), (⟨#[]⟩ : ByteArray), ([] : List S51), false⟩
def k47 : Kd S47 := Kd.iso (Kd.pair (Kd.int .i64) (Kd.pair Kd.string (Kd.pair Kd.string (Kd.pair (Kd.slice 51 k51) Kd.bool)))) (fun x : S47 => (x.f0, x.f1, x.f2, x.f3, x.f4))
theorem k47_open {w : World} {x : S47} {cs : List Value} (h : k47.K w x cs) : ∃ A3 c3, cs = [.int .i64 x.f0, .string x.f1, .string x.f2, .slice A3 x.f3.length c3, .bool x.f4] ∧ x.f3.length ≤ c3 ∧ k51.C w A3 x.f3.length x.f3 := by
  obtain ⟨_, _, rfl, rfl, ⟨_, _, rfl, rfl, ⟨_, _, rfl, rfl, ⟨_, _, rfl, ⟨A3, c3, rfl, l3, g3⟩, rfl⟩⟩⟩⟩ := h
  exact ⟨A3, c3, rfl, l3, g3⟩
theorem k47_openM {w : World} {base : Nat} {ok : Nat → Prop} {x : S47} {cs : List Value} (h : k47.M w base ok x cs) : ∃ v3, cs = [.int .i64 x.f0, .string x.f1, .string x.f2, v3, .bool x.f4] ∧ k51.R 51 w base ok v3 x.f3 := by
  obtain ⟨_, _, rfl, rfl, ⟨_, _, rfl, rfl, ⟨_, _, rfl, rfl, ⟨_, _, rfl, ⟨v3, rfl, g3⟩, rfl⟩⟩⟩⟩ := h
  exact ⟨v3, rfl, g3⟩
theorem k47_mk (w : World) (x : S47) {A3 : Option Addr} {c3 : Nat} (l3 : x.f3.length ≤ c3) (g3 : k51.C w A3 x.f3.length x.f3) : k47.K w x [.int .i64 x.f0, .string x.f1, .string x.f2, .slice A3 x.f3.length c3, .bool x.f4] := ⟨[.int .i64 x.f0], [.string x.f1, .string x.f2, .slice A3 x.f3.length c3, .bool x.f4], rfl, rfl, ⟨[.string x.f1], [.string x.f2, .slice A3 x.f3.length c3, .bool x.f4], rfl, rfl, ⟨[.string x.f2], [.slice A3 x.f3.length c3, .bool x.f4], rfl, rfl, ⟨[.slice A3 x.f3.length c3], [.bool x.f4], rfl, ⟨A3, c3, rfl, l3, g3⟩, rfl⟩⟩⟩⟩
theorem k47_mkM (w : World) (base : Nat) (ok : Nat → Prop) (x : S47) {v3 : Value} (g3 : k51.R 51 w base ok v3 x.f3) : k47.M w base ok x [.int .i64 x.f0, .string x.f1, .string x.f2, v3, .bool x.f4] := ⟨[.int .i64 x.f0], [.string x.f1, .string x.f2, v3, .bool x.f4], rfl, rfl, ⟨[.string x.f1], [.string x.f2, v3, .bool x.f4], rfl, rfl, ⟨[.string x.f2], [v3, .bool x.f4], rfl, rfl, ⟨[v3], [.bool x.f4], rfl, ⟨v3, rfl, g3⟩, rfl⟩⟩⟩⟩
theorem k47_openF {W : World} {ok : Nat → Prop} {x : S47} {cs : List Value} (h : Kd.FK k47 W ok x cs) : ∃ A3 c3, cs = [.int .i64 x.f0, .string x.f1, .string x.f2, .slice A3 x.f3.length c3, .bool x.f4] ∧ x.f3.length ≤ c3 ∧ Kd.F k51 W ok A3 x.f3.length x.f3 := by
  obtain ⟨A3, c3, rfl, l3, _⟩ := k47_open (Kd.FK_now h)
  exact ⟨A3, c3, rfl, l3, (fun W' hW => by obtain ⟨A3_, c3_, he, l3_, g3_⟩ := k47_open (h W' hW); injection (Option.some.inj (show some (Value.slice A3 x.f3.length c3) = some (Value.slice A3_ x.f3.length c3_) from congrArg (fun l => l[3]?) he)) with ha_ _ _; rw [ha_]; exact g3_)⟩
theorem k47_mkF (W : World) (ok : Nat → Prop) (x : S47) {A3 : Option Addr} {c3 : Nat} (l3 : x.f3.length ≤ c3) (g3 : Kd.F k51 W ok A3 x.f3.length x.f3) : Kd.FK k47 W ok x [.int .i64 x.f0, .string x.f1, .string x.f2, .slice A3 x.f3.length c3, .bool x.f4] := fun W2 hW => k47_mk W2 x l3 (g3 W2 hW)
def rd_T47 (xs : List S47) (i : Int) : S47 := xs.getD i.toNat z47
theorem at_T47 {w : World} {A : Option Addr} {n : Nat} {xs : List S47} (h : Kd.C k47 w A n xs) (i : Int) (h0 : 0 ≤ i) (h1 : i < n) : ∃ ad A3 c3, A = some ad ∧ w.cell? (ad.add (i.toNat * 5)) = some (.int .i64 (rd_T47 xs i).f0) ∧ w.cell? ⟨(ad.add (i.toNat * 5)).block, (ad.add (i.toNat * 5)).off + 1, none⟩ = some (.string (rd_T47 xs i).f1) ∧ w.cell? ⟨(ad.add (i.toNat * 5)).block, (ad.add (i.toNat * 5)).off + 2, none⟩ = some (.string (rd_T47 xs i).f2) ∧ w.cell? ⟨(ad.add (i.toNat * 5)).block, (ad.add (i.toNat * 5)).off + 3, none⟩ = some (.slice A3 (rd_T47 xs i).f3.length c3) ∧ w.cell? ⟨(ad.add (i.toNat * 5)).block, (ad.add (i.toNat * 5)).off + 4, none⟩ = some (.bool (rd_T47 xs i).f4) ∧ (rd_T47 xs i).f3.length ≤ c3 ∧ k51.C w A3 (rd_T47 xs i).f3.length (rd_T47 xs i).f3 := by
  obtain ⟨ad, c, e, _, hK, hc0⟩ := Kd.C_get h z47 i h0 h1
  have hc : ∀ j u, c[j]? = some u → w.cell? (ad.add (i.toNat * 5 + j)) = some u := hc0
  obtain ⟨A3, c3, rfl, l3, g3⟩ := k47_open hK
  exact ⟨ad, A3, c3, e, hc 0 _ rfl, by rw [← add_field _ _ 1 (by omega)]; exact hc 1 _ rfl, by rw [← add_field _ _ 2 (by omega)]; exact hc 2 _ rfl, by rw [← add_field _ _ 3 (by omega)]; exact hc 3 _ rfl, by rw [← add_field _ _ 4 (by omega)]; exact hc 4 _ rfl, l3, g3⟩

def rd_L6 (xs : List (List S47)) (i : Int) : (List S47) := xs.getD i.toNat ([] : List S47)
theorem at_L6 {w : World} {A : Option Addr} {n : Nat} {xs : List (List S47)} (h : Kd.C (Kd.slice 47 k47) w A n xs) (i : Int) (h0 : 0 ≤ i) (h1 : i < n) : ∃ ad A0 c0, A = some ad ∧ w.cell? (ad.add i.toNat) = some (.slice A0 (rd_L6 xs i).length c0) ∧ (rd_L6 xs i).length ≤ c0 ∧ k47.C w A0 (rd_L6 xs i).length (rd_L6 xs i) := by
  obtain ⟨ad, c, e, _, hK, hc0⟩ := Kd.C_get h ([] : List S47) i h0 h1
  have hc : ∀ j u, c[j]? = some u → w.cell? (ad.add (i.toNat * 1 + j)) = some u := hc0
  obtain ⟨A0, c0, rfl, l0, g0⟩ := hK
  exact ⟨ad, A0, c0, e, by have hq := hc 0 _ rfl; rwa [Nat.mul_one, Nat.add_zero] at hq, l0, g0⟩

end Go.Proofs.Ytaejicolhliecaa.PRe

/- Written by a program of this session out of the translation, for this claim: a part of the walk of what the law calls, or the row of the law. -/
namespace Go.Proofs.Ytaejicolhliecaa.PRe
open Go.RowKit Go.Proofs.YtaejicolhliecaaW.PrintWords Go.Proofs.YtaejicolhliecaaW.PrintLast Go.Proofs.YtaejicolhliecaaW.PrintMore
attribute [local go_sem] max2_int min2_int max_two min_two max_three min_three max_four min_four   -- for this text's walks alone
set_option linter.unusedVariables false
set_option linter.unusedSimpArgs false

/-! ### slices_Index_string_string: function 67 -/
def slices_Index_string_string.l0 : Nat → List ByteArray → ByteArray → Int → Int → Option (Int)
  | 0, _, _, _, _ => none
  | k + 1, x0, x1, x7, x8 => if x8 < x7 then (if 0 ≤ x8 then (if x8 < (x0.length : Int) then (if x1.toList = (rdOf ByteArray.empty x0 x8).toList then (some x8) else (slices_Index_string_string.l0 k x0 x1 x7 (wrap64 (x8 + 1)))) else (none)) else (none)) else (some (-1))
def slices_Index_string_string.f (k : Nat) (l0 : List ByteArray) (a1 : ByteArray) : Option (Int) := slices_Index_string_string.l0 k l0 a1 (l0.length : Int) 0
theorem slices_Index_string_string.mono_l : ∀ k, (∀ y0 y1 y2 y3, LeO (slices_Index_string_string.l0 k y0 y1 y2 y3) (slices_Index_string_string.l0 (k + 1) y0 y1 y2 y3))
  | 0 => fun _ _ _ _ r h => by simp [slices_Index_string_string.l0] at h
  | k + 1 => by
    have ih0 := slices_Index_string_string.mono_l k
    · intro y0 y1 y2 y3
      unfold slices_Index_string_string.l0
      repeat' first
      | (with_reducible exact ih0 _ _ _ _)
      | (with_reducible exact LeO.refl _)
      | (with_reducible exact LeO.none _)
      | (with_reducible refine LeO.ite ?_ ?_)
      | (with_reducible refine LeO.bind ?_ (fun _ => ?_))
      | exact ih0 _ _ _ _
      | exact LeO.none _
      | refine LeO.ite ?_ ?_
      | refine LeO.bind ?_ (fun _ => ?_)
theorem slices_Index_string_string.mono : ∀ a0 a1 k, LeO (slices_Index_string_string.f k a0 a1) (slices_Index_string_string.f (k + 1) a0 a1) := by
  intro a0 a1 k
  have ih0 := slices_Index_string_string.mono_l k
  unfold slices_Index_string_string.f
  repeat' first
      | (with_reducible exact ih0 _ _ _ _)
      | (with_reducible exact LeO.refl _)
      | (with_reducible exact LeO.none _)
      | (with_reducible refine LeO.ite ?_ ?_)
      | (with_reducible refine LeO.bind ?_ (fun _ => ?_))
      | exact ih0 _ _ _ _
      | exact LeO.none _
      | refine LeO.ite ?_ ?_
      | refine LeO.bind ?_ (fun _ => ?_)
set_option maxHeartbeats 8000000 in
set_option maxRecDepth 100000 in
theorem slices_Index_string_string.calls (k : Nat) (A0 : Option Addr) (c0 : Nat) (l0 : List ByteArray) (a1 : ByteArray) (r : Int) (w : World) (hr0 : Kd.C Kd.string w A0 l0.length l0) (hc0 : l0.length ≤ c0) (h : slices_Index_string_string.f k l0 a1 = some r) :
    Calls Try.prog 67 #[.slice A0 l0.length c0, .string a1] w fun e w' => e = .returned (.int .i64 r) ∧ Drawn0 w w' := by
  have HR0 := Aside0.mk hr0
  have HC0 := Aside0.mk hc0
  clear hr0 hc0
  have H : (slices_Index_string_string.l0 k l0 a1 (l0.length : Int) 0) = some r := h
  clear h
  have H' := Aside0.mk H
  clear H
  go_enter Try.func67, Try.ntmps67
  go_wp2
  go_loopg [8] k (fun kq v8 w' => ∃ (x8_1 : Int), v8 = .int .i64 x8_1 ∧ Aside0 (slices_Index_string_string.l0 kq l0 a1 (l0.length : Int) x8_1 = some r) ∧ Aside0 (kq ≤ k) ∧ Drawn0 w w')
  case atStart => exact ⟨(0), (by first | rfl | (simp; done) | (simp [*]; done)), H', ⟨Nat.le_refl _⟩, by repeat (first | exact Drawn0.refl _ | apply Drawn0.step)⟩
  case round =>
    clear H'
    try clear p2
    obtain ⟨x8_1, rfl, HA, HK1, ⟨m1, rfl⟩⟩ := hrel
    cases gk with
    | zero => exact absurd HA.out (by simp [slices_Index_string_string.l0])
    | succ k1 =>
      have H := HA.out
      clear HA
      simp only [slices_Index_string_string.l0] at H
      by_cases c3 : x8_1 < (l0.length : Int)
      · rw [if_pos c3] at H
        have c3b0 : decide (x8_1 < (l0.length : Int)) = true := decide_eq_true c3
        clear c3
        by_cases c4 : 0 ≤ x8_1
        · rw [if_pos c4] at H
          have c4b0 : decide (0 ≤ x8_1) = true := decide_eq_true c4
          clear c4
          by_cases c5 : x8_1 < (l0.length : Int)
          · rw [if_pos c5] at H
            have c5b0 : decide (x8_1 < (l0.length : Int)) = true := decide_eq_true c5
            clear c5
            by_cases c6 : a1.toList = (rdOf ByteArray.empty l0 x8_1).toList
            · rw [if_pos c6] at H
              have c6b0 : (a1.toList == (rdOf ByteArray.empty l0 x8_1).toList) = true := beq_iff_eq.mpr c6
              have c6b1 : (a1.toList != (rdOf ByteArray.empty l0 x8_1).toList) = false := bne_eq_false_iff_eq.mpr c6
              clear c6
              obtain rfl := Option.some.inj H
              have p101 : 0 ≤ (x8_1 : Int) := of_decide_eq_true (by first | (with_reducible assumption) | assumption)
              have q101 : x8_1 < (l0.length : Int) := of_decide_eq_true (by first | (with_reducible assumption) | assumption)
              obtain ⟨ad101, e101, hx101_0⟩ := Kd.at_string HR0.out x8_1 p101 q101
              cases e101
              replace p101 := eq_true p101
              replace q101 := eq_true q101
              go_wp2
              go_ret
              exact ⟨by first | rfl | (simp; done) | (simp [*]; done), by repeat (first | exact Drawn0.refl _ | apply Drawn0.step)⟩
            · rw [if_neg c6] at H
              have c6b0 : (a1.toList == (rdOf ByteArray.empty l0 x8_1).toList) = false := beq_eq_false_iff_ne.mpr c6
              have c6b1 : (a1.toList != (rdOf ByteArray.empty l0 x8_1).toList) = true := bne_iff_ne.mpr c6
              have H' := Aside0.mk H
              clear H
              have p101 : 0 ≤ (x8_1 : Int) := of_decide_eq_true (by first | (with_reducible assumption) | assumption)
              have q101 : x8_1 < (l0.length : Int) := of_decide_eq_true (by first | (with_reducible assumption) | assumption)
              obtain ⟨ad101, e101, hx101_0⟩ := Kd.at_string HR0.out x8_1 p101 q101
              cases e101
              replace p101 := eq_true p101
              replace q101 := eq_true q101
              go_wp2
              go_roundg k1
              case measure => have := HK1.out; omega
              case rel => exact ⟨(wrap64 (x8_1 + 1)), (by first | rfl | (simp; done) | (simp [*]; done)), H', ⟨by have := HK1.out; omega⟩, by repeat (first | exact Drawn0.refl _ | apply Drawn0.step)⟩
          · rw [if_neg c5] at H
            exact absurd H (by simp)
        · rw [if_neg c4] at H
          exact absurd H (by simp)
      · rw [if_neg c3] at H
        have c3b0 : decide (x8_1 < (l0.length : Int)) = false := decide_eq_false c3
        clear c3
        obtain rfl := Option.some.inj H
        go_wp2
        go_ret
        exact ⟨by first | rfl | (simp; done) | (simp [*]; done), by repeat (first | exact Drawn0.refl _ | apply Drawn0.step)⟩

end Go.Proofs.Ytaejicolhliecaa.PRe

/- Written by a program of this session out of the translation, for this claim: a part of the walk of what the law calls, or the row of the law. -/
namespace Go.Proofs.Ytaejicolhliecaa.PRe
open Go.RowKit Go.Proofs.YtaejicolhliecaaW.PrintWords Go.Proofs.YtaejicolhliecaaW.PrintLast Go.Proofs.YtaejicolhliecaaW.PrintMore
attribute [local go_sem] max2_int min2_int max_two min_two max_three min_three max_four min_four   -- for this text's walks alone
set_option linter.unusedVariables false
set_option linter.unusedSimpArgs false

/-! ### slices_Contains_string_string: function 59 -/
def slices_Contains_string_string.f (k : Nat) (l0 : List ByteArray) (a1 : ByteArray) : Option (Bool) := (slices_Index_string_string.f k l0 a1).bind fun t102 => (some (decide (t102 ≥ 0)))
theorem slices_Contains_string_string.mono : ∀ a0 a1 k, LeO (slices_Contains_string_string.f k a0 a1) (slices_Contains_string_string.f (k + 1) a0 a1) := by
  intro a0 a1 k
  unfold slices_Contains_string_string.f
  repeat' first
      | (with_reducible exact slices_Index_string_string.mono _ _ _)
      | (with_reducible exact LeO.refl _)
      | (with_reducible exact LeO.none _)
      | (with_reducible refine LeO.ite ?_ ?_)
      | (with_reducible refine LeO.bind ?_ (fun _ => ?_))
      | exact slices_Index_string_string.mono _ _ _
      | exact LeO.none _
      | refine LeO.ite ?_ ?_
      | refine LeO.bind ?_ (fun _ => ?_)
set_option maxHeartbeats 8000000 in
set_option maxRecDepth 100000 in
theorem slices_Contains_string_string.calls (k : Nat) (A0 : Option Addr) (c0 : Nat) (l0 : List ByteArray) (a1 : ByteArray) (r : Bool) (w : World) (hr0 : Kd.C Kd.string w A0 l0.length l0) (hc0 : l0.length ≤ c0) (h : slices_Contains_string_string.f k l0 a1 = some r) :
    Calls Try.prog 59 #[.slice A0 l0.length c0, .string a1] w fun e w' => e = .returned (.bool r) ∧ Drawn0 w w' := by
  have HR0 := Aside0.mk hr0
  have HC0 := Aside0.mk hc0
  clear hr0 hc0
  have H : ((slices_Index_string_string.f k l0 a1).bind fun t102 => (some (decide (t102 ≥ 0)))) = some r := h
  clear h
  replace H := Option.bind_eq_some_iff.mp H
  obtain ⟨t102, A30, H⟩ := H
  replace H : (some (decide (t102 ≥ 0))) = some r := H
  have A3 := Aside0.mk A30
  clear A30
  obtain rfl := Option.some.inj H
  go_enter Try.func59, Try.ntmps59
  go_wp2_with (first | ((with_reducible refine gate_callee (f := 67) rfl ?_); refine goesL_ (some 7) rfl rfl Try.func67 (by kernel_rfl) rfl #[.slice A0 l0.length c0, .string a1] rfl (by (try simp only [List.map_toArray, List.map_cons, List.map_nil]); first | done | rfl | (simp only [List.length_drop, List.length_take]; rfl)) ?_; (with_reducible refine (slices_Index_string_string.calls k _ _ l0 a1 t102 _ ?side1 ?side2 A3.out).mono ?_); (case side1 => repeat (first | exact HR0.out | (with_reducible refine Kd.C_alloc ?_ _) | (with_reducible refine Kd.C_drewN ?_ _) | (with_reducible refine Kd.C_drew ?_))); (case side2 => exact HC0.out); rintro e w' ⟨rfl, ⟨nd, rfl⟩⟩; refine ⟨_, rfl, ?_⟩))
  go_ret
  exact ⟨by first | rfl | (simp; done) | (simp [*]; done), by repeat (first | exact Drawn0.refl _ | apply Drawn0.step)⟩

end Go.Proofs.Ytaejicolhliecaa.PRe

/- Written by a program of this session out of the translation, for this claim: a part of the walk of what the law calls, or the row of the law. -/
namespace Go.Proofs.Ytaejicolhliecaa.PRe
open Go.RowKit Go.Proofs.YtaejicolhliecaaW.PrintWords Go.Proofs.YtaejicolhliecaaW.PrintLast Go.Proofs.YtaejicolhliecaaW.PrintMore
attribute [local go_sem] max2_int min2_int max_two min_two max_three min_three max_four min_four   -- for this text's walks alone
set_option linter.unusedVariables false
set_option linter.unusedSimpArgs false

/-! ### kinds_one: function 46 -/
def kinds_one.f (k : Nat) (a0 : ByteArray) (l1 : List ByteArray) : Option (Bool) := (slices_Contains_string_string.f k l1 a0).bind fun t103 => (some t103)
theorem kinds_one.mono : ∀ a0 a1 k, LeO (kinds_one.f k a0 a1) (kinds_one.f (k + 1) a0 a1) := by
  intro a0 a1 k
  unfold kinds_one.f
  repeat' first
      | (with_reducible exact slices_Contains_string_string.mono _ _ _)
      | (with_reducible exact LeO.refl _)
      | (with_reducible exact LeO.none _)
      | (with_reducible refine LeO.ite ?_ ?_)
      | (with_reducible refine LeO.bind ?_ (fun _ => ?_))
      | exact slices_Contains_string_string.mono _ _ _
      | exact LeO.none _
      | refine LeO.ite ?_ ?_
      | refine LeO.bind ?_ (fun _ => ?_)
set_option maxHeartbeats 8000000 in
set_option maxRecDepth 100000 in
theorem kinds_one.calls (k : Nat) (a0 : ByteArray) (A1 : Option Addr) (c1 : Nat) (l1 : List ByteArray) (r : Bool) (w : World) (hr1 : Kd.C Kd.string w A1 l1.length l1) (hc1 : l1.length ≤ c1) (h : kinds_one.f k a0 l1 = some r) :
    Calls Try.prog 46 #[.string a0, .slice A1 l1.length c1] w fun e w' => e = .returned (.bool r) ∧ Drawn0 w w' := by
  have HR1 := Aside0.mk hr1
  have HC1 := Aside0.mk hc1
  clear hr1 hc1
  have H : ((slices_Contains_string_string.f k l1 a0).bind fun t103 => (some t103)) = some r := h
  clear h
  replace H := Option.bind_eq_some_iff.mp H
  obtain ⟨t103, A30, H⟩ := H
  replace H : (some t103) = some r := H
  have A3 := Aside0.mk A30
  clear A30
  obtain rfl := Option.some.inj H
  go_enter Try.func46, Try.ntmps46
  go_wp2_with (first | ((with_reducible refine gate_callee (f := 59) rfl ?_); refine goesL_ (some 7) rfl rfl Try.func59 (by kernel_rfl) rfl #[.slice A1 l1.length c1, .string a0] rfl (by (try simp only [List.map_toArray, List.map_cons, List.map_nil]); first | done | rfl | (simp only [List.length_drop, List.length_take]; rfl)) ?_; (with_reducible refine (slices_Contains_string_string.calls k _ _ l1 a0 t103 _ ?side1 ?side2 A3.out).mono ?_); (case side1 => repeat (first | exact HR1.out | (with_reducible refine Kd.C_alloc ?_ _) | (with_reducible refine Kd.C_drewN ?_ _) | (with_reducible refine Kd.C_drew ?_))); (case side2 => exact HC1.out); rintro e w' ⟨rfl, ⟨nd, rfl⟩⟩; refine ⟨_, rfl, ?_⟩))
  go_ret
  exact ⟨by first | rfl | (simp; done) | (simp [*]; done), by repeat (first | exact Drawn0.refl _ | apply Drawn0.step)⟩

end Go.Proofs.Ytaejicolhliecaa.PRe

/- Written by a program of this session out of the translation, for this claim: a part of the walk of what the law calls, or the row of the law. -/
namespace Go.Proofs.Ytaejicolhliecaa.PRe
open Go.RowKit Go.Proofs.YtaejicolhliecaaW.PrintWords Go.Proofs.YtaejicolhliecaaW.PrintLast Go.Proofs.YtaejicolhliecaaW.PrintMore
attribute [local go_sem] max2_int min2_int max_two min_two max_three min_three max_four min_four   -- for this text's walks alone
set_option linter.unusedVariables false
set_option linter.unusedSimpArgs false

/-! ### kinds_Hides: function 29 -/
def kinds_Hides.f (k : Nat) (a0 : ByteArray) : Option (Bool) := (kinds_one.f k a0 (([(⟨#[104, 101, 97, 100]⟩ : ByteArray), (⟨#[105, 102, 114, 97, 109, 101]⟩ : ByteArray), (⟨#[110, 111, 101, 109, 98, 101, 100]⟩ : ByteArray), (⟨#[110, 111, 102, 114, 97, 109, 101, 115]⟩ : ByteArray), (⟨#[110, 111, 115, 99, 114, 105, 112, 116]⟩ : ByteArray), (⟨#[115, 99, 114, 105, 112, 116]⟩ : ByteArray), (⟨#[115, 116, 121, 108, 101]⟩ : ByteArray), (⟨#[116, 101, 109, 112, 108, 97, 116, 101]⟩ : ByteArray), (⟨#[116, 105, 116, 108, 101]⟩ : ByteArray)] : List ByteArray))).bind fun t107 => (some t107)
theorem kinds_Hides.mono : ∀ a0 k, LeO (kinds_Hides.f k a0) (kinds_Hides.f (k + 1) a0) := by
  intro a0 k
  unfold kinds_Hides.f
  repeat' first
      | (with_reducible exact kinds_one.mono _ _ _)
      | (with_reducible exact LeO.refl _)
      | (with_reducible exact LeO.none _)
      | (with_reducible refine LeO.ite ?_ ?_)
      | (with_reducible refine LeO.bind ?_ (fun _ => ?_))
      | exact kinds_one.mono _ _ _
      | exact LeO.none _
      | refine LeO.ite ?_ ?_
      | refine LeO.bind ?_ (fun _ => ?_)
set_option maxHeartbeats 8000000 in
set_option maxRecDepth 100000 in
theorem kinds_Hides.calls (k : Nat) (a0 : ByteArray) (r : Bool) (w : World) (h : kinds_Hides.f k a0 = some r) :
    Calls Try.prog 29 #[.string a0] w fun e w' => e = .returned (.bool r) ∧ Below w.heap.size w w' := by
  have HB := Aside0.mk (Below.refl w.heap.size w)
  have H : ((kinds_one.f k a0 (([(⟨#[104, 101, 97, 100]⟩ : ByteArray), (⟨#[105, 102, 114, 97, 109, 101]⟩ : ByteArray), (⟨#[110, 111, 101, 109, 98, 101, 100]⟩ : ByteArray), (⟨#[110, 111, 102, 114, 97, 109, 101, 115]⟩ : ByteArray), (⟨#[110, 111, 115, 99, 114, 105, 112, 116]⟩ : ByteArray), (⟨#[115, 99, 114, 105, 112, 116]⟩ : ByteArray), (⟨#[115, 116, 121, 108, 101]⟩ : ByteArray), (⟨#[116, 101, 109, 112, 108, 97, 116, 101]⟩ : ByteArray), (⟨#[116, 105, 116, 108, 101]⟩ : ByteArray)] : List ByteArray))).bind fun t107 => (some t107)) = some r := h
  clear h
  obtain ⟨y104, hy104⟩ : ∃ y_ : List ByteArray, y_ = (([(⟨#[104, 101, 97, 100]⟩ : ByteArray), (⟨#[105, 102, 114, 97, 109, 101]⟩ : ByteArray), (⟨#[110, 111, 101, 109, 98, 101, 100]⟩ : ByteArray), (⟨#[110, 111, 102, 114, 97, 109, 101, 115]⟩ : ByteArray), (⟨#[110, 111, 115, 99, 114, 105, 112, 116]⟩ : ByteArray), (⟨#[115, 99, 114, 105, 112, 116]⟩ : ByteArray), (⟨#[115, 116, 121, 108, 101]⟩ : ByteArray), (⟨#[116, 101, 109, 112, 108, 97, 116, 101]⟩ : ByteArray), (⟨#[116, 105, 116, 108, 101]⟩ : ByteArray)] : List ByteArray)) := ⟨_, rfl⟩
  replace H : ((kinds_one.f k a0 y104).bind fun t107 => (some t107)) = some r := by first | (rw [hy104]; with_reducible exact H) | (have H2_ := (Option.bind_some _ _).symm.trans H; rw [hy104]; with_reducible exact H2_) | (have H2_ := (Option.bind_some _ _).symm.trans H; with_reducible exact H2_) | with_reducible exact H | (rw [hy104]; exact H) | exact H
  have Ny104 := Aside0.mk hy104
  clear hy104
  replace H := Option.bind_eq_some_iff.mp H
  obtain ⟨t107, A20, H⟩ := H
  replace H : (some t107) = some r := H
  have A2 := Aside0.mk A20
  clear A20
  obtain rfl := Option.some.inj H
  go_enter Try.func29, Try.ntmps29
  go_wp2_with (first | ((with_reducible refine gate_dst (N := 4) rfl ?_); refine Kd.R_lit Kd.string _ 9 ?hg (N := 4) ?hd (xs := ([(⟨#[104, 101, 97, 100]⟩ : ByteArray), (⟨#[105, 102, 114, 97, 109, 101]⟩ : ByteArray), (⟨#[110, 111, 101, 109, 98, 101, 100]⟩ : ByteArray), (⟨#[110, 111, 102, 114, 97, 109, 101, 115]⟩ : ByteArray), (⟨#[110, 111, 115, 99, 114, 105, 112, 116]⟩ : ByteArray), (⟨#[115, 99, 114, 105, 112, 116]⟩ : ByteArray), (⟨#[115, 116, 121, 108, 101]⟩ : ByteArray), (⟨#[116, 101, 109, 112, 108, 97, 116, 101]⟩ : ByteArray), (⟨#[116, 105, 116, 108, 101]⟩ : ByteArray)] : List ByteArray)) (inner := [.string (⟨#[104, 101, 97, 100]⟩ : ByteArray), .string (⟨#[105, 102, 114, 97, 109, 101]⟩ : ByteArray), .string (⟨#[110, 111, 101, 109, 98, 101, 100]⟩ : ByteArray), .string (⟨#[110, 111, 102, 114, 97, 109, 101, 115]⟩ : ByteArray), .string (⟨#[110, 111, 115, 99, 114, 105, 112, 116]⟩ : ByteArray), .string (⟨#[115, 99, 114, 105, 112, 116]⟩ : ByteArray), .string (⟨#[115, 116, 121, 108, 101]⟩ : ByteArray), .string (⟨#[116, 101, 109, 112, 108, 97, 116, 101]⟩ : ByteArray), .string (⟨#[116, 105, 116, 108, 101]⟩ : ByteArray)]) (ok := fun _ => True) (okp := fun _ => True) ?hr ?hp (fun _ hk => hk) trivial (Below.refl _ _) (Nat.le_refl _) (by simp) ?_; (case hd => rfl); (case hg => rfl); (case hr => first | (go_simp; done) | (go_simp; rfl)); (case hp => exact (Reps.one (show Kd.M Kd.string _ _ _ (⟨#[104, 101, 97, 100]⟩ : ByteArray) [.string (⟨#[104, 101, 97, 100]⟩ : ByteArray)] from rfl) (Reps.one (show Kd.M Kd.string _ _ _ (⟨#[105, 102, 114, 97, 109, 101]⟩ : ByteArray) [.string (⟨#[105, 102, 114, 97, 109, 101]⟩ : ByteArray)] from rfl) (Reps.one (show Kd.M Kd.string _ _ _ (⟨#[110, 111, 101, 109, 98, 101, 100]⟩ : ByteArray) [.string (⟨#[110, 111, 101, 109, 98, 101, 100]⟩ : ByteArray)] from rfl) (Reps.one (show Kd.M Kd.string _ _ _ (⟨#[110, 111, 102, 114, 97, 109, 101, 115]⟩ : ByteArray) [.string (⟨#[110, 111, 102, 114, 97, 109, 101, 115]⟩ : ByteArray)] from rfl) (Reps.one (show Kd.M Kd.string _ _ _ (⟨#[110, 111, 115, 99, 114, 105, 112, 116]⟩ : ByteArray) [.string (⟨#[110, 111, 115, 99, 114, 105, 112, 116]⟩ : ByteArray)] from rfl) (Reps.one (show Kd.M Kd.string _ _ _ (⟨#[115, 99, 114, 105, 112, 116]⟩ : ByteArray) [.string (⟨#[115, 99, 114, 105, 112, 116]⟩ : ByteArray)] from rfl) (Reps.one (show Kd.M Kd.string _ _ _ (⟨#[115, 116, 121, 108, 101]⟩ : ByteArray) [.string (⟨#[115, 116, 121, 108, 101]⟩ : ByteArray)] from rfl) (Reps.one (show Kd.M Kd.string _ _ _ (⟨#[116, 101, 109, 112, 108, 97, 116, 101]⟩ : ByteArray) [.string (⟨#[116, 101, 109, 112, 108, 97, 116, 101]⟩ : ByteArray)] from rfl) (Reps.one (show Kd.M Kd.string _ _ _ (⟨#[116, 105, 116, 108, 101]⟩ : ByteArray) [.string (⟨#[116, 105, 116, 108, 101]⟩ : ByteArray)] from rfl) (Reps.none _ _))))))))))); intro v105 w3 ho4 hb hg_ hnew_; clear hg_ hnew_; (first | rw [← Ny104.out] at ho4 | (simp only [Int.reduceToNat] at ho4; rw [← Ny104.out] at ho4)); have n0_ := Aside0.mk (Kd.R_lower ho4 (below_size (by repeat (first | (with_reducible first | exact HB.out | apply below_alloc | apply pw_below_drewN | apply below_drew1) | exact HB.out)))); have n1_ := Aside0.mk (below_step (by repeat (first | (with_reducible first | exact HB.out | apply below_alloc | apply pw_below_drewN | apply below_drew1) | exact HB.out)) hb); clear HB; have HO106 := n0_; have HB := n1_; clear n0_ n1_; clear hb ho4; obtain ⟨Ao5, co5, eo5⟩ := Kd.R_slice HO106.out; subst eo5) | ((with_reducible refine gate_callee (f := 46) rfl ?_); refine goesL_ (some 5) rfl rfl Try.func46 (by kernel_rfl) rfl #[.string a0, .slice Ao5 y104.length co5] rfl (by (try simp only [List.map_toArray, List.map_cons, List.map_nil]); first | done | rfl | (simp only [List.length_drop, List.length_take]; rfl)) ?_; (with_reducible refine (kinds_one.calls k a0 _ _ y104 t107 _ ?side1 ?side2 A2.out).mono ?_); (case side1 => repeat (first | exact (Kd.R_reads' HO106.out).2.2 | (with_reducible refine Kd.C_alloc ?_ _) | (with_reducible refine Kd.C_drewN ?_ _) | (with_reducible refine Kd.C_drew ?_))); (case side2 => exact (Kd.R_reads' HO106.out).2.1); rintro e w' ⟨rfl, ⟨nd, rfl⟩⟩; refine ⟨_, rfl, ?_⟩))
  go_ret
  exact ⟨by first | rfl | (simp [errW_none, errW_some] <;> rfl) | (simp [*, errW_none, errW_some] <;> rfl), by repeat (first | (with_reducible first | exact HB.out | apply below_alloc | apply pw_below_drewN | apply below_drew1) | exact HB.out)⟩

end Go.Proofs.Ytaejicolhliecaa.PRe

/- Written by a program of this session out of the translation, for this claim: a part of the walk of what the law calls, or the row of the law. -/
namespace Go.Proofs.Ytaejicolhliecaa.PRe
open Go.RowKit Go.Proofs.YtaejicolhliecaaW.PrintWords Go.Proofs.YtaejicolhliecaaW.PrintLast Go.Proofs.YtaejicolhliecaaW.PrintMore
attribute [local go_sem] max2_int min2_int max_two min_two max_three min_three max_four min_four   -- for this text's walks alone
set_option linter.unusedVariables false
set_option linter.unusedSimpArgs false

/-! ### kinds_Lines: function 31 -/
def kinds_Lines.f (k : Nat) (a0 : ByteArray) : Option (Int) := (kinds_one.f k a0 (([(⟨#[98, 108, 111, 99, 107, 113, 117, 111, 116, 101]⟩ : ByteArray), (⟨#[104, 49]⟩ : ByteArray), (⟨#[104, 50]⟩ : ByteArray), (⟨#[104, 51]⟩ : ByteArray), (⟨#[104, 52]⟩ : ByteArray), (⟨#[104, 53]⟩ : ByteArray), (⟨#[104, 54]⟩ : ByteArray), (⟨#[108, 105, 115, 116, 105, 110, 103]⟩ : ByteArray), (⟨#[111, 108]⟩ : ByteArray), (⟨#[112]⟩ : ByteArray), (⟨#[112, 108, 97, 105, 110, 116, 101, 120, 116]⟩ : ByteArray), (⟨#[112, 114, 101]⟩ : ByteArray), (⟨#[116, 97, 98, 108, 101]⟩ : ByteArray), (⟨#[117, 108]⟩ : ByteArray), (⟨#[120, 109, 112]⟩ : ByteArray)] : List ByteArray))).bind fun t111 => (if t111 = true then (some 2) else ((kinds_one.f k a0 (([(⟨#[97, 100, 100, 114, 101, 115, 115]⟩ : ByteArray), (⟨#[97, 114, 116, 105, 99, 108, 101]⟩ : ByteArray), (⟨#[97, 115, 105, 100, 101]⟩ : ByteArray), (⟨#[98, 111, 100, 121]⟩ : ByteArray), (⟨#[99, 101, 110, 116, 101, 114]⟩ : ByteArray), (⟨#[100, 100]⟩ : ByteArray), (⟨#[100, 101, 116, 97, 105, 108, 115]⟩ : ByteArray), (⟨#[100, 105, 97, 108, 111, 103]⟩ : ByteArray), (⟨#[100, 105, 114]⟩ : ByteArray), (⟨#[100, 105, 118]⟩ : ByteArray), (⟨#[100, 108]⟩ : ByteArray), (⟨#[100, 116]⟩ : ByteArray), (⟨#[102, 105, 101, 108, 100, 115, 101, 116]⟩ : ByteArray), (⟨#[102, 105, 103, 99, 97, 112, 116, 105, 111, 110]⟩ : ByteArray), (⟨#[102, 105, 103, 117, 114, 101]⟩ : ByteArray), (⟨#[102, 111, 111, 116, 101, 114]⟩ : ByteArray), (⟨#[102, 111, 114, 109]⟩ : ByteArray)] : List ByteArray))).bind fun t115 => (if t115 = true then (some 1) else ((kinds_one.f k a0 (([(⟨#[104, 101, 97, 100, 101, 114]⟩ : ByteArray), (⟨#[104, 103, 114, 111, 117, 112]⟩ : ByteArray), (⟨#[104, 114]⟩ : ByteArray), (⟨#[104, 116, 109, 108]⟩ : ByteArray), (⟨#[108, 101, 103, 101, 110, 100]⟩ : ByteArray), (⟨#[108, 105]⟩ : ByteArray), (⟨#[109, 97, 105, 110]⟩ : ByteArray), (⟨#[109, 101, 110, 117]⟩ : ByteArray), (⟨#[110, 97, 118]⟩ : ByteArray), (⟨#[111, 112, 116, 105, 111, 110]⟩ : ByteArray), (⟨#[115, 101, 97, 114, 99, 104]⟩ : ByteArray), (⟨#[115, 101, 99, 116, 105, 111, 110]⟩ : ByteArray), (⟨#[115, 117, 109, 109, 97, 114, 121]⟩ : ByteArray), (⟨#[116, 114]⟩ : ByteArray)] : List ByteArray))).bind fun t119 => (if t119 = true then (some 1) else (some 0))))))
theorem kinds_Lines.mono : ∀ a0 k, LeO (kinds_Lines.f k a0) (kinds_Lines.f (k + 1) a0) := by
  intro a0 k
  unfold kinds_Lines.f
  repeat' first
      | (with_reducible exact kinds_one.mono _ _ _)
      | (with_reducible exact LeO.refl _)
      | (with_reducible exact LeO.none _)
      | (with_reducible refine LeO.ite ?_ ?_)
      | (with_reducible refine LeO.bind ?_ (fun _ => ?_))
      | exact kinds_one.mono _ _ _
      | exact LeO.none _
      | refine LeO.ite ?_ ?_
      | refine LeO.bind ?_ (fun _ => ?_)
set_option maxHeartbeats 8000000 in
set_option maxRecDepth 100000 in
theorem kinds_Lines.calls (k : Nat) (a0 : ByteArray) (r : Int) (w : World) (h : kinds_Lines.f k a0 = some r) :
    Calls Try.prog 31 #[.string a0] w fun e w' => e = .returned (.int .i64 r) ∧ Below w.heap.size w w' := by
  have HB := Aside0.mk (Below.refl w.heap.size w)
  have H : ((kinds_one.f k a0 (([(⟨#[98, 108, 111, 99, 107, 113, 117, 111, 116, 101]⟩ : ByteArray), (⟨#[104, 49]⟩ : ByteArray), (⟨#[104, 50]⟩ : ByteArray), (⟨#[104, 51]⟩ : ByteArray), (⟨#[104, 52]⟩ : ByteArray), (⟨#[104, 53]⟩ : ByteArray), (⟨#[104, 54]⟩ : ByteArray), (⟨#[108, 105, 115, 116, 105, 110, 103]⟩ : ByteArray), (⟨#[111, 108]⟩ : ByteArray), (⟨#[112]⟩ : ByteArray), (⟨#[112, 108, 97, 105, 110, 116, 101, 120, 116]⟩ : ByteArray), (⟨#[112, 114, 101]⟩ : ByteArray), (⟨#[116, 97, 98, 108, 101]⟩ : ByteArray), (⟨#[117, 108]⟩ : ByteArray), (⟨#[120, 109, 112]⟩ : ByteArray)] : List ByteArray))).bind fun t111 => (if t111 = true then (some 2) else ((kinds_one.f k a0 (([(⟨#[97, 100, 100, 114, 101, 115, 115]⟩ : ByteArray), (⟨#[97, 114, 116, 105, 99, 108, 101]⟩ : ByteArray), (⟨#[97, 115, 105, 100, 101]⟩ : ByteArray), (⟨#[98, 111, 100, 121]⟩ : ByteArray), (⟨#[99, 101, 110, 116, 101, 114]⟩ : ByteArray), (⟨#[100, 100]⟩ : ByteArray), (⟨#[100, 101, 116, 97, 105, 108, 115]⟩ : ByteArray), (⟨#[100, 105, 97, 108, 111, 103]⟩ : ByteArray), (⟨#[100, 105, 114]⟩ : ByteArray), (⟨#[100, 105, 118]⟩ : ByteArray), (⟨#[100, 108]⟩ : ByteArray), (⟨#[100, 116]⟩ : ByteArray), (⟨#[102, 105, 101, 108, 100, 115, 101, 116]⟩ : ByteArray), (⟨#[102, 105, 103, 99, 97, 112, 116, 105, 111, 110]⟩ : ByteArray), (⟨#[102, 105, 103, 117, 114, 101]⟩ : ByteArray), (⟨#[102, 111, 111, 116, 101, 114]⟩ : ByteArray), (⟨#[102, 111, 114, 109]⟩ : ByteArray)] : List ByteArray))).bind fun t115 => (if t115 = true then (some 1) else ((kinds_one.f k a0 (([(⟨#[104, 101, 97, 100, 101, 114]⟩ : ByteArray), (⟨#[104, 103, 114, 111, 117, 112]⟩ : ByteArray), (⟨#[104, 114]⟩ : ByteArray), (⟨#[104, 116, 109, 108]⟩ : ByteArray), (⟨#[108, 101, 103, 101, 110, 100]⟩ : ByteArray), (⟨#[108, 105]⟩ : ByteArray), (⟨#[109, 97, 105, 110]⟩ : ByteArray), (⟨#[109, 101, 110, 117]⟩ : ByteArray), (⟨#[110, 97, 118]⟩ : ByteArray), (⟨#[111, 112, 116, 105, 111, 110]⟩ : ByteArray), (⟨#[115, 101, 97, 114, 99, 104]⟩ : ByteArray), (⟨#[115, 101, 99, 116, 105, 111, 110]⟩ : ByteArray), (⟨#[115, 117, 109, 109, 97, 114, 121]⟩ : ByteArray), (⟨#[116, 114]⟩ : ByteArray)] : List ByteArray))).bind fun t119 => (if t119 = true then (some 1) else (some 0))))))) = some r := h
  clear h
  obtain ⟨y108, hy108⟩ : ∃ y_ : List ByteArray, y_ = (([(⟨#[98, 108, 111, 99, 107, 113, 117, 111, 116, 101]⟩ : ByteArray), (⟨#[104, 49]⟩ : ByteArray), (⟨#[104, 50]⟩ : ByteArray), (⟨#[104, 51]⟩ : ByteArray), (⟨#[104, 52]⟩ : ByteArray), (⟨#[104, 53]⟩ : ByteArray), (⟨#[104, 54]⟩ : ByteArray), (⟨#[108, 105, 115, 116, 105, 110, 103]⟩ : ByteArray), (⟨#[111, 108]⟩ : ByteArray), (⟨#[112]⟩ : ByteArray), (⟨#[112, 108, 97, 105, 110, 116, 101, 120, 116]⟩ : ByteArray), (⟨#[112, 114, 101]⟩ : ByteArray), (⟨#[116, 97, 98, 108, 101]⟩ : ByteArray), (⟨#[117, 108]⟩ : ByteArray), (⟨#[120, 109, 112]⟩ : ByteArray)] : List ByteArray)) := ⟨_, rfl⟩
  replace H : ((kinds_one.f k a0 y108).bind fun t111 => (if t111 = true then (some 2) else ((kinds_one.f k a0 (([(⟨#[97, 100, 100, 114, 101, 115, 115]⟩ : ByteArray), (⟨#[97, 114, 116, 105, 99, 108, 101]⟩ : ByteArray), (⟨#[97, 115, 105, 100, 101]⟩ : ByteArray), (⟨#[98, 111, 100, 121]⟩ : ByteArray), (⟨#[99, 101, 110, 116, 101, 114]⟩ : ByteArray), (⟨#[100, 100]⟩ : ByteArray), (⟨#[100, 101, 116, 97, 105, 108, 115]⟩ : ByteArray), (⟨#[100, 105, 97, 108, 111, 103]⟩ : ByteArray), (⟨#[100, 105, 114]⟩ : ByteArray), (⟨#[100, 105, 118]⟩ : ByteArray), (⟨#[100, 108]⟩ : ByteArray), (⟨#[100, 116]⟩ : ByteArray), (⟨#[102, 105, 101, 108, 100, 115, 101, 116]⟩ : ByteArray), (⟨#[102, 105, 103, 99, 97, 112, 116, 105, 111, 110]⟩ : ByteArray), (⟨#[102, 105, 103, 117, 114, 101]⟩ : ByteArray), (⟨#[102, 111, 111, 116, 101, 114]⟩ : ByteArray), (⟨#[102, 111, 114, 109]⟩ : ByteArray)] : List ByteArray))).bind fun t115 => (if t115 = true then (some 1) else ((kinds_one.f k a0 (([(⟨#[104, 101, 97, 100, 101, 114]⟩ : ByteArray), (⟨#[104, 103, 114, 111, 117, 112]⟩ : ByteArray), (⟨#[104, 114]⟩ : ByteArray), (⟨#[104, 116, 109, 108]⟩ : ByteArray), (⟨#[108, 101, 103, 101, 110, 100]⟩ : ByteArray), (⟨#[108, 105]⟩ : ByteArray), (⟨#[109, 97, 105, 110]⟩ : ByteArray), (⟨#[109, 101, 110, 117]⟩ : ByteArray), (⟨#[110, 97, 118]⟩ : ByteArray), (⟨#[111, 112, 116, 105, 111, 110]⟩ : ByteArray), (⟨#[115, 101, 97, 114, 99, 104]⟩ : ByteArray), (⟨#[115, 101, 99, 116, 105, 111, 110]⟩ : ByteArray), (⟨#[115, 117, 109, 109, 97, 114, 121]⟩ : ByteArray), (⟨#[116, 114]⟩ : ByteArray)] : List ByteArray))).bind fun t119 => (if t119 = true then (some 1) else (some 0))))))) = some r := by first | (rw [hy108]; with_reducible exact H) | (have H2_ := (Option.bind_some _ _).symm.trans H; rw [hy108]; with_reducible exact H2_) | (have H2_ := (Option.bind_some _ _).symm.trans H; with_reducible exact H2_) | with_reducible exact H | (rw [hy108]; exact H) | exact H
  have Ny108 := Aside0.mk hy108
  clear hy108
  replace H := Option.bind_eq_some_iff.mp H
  obtain ⟨t111, A20, H⟩ := H
  replace H : (if t111 = true then (some 2) else ((kinds_one.f k a0 (([(⟨#[97, 100, 100, 114, 101, 115, 115]⟩ : ByteArray), (⟨#[97, 114, 116, 105, 99, 108, 101]⟩ : ByteArray), (⟨#[97, 115, 105, 100, 101]⟩ : ByteArray), (⟨#[98, 111, 100, 121]⟩ : ByteArray), (⟨#[99, 101, 110, 116, 101, 114]⟩ : ByteArray), (⟨#[100, 100]⟩ : ByteArray), (⟨#[100, 101, 116, 97, 105, 108, 115]⟩ : ByteArray), (⟨#[100, 105, 97, 108, 111, 103]⟩ : ByteArray), (⟨#[100, 105, 114]⟩ : ByteArray), (⟨#[100, 105, 118]⟩ : ByteArray), (⟨#[100, 108]⟩ : ByteArray), (⟨#[100, 116]⟩ : ByteArray), (⟨#[102, 105, 101, 108, 100, 115, 101, 116]⟩ : ByteArray), (⟨#[102, 105, 103, 99, 97, 112, 116, 105, 111, 110]⟩ : ByteArray), (⟨#[102, 105, 103, 117, 114, 101]⟩ : ByteArray), (⟨#[102, 111, 111, 116, 101, 114]⟩ : ByteArray), (⟨#[102, 111, 114, 109]⟩ : ByteArray)] : List ByteArray))).bind fun t115 => (if t115 = true then (some 1) else ((kinds_one.f k a0 (([(⟨#[104, 101, 97, 100, 101, 114]⟩ : ByteArray), (⟨#[104, 103, 114, 111, 117, 112]⟩ : ByteArray), (⟨#[104, 114]⟩ : ByteArray), (⟨#[104, 116, 109, 108]⟩ : ByteArray), (⟨#[108, 101, 103, 101, 110, 100]⟩ : ByteArray), (⟨#[108, 105]⟩ : ByteArray), (⟨#[109, 97, 105, 110]⟩ : ByteArray), (⟨#[109, 101, 110, 117]⟩ : ByteArray), (⟨#[110, 97, 118]⟩ : ByteArray), (⟨#[111, 112, 116, 105, 111, 110]⟩ : ByteArray), (⟨#[115, 101, 97, 114, 99, 104]⟩ : ByteArray), (⟨#[115, 101, 99, 116, 105, 111, 110]⟩ : ByteArray), (⟨#[115, 117, 109, 109, 97, 114, 121]⟩ : ByteArray), (⟨#[116, 114]⟩ : ByteArray)] : List ByteArray))).bind fun t119 => (if t119 = true then (some 1) else (some 0)))))) = some r := H
  have A2 := Aside0.mk A20
  clear A20
  by_cases c3 : t111 = true
  · subst c3
    have H1 : (some 2) = some r := by rw [if_pos rfl] at H; exact H
    clear H
    have H := H1
    clear H1
    obtain rfl := Option.some.inj H
    go_enter Try.func31, Try.ntmps31
    go_wp2_with (first | ((with_reducible refine gate_dst (N := 5) rfl ?_); refine Kd.R_lit Kd.string _ 9 ?hg (N := 5) ?hd (xs := ([(⟨#[98, 108, 111, 99, 107, 113, 117, 111, 116, 101]⟩ : ByteArray), (⟨#[104, 49]⟩ : ByteArray), (⟨#[104, 50]⟩ : ByteArray), (⟨#[104, 51]⟩ : ByteArray), (⟨#[104, 52]⟩ : ByteArray), (⟨#[104, 53]⟩ : ByteArray), (⟨#[104, 54]⟩ : ByteArray), (⟨#[108, 105, 115, 116, 105, 110, 103]⟩ : ByteArray), (⟨#[111, 108]⟩ : ByteArray), (⟨#[112]⟩ : ByteArray), (⟨#[112, 108, 97, 105, 110, 116, 101, 120, 116]⟩ : ByteArray), (⟨#[112, 114, 101]⟩ : ByteArray), (⟨#[116, 97, 98, 108, 101]⟩ : ByteArray), (⟨#[117, 108]⟩ : ByteArray), (⟨#[120, 109, 112]⟩ : ByteArray)] : List ByteArray)) (inner := [.string (⟨#[98, 108, 111, 99, 107, 113, 117, 111, 116, 101]⟩ : ByteArray), .string (⟨#[104, 49]⟩ : ByteArray), .string (⟨#[104, 50]⟩ : ByteArray), .string (⟨#[104, 51]⟩ : ByteArray), .string (⟨#[104, 52]⟩ : ByteArray), .string (⟨#[104, 53]⟩ : ByteArray), .string (⟨#[104, 54]⟩ : ByteArray), .string (⟨#[108, 105, 115, 116, 105, 110, 103]⟩ : ByteArray), .string (⟨#[111, 108]⟩ : ByteArray), .string (⟨#[112]⟩ : ByteArray), .string (⟨#[112, 108, 97, 105, 110, 116, 101, 120, 116]⟩ : ByteArray), .string (⟨#[112, 114, 101]⟩ : ByteArray), .string (⟨#[116, 97, 98, 108, 101]⟩ : ByteArray), .string (⟨#[117, 108]⟩ : ByteArray), .string (⟨#[120, 109, 112]⟩ : ByteArray)]) (ok := fun _ => True) (okp := fun _ => True) ?hr ?hp (fun _ hk => hk) trivial (Below.refl _ _) (Nat.le_refl _) (by simp) ?_; (case hd => rfl); (case hg => rfl); (case hr => first | (go_simp; done) | (go_simp; rfl)); (case hp => exact (Reps.one (show Kd.M Kd.string _ _ _ (⟨#[98, 108, 111, 99, 107, 113, 117, 111, 116, 101]⟩ : ByteArray) [.string (⟨#[98, 108, 111, 99, 107, 113, 117, 111, 116, 101]⟩ : ByteArray)] from rfl) (Reps.one (show Kd.M Kd.string _ _ _ (⟨#[104, 49]⟩ : ByteArray) [.string (⟨#[104, 49]⟩ : ByteArray)] from rfl) (Reps.one (show Kd.M Kd.string _ _ _ (⟨#[104, 50]⟩ : ByteArray) [.string (⟨#[104, 50]⟩ : ByteArray)] from rfl) (Reps.one (show Kd.M Kd.string _ _ _ (⟨#[104, 51]⟩ : ByteArray) [.string (⟨#[104, 51]⟩ : ByteArray)] from rfl) (Reps.one (show Kd.M Kd.string _ _ _ (⟨#[104, 52]⟩ : ByteArray) [.string (⟨#[104, 52]⟩ : ByteArray)] from rfl) (Reps.one (show Kd.M Kd.string _ _ _ (⟨#[104, 53]⟩ : ByteArray) [.string (⟨#[104, 53]⟩ : ByteArray)] from rfl) (Reps.one (show Kd.M Kd.string _ _ _ (⟨#[104, 54]⟩ : ByteArray) [.string (⟨#[104, 54]⟩ : ByteArray)] from rfl) (Reps.one (show Kd.M Kd.string _ _ _ (⟨#[108, 105, 115, 116, 105, 110, 103]⟩ : ByteArray) [.string (⟨#[108, 105, 115, 116, 105, 110, 103]⟩ : ByteArray)] from rfl) (Reps.one (show Kd.M Kd.string _ _ _ (⟨#[111, 108]⟩ : ByteArray) [.string (⟨#[111, 108]⟩ : ByteArray)] from rfl) (Reps.one (show Kd.M Kd.string _ _ _ (⟨#[112]⟩ : ByteArray) [.string (⟨#[112]⟩ : ByteArray)] from rfl) (Reps.one (show Kd.M Kd.string _ _ _ (⟨#[112, 108, 97, 105, 110, 116, 101, 120, 116]⟩ : ByteArray) [.string (⟨#[112, 108, 97, 105, 110, 116, 101, 120, 116]⟩ : ByteArray)] from rfl) (Reps.one (show Kd.M Kd.string _ _ _ (⟨#[112, 114, 101]⟩ : ByteArray) [.string (⟨#[112, 114, 101]⟩ : ByteArray)] from rfl) (Reps.one (show Kd.M Kd.string _ _ _ (⟨#[116, 97, 98, 108, 101]⟩ : ByteArray) [.string (⟨#[116, 97, 98, 108, 101]⟩ : ByteArray)] from rfl) (Reps.one (show Kd.M Kd.string _ _ _ (⟨#[117, 108]⟩ : ByteArray) [.string (⟨#[117, 108]⟩ : ByteArray)] from rfl) (Reps.one (show Kd.M Kd.string _ _ _ (⟨#[120, 109, 112]⟩ : ByteArray) [.string (⟨#[120, 109, 112]⟩ : ByteArray)] from rfl) (Reps.none _ _))))))))))))))))); intro v109 w4 ho5 hb hg_ hnew_; clear hg_ hnew_; (first | rw [← Ny108.out] at ho5 | (simp only [Int.reduceToNat] at ho5; rw [← Ny108.out] at ho5)); have n0_ := Aside0.mk (Kd.R_lower ho5 (below_size (by repeat (first | (with_reducible first | exact HB.out | apply below_alloc | apply pw_below_drewN | apply below_drew1) | exact HB.out)))); have n1_ := Aside0.mk (below_step (by repeat (first | (with_reducible first | exact HB.out | apply below_alloc | apply pw_below_drewN | apply below_drew1) | exact HB.out)) hb); clear HB; have HO110 := n0_; have HB := n1_; clear n0_ n1_; clear hb ho5; obtain ⟨Ao6, co6, eo6⟩ := Kd.R_slice HO110.out; subst eo6) | ((with_reducible refine gate_callee (f := 46) rfl ?_); refine goesL_ (some 6) rfl rfl Try.func46 (by kernel_rfl) rfl #[.string a0, .slice Ao6 y108.length co6] rfl (by (try simp only [List.map_toArray, List.map_cons, List.map_nil]); first | done | rfl | (simp only [List.length_drop, List.length_take]; rfl)) ?_; (with_reducible refine (kinds_one.calls k a0 _ _ y108 true _ ?side1 ?side2 A2.out).mono ?_); (case side1 => repeat (first | exact (Kd.R_reads' HO110.out).2.2 | (with_reducible refine Kd.C_alloc ?_ _) | (with_reducible refine Kd.C_drewN ?_ _) | (with_reducible refine Kd.C_drew ?_))); (case side2 => exact (Kd.R_reads' HO110.out).2.1); rintro e w' ⟨rfl, ⟨nd, rfl⟩⟩; refine ⟨_, rfl, ?_⟩))
    go_ret
    exact ⟨by first | rfl | (simp [errW_none, errW_some] <;> rfl) | (simp [*, errW_none, errW_some] <;> rfl), by repeat (first | (with_reducible first | exact HB.out | apply below_alloc | apply pw_below_drewN | apply below_drew1) | exact HB.out)⟩
  · replace c3 := Bool.eq_false_iff.mpr c3
    subst c3
    have H1 : ((kinds_one.f k a0 (([(⟨#[97, 100, 100, 114, 101, 115, 115]⟩ : ByteArray), (⟨#[97, 114, 116, 105, 99, 108, 101]⟩ : ByteArray), (⟨#[97, 115, 105, 100, 101]⟩ : ByteArray), (⟨#[98, 111, 100, 121]⟩ : ByteArray), (⟨#[99, 101, 110, 116, 101, 114]⟩ : ByteArray), (⟨#[100, 100]⟩ : ByteArray), (⟨#[100, 101, 116, 97, 105, 108, 115]⟩ : ByteArray), (⟨#[100, 105, 97, 108, 111, 103]⟩ : ByteArray), (⟨#[100, 105, 114]⟩ : ByteArray), (⟨#[100, 105, 118]⟩ : ByteArray), (⟨#[100, 108]⟩ : ByteArray), (⟨#[100, 116]⟩ : ByteArray), (⟨#[102, 105, 101, 108, 100, 115, 101, 116]⟩ : ByteArray), (⟨#[102, 105, 103, 99, 97, 112, 116, 105, 111, 110]⟩ : ByteArray), (⟨#[102, 105, 103, 117, 114, 101]⟩ : ByteArray), (⟨#[102, 111, 111, 116, 101, 114]⟩ : ByteArray), (⟨#[102, 111, 114, 109]⟩ : ByteArray)] : List ByteArray))).bind fun t115 => (if t115 = true then (some 1) else ((kinds_one.f k a0 (([(⟨#[104, 101, 97, 100, 101, 114]⟩ : ByteArray), (⟨#[104, 103, 114, 111, 117, 112]⟩ : ByteArray), (⟨#[104, 114]⟩ : ByteArray), (⟨#[104, 116, 109, 108]⟩ : ByteArray), (⟨#[108, 101, 103, 101, 110, 100]⟩ : ByteArray), (⟨#[108, 105]⟩ : ByteArray), (⟨#[109, 97, 105, 110]⟩ : ByteArray), (⟨#[109, 101, 110, 117]⟩ : ByteArray), (⟨#[110, 97, 118]⟩ : ByteArray), (⟨#[111, 112, 116, 105, 111, 110]⟩ : ByteArray), (⟨#[115, 101, 97, 114, 99, 104]⟩ : ByteArray), (⟨#[115, 101, 99, 116, 105, 111, 110]⟩ : ByteArray), (⟨#[115, 117, 109, 109, 97, 114, 121]⟩ : ByteArray), (⟨#[116, 114]⟩ : ByteArray)] : List ByteArray))).bind fun t119 => (if t119 = true then (some 1) else (some 0))))) = some r := by rw [if_neg (show ¬ (false = true) by decide)] at H; exact H
    clear H
    have H := H1
    clear H1
    obtain ⟨y112, hy112⟩ : ∃ y_ : List ByteArray, y_ = (([(⟨#[97, 100, 100, 114, 101, 115, 115]⟩ : ByteArray), (⟨#[97, 114, 116, 105, 99, 108, 101]⟩ : ByteArray), (⟨#[97, 115, 105, 100, 101]⟩ : ByteArray), (⟨#[98, 111, 100, 121]⟩ : ByteArray), (⟨#[99, 101, 110, 116, 101, 114]⟩ : ByteArray), (⟨#[100, 100]⟩ : ByteArray), (⟨#[100, 101, 116, 97, 105, 108, 115]⟩ : ByteArray), (⟨#[100, 105, 97, 108, 111, 103]⟩ : ByteArray), (⟨#[100, 105, 114]⟩ : ByteArray), (⟨#[100, 105, 118]⟩ : ByteArray), (⟨#[100, 108]⟩ : ByteArray), (⟨#[100, 116]⟩ : ByteArray), (⟨#[102, 105, 101, 108, 100, 115, 101, 116]⟩ : ByteArray), (⟨#[102, 105, 103, 99, 97, 112, 116, 105, 111, 110]⟩ : ByteArray), (⟨#[102, 105, 103, 117, 114, 101]⟩ : ByteArray), (⟨#[102, 111, 111, 116, 101, 114]⟩ : ByteArray), (⟨#[102, 111, 114, 109]⟩ : ByteArray)] : List ByteArray)) := ⟨_, rfl⟩
    replace H : ((kinds_one.f k a0 y112).bind fun t115 => (if t115 = true then (some 1) else ((kinds_one.f k a0 (([(⟨#[104, 101, 97, 100, 101, 114]⟩ : ByteArray), (⟨#[104, 103, 114, 111, 117, 112]⟩ : ByteArray), (⟨#[104, 114]⟩ : ByteArray), (⟨#[104, 116, 109, 108]⟩ : ByteArray), (⟨#[108, 101, 103, 101, 110, 100]⟩ : ByteArray), (⟨#[108, 105]⟩ : ByteArray), (⟨#[109, 97, 105, 110]⟩ : ByteArray), (⟨#[109, 101, 110, 117]⟩ : ByteArray), (⟨#[110, 97, 118]⟩ : ByteArray), (⟨#[111, 112, 116, 105, 111, 110]⟩ : ByteArray), (⟨#[115, 101, 97, 114, 99, 104]⟩ : ByteArray), (⟨#[115, 101, 99, 116, 105, 111, 110]⟩ : ByteArray), (⟨#[115, 117, 109, 109, 97, 114, 121]⟩ : ByteArray), (⟨#[116, 114]⟩ : ByteArray)] : List ByteArray))).bind fun t119 => (if t119 = true then (some 1) else (some 0))))) = some r := by first | (rw [hy112]; with_reducible exact H) | (have H2_ := (Option.bind_some _ _).symm.trans H; rw [hy112]; with_reducible exact H2_) | (have H2_ := (Option.bind_some _ _).symm.trans H; with_reducible exact H2_) | with_reducible exact H | (rw [hy112]; exact H) | exact H
    have Ny112 := Aside0.mk hy112
    clear hy112
    replace H := Option.bind_eq_some_iff.mp H
    obtain ⟨t115, A70, H⟩ := H
    replace H : (if t115 = true then (some 1) else ((kinds_one.f k a0 (([(⟨#[104, 101, 97, 100, 101, 114]⟩ : ByteArray), (⟨#[104, 103, 114, 111, 117, 112]⟩ : ByteArray), (⟨#[104, 114]⟩ : ByteArray), (⟨#[104, 116, 109, 108]⟩ : ByteArray), (⟨#[108, 101, 103, 101, 110, 100]⟩ : ByteArray), (⟨#[108, 105]⟩ : ByteArray), (⟨#[109, 97, 105, 110]⟩ : ByteArray), (⟨#[109, 101, 110, 117]⟩ : ByteArray), (⟨#[110, 97, 118]⟩ : ByteArray), (⟨#[111, 112, 116, 105, 111, 110]⟩ : ByteArray), (⟨#[115, 101, 97, 114, 99, 104]⟩ : ByteArray), (⟨#[115, 101, 99, 116, 105, 111, 110]⟩ : ByteArray), (⟨#[115, 117, 109, 109, 97, 114, 121]⟩ : ByteArray), (⟨#[116, 114]⟩ : ByteArray)] : List ByteArray))).bind fun t119 => (if t119 = true then (some 1) else (some 0)))) = some r := H
    have A7 := Aside0.mk A70
    clear A70
    by_cases c8 : t115 = true
    · subst c8
      have H1 : (some 1) = some r := by rw [if_pos rfl] at H; exact H
      clear H
      have H := H1
      clear H1
      obtain rfl := Option.some.inj H
      go_enter Try.func31, Try.ntmps31
      go_wp2_with (first | ((with_reducible refine gate_dst (N := 5) rfl ?_); refine Kd.R_lit Kd.string _ 9 ?hg (N := 5) ?hd (xs := ([(⟨#[98, 108, 111, 99, 107, 113, 117, 111, 116, 101]⟩ : ByteArray), (⟨#[104, 49]⟩ : ByteArray), (⟨#[104, 50]⟩ : ByteArray), (⟨#[104, 51]⟩ : ByteArray), (⟨#[104, 52]⟩ : ByteArray), (⟨#[104, 53]⟩ : ByteArray), (⟨#[104, 54]⟩ : ByteArray), (⟨#[108, 105, 115, 116, 105, 110, 103]⟩ : ByteArray), (⟨#[111, 108]⟩ : ByteArray), (⟨#[112]⟩ : ByteArray), (⟨#[112, 108, 97, 105, 110, 116, 101, 120, 116]⟩ : ByteArray), (⟨#[112, 114, 101]⟩ : ByteArray), (⟨#[116, 97, 98, 108, 101]⟩ : ByteArray), (⟨#[117, 108]⟩ : ByteArray), (⟨#[120, 109, 112]⟩ : ByteArray)] : List ByteArray)) (inner := [.string (⟨#[98, 108, 111, 99, 107, 113, 117, 111, 116, 101]⟩ : ByteArray), .string (⟨#[104, 49]⟩ : ByteArray), .string (⟨#[104, 50]⟩ : ByteArray), .string (⟨#[104, 51]⟩ : ByteArray), .string (⟨#[104, 52]⟩ : ByteArray), .string (⟨#[104, 53]⟩ : ByteArray), .string (⟨#[104, 54]⟩ : ByteArray), .string (⟨#[108, 105, 115, 116, 105, 110, 103]⟩ : ByteArray), .string (⟨#[111, 108]⟩ : ByteArray), .string (⟨#[112]⟩ : ByteArray), .string (⟨#[112, 108, 97, 105, 110, 116, 101, 120, 116]⟩ : ByteArray), .string (⟨#[112, 114, 101]⟩ : ByteArray), .string (⟨#[116, 97, 98, 108, 101]⟩ : ByteArray), .string (⟨#[117, 108]⟩ : ByteArray), .string (⟨#[120, 109, 112]⟩ : ByteArray)]) (ok := fun _ => True) (okp := fun _ => True) ?hr ?hp (fun _ hk => hk) trivial (Below.refl _ _) (Nat.le_refl _) (by simp) ?_; (case hd => rfl); (case hg => rfl); (case hr => first | (go_simp; done) | (go_simp; rfl)); (case hp => exact (Reps.one (show Kd.M Kd.string _ _ _ (⟨#[98, 108, 111, 99, 107, 113, 117, 111, 116, 101]⟩ : ByteArray) [.string (⟨#[98, 108, 111, 99, 107, 113, 117, 111, 116, 101]⟩ : ByteArray)] from rfl) (Reps.one (show Kd.M Kd.string _ _ _ (⟨#[104, 49]⟩ : ByteArray) [.string (⟨#[104, 49]⟩ : ByteArray)] from rfl) (Reps.one (show Kd.M Kd.string _ _ _ (⟨#[104, 50]⟩ : ByteArray) [.string (⟨#[104, 50]⟩ : ByteArray)] from rfl) (Reps.one (show Kd.M Kd.string _ _ _ (⟨#[104, 51]⟩ : ByteArray) [.string (⟨#[104, 51]⟩ : ByteArray)] from rfl) (Reps.one (show Kd.M Kd.string _ _ _ (⟨#[104, 52]⟩ : ByteArray) [.string (⟨#[104, 52]⟩ : ByteArray)] from rfl) (Reps.one (show Kd.M Kd.string _ _ _ (⟨#[104, 53]⟩ : ByteArray) [.string (⟨#[104, 53]⟩ : ByteArray)] from rfl) (Reps.one (show Kd.M Kd.string _ _ _ (⟨#[104, 54]⟩ : ByteArray) [.string (⟨#[104, 54]⟩ : ByteArray)] from rfl) (Reps.one (show Kd.M Kd.string _ _ _ (⟨#[108, 105, 115, 116, 105, 110, 103]⟩ : ByteArray) [.string (⟨#[108, 105, 115, 116, 105, 110, 103]⟩ : ByteArray)] from rfl) (Reps.one (show Kd.M Kd.string _ _ _ (⟨#[111, 108]⟩ : ByteArray) [.string (⟨#[111, 108]⟩ : ByteArray)] from rfl) (Reps.one (show Kd.M Kd.string _ _ _ (⟨#[112]⟩ : ByteArray) [.string (⟨#[112]⟩ : ByteArray)] from rfl) (Reps.one (show Kd.M Kd.string _ _ _ (⟨#[112, 108, 97, 105, 110, 116, 101, 120, 116]⟩ : ByteArray) [.string (⟨#[112, 108, 97, 105, 110, 116, 101, 120, 116]⟩ : ByteArray)] from rfl) (Reps.one (show Kd.M Kd.string _ _ _ (⟨#[112, 114, 101]⟩ : ByteArray) [.string (⟨#[112, 114, 101]⟩ : ByteArray)] from rfl) (Reps.one (show Kd.M Kd.string _ _ _ (⟨#[116, 97, 98, 108, 101]⟩ : ByteArray) [.string (⟨#[116, 97, 98, 108, 101]⟩ : ByteArray)] from rfl) (Reps.one (show Kd.M Kd.string _ _ _ (⟨#[117, 108]⟩ : ByteArray) [.string (⟨#[117, 108]⟩ : ByteArray)] from rfl) (Reps.one (show Kd.M Kd.string _ _ _ (⟨#[120, 109, 112]⟩ : ByteArray) [.string (⟨#[120, 109, 112]⟩ : ByteArray)] from rfl) (Reps.none _ _))))))))))))))))); intro v109 w9 ho10 hb hg_ hnew_; clear hg_ hnew_; (first | rw [← Ny108.out] at ho10 | (simp only [Int.reduceToNat] at ho10; rw [← Ny108.out] at ho10)); have n0_ := Aside0.mk (Kd.R_lower ho10 (below_size (by repeat (first | (with_reducible first | exact HB.out | apply below_alloc | apply pw_below_drewN | apply below_drew1) | exact HB.out)))); have n1_ := Aside0.mk (below_step (by repeat (first | (with_reducible first | exact HB.out | apply below_alloc | apply pw_below_drewN | apply below_drew1) | exact HB.out)) hb); clear HB; have HO110 := n0_; have HB := n1_; clear n0_ n1_; clear hb ho10; obtain ⟨Ao11, co11, eo11⟩ := Kd.R_slice HO110.out; subst eo11) | ((with_reducible refine gate_callee (f := 46) rfl ?_); refine goesL_ (some 6) rfl rfl Try.func46 (by kernel_rfl) rfl #[.string a0, .slice Ao11 y108.length co11] rfl (by (try simp only [List.map_toArray, List.map_cons, List.map_nil]); first | done | rfl | (simp only [List.length_drop, List.length_take]; rfl)) ?_; (with_reducible refine (kinds_one.calls k a0 _ _ y108 false _ ?side1 ?side2 A2.out).mono ?_); (case side1 => repeat (first | exact (Kd.R_reads' HO110.out).2.2 | (with_reducible refine Kd.C_alloc ?_ _) | (with_reducible refine Kd.C_drewN ?_ _) | (with_reducible refine Kd.C_drew ?_))); (case side2 => exact (Kd.R_reads' HO110.out).2.1); rintro e w' ⟨rfl, ⟨nd, rfl⟩⟩; refine ⟨_, rfl, ?_⟩) | ((with_reducible refine gate_dst (N := 9) rfl ?_); refine Kd.R_lit Kd.string _ 9 ?hg (N := 9) ?hd (xs := ([(⟨#[97, 100, 100, 114, 101, 115, 115]⟩ : ByteArray), (⟨#[97, 114, 116, 105, 99, 108, 101]⟩ : ByteArray), (⟨#[97, 115, 105, 100, 101]⟩ : ByteArray), (⟨#[98, 111, 100, 121]⟩ : ByteArray), (⟨#[99, 101, 110, 116, 101, 114]⟩ : ByteArray), (⟨#[100, 100]⟩ : ByteArray), (⟨#[100, 101, 116, 97, 105, 108, 115]⟩ : ByteArray), (⟨#[100, 105, 97, 108, 111, 103]⟩ : ByteArray), (⟨#[100, 105, 114]⟩ : ByteArray), (⟨#[100, 105, 118]⟩ : ByteArray), (⟨#[100, 108]⟩ : ByteArray), (⟨#[100, 116]⟩ : ByteArray), (⟨#[102, 105, 101, 108, 100, 115, 101, 116]⟩ : ByteArray), (⟨#[102, 105, 103, 99, 97, 112, 116, 105, 111, 110]⟩ : ByteArray), (⟨#[102, 105, 103, 117, 114, 101]⟩ : ByteArray), (⟨#[102, 111, 111, 116, 101, 114]⟩ : ByteArray), (⟨#[102, 111, 114, 109]⟩ : ByteArray)] : List ByteArray)) (inner := [.string (⟨#[97, 100, 100, 114, 101, 115, 115]⟩ : ByteArray), .string (⟨#[97, 114, 116, 105, 99, 108, 101]⟩ : ByteArray), .string (⟨#[97, 115, 105, 100, 101]⟩ : ByteArray), .string (⟨#[98, 111, 100, 121]⟩ : ByteArray), .string (⟨#[99, 101, 110, 116, 101, 114]⟩ : ByteArray), .string (⟨#[100, 100]⟩ : ByteArray), .string (⟨#[100, 101, 116, 97, 105, 108, 115]⟩ : ByteArray), .string (⟨#[100, 105, 97, 108, 111, 103]⟩ : ByteArray), .string (⟨#[100, 105, 114]⟩ : ByteArray), .string (⟨#[100, 105, 118]⟩ : ByteArray), .string (⟨#[100, 108]⟩ : ByteArray), .string (⟨#[100, 116]⟩ : ByteArray), .string (⟨#[102, 105, 101, 108, 100, 115, 101, 116]⟩ : ByteArray), .string (⟨#[102, 105, 103, 99, 97, 112, 116, 105, 111, 110]⟩ : ByteArray), .string (⟨#[102, 105, 103, 117, 114, 101]⟩ : ByteArray), .string (⟨#[102, 111, 111, 116, 101, 114]⟩ : ByteArray), .string (⟨#[102, 111, 114, 109]⟩ : ByteArray)]) (ok := fun _ => True) (okp := fun _ => True) ?hr ?hp (fun _ hk => hk) trivial (Below.refl _ _) (Nat.le_refl _) (by simp) ?_; (case hd => rfl); (case hg => rfl); (case hr => first | (go_simp; done) | (go_simp; rfl)); (case hp => exact (Reps.one (show Kd.M Kd.string _ _ _ (⟨#[97, 100, 100, 114, 101, 115, 115]⟩ : ByteArray) [.string (⟨#[97, 100, 100, 114, 101, 115, 115]⟩ : ByteArray)] from rfl) (Reps.one (show Kd.M Kd.string _ _ _ (⟨#[97, 114, 116, 105, 99, 108, 101]⟩ : ByteArray) [.string (⟨#[97, 114, 116, 105, 99, 108, 101]⟩ : ByteArray)] from rfl) (Reps.one (show Kd.M Kd.string _ _ _ (⟨#[97, 115, 105, 100, 101]⟩ : ByteArray) [.string (⟨#[97, 115, 105, 100, 101]⟩ : ByteArray)] from rfl) (Reps.one (show Kd.M Kd.string _ _ _ (⟨#[98, 111, 100, 121]⟩ : ByteArray) [.string (⟨#[98, 111, 100, 121]⟩ : ByteArray)] from rfl) (Reps.one (show Kd.M Kd.string _ _ _ (⟨#[99, 101, 110, 116, 101, 114]⟩ : ByteArray) [.string (⟨#[99, 101, 110, 116, 101, 114]⟩ : ByteArray)] from rfl) (Reps.one (show Kd.M Kd.string _ _ _ (⟨#[100, 100]⟩ : ByteArray) [.string (⟨#[100, 100]⟩ : ByteArray)] from rfl) (Reps.one (show Kd.M Kd.string _ _ _ (⟨#[100, 101, 116, 97, 105, 108, 115]⟩ : ByteArray) [.string (⟨#[100, 101, 116, 97, 105, 108, 115]⟩ : ByteArray)] from rfl) (Reps.one (show Kd.M Kd.string _ _ _ (⟨#[100, 105, 97, 108, 111, 103]⟩ : ByteArray) [.string (⟨#[100, 105, 97, 108, 111, 103]⟩ : ByteArray)] from rfl) (Reps.one (show Kd.M Kd.string _ _ _ (⟨#[100, 105, 114]⟩ : ByteArray) [.string (⟨#[100, 105, 114]⟩ : ByteArray)] from rfl) (Reps.one (show Kd.M Kd.string _ _ _ (⟨#[100, 105, 118]⟩ : ByteArray) [.string (⟨#[100, 105, 118]⟩ : ByteArray)] from rfl) (Reps.one (show Kd.M Kd.string _ _ _ (⟨#[100, 108]⟩ : ByteArray) [.string (⟨#[100, 108]⟩ : ByteArray)] from rfl) (Reps.one (show Kd.M Kd.string _ _ _ (⟨#[100, 116]⟩ : ByteArray) [.string (⟨#[100, 116]⟩ : ByteArray)] from rfl) (Reps.one (show Kd.M Kd.string _ _ _ (⟨#[102, 105, 101, 108, 100, 115, 101, 116]⟩ : ByteArray) [.string (⟨#[102, 105, 101, 108, 100, 115, 101, 116]⟩ : ByteArray)] from rfl) (Reps.one (show Kd.M Kd.string _ _ _ (⟨#[102, 105, 103, 99, 97, 112, 116, 105, 111, 110]⟩ : ByteArray) [.string (⟨#[102, 105, 103, 99, 97, 112, 116, 105, 111, 110]⟩ : ByteArray)] from rfl) (Reps.one (show Kd.M Kd.string _ _ _ (⟨#[102, 105, 103, 117, 114, 101]⟩ : ByteArray) [.string (⟨#[102, 105, 103, 117, 114, 101]⟩ : ByteArray)] from rfl) (Reps.one (show Kd.M Kd.string _ _ _ (⟨#[102, 111, 111, 116, 101, 114]⟩ : ByteArray) [.string (⟨#[102, 111, 111, 116, 101, 114]⟩ : ByteArray)] from rfl) (Reps.one (show Kd.M Kd.string _ _ _ (⟨#[102, 111, 114, 109]⟩ : ByteArray) [.string (⟨#[102, 111, 114, 109]⟩ : ByteArray)] from rfl) (Reps.none _ _))))))))))))))))))); intro v113 w12 ho13 hb hg_ hnew_; clear hg_ hnew_; (first | rw [← Ny112.out] at ho13 | (simp only [Int.reduceToNat] at ho13; rw [← Ny112.out] at ho13)); have n0_ := Aside0.mk (Kd.R_elder' (by (with_reducible repeat (first | apply Kd.R_alloc | apply Kd.R_drewN | apply Kd.R_drew)); exact HO110.out) (Kd.R_base ho13) hb); have n1_ := Aside0.mk (Kd.R_lower (Kd.R_new' ho13 (Kd.R_lt (by (with_reducible repeat (first | apply Kd.R_alloc | apply Kd.R_drewN | apply Kd.R_drew)); exact HO110.out))) (below_size (by repeat (first | (with_reducible first | exact HB.out | apply below_alloc | apply pw_below_drewN | apply below_drew1) | exact HB.out)))); have n2_ := Aside0.mk (below_step (by repeat (first | (with_reducible first | exact HB.out | apply below_alloc | apply pw_below_drewN | apply below_drew1) | exact HB.out)) hb); clear HO110; clear HB; have HO110 := n0_; have HO114 := n1_; have HB := n2_; clear n0_ n1_ n2_; clear hb ho13; obtain ⟨Ao14, co14, eo14⟩ := Kd.R_slice HO114.out; subst eo14) | ((with_reducible refine gate_callee (f := 46) rfl ?_); refine goesL_ (some 10) rfl rfl Try.func46 (by kernel_rfl) rfl #[.string a0, .slice Ao14 y112.length co14] rfl (by (try simp only [List.map_toArray, List.map_cons, List.map_nil]); first | done | rfl | (simp only [List.length_drop, List.length_take]; rfl)) ?_; (with_reducible refine (kinds_one.calls k a0 _ _ y112 true _ ?side1 ?side2 A7.out).mono ?_); (case side1 => repeat (first | exact (Kd.R_reads' HO114.out).2.2 | (with_reducible refine Kd.C_alloc ?_ _) | (with_reducible refine Kd.C_drewN ?_ _) | (with_reducible refine Kd.C_drew ?_))); (case side2 => exact (Kd.R_reads' HO114.out).2.1); rintro e w' ⟨rfl, ⟨nd, rfl⟩⟩; refine ⟨_, rfl, ?_⟩))
      go_ret
      exact ⟨by first | rfl | (simp [errW_none, errW_some] <;> rfl) | (simp [*, errW_none, errW_some] <;> rfl), by repeat (first | (with_reducible first | exact HB.out | apply below_alloc | apply pw_below_drewN | apply below_drew1) | exact HB.out)⟩
    · replace c8 := Bool.eq_false_iff.mpr c8
      subst c8
      have H1 : ((kinds_one.f k a0 (([(⟨#[104, 101, 97, 100, 101, 114]⟩ : ByteArray), (⟨#[104, 103, 114, 111, 117, 112]⟩ : ByteArray), (⟨#[104, 114]⟩ : ByteArray), (⟨#[104, 116, 109, 108]⟩ : ByteArray), (⟨#[108, 101, 103, 101, 110, 100]⟩ : ByteArray), (⟨#[108, 105]⟩ : ByteArray), (⟨#[109, 97, 105, 110]⟩ : ByteArray), (⟨#[109, 101, 110, 117]⟩ : ByteArray), (⟨#[110, 97, 118]⟩ : ByteArray), (⟨#[111, 112, 116, 105, 111, 110]⟩ : ByteArray), (⟨#[115, 101, 97, 114, 99, 104]⟩ : ByteArray), (⟨#[115, 101, 99, 116, 105, 111, 110]⟩ : ByteArray), (⟨#[115, 117, 109, 109, 97, 114, 121]⟩ : ByteArray), (⟨#[116, 114]⟩ : ByteArray)] : List ByteArray))).bind fun t119 => (if t119 = true then (some 1) else (some 0))) = some r := by rw [if_neg (show ¬ (false = true) by decide)] at H; exact H
      clear H
      have H := H1
      clear H1
      obtain ⟨y116, hy116⟩ : ∃ y_ : List ByteArray, y_ = (([(⟨#[104, 101, 97, 100, 101, 114]⟩ : ByteArray), (⟨#[104, 103, 114, 111, 117, 112]⟩ : ByteArray), (⟨#[104, 114]⟩ : ByteArray), (⟨#[104, 116, 109, 108]⟩ : ByteArray), (⟨#[108, 101, 103, 101, 110, 100]⟩ : ByteArray), (⟨#[108, 105]⟩ : ByteArray), (⟨#[109, 97, 105, 110]⟩ : ByteArray), (⟨#[109, 101, 110, 117]⟩ : ByteArray), (⟨#[110, 97, 118]⟩ : ByteArray), (⟨#[111, 112, 116, 105, 111, 110]⟩ : ByteArray), (⟨#[115, 101, 97, 114, 99, 104]⟩ : ByteArray), (⟨#[115, 101, 99, 116, 105, 111, 110]⟩ : ByteArray), (⟨#[115, 117, 109, 109, 97, 114, 121]⟩ : ByteArray), (⟨#[116, 114]⟩ : ByteArray)] : List ByteArray)) := ⟨_, rfl⟩
      replace H : ((kinds_one.f k a0 y116).bind fun t119 => (if t119 = true then (some 1) else (some 0))) = some r := by first | (rw [hy116]; with_reducible exact H) | (have H2_ := (Option.bind_some _ _).symm.trans H; rw [hy116]; with_reducible exact H2_) | (have H2_ := (Option.bind_some _ _).symm.trans H; with_reducible exact H2_) | with_reducible exact H | (rw [hy116]; exact H) | exact H
      have Ny116 := Aside0.mk hy116
      clear hy116
      replace H := Option.bind_eq_some_iff.mp H
      obtain ⟨t119, A150, H⟩ := H
      replace H : (if t119 = true then (some 1) else (some 0)) = some r := H
      have A15 := Aside0.mk A150
      clear A150
      by_cases c16 : t119 = true
      · subst c16
        have H1 : (some 1) = some r := by rw [if_pos rfl] at H; exact H
        clear H
        have H := H1
        clear H1
        obtain rfl := Option.some.inj H
        go_enter Try.func31, Try.ntmps31
        go_wp2_with (first | ((with_reducible refine gate_dst (N := 5) rfl ?_); refine Kd.R_lit Kd.string _ 9 ?hg (N := 5) ?hd (xs := ([(⟨#[98, 108, 111, 99, 107, 113, 117, 111, 116, 101]⟩ : ByteArray), (⟨#[104, 49]⟩ : ByteArray), (⟨#[104, 50]⟩ : ByteArray), (⟨#[104, 51]⟩ : ByteArray), (⟨#[104, 52]⟩ : ByteArray), (⟨#[104, 53]⟩ : ByteArray), (⟨#[104, 54]⟩ : ByteArray), (⟨#[108, 105, 115, 116, 105, 110, 103]⟩ : ByteArray), (⟨#[111, 108]⟩ : ByteArray), (⟨#[112]⟩ : ByteArray), (⟨#[112, 108, 97, 105, 110, 116, 101, 120, 116]⟩ : ByteArray), (⟨#[112, 114, 101]⟩ : ByteArray), (⟨#[116, 97, 98, 108, 101]⟩ : ByteArray), (⟨#[117, 108]⟩ : ByteArray), (⟨#[120, 109, 112]⟩ : ByteArray)] : List ByteArray)) (inner := [.string (⟨#[98, 108, 111, 99, 107, 113, 117, 111, 116, 101]⟩ : ByteArray), .string (⟨#[104, 49]⟩ : ByteArray), .string (⟨#[104, 50]⟩ : ByteArray), .string (⟨#[104, 51]⟩ : ByteArray), .string (⟨#[104, 52]⟩ : ByteArray), .string (⟨#[104, 53]⟩ : ByteArray), .string (⟨#[104, 54]⟩ : ByteArray), .string (⟨#[108, 105, 115, 116, 105, 110, 103]⟩ : ByteArray), .string (⟨#[111, 108]⟩ : ByteArray), .string (⟨#[112]⟩ : ByteArray), .string (⟨#[112, 108, 97, 105, 110, 116, 101, 120, 116]⟩ : ByteArray), .string (⟨#[112, 114, 101]⟩ : ByteArray), .string (⟨#[116, 97, 98, 108, 101]⟩ : ByteArray), .string (⟨#[117, 108]⟩ : ByteArray), .string (⟨#[120, 109, 112]⟩ : ByteArray)]) (ok := fun _ => True) (okp := fun _ => True) ?hr ?hp (fun _ hk => hk) trivial (Below.refl _ _) (Nat.le_refl _) (by simp) ?_; (case hd => rfl); (case hg => rfl); (case hr => first | (go_simp; done) | (go_simp; rfl)); (case hp => exact (Reps.one (show Kd.M Kd.string _ _ _ (⟨#[98, 108, 111, 99, 107, 113, 117, 111, 116, 101]⟩ : ByteArray) [.string (⟨#[98, 108, 111, 99, 107, 113, 117, 111, 116, 101]⟩ : ByteArray)] from rfl) (Reps.one (show Kd.M Kd.string _ _ _ (⟨#[104, 49]⟩ : ByteArray) [.string (⟨#[104, 49]⟩ : ByteArray)] from rfl) (Reps.one (show Kd.M Kd.string _ _ _ (⟨#[104, 50]⟩ : ByteArray) [.string (⟨#[104, 50]⟩ : ByteArray)] from rfl) (Reps.one (show Kd.M Kd.string _ _ _ (⟨#[104, 51]⟩ : ByteArray) [.string (⟨#[104, 51]⟩ : ByteArray)] from rfl) (Reps.one (show Kd.M Kd.string _ _ _ (⟨#[104, 52]⟩ : ByteArray) [.string (⟨#[104, 52]⟩ : ByteArray)] from rfl) (Reps.one (show Kd.M Kd.string _ _ _ (⟨#[104, 53]⟩ : ByteArray) [.string (⟨#[104, 53]⟩ : ByteArray)] from rfl) (Reps.one (show Kd.M Kd.string _ _ _ (⟨#[104, 54]⟩ : ByteArray) [.string (⟨#[104, 54]⟩ : ByteArray)] from rfl) (Reps.one (show Kd.M Kd.string _ _ _ (⟨#[108, 105, 115, 116, 105, 110, 103]⟩ : ByteArray) [.string (⟨#[108, 105, 115, 116, 105, 110, 103]⟩ : ByteArray)] from rfl) (Reps.one (show Kd.M Kd.string _ _ _ (⟨#[111, 108]⟩ : ByteArray) [.string (⟨#[111, 108]⟩ : ByteArray)] from rfl) (Reps.one (show Kd.M Kd.string _ _ _ (⟨#[112]⟩ : ByteArray) [.string (⟨#[112]⟩ : ByteArray)] from rfl) (Reps.one (show Kd.M Kd.string _ _ _ (⟨#[112, 108, 97, 105, 110, 116, 101, 120, 116]⟩ : ByteArray) [.string (⟨#[112, 108, 97, 105, 110, 116, 101, 120, 116]⟩ : ByteArray)] from rfl) (Reps.one (show Kd.M Kd.string _ _ _ (⟨#[112, 114, 101]⟩ : ByteArray) [.string (⟨#[112, 114, 101]⟩ : ByteArray)] from rfl) (Reps.one (show Kd.M Kd.string _ _ _ (⟨#[116, 97, 98, 108, 101]⟩ : ByteArray) [.string (⟨#[116, 97, 98, 108, 101]⟩ : ByteArray)] from rfl) (Reps.one (show Kd.M Kd.string _ _ _ (⟨#[117, 108]⟩ : ByteArray) [.string (⟨#[117, 108]⟩ : ByteArray)] from rfl) (Reps.one (show Kd.M Kd.string _ _ _ (⟨#[120, 109, 112]⟩ : ByteArray) [.string (⟨#[120, 109, 112]⟩ : ByteArray)] from rfl) (Reps.none _ _))))))))))))))))); intro v109 w17 ho18 hb hg_ hnew_; clear hg_ hnew_; (first | rw [← Ny108.out] at ho18 | (simp only [Int.reduceToNat] at ho18; rw [← Ny108.out] at ho18)); have n0_ := Aside0.mk (Kd.R_lower ho18 (below_size (by repeat (first | (with_reducible first | exact HB.out | apply below_alloc | apply pw_below_drewN | apply below_drew1) | exact HB.out)))); have n1_ := Aside0.mk (below_step (by repeat (first | (with_reducible first | exact HB.out | apply below_alloc | apply pw_below_drewN | apply below_drew1) | exact HB.out)) hb); clear HB; have HO110 := n0_; have HB := n1_; clear n0_ n1_; clear hb ho18; obtain ⟨Ao19, co19, eo19⟩ := Kd.R_slice HO110.out; subst eo19) | ((with_reducible refine gate_callee (f := 46) rfl ?_); refine goesL_ (some 6) rfl rfl Try.func46 (by kernel_rfl) rfl #[.string a0, .slice Ao19 y108.length co19] rfl (by (try simp only [List.map_toArray, List.map_cons, List.map_nil]); first | done | rfl | (simp only [List.length_drop, List.length_take]; rfl)) ?_; (with_reducible refine (kinds_one.calls k a0 _ _ y108 false _ ?side1 ?side2 A2.out).mono ?_); (case side1 => repeat (first | exact (Kd.R_reads' HO110.out).2.2 | (with_reducible refine Kd.C_alloc ?_ _) | (with_reducible refine Kd.C_drewN ?_ _) | (with_reducible refine Kd.C_drew ?_))); (case side2 => exact (Kd.R_reads' HO110.out).2.1); rintro e w' ⟨rfl, ⟨nd, rfl⟩⟩; refine ⟨_, rfl, ?_⟩) | ((with_reducible refine gate_dst (N := 9) rfl ?_); refine Kd.R_lit Kd.string _ 9 ?hg (N := 9) ?hd (xs := ([(⟨#[97, 100, 100, 114, 101, 115, 115]⟩ : ByteArray), (⟨#[97, 114, 116, 105, 99, 108, 101]⟩ : ByteArray), (⟨#[97, 115, 105, 100, 101]⟩ : ByteArray), (⟨#[98, 111, 100, 121]⟩ : ByteArray), (⟨#[99, 101, 110, 116, 101, 114]⟩ : ByteArray), (⟨#[100, 100]⟩ : ByteArray), (⟨#[100, 101, 116, 97, 105, 108, 115]⟩ : ByteArray), (⟨#[100, 105, 97, 108, 111, 103]⟩ : ByteArray), (⟨#[100, 105, 114]⟩ : ByteArray), (⟨#[100, 105, 118]⟩ : ByteArray), (⟨#[100, 108]⟩ : ByteArray), (⟨#[100, 116]⟩ : ByteArray), (⟨#[102, 105, 101, 108, 100, 115, 101, 116]⟩ : ByteArray), (⟨#[102, 105, 103, 99, 97, 112, 116, 105, 111, 110]⟩ : ByteArray), (⟨#[102, 105, 103, 117, 114, 101]⟩ : ByteArray), (⟨#[102, 111, 111, 116, 101, 114]⟩ : ByteArray), (⟨#[102, 111, 114, 109]⟩ : ByteArray)] : List ByteArray)) (inner := [.string (⟨#[97, 100, 100, 114, 101, 115, 115]⟩ : ByteArray), .string (⟨#[97, 114, 116, 105, 99, 108, 101]⟩ : ByteArray), .string (⟨#[97, 115, 105, 100, 101]⟩ : ByteArray), .string (⟨#[98, 111, 100, 121]⟩ : ByteArray), .string (⟨#[99, 101, 110, 116, 101, 114]⟩ : ByteArray), .string (⟨#[100, 100]⟩ : ByteArray), .string (⟨#[100, 101, 116, 97, 105, 108, 115]⟩ : ByteArray), .string (⟨#[100, 105, 97, 108, 111, 103]⟩ : ByteArray), .string (⟨#[100, 105, 114]⟩ : ByteArray), .string (⟨#[100, 105, 118]⟩ : ByteArray), .string (⟨#[100, 108]⟩ : ByteArray), .string (⟨#[100, 116]⟩ : ByteArray), .string (⟨#[102, 105, 101, 108, 100, 115, 101, 116]⟩ : ByteArray), .string (⟨#[102, 105, 103, 99, 97, 112, 116, 105, 111, 110]⟩ : ByteArray), .string (⟨#[102, 105, 103, 117, 114, 101]⟩ : ByteArray), .string (⟨#[102, 111, 111, 116, 101, 114]⟩ : ByteArray), .string (⟨#[102, 111, 114, 109]⟩ : ByteArray)]) (ok := fun _ => True) (okp := fun _ => True) ?hr ?hp (fun _ hk => hk) trivial (Below.refl _ _) (Nat.le_refl _) (by simp) ?_; (case hd => rfl); (case hg => rfl); (case hr => first | (go_simp; done) | (go_simp; rfl)); (case hp => exact (Reps.one (show Kd.M Kd.string _ _ _ (⟨#[97, 100, 100, 114, 101, 115, 115]⟩ : ByteArray) [.string (⟨#[97, 100, 100, 114, 101, 115, 115]⟩ : ByteArray)] from rfl) (Reps.one (show Kd.M Kd.string _ _ _ (⟨#[97, 114, 116, 105, 99, 108, 101]⟩ : ByteArray) [.string (⟨#[97, 114, 116, 105, 99, 108, 101]⟩ : ByteArray)] from rfl) (Reps.one (show Kd.M Kd.string _ _ _ (⟨#[97, 115, 105, 100, 101]⟩ : ByteArray) [.string (⟨#[97, 115, 105, 100, 101]⟩ : ByteArray)] from rfl) (Reps.one (show Kd.M Kd.string _ _ _ (⟨#[98, 111, 100, 121]⟩ : ByteArray) [.string (⟨#[98, 111, 100, 121]⟩ : ByteArray)] from rfl) (Reps.one (show Kd.M Kd.string _ _ _ (⟨#[99, 101, 110, 116, 101, 114]⟩ : ByteArray) [.string (⟨#[99, 101, 110, 116, 101, 114]⟩ : ByteArray)] from rfl) (Reps.one (show Kd.M Kd.string _ _ _ (⟨#[100, 100]⟩ : ByteArray) [.string (⟨#[100, 100]⟩ : ByteArray)] from rfl) (Reps.one (show Kd.M Kd.string _ _ _ (⟨#[100, 101, 116, 97, 105, 108, 115]⟩ : ByteArray) [.string (⟨#[100, 101, 116, 97, 105, 108, 115]⟩ : ByteArray)] from rfl) (Reps.one (show Kd.M Kd.string _ _ _ (⟨#[100, 105, 97, 108, 111, 103]⟩ : ByteArray) [.string (⟨#[100, 105, 97, 108, 111, 103]⟩ : ByteArray)] from rfl) (Reps.one (show Kd.M Kd.string _ _ _ (⟨#[100, 105, 114]⟩ : ByteArray) [.string (⟨#[100, 105, 114]⟩ : ByteArray)] from rfl) (Reps.one (show Kd.M Kd.string _ _ _ (⟨#[100, 105, 118]⟩ : ByteArray) [.string (⟨#[100, 105, 118]⟩ : ByteArray)] from rfl) (Reps.one (show Kd.M Kd.string _ _ _ (⟨#[100, 108]⟩ : ByteArray) [.string (⟨#[100, 108]⟩ : ByteArray)] from rfl) (Reps.one (show Kd.M Kd.string _ _ _ (⟨#[100, 116]⟩ : ByteArray) [.string (⟨#[100, 116]⟩ : ByteArray)] from rfl) (Reps.one (show Kd.M Kd.string _ _ _ (⟨#[102, 105, 101, 108, 100, 115, 101, 116]⟩ : ByteArray) [.string (⟨#[102, 105, 101, 108, 100, 115, 101, 116]⟩ : ByteArray)] from rfl) (Reps.one (show Kd.M Kd.string _ _ _ (⟨#[102, 105, 103, 99, 97, 112, 116, 105, 111, 110]⟩ : ByteArray) [.string (⟨#[102, 105, 103, 99, 97, 112, 116, 105, 111, 110]⟩ : ByteArray)] from rfl) (Reps.one (show Kd.M Kd.string _ _ _ (⟨#[102, 105, 103, 117, 114, 101]⟩ : ByteArray) [.string (⟨#[102, 105, 103, 117, 114, 101]⟩ : ByteArray)] from rfl) (Reps.one (show Kd.M Kd.string _ _ _ (⟨#[102, 111, 111, 116, 101, 114]⟩ : ByteArray) [.string (⟨#[102, 111, 111, 116, 101, 114]⟩ : ByteArray)] from rfl) (Reps.one (show Kd.M Kd.string _ _ _ (⟨#[102, 111, 114, 109]⟩ : ByteArray) [.string (⟨#[102, 111, 114, 109]⟩ : ByteArray)] from rfl) (Reps.none _ _))))))))))))))))))); intro v113 w20 ho21 hb hg_ hnew_; clear hg_ hnew_; (first | rw [← Ny112.out] at ho21 | (simp only [Int.reduceToNat] at ho21; rw [← Ny112.out] at ho21)); have n0_ := Aside0.mk (Kd.R_elder' (by (with_reducible repeat (first | apply Kd.R_alloc | apply Kd.R_drewN | apply Kd.R_drew)); exact HO110.out) (Kd.R_base ho21) hb); have n1_ := Aside0.mk (Kd.R_lower (Kd.R_new' ho21 (Kd.R_lt (by (with_reducible repeat (first | apply Kd.R_alloc | apply Kd.R_drewN | apply Kd.R_drew)); exact HO110.out))) (below_size (by repeat (first | (with_reducible first | exact HB.out | apply below_alloc | apply pw_below_drewN | apply below_drew1) | exact HB.out)))); have n2_ := Aside0.mk (below_step (by repeat (first | (with_reducible first | exact HB.out | apply below_alloc | apply pw_below_drewN | apply below_drew1) | exact HB.out)) hb); clear HO110; clear HB; have HO110 := n0_; have HO114 := n1_; have HB := n2_; clear n0_ n1_ n2_; clear hb ho21; obtain ⟨Ao22, co22, eo22⟩ := Kd.R_slice HO114.out; subst eo22) | ((with_reducible refine gate_callee (f := 46) rfl ?_); refine goesL_ (some 10) rfl rfl Try.func46 (by kernel_rfl) rfl #[.string a0, .slice Ao22 y112.length co22] rfl (by (try simp only [List.map_toArray, List.map_cons, List.map_nil]); first | done | rfl | (simp only [List.length_drop, List.length_take]; rfl)) ?_; (with_reducible refine (kinds_one.calls k a0 _ _ y112 false _ ?side1 ?side2 A7.out).mono ?_); (case side1 => repeat (first | exact (Kd.R_reads' HO114.out).2.2 | (with_reducible refine Kd.C_alloc ?_ _) | (with_reducible refine Kd.C_drewN ?_ _) | (with_reducible refine Kd.C_drew ?_))); (case side2 => exact (Kd.R_reads' HO114.out).2.1); rintro e w' ⟨rfl, ⟨nd, rfl⟩⟩; refine ⟨_, rfl, ?_⟩) | ((with_reducible refine gate_dst (N := 12) rfl ?_); refine Kd.R_lit Kd.string _ 9 ?hg (N := 12) ?hd (xs := ([(⟨#[104, 101, 97, 100, 101, 114]⟩ : ByteArray), (⟨#[104, 103, 114, 111, 117, 112]⟩ : ByteArray), (⟨#[104, 114]⟩ : ByteArray), (⟨#[104, 116, 109, 108]⟩ : ByteArray), (⟨#[108, 101, 103, 101, 110, 100]⟩ : ByteArray), (⟨#[108, 105]⟩ : ByteArray), (⟨#[109, 97, 105, 110]⟩ : ByteArray), (⟨#[109, 101, 110, 117]⟩ : ByteArray), (⟨#[110, 97, 118]⟩ : ByteArray), (⟨#[111, 112, 116, 105, 111, 110]⟩ : ByteArray), (⟨#[115, 101, 97, 114, 99, 104]⟩ : ByteArray), (⟨#[115, 101, 99, 116, 105, 111, 110]⟩ : ByteArray), (⟨#[115, 117, 109, 109, 97, 114, 121]⟩ : ByteArray), (⟨#[116, 114]⟩ : ByteArray)] : List ByteArray)) (inner := [.string (⟨#[104, 101, 97, 100, 101, 114]⟩ : ByteArray), .string (⟨#[104, 103, 114, 111, 117, 112]⟩ : ByteArray), .string (⟨#[104, 114]⟩ : ByteArray), .string (⟨#[104, 116, 109, 108]⟩ : ByteArray), .string (⟨#[108, 101, 103, 101, 110, 100]⟩ : ByteArray), .string (⟨#[108, 105]⟩ : ByteArray), .string (⟨#[109, 97, 105, 110]⟩ : ByteArray), .string (⟨#[109, 101, 110, 117]⟩ : ByteArray), .string (⟨#[110, 97, 118]⟩ : ByteArray), .string (⟨#[111, 112, 116, 105, 111, 110]⟩ : ByteArray), .string (⟨#[115, 101, 97, 114, 99, 104]⟩ : ByteArray), .string (⟨#[115, 101, 99, 116, 105, 111, 110]⟩ : ByteArray), .string (⟨#[115, 117, 109, 109, 97, 114, 121]⟩ : ByteArray), .string (⟨#[116, 114]⟩ : ByteArray)]) (ok := fun _ => True) (okp := fun _ => True) ?hr ?hp (fun _ hk => hk) trivial (Below.refl _ _) (Nat.le_refl _) (by simp) ?_; (case hd => rfl); (case hg => rfl); (case hr => first | (go_simp; done) | (go_simp; rfl)); (case hp => exact (Reps.one (show Kd.M Kd.string _ _ _ (⟨#[104, 101, 97, 100, 101, 114]⟩ : ByteArray) [.string (⟨#[104, 101, 97, 100, 101, 114]⟩ : ByteArray)] from rfl) (Reps.one (show Kd.M Kd.string _ _ _ (⟨#[104, 103, 114, 111, 117, 112]⟩ : ByteArray) [.string (⟨#[104, 103, 114, 111, 117, 112]⟩ : ByteArray)] from rfl) (Reps.one (show Kd.M Kd.string _ _ _ (⟨#[104, 114]⟩ : ByteArray) [.string (⟨#[104, 114]⟩ : ByteArray)] from rfl) (Reps.one (show Kd.M Kd.string _ _ _ (⟨#[104, 116, 109, 108]⟩ : ByteArray) [.string (⟨#[104, 116, 109, 108]⟩ : ByteArray)] from rfl) (Reps.one (show Kd.M Kd.string _ _ _ (⟨#[108, 101, 103, 101, 110, 100]⟩ : ByteArray) [.string (⟨#[108, 101, 103, 101, 110, 100]⟩ : ByteArray)] from rfl) (Reps.one (show Kd.M Kd.string _ _ _ (⟨#[108, 105]⟩ : ByteArray) [.string (⟨#[108, 105]⟩ : ByteArray)] from rfl) (Reps.one (show Kd.M Kd.string _ _ _ (⟨#[109, 97, 105, 110]⟩ : ByteArray) [.string (⟨#[109, 97, 105, 110]⟩ : ByteArray)] from rfl) (Reps.one (show Kd.M Kd.string _ _ _ (⟨#[109, 101, 110, 117]⟩ : ByteArray) [.string (⟨#[109, 101, 110, 117]⟩ : ByteArray)] from rfl) (Reps.one (show Kd.M Kd.string _ _ _ (⟨#[110, 97, 118]⟩ : ByteArray) [.string (⟨#[110, 97, 118]⟩ : ByteArray)] from rfl) (Reps.one (show Kd.M Kd.string _ _ _ (⟨#[111, 112, 116, 105, 111, 110]⟩ : ByteArray) [.string (⟨#[111, 112, 116, 105, 111, 110]⟩ : ByteArray)] from rfl) (Reps.one (show Kd.M Kd.string _ _ _ (⟨#[115, 101, 97, 114, 99, 104]⟩ : ByteArray) [.string (⟨#[115, 101, 97, 114, 99, 104]⟩ : ByteArray)] from rfl) (Reps.one (show Kd.M Kd.string _ _ _ (⟨#[115, 101, 99, 116, 105, 111, 110]⟩ : ByteArray) [.string (⟨#[115, 101, 99, 116, 105, 111, 110]⟩ : ByteArray)] from rfl) (Reps.one (show Kd.M Kd.string _ _ _ (⟨#[115, 117, 109, 109, 97, 114, 121]⟩ : ByteArray) [.string (⟨#[115, 117, 109, 109, 97, 114, 121]⟩ : ByteArray)] from rfl) (Reps.one (show Kd.M Kd.string _ _ _ (⟨#[116, 114]⟩ : ByteArray) [.string (⟨#[116, 114]⟩ : ByteArray)] from rfl) (Reps.none _ _)))))))))))))))); intro v117 w23 ho24 hb hg_ hnew_; clear hg_ hnew_; (first | rw [← Ny116.out] at ho24 | (simp only [Int.reduceToNat] at ho24; rw [← Ny116.out] at ho24)); have n0_ := Aside0.mk (Kd.R_elder' (by (with_reducible repeat (first | apply Kd.R_alloc | apply Kd.R_drewN | apply Kd.R_drew)); exact HO110.out) (Kd.R_base ho24) hb); have n1_ := Aside0.mk (Kd.R_elder' (by (with_reducible repeat (first | apply Kd.R_alloc | apply Kd.R_drewN | apply Kd.R_drew)); exact HO114.out) (Kd.R_base ho24) hb); have n2_ := Aside0.mk (Kd.R_lower (Kd.R_new' (Kd.R_new' ho24 (Kd.R_lt (by (with_reducible repeat (first | apply Kd.R_alloc | apply Kd.R_drewN | apply Kd.R_drew)); exact HO110.out))) (Kd.R_lt (by (with_reducible repeat (first | apply Kd.R_alloc | apply Kd.R_drewN | apply Kd.R_drew)); exact HO114.out))) (below_size (by repeat (first | (with_reducible first | exact HB.out | apply below_alloc | apply pw_below_drewN | apply below_drew1) | exact HB.out)))); have n3_ := Aside0.mk (below_step (by repeat (first | (with_reducible first | exact HB.out | apply below_alloc | apply pw_below_drewN | apply below_drew1) | exact HB.out)) hb); clear HO110; clear HO114; clear HB; have HO110 := n0_; have HO114 := n1_; have HO118 := n2_; have HB := n3_; clear n0_ n1_ n2_ n3_; clear hb ho24; obtain ⟨Ao25, co25, eo25⟩ := Kd.R_slice HO118.out; subst eo25) | ((with_reducible refine gate_callee (f := 46) rfl ?_); refine goesL_ (some 13) rfl rfl Try.func46 (by kernel_rfl) rfl #[.string a0, .slice Ao25 y116.length co25] rfl (by (try simp only [List.map_toArray, List.map_cons, List.map_nil]); first | done | rfl | (simp only [List.length_drop, List.length_take]; rfl)) ?_; (with_reducible refine (kinds_one.calls k a0 _ _ y116 true _ ?side1 ?side2 A15.out).mono ?_); (case side1 => repeat (first | exact (Kd.R_reads' HO118.out).2.2 | (with_reducible refine Kd.C_alloc ?_ _) | (with_reducible refine Kd.C_drewN ?_ _) | (with_reducible refine Kd.C_drew ?_))); (case side2 => exact (Kd.R_reads' HO118.out).2.1); rintro e w' ⟨rfl, ⟨nd, rfl⟩⟩; refine ⟨_, rfl, ?_⟩))
        go_ret
        exact ⟨by first | rfl | (simp [errW_none, errW_some] <;> rfl) | (simp [*, errW_none, errW_some] <;> rfl), by repeat (first | (with_reducible first | exact HB.out | apply below_alloc | apply pw_below_drewN | apply below_drew1) | exact HB.out)⟩
      · replace c16 := Bool.eq_false_iff.mpr c16
        subst c16
        have H1 : (some 0) = some r := by rw [if_neg (show ¬ (false = true) by decide)] at H; exact H
        clear H
        have H := H1
        clear H1
        obtain rfl := Option.some.inj H
        go_enter Try.func31, Try.ntmps31
        go_wp2_with (first | ((with_reducible refine gate_dst (N := 5) rfl ?_); refine Kd.R_lit Kd.string _ 9 ?hg (N := 5) ?hd (xs := ([(⟨#[98, 108, 111, 99, 107, 113, 117, 111, 116, 101]⟩ : ByteArray), (⟨#[104, 49]⟩ : ByteArray), (⟨#[104, 50]⟩ : ByteArray), (⟨#[104, 51]⟩ : ByteArray), (⟨#[104, 52]⟩ : ByteArray), (⟨#[104, 53]⟩ : ByteArray), (⟨#[104, 54]⟩ : ByteArray), (⟨#[108, 105, 115, 116, 105, 110, 103]⟩ : ByteArray), (⟨#[111, 108]⟩ : ByteArray), (⟨#[112]⟩ : ByteArray), (⟨#[112, 108, 97, 105, 110, 116, 101, 120, 116]⟩ : ByteArray), (⟨#[112, 114, 101]⟩ : ByteArray), (⟨#[116, 97, 98, 108, 101]⟩ : ByteArray), (⟨#[117, 108]⟩ : ByteArray), (⟨#[120, 109, 112]⟩ : ByteArray)] : List ByteArray)) (inner := [.string (⟨#[98, 108, 111, 99, 107, 113, 117, 111, 116, 101]⟩ : ByteArray), .string (⟨#[104, 49]⟩ : ByteArray), .string (⟨#[104, 50]⟩ : ByteArray), .string (⟨#[104, 51]⟩ : ByteArray), .string (⟨#[104, 52]⟩ : ByteArray), .string (⟨#[104, 53]⟩ : ByteArray), .string (⟨#[104, 54]⟩ : ByteArray), .string (⟨#[108, 105, 115, 116, 105, 110, 103]⟩ : ByteArray), .string (⟨#[111, 108]⟩ : ByteArray), .string (⟨#[112]⟩ : ByteArray), .string (⟨#[112, 108, 97, 105, 110, 116, 101, 120, 116]⟩ : ByteArray), .string (⟨#[112, 114, 101]⟩ : ByteArray), .string (⟨#[116, 97, 98, 108, 101]⟩ : ByteArray), .string (⟨#[117, 108]⟩ : ByteArray), .string (⟨#[120, 109, 112]⟩ : ByteArray)]) (ok := fun _ => True) (okp := fun _ => True) ?hr ?hp (fun _ hk => hk) trivial (Below.refl _ _) (Nat.le_refl _) (by simp) ?_; (case hd => rfl); (case hg => rfl); (case hr => first | (go_simp; done) | (go_simp; rfl)); (case hp => exact (Reps.one (show Kd.M Kd.string _ _ _ (⟨#[98, 108, 111, 99, 107, 113, 117, 111, 116, 101]⟩ : ByteArray) [.string (⟨#[98, 108, 111, 99, 107, 113, 117, 111, 116, 101]⟩ : ByteArray)] from rfl) (Reps.one (show Kd.M Kd.string _ _ _ (⟨#[104, 49]⟩ : ByteArray) [.string (⟨#[104, 49]⟩ : ByteArray)] from rfl) (Reps.one (show Kd.M Kd.string _ _ _ (⟨#[104, 50]⟩ : ByteArray) [.string (⟨#[104, 50]⟩ : ByteArray)] from rfl) (Reps.one (show Kd.M Kd.string _ _ _ (⟨#[104, 51]⟩ : ByteArray) [.string (⟨#[104, 51]⟩ : ByteArray)] from rfl) (Reps.one (show Kd.M Kd.string _ _ _ (⟨#[104, 52]⟩ : ByteArray) [.string (⟨#[104, 52]⟩ : ByteArray)] from rfl) (Reps.one (show Kd.M Kd.string _ _ _ (⟨#[104, 53]⟩ : ByteArray) [.string (⟨#[104, 53]⟩ : ByteArray)] from rfl) (Reps.one (show Kd.M Kd.string _ _ _ (⟨#[104, 54]⟩ : ByteArray) [.string (⟨#[104, 54]⟩ : ByteArray)] from rfl) (Reps.one (show Kd.M Kd.string _ _ _ (⟨#[108, 105, 115, 116, 105, 110, 103]⟩ : ByteArray) [.string (⟨#[108, 105, 115, 116, 105, 110, 103]⟩ : ByteArray)] from rfl) (Reps.one (show Kd.M Kd.string _ _ _ (⟨#[111, 108]⟩ : ByteArray) [.string (⟨#[111, 108]⟩ : ByteArray)] from rfl) (Reps.one (show Kd.M Kd.string _ _ _ (⟨#[112]⟩ : ByteArray) [.string (⟨#[112]⟩ : ByteArray)] from rfl) (Reps.one (show Kd.M Kd.string _ _ _ (⟨#[112, 108, 97, 105, 110, 116, 101, 120, 116]⟩ : ByteArray) [.string (⟨#[112, 108, 97, 105, 110, 116, 101, 120, 116]⟩ : ByteArray)] from rfl) (Reps.one (show Kd.M Kd.string _ _ _ (⟨#[112, 114, 101]⟩ : ByteArray) [.string (⟨#[112, 114, 101]⟩ : ByteArray)] from rfl) (Reps.one (show Kd.M Kd.string _ _ _ (⟨#[116, 97, 98, 108, 101]⟩ : ByteArray) [.string (⟨#[116, 97, 98, 108, 101]⟩ : ByteArray)] from rfl) (Reps.one (show Kd.M Kd.string _ _ _ (⟨#[117, 108]⟩ : ByteArray) [.string (⟨#[117, 108]⟩ : ByteArray)] from rfl) (Reps.one (show Kd.M Kd.string _ _ _ (⟨#[120, 109, 112]⟩ : ByteArray) [.string (⟨#[120, 109, 112]⟩ : ByteArray)] from rfl) (Reps.none _ _))))))))))))))))); intro v109 w26 ho27 hb hg_ hnew_; clear hg_ hnew_; (first | rw [← Ny108.out] at ho27 | (simp only [Int.reduceToNat] at ho27; rw [← Ny108.out] at ho27)); have n0_ := Aside0.mk (Kd.R_lower ho27 (below_size (by repeat (first | (with_reducible first | exact HB.out | apply below_alloc | apply pw_below_drewN | apply below_drew1) | exact HB.out)))); have n1_ := Aside0.mk (below_step (by repeat (first | (with_reducible first | exact HB.out | apply below_alloc | apply pw_below_drewN | apply below_drew1) | exact HB.out)) hb); clear HB; have HO110 := n0_; have HB := n1_; clear n0_ n1_; clear hb ho27; obtain ⟨Ao28, co28, eo28⟩ := Kd.R_slice HO110.out; subst eo28) | ((with_reducible refine gate_callee (f := 46) rfl ?_); refine goesL_ (some 6) rfl rfl Try.func46 (by kernel_rfl) rfl #[.string a0, .slice Ao28 y108.length co28] rfl (by (try simp only [List.map_toArray, List.map_cons, List.map_nil]); first | done | rfl | (simp only [List.length_drop, List.length_take]; rfl)) ?_; (with_reducible refine (kinds_one.calls k a0 _ _ y108 false _ ?side1 ?side2 A2.out).mono ?_); (case side1 => repeat (first | exact (Kd.R_reads' HO110.out).2.2 | (with_reducible refine Kd.C_alloc ?_ _) | (with_reducible refine Kd.C_drewN ?_ _) | (with_reducible refine Kd.C_drew ?_))); (case side2 => exact (Kd.R_reads' HO110.out).2.1); rintro e w' ⟨rfl, ⟨nd, rfl⟩⟩; refine ⟨_, rfl, ?_⟩) | ((with_reducible refine gate_dst (N := 9) rfl ?_); refine Kd.R_lit Kd.string _ 9 ?hg (N := 9) ?hd (xs := ([(⟨#[97, 100, 100, 114, 101, 115, 115]⟩ : ByteArray), (⟨#[97, 114, 116, 105, 99, 108, 101]⟩ : ByteArray), (⟨#[97, 115, 105, 100, 101]⟩ : ByteArray), (⟨#[98, 111, 100, 121]⟩ : ByteArray), (⟨#[99, 101, 110, 116, 101, 114]⟩ : ByteArray), (⟨#[100, 100]⟩ : ByteArray), (⟨#[100, 101, 116, 97, 105, 108, 115]⟩ : ByteArray), (⟨#[100, 105, 97, 108, 111, 103]⟩ : ByteArray), (⟨#[100, 105, 114]⟩ : ByteArray), (⟨#[100, 105, 118]⟩ : ByteArray), (⟨#[100, 108]⟩ : ByteArray), (⟨#[100, 116]⟩ : ByteArray), (⟨#[102, 105, 101, 108, 100, 115, 101, 116]⟩ : ByteArray), (⟨#[102, 105, 103, 99, 97, 112, 116, 105, 111, 110]⟩ : ByteArray), (⟨#[102, 105, 103, 117, 114, 101]⟩ : ByteArray), (⟨#[102, 111, 111, 116, 101, 114]⟩ : ByteArray), (⟨#[102, 111, 114, 109]⟩ : ByteArray)] : List ByteArray)) (inner := [.string (⟨#[97, 100, 100, 114, 101, 115, 115]⟩ : ByteArray), .string (⟨#[97, 114, 116, 105, 99, 108, 101]⟩ : ByteArray), .string (⟨#[97, 115, 105, 100, 101]⟩ : ByteArray), .string (⟨#[98, 111, 100, 121]⟩ : ByteArray), .string (⟨#[99, 101, 110, 116, 101, 114]⟩ : ByteArray), .string (⟨#[100, 100]⟩ : ByteArray), .string (⟨#[100, 101, 116, 97, 105, 108, 115]⟩ : ByteArray), .string (⟨#[100, 105, 97, 108, 111, 103]⟩ : ByteArray), .string (⟨#[100, 105, 114]⟩ : ByteArray), .string (⟨#[100, 105, 118]⟩ : ByteArray), .string (⟨#[100, 108]⟩ : ByteArray), .string (⟨#[100, 116]⟩ : ByteArray), .string (⟨#[102, 105, 101, 108, 100, 115, 101, 116]⟩ : ByteArray), .string (⟨#[102, 105, 103, 99, 97, 112, 116, 105, 111, 110]⟩ : ByteArray), .string (⟨#[102, 105, 103, 117, 114, 101]⟩ : ByteArray), .string (⟨#[102, 111, 111, 116, 101, 114]⟩ : ByteArray), .string (⟨#[102, 111, 114, 109]⟩ : ByteArray)]) (ok := fun _ => True) (okp := fun _ => True) ?hr ?hp (fun _ hk => hk) trivial (Below.refl _ _) (Nat.le_refl _) (by simp) ?_; (case hd => rfl); (case hg => rfl); (case hr => first | (go_simp; done) | (go_simp; rfl)); (case hp => exact (Reps.one (show Kd.M Kd.string _ _ _ (⟨#[97, 100, 100, 114, 101, 115, 115]⟩ : ByteArray) [.string (⟨#[97, 100, 100, 114, 101, 115, 115]⟩ : ByteArray)] from rfl) (Reps.one (show Kd.M Kd.string _ _ _ (⟨#[97, 114, 116, 105, 99, 108, 101]⟩ : ByteArray) [.string (⟨#[97, 114, 116, 105, 99, 108, 101]⟩ : ByteArray)] from rfl) (Reps.one (show Kd.M Kd.string _ _ _ (⟨#[97, 115, 105, 100, 101]⟩ : ByteArray) [.string (⟨#[97, 115, 105, 100, 101]⟩ : ByteArray)] from rfl) (Reps.one (show Kd.M Kd.string _ _ _ (⟨#[98, 111, 100, 121]⟩ : ByteArray) [.string (⟨#[98, 111, 100, 121]⟩ : ByteArray)] from rfl) (Reps.one (show Kd.M Kd.string _ _ _ (⟨#[99, 101, 110, 116, 101, 114]⟩ : ByteArray) [.string (⟨#[99, 101, 110, 116, 101, 114]⟩ : ByteArray)] from rfl) (Reps.one (show Kd.M Kd.string _ _ _ (⟨#[100, 100]⟩ : ByteArray) [.string (⟨#[100, 100]⟩ : ByteArray)] from rfl) (Reps.one (show Kd.M Kd.string _ _ _ (⟨#[100, 101, 116, 97, 105, 108, 115]⟩ : ByteArray) [.string (⟨#[100, 101, 116, 97, 105, 108, 115]⟩ : ByteArray)] from rfl) (Reps.one (show Kd.M Kd.string _ _ _ (⟨#[100, 105, 97, 108, 111, 103]⟩ : ByteArray) [.string (⟨#[100, 105, 97, 108, 111, 103]⟩ : ByteArray)] from rfl) (Reps.one (show Kd.M Kd.string _ _ _ (⟨#[100, 105, 114]⟩ : ByteArray) [.string (⟨#[100, 105, 114]⟩ : ByteArray)] from rfl) (Reps.one (show Kd.M Kd.string _ _ _ (⟨#[100, 105, 118]⟩ : ByteArray) [.string (⟨#[100, 105, 118]⟩ : ByteArray)] from rfl) (Reps.one (show Kd.M Kd.string _ _ _ (⟨#[100, 108]⟩ : ByteArray) [.string (⟨#[100, 108]⟩ : ByteArray)] from rfl) (Reps.one (show Kd.M Kd.string _ _ _ (⟨#[100, 116]⟩ : ByteArray) [.string (⟨#[100, 116]⟩ : ByteArray)] from rfl) (Reps.one (show Kd.M Kd.string _ _ _ (⟨#[102, 105, 101, 108, 100, 115, 101, 116]⟩ : ByteArray) [.string (⟨#[102, 105, 101, 108, 100, 115, 101, 116]⟩ : ByteArray)] from rfl) (Reps.one (show Kd.M Kd.string _ _ _ (⟨#[102, 105, 103, 99, 97, 112, 116, 105, 111, 110]⟩ : ByteArray) [.string (⟨#[102, 105, 103, 99, 97, 112, 116, 105, 111, 110]⟩ : ByteArray)] from rfl) (Reps.one (show Kd.M Kd.string _ _ _ (⟨#[102, 105, 103, 117, 114, 101]⟩ : ByteArray) [.string (⟨#[102, 105, 103, 117, 114, 101]⟩ : ByteArray)] from rfl) (Reps.one (show Kd.M Kd.string _ _ _ (⟨#[102, 111, 111, 116, 101, 114]⟩ : ByteArray) [.string (⟨#[102, 111, 111, 116, 101, 114]⟩ : ByteArray)] from rfl) (Reps.one (show Kd.M Kd.string _ _ _ (⟨#[102, 111, 114, 109]⟩ : ByteArray) [.string (⟨#[102, 111, 114, 109]⟩ : ByteArray)] from rfl) (Reps.none _ _))))))))))))))))))); intro v113 w29 ho30 hb hg_ hnew_; clear hg_ hnew_; (first | rw [← Ny112.out] at ho30 | (simp only [Int.reduceToNat] at ho30; rw [← Ny112.out] at ho30)); have n0_ := Aside0.mk (Kd.R_elder' (by (with_reducible repeat (first | apply Kd.R_alloc | apply Kd.R_drewN | apply Kd.R_drew)); exact HO110.out) (Kd.R_base ho30) hb); have n1_ := Aside0.mk (Kd.R_lower (Kd.R_new' ho30 (Kd.R_lt (by (with_reducible repeat (first | apply Kd.R_alloc | apply Kd.R_drewN | apply Kd.R_drew)); exact HO110.out))) (below_size (by repeat (first | (with_reducible first | exact HB.out | apply below_alloc | apply pw_below_drewN | apply below_drew1) | exact HB.out)))); have n2_ := Aside0.mk (below_step (by repeat (first | (with_reducible first | exact HB.out | apply below_alloc | apply pw_below_drewN | apply below_drew1) | exact HB.out)) hb); clear HO110; clear HB; have HO110 := n0_; have HO114 := n1_; have HB := n2_; clear n0_ n1_ n2_; clear hb ho30; obtain ⟨Ao31, co31, eo31⟩ := Kd.R_slice HO114.out; subst eo31) | ((with_reducible refine gate_callee (f := 46) rfl ?_); refine goesL_ (some 10) rfl rfl Try.func46 (by kernel_rfl) rfl #[.string a0, .slice Ao31 y112.length co31] rfl (by (try simp only [List.map_toArray, List.map_cons, List.map_nil]); first | done | rfl | (simp only [List.length_drop, List.length_take]; rfl)) ?_; (with_reducible refine (kinds_one.calls k a0 _ _ y112 false _ ?side1 ?side2 A7.out).mono ?_); (case side1 => repeat (first | exact (Kd.R_reads' HO114.out).2.2 | (with_reducible refine Kd.C_alloc ?_ _) | (with_reducible refine Kd.C_drewN ?_ _) | (with_reducible refine Kd.C_drew ?_))); (case side2 => exact (Kd.R_reads' HO114.out).2.1); rintro e w' ⟨rfl, ⟨nd, rfl⟩⟩; refine ⟨_, rfl, ?_⟩) | ((with_reducible refine gate_dst (N := 12) rfl ?_); refine Kd.R_lit Kd.string _ 9 ?hg (N := 12) ?hd (xs := ([(⟨#[104, 101, 97, 100, 101, 114]⟩ : ByteArray), (⟨#[104, 103, 114, 111, 117, 112]⟩ : ByteArray), (⟨#[104, 114]⟩ : ByteArray), (⟨#[104, 116, 109, 108]⟩ : ByteArray), (⟨#[108, 101, 103, 101, 110, 100]⟩ : ByteArray), (⟨#[108, 105]⟩ : ByteArray), (⟨#[109, 97, 105, 110]⟩ : ByteArray), (⟨#[109, 101, 110, 117]⟩ : ByteArray), (⟨#[110, 97, 118]⟩ : ByteArray), (⟨#[111, 112, 116, 105, 111, 110]⟩ : ByteArray), (⟨#[115, 101, 97, 114, 99, 104]⟩ : ByteArray), (⟨#[115, 101, 99, 116, 105, 111, 110]⟩ : ByteArray), (⟨#[115, 117, 109, 109, 97, 114, 121]⟩ : ByteArray), (⟨#[116, 114]⟩ : ByteArray)] : List ByteArray)) (inner := [.string (⟨#[104, 101, 97, 100, 101, 114]⟩ : ByteArray), .string (⟨#[104, 103, 114, 111, 117, 112]⟩ : ByteArray), .string (⟨#[104, 114]⟩ : ByteArray), .string (⟨#[104, 116, 109, 108]⟩ : ByteArray), .string (⟨#[108, 101, 103, 101, 110, 100]⟩ : ByteArray), .string (⟨#[108, 105]⟩ : ByteArray), .string (⟨#[109, 97, 105, 110]⟩ : ByteArray), .string (⟨#[109, 101, 110, 117]⟩ : ByteArray), .string (⟨#[110, 97, 118]⟩ : ByteArray), .string (⟨#[111, 112, 116, 105, 111, 110]⟩ : ByteArray), .string (⟨#[115, 101, 97, 114, 99, 104]⟩ : ByteArray), .string (⟨#[115, 101, 99, 116, 105, 111, 110]⟩ : ByteArray), .string (⟨#[115, 117, 109, 109, 97, 114, 121]⟩ : ByteArray), .string (⟨#[116, 114]⟩ : ByteArray)]) (ok := fun _ => True) (okp := fun _ => True) ?hr ?hp (fun _ hk => hk) trivial (Below.refl _ _) (Nat.le_refl _) (by simp) ?_; (case hd => rfl); (case hg => rfl); (case hr => first | (go_simp; done) | (go_simp; rfl)); (case hp => exact (Reps.one (show Kd.M Kd.string _ _ _ (⟨#[104, 101, 97, 100, 101, 114]⟩ : ByteArray) [.string (⟨#[104, 101, 97, 100, 101, 114]⟩ : ByteArray)] from rfl) (Reps.one (show Kd.M Kd.string _ _ _ (⟨#[104, 103, 114, 111, 117, 112]⟩ : ByteArray) [.string (⟨#[104, 103, 114, 111, 117, 112]⟩ : ByteArray)] from rfl) (Reps.one (show Kd.M Kd.string _ _ _ (⟨#[104, 114]⟩ : ByteArray) [.string (⟨#[104, 114]⟩ : ByteArray)] from rfl) (Reps.one (show Kd.M Kd.string _ _ _ (⟨#[104, 116, 109, 108]⟩ : ByteArray) [.string (⟨#[104, 116, 109, 108]⟩ : ByteArray)] from rfl) (Reps.one (show Kd.M Kd.string _ _ _ (⟨#[108, 101, 103, 101, 110, 100]⟩ : ByteArray) [.string (⟨#[108, 101, 103, 101, 110, 100]⟩ : ByteArray)] from rfl) (Reps.one (show Kd.M Kd.string _ _ _ (⟨#[108, 105]⟩ : ByteArray) [.string (⟨#[108, 105]⟩ : ByteArray)] from rfl) (Reps.one (show Kd.M Kd.string _ _ _ (⟨#[109, 97, 105, 110]⟩ : ByteArray) [.string (⟨#[109, 97, 105, 110]⟩ : ByteArray)] from rfl) (Reps.one (show Kd.M Kd.string _ _ _ (⟨#[109, 101, 110, 117]⟩ : ByteArray) [.string (⟨#[109, 101, 110, 117]⟩ : ByteArray)] from rfl) (Reps.one (show Kd.M Kd.string _ _ _ (⟨#[110, 97, 118]⟩ : ByteArray) [.string (⟨#[110, 97, 118]⟩ : ByteArray)] from rfl) (Reps.one (show Kd.M Kd.string _ _ _ (⟨#[111, 112, 116, 105, 111, 110]⟩ : ByteArray) [.string (⟨#[111, 112, 116, 105, 111, 110]⟩ : ByteArray)] from rfl) (Reps.one (show Kd.M Kd.string _ _ _ (⟨#[115, 101, 97, 114, 99, 104]⟩ : ByteArray) [.string (⟨#[115, 101, 97, 114, 99, 104]⟩ : ByteArray)] from rfl) (Reps.one (show Kd.M Kd.string _ _ _ (⟨#[115, 101, 99, 116, 105, 111, 110]⟩ : ByteArray) [.string (⟨#[115, 101, 99, 116, 105, 111, 110]⟩ : ByteArray)] from rfl) (Reps.one (show Kd.M Kd.string _ _ _ (⟨#[115, 117, 109, 109, 97, 114, 121]⟩ : ByteArray) [.string (⟨#[115, 117, 109, 109, 97, 114, 121]⟩ : ByteArray)] from rfl) (Reps.one (show Kd.M Kd.string _ _ _ (⟨#[116, 114]⟩ : ByteArray) [.string (⟨#[116, 114]⟩ : ByteArray)] from rfl) (Reps.none _ _)))))))))))))))); intro v117 w32 ho33 hb hg_ hnew_; clear hg_ hnew_; (first | rw [← Ny116.out] at ho33 | (simp only [Int.reduceToNat] at ho33; rw [← Ny116.out] at ho33)); have n0_ := Aside0.mk (Kd.R_elder' (by (with_reducible repeat (first | apply Kd.R_alloc | apply Kd.R_drewN | apply Kd.R_drew)); exact HO110.out) (Kd.R_base ho33) hb); have n1_ := Aside0.mk (Kd.R_elder' (by (with_reducible repeat (first | apply Kd.R_alloc | apply Kd.R_drewN | apply Kd.R_drew)); exact HO114.out) (Kd.R_base ho33) hb); have n2_ := Aside0.mk (Kd.R_lower (Kd.R_new' (Kd.R_new' ho33 (Kd.R_lt (by (with_reducible repeat (first | apply Kd.R_alloc | apply Kd.R_drewN | apply Kd.R_drew)); exact HO110.out))) (Kd.R_lt (by (with_reducible repeat (first | apply Kd.R_alloc | apply Kd.R_drewN | apply Kd.R_drew)); exact HO114.out))) (below_size (by repeat (first | (with_reducible first | exact HB.out | apply below_alloc | apply pw_below_drewN | apply below_drew1) | exact HB.out)))); have n3_ := Aside0.mk (below_step (by repeat (first | (with_reducible first | exact HB.out | apply below_alloc | apply pw_below_drewN | apply below_drew1) | exact HB.out)) hb); clear HO110; clear HO114; clear HB; have HO110 := n0_; have HO114 := n1_; have HO118 := n2_; have HB := n3_; clear n0_ n1_ n2_ n3_; clear hb ho33; obtain ⟨Ao34, co34, eo34⟩ := Kd.R_slice HO118.out; subst eo34) | ((with_reducible refine gate_callee (f := 46) rfl ?_); refine goesL_ (some 13) rfl rfl Try.func46 (by kernel_rfl) rfl #[.string a0, .slice Ao34 y116.length co34] rfl (by (try simp only [List.map_toArray, List.map_cons, List.map_nil]); first | done | rfl | (simp only [List.length_drop, List.length_take]; rfl)) ?_; (with_reducible refine (kinds_one.calls k a0 _ _ y116 false _ ?side1 ?side2 A15.out).mono ?_); (case side1 => repeat (first | exact (Kd.R_reads' HO118.out).2.2 | (with_reducible refine Kd.C_alloc ?_ _) | (with_reducible refine Kd.C_drewN ?_ _) | (with_reducible refine Kd.C_drew ?_))); (case side2 => exact (Kd.R_reads' HO118.out).2.1); rintro e w' ⟨rfl, ⟨nd, rfl⟩⟩; refine ⟨_, rfl, ?_⟩))
        go_ret
        exact ⟨by first | rfl | (simp [errW_none, errW_some] <;> rfl) | (simp [*, errW_none, errW_some] <;> rfl), by repeat (first | (with_reducible first | exact HB.out | apply below_alloc | apply pw_below_drewN | apply below_drew1) | exact HB.out)⟩

end Go.Proofs.Ytaejicolhliecaa.PRe

/- Written by a program of this session out of the translation, for this claim: a part of the walk of what the law calls, or the row of the law. -/
namespace Go.Proofs.Ytaejicolhliecaa.PRe
open Go.RowKit Go.Proofs.YtaejicolhliecaaW.PrintWords Go.Proofs.YtaejicolhliecaaW.PrintLast Go.Proofs.YtaejicolhliecaaW.PrintMore
attribute [local go_sem] max2_int min2_int max_two min_two max_three min_three max_four min_four   -- for this text's walks alone
set_option linter.unusedVariables false
set_option linter.unusedSimpArgs false

/-! ### kinds_Keeps: function 56 -/
def kinds_Keeps.f (k : Nat) (a0 : ByteArray) : Option (Bool) := (kinds_one.f k a0 (([(⟨#[108, 105, 115, 116, 105, 110, 103]⟩ : ByteArray), (⟨#[112, 108, 97, 105, 110, 116, 101, 120, 116]⟩ : ByteArray), (⟨#[112, 114, 101]⟩ : ByteArray), (⟨#[116, 101, 120, 116, 97, 114, 101, 97]⟩ : ByteArray), (⟨#[120, 109, 112]⟩ : ByteArray)] : List ByteArray))).bind fun t123 => (some t123)
theorem kinds_Keeps.mono : ∀ a0 k, LeO (kinds_Keeps.f k a0) (kinds_Keeps.f (k + 1) a0) := by
  intro a0 k
  unfold kinds_Keeps.f
  repeat' first
      | (with_reducible exact kinds_one.mono _ _ _)
      | (with_reducible exact LeO.refl _)
      | (with_reducible exact LeO.none _)
      | (with_reducible refine LeO.ite ?_ ?_)
      | (with_reducible refine LeO.bind ?_ (fun _ => ?_))
      | exact kinds_one.mono _ _ _
      | exact LeO.none _
      | refine LeO.ite ?_ ?_
      | refine LeO.bind ?_ (fun _ => ?_)
set_option maxHeartbeats 8000000 in
set_option maxRecDepth 100000 in
theorem kinds_Keeps.calls (k : Nat) (a0 : ByteArray) (r : Bool) (w : World) (h : kinds_Keeps.f k a0 = some r) :
    Calls Try.prog 56 #[.string a0] w fun e w' => e = .returned (.bool r) ∧ Below w.heap.size w w' := by
  have HB := Aside0.mk (Below.refl w.heap.size w)
  have H : ((kinds_one.f k a0 (([(⟨#[108, 105, 115, 116, 105, 110, 103]⟩ : ByteArray), (⟨#[112, 108, 97, 105, 110, 116, 101, 120, 116]⟩ : ByteArray), (⟨#[112, 114, 101]⟩ : ByteArray), (⟨#[116, 101, 120, 116, 97, 114, 101, 97]⟩ : ByteArray), (⟨#[120, 109, 112]⟩ : ByteArray)] : List ByteArray))).bind fun t123 => (some t123)) = some r := h
  clear h
  obtain ⟨y120, hy120⟩ : ∃ y_ : List ByteArray, y_ = (([(⟨#[108, 105, 115, 116, 105, 110, 103]⟩ : ByteArray), (⟨#[112, 108, 97, 105, 110, 116, 101, 120, 116]⟩ : ByteArray), (⟨#[112, 114, 101]⟩ : ByteArray), (⟨#[116, 101, 120, 116, 97, 114, 101, 97]⟩ : ByteArray), (⟨#[120, 109, 112]⟩ : ByteArray)] : List ByteArray)) := ⟨_, rfl⟩
  replace H : ((kinds_one.f k a0 y120).bind fun t123 => (some t123)) = some r := by first | (rw [hy120]; with_reducible exact H) | (have H2_ := (Option.bind_some _ _).symm.trans H; rw [hy120]; with_reducible exact H2_) | (have H2_ := (Option.bind_some _ _).symm.trans H; with_reducible exact H2_) | with_reducible exact H | (rw [hy120]; exact H) | exact H
  have Ny120 := Aside0.mk hy120
  clear hy120
  replace H := Option.bind_eq_some_iff.mp H
  obtain ⟨t123, A20, H⟩ := H
  replace H : (some t123) = some r := H
  have A2 := Aside0.mk A20
  clear A20
  obtain rfl := Option.some.inj H
  go_enter Try.func56, Try.ntmps56
  go_wp2_with (first | ((with_reducible refine gate_dst (N := 4) rfl ?_); refine Kd.R_lit Kd.string _ 9 ?hg (N := 4) ?hd (xs := ([(⟨#[108, 105, 115, 116, 105, 110, 103]⟩ : ByteArray), (⟨#[112, 108, 97, 105, 110, 116, 101, 120, 116]⟩ : ByteArray), (⟨#[112, 114, 101]⟩ : ByteArray), (⟨#[116, 101, 120, 116, 97, 114, 101, 97]⟩ : ByteArray), (⟨#[120, 109, 112]⟩ : ByteArray)] : List ByteArray)) (inner := [.string (⟨#[108, 105, 115, 116, 105, 110, 103]⟩ : ByteArray), .string (⟨#[112, 108, 97, 105, 110, 116, 101, 120, 116]⟩ : ByteArray), .string (⟨#[112, 114, 101]⟩ : ByteArray), .string (⟨#[116, 101, 120, 116, 97, 114, 101, 97]⟩ : ByteArray), .string (⟨#[120, 109, 112]⟩ : ByteArray)]) (ok := fun _ => True) (okp := fun _ => True) ?hr ?hp (fun _ hk => hk) trivial (Below.refl _ _) (Nat.le_refl _) (by simp) ?_; (case hd => rfl); (case hg => rfl); (case hr => first | (go_simp; done) | (go_simp; rfl)); (case hp => exact (Reps.one (show Kd.M Kd.string _ _ _ (⟨#[108, 105, 115, 116, 105, 110, 103]⟩ : ByteArray) [.string (⟨#[108, 105, 115, 116, 105, 110, 103]⟩ : ByteArray)] from rfl) (Reps.one (show Kd.M Kd.string _ _ _ (⟨#[112, 108, 97, 105, 110, 116, 101, 120, 116]⟩ : ByteArray) [.string (⟨#[112, 108, 97, 105, 110, 116, 101, 120, 116]⟩ : ByteArray)] from rfl) (Reps.one (show Kd.M Kd.string _ _ _ (⟨#[112, 114, 101]⟩ : ByteArray) [.string (⟨#[112, 114, 101]⟩ : ByteArray)] from rfl) (Reps.one (show Kd.M Kd.string _ _ _ (⟨#[116, 101, 120, 116, 97, 114, 101, 97]⟩ : ByteArray) [.string (⟨#[116, 101, 120, 116, 97, 114, 101, 97]⟩ : ByteArray)] from rfl) (Reps.one (show Kd.M Kd.string _ _ _ (⟨#[120, 109, 112]⟩ : ByteArray) [.string (⟨#[120, 109, 112]⟩ : ByteArray)] from rfl) (Reps.none _ _))))))); intro v121 w3 ho4 hb hg_ hnew_; clear hg_ hnew_; (first | rw [← Ny120.out] at ho4 | (simp only [Int.reduceToNat] at ho4; rw [← Ny120.out] at ho4)); have n0_ := Aside0.mk (Kd.R_lower ho4 (below_size (by repeat (first | (with_reducible first | exact HB.out | apply below_alloc | apply pw_below_drewN | apply below_drew1) | exact HB.out)))); have n1_ := Aside0.mk (below_step (by repeat (first | (with_reducible first | exact HB.out | apply below_alloc | apply pw_below_drewN | apply below_drew1) | exact HB.out)) hb); clear HB; have HO122 := n0_; have HB := n1_; clear n0_ n1_; clear hb ho4; obtain ⟨Ao5, co5, eo5⟩ := Kd.R_slice HO122.out; subst eo5) | ((with_reducible refine gate_callee (f := 46) rfl ?_); refine goesL_ (some 5) rfl rfl Try.func46 (by kernel_rfl) rfl #[.string a0, .slice Ao5 y120.length co5] rfl (by (try simp only [List.map_toArray, List.map_cons, List.map_nil]); first | done | rfl | (simp only [List.length_drop, List.length_take]; rfl)) ?_; (with_reducible refine (kinds_one.calls k a0 _ _ y120 t123 _ ?side1 ?side2 A2.out).mono ?_); (case side1 => repeat (first | exact (Kd.R_reads' HO122.out).2.2 | (with_reducible refine Kd.C_alloc ?_ _) | (with_reducible refine Kd.C_drewN ?_ _) | (with_reducible refine Kd.C_drew ?_))); (case side2 => exact (Kd.R_reads' HO122.out).2.1); rintro e w' ⟨rfl, ⟨nd, rfl⟩⟩; refine ⟨_, rfl, ?_⟩))
  go_ret
  exact ⟨by first | rfl | (simp [errW_none, errW_some] <;> rfl) | (simp [*, errW_none, errW_some] <;> rfl), by repeat (first | (with_reducible first | exact HB.out | apply below_alloc | apply pw_below_drewN | apply below_drew1) | exact HB.out)⟩

end Go.Proofs.Ytaejicolhliecaa.PRe

/- Written by a program of this session out of the translation, for this claim: a part of the walk of what the law calls, or the row of the law. -/
namespace Go.Proofs.Ytaejicolhliecaa.PRe
open Go.RowKit Go.Proofs.YtaejicolhliecaaW.PrintWords Go.Proofs.YtaejicolhliecaaW.PrintLast Go.Proofs.YtaejicolhliecaaW.PrintMore
attribute [local go_sem] max2_int min2_int max_two min_two max_three min_three max_four min_four   -- for this text's walks alone
set_option linter.unusedVariables false
set_option linter.unusedSimpArgs false

/-! ### flailref15_Few: function 26 -/
def flailref15_Few.l0 : Nat → List (S47) → Int → Option (Bool)
  | 0, _, _ => none
  | k + 1, x0, x3 => if x3 < (x0.length : Int) then (if 0 ≤ x3 then (if (((rd_T47 x0 x3).f1).size : Int) > 60 then (some false) else (if (((rd_T47 x0 x3).f2).size : Int) > 200 then (some false) else (if (((rd_T47 x0 x3).f3).length : Int) > 10 then (some false) else (flailref15_Few.l0 k x0 (wrap64 (x3 + 1)))))) else (none)) else (some true)
def flailref15_Few.f (k : Nat) (l0 : List (S47)) : Option (Bool) := if (l0.length : Int) > 60 then (some false) else (flailref15_Few.l0 k l0 0)
theorem flailref15_Few.mono_l : ∀ k, (∀ y0 y1, LeO (flailref15_Few.l0 k y0 y1) (flailref15_Few.l0 (k + 1) y0 y1))
  | 0 => fun _ _ r h => by simp [flailref15_Few.l0] at h
  | k + 1 => by
    have ih0 := flailref15_Few.mono_l k
    · intro y0 y1
      unfold flailref15_Few.l0
      repeat' first
      | (with_reducible exact ih0 _ _)
      | (with_reducible exact LeO.refl _)
      | (with_reducible exact LeO.none _)
      | (with_reducible refine LeO.ite ?_ ?_)
      | (with_reducible refine LeO.bind ?_ (fun _ => ?_))
      | exact ih0 _ _
      | exact LeO.none _
      | refine LeO.ite ?_ ?_
      | refine LeO.bind ?_ (fun _ => ?_)
theorem flailref15_Few.mono : ∀ a0 k, LeO (flailref15_Few.f k a0) (flailref15_Few.f (k + 1) a0) := by
  intro a0 k
  have ih0 := flailref15_Few.mono_l k
  unfold flailref15_Few.f
  repeat' first
      | (with_reducible exact ih0 _ _)
      | (with_reducible exact LeO.refl _)
      | (with_reducible exact LeO.none _)
      | (with_reducible refine LeO.ite ?_ ?_)
      | (with_reducible refine LeO.bind ?_ (fun _ => ?_))
      | exact ih0 _ _
      | exact LeO.none _
      | refine LeO.ite ?_ ?_
      | refine LeO.bind ?_ (fun _ => ?_)
set_option maxHeartbeats 8000000 in
set_option maxRecDepth 100000 in
theorem flailref15_Few.calls (k : Nat) (A0 : Option Addr) (c0 : Nat) (l0 : List (S47)) (r : Bool) (w : World) (hr0 : Kd.C k47 w A0 l0.length l0) (hc0 : l0.length ≤ c0) (h : flailref15_Few.f k l0 = some r) :
    Calls Try.prog 26 #[.slice A0 l0.length c0] w fun e w' => e = .returned (.bool r) ∧ Drawn0 w w' := by
  have HR0 := Aside0.mk hr0
  have HC0 := Aside0.mk hc0
  clear hr0 hc0
  have H : (if (l0.length : Int) > 60 then (some false) else (flailref15_Few.l0 k l0 0)) = some r := h
  clear h
  by_cases c2 : (l0.length : Int) > 60
  · rw [if_pos c2] at H
    have c2b0 : decide (60 < (l0.length : Int)) = true := decide_eq_true c2
    have c2b1 : decide (60 < l0.length) = true := decide_eq_true (by omega)
    clear c2
    obtain rfl := Option.some.inj H
    go_enter Try.func26, Try.ntmps26
    go_wp2
    go_ret
    exact ⟨by first | rfl | (simp; done) | (simp [*]; done), by repeat (first | exact Drawn0.refl _ | apply Drawn0.step)⟩
  · rw [if_neg c2] at H
    have c2b0 : decide (60 < (l0.length : Int)) = false := decide_eq_false c2
    have c2b1 : decide (60 < l0.length) = false := decide_eq_false (by omega)
    clear c2
    have H' := Aside0.mk H
    clear H
    go_enter Try.func26, Try.ntmps26
    go_wp2
    go_loopg [3] k (fun kq v3 w' => ∃ (x3_1 : Int), v3 = .int .i64 x3_1 ∧ Aside0 (flailref15_Few.l0 kq l0 x3_1 = some r) ∧ Aside0 (kq ≤ k) ∧ Drawn0 w w')
    case atStart => exact ⟨(0), (by first | rfl | (simp; done) | (simp [*]; done)), H', ⟨Nat.le_refl _⟩, by repeat (first | exact Drawn0.refl _ | apply Drawn0.step)⟩
    case round =>
      clear H'
      try clear c2
      try clear c2b0
      try clear c2b1
      try clear p2
      obtain ⟨x3_1, rfl, HA, HK1, ⟨m1, rfl⟩⟩ := hrel
      cases gk with
      | zero => exact absurd HA.out (by simp [flailref15_Few.l0])
      | succ k1 =>
        have H := HA.out
        clear HA
        simp only [flailref15_Few.l0] at H
        by_cases c3 : x3_1 < (l0.length : Int)
        · rw [if_pos c3] at H
          have c3b0 : decide (x3_1 < (l0.length : Int)) = true := decide_eq_true c3
          clear c3
          by_cases c4 : 0 ≤ x3_1
          · rw [if_pos c4] at H
            have c4b0 : decide (0 ≤ x3_1) = true := decide_eq_true c4
            clear c4
            by_cases c5 : (((rd_T47 l0 x3_1).f1).size : Int) > 60
            · rw [if_pos c5] at H
              have c5b0 : decide (60 < (((rd_T47 l0 x3_1).f1).size : Int)) = true := decide_eq_true c5
              have c5b1 : decide (60 < ((rd_T47 l0 x3_1).f1).size) = true := decide_eq_true (by omega)
              clear c5
              obtain rfl := Option.some.inj H
              have p133 : 0 ≤ (x3_1 : Int) := of_decide_eq_true (by first | (with_reducible assumption) | assumption)
              have q133 : x3_1 < (l0.length : Int) := of_decide_eq_true (by first | (with_reducible assumption) | assumption)
              obtain ⟨ad133, A133_3, c133_3, e133, hx133_0, hx133_1, hx133_2, hx133_3, hx133_4, hl133_3, hi133_3⟩ := at_T47 HR0.out x3_1 p133 q133
              cases e133
              have HR133_3 := Aside0.mk hi133_3
              have HC133_3 := Aside0.mk hl133_3
              clear hi133_3 hl133_3
              replace p133 := eq_true p133
              replace q133 := eq_true q133
              go_wp2
              go_ret
              exact ⟨by first | rfl | (simp; done) | (simp [*]; done), by repeat (first | exact Drawn0.refl _ | apply Drawn0.step)⟩
            · rw [if_neg c5] at H
              have c5b0 : decide (60 < (((rd_T47 l0 x3_1).f1).size : Int)) = false := decide_eq_false c5
              have c5b1 : decide (60 < ((rd_T47 l0 x3_1).f1).size) = false := decide_eq_false (by omega)
              clear c5
              by_cases c6 : (((rd_T47 l0 x3_1).f2).size : Int) > 200
              · rw [if_pos c6] at H
                have c6b0 : decide (200 < (((rd_T47 l0 x3_1).f2).size : Int)) = true := decide_eq_true c6
                have c6b1 : decide (200 < ((rd_T47 l0 x3_1).f2).size) = true := decide_eq_true (by omega)
                clear c6
                obtain rfl := Option.some.inj H
                have p133 : 0 ≤ (x3_1 : Int) := of_decide_eq_true (by first | (with_reducible assumption) | assumption)
                have q133 : x3_1 < (l0.length : Int) := of_decide_eq_true (by first | (with_reducible assumption) | assumption)
                obtain ⟨ad133, A133_3, c133_3, e133, hx133_0, hx133_1, hx133_2, hx133_3, hx133_4, hl133_3, hi133_3⟩ := at_T47 HR0.out x3_1 p133 q133
                cases e133
                have HR133_3 := Aside0.mk hi133_3
                have HC133_3 := Aside0.mk hl133_3
                clear hi133_3 hl133_3
                replace p133 := eq_true p133
                replace q133 := eq_true q133
                have p134 : 0 ≤ (x3_1 : Int) := of_decide_eq_true (by first | (with_reducible assumption) | assumption)
                have q134 : x3_1 < (l0.length : Int) := of_decide_eq_true (by first | (with_reducible assumption) | assumption)
                obtain ⟨ad134, A134_3, c134_3, e134, hx134_0, hx134_1, hx134_2, hx134_3, hx134_4, hl134_3, hi134_3⟩ := at_T47 HR0.out x3_1 p134 q134
                obtain rfl : ad133 = ad134 := (by injection e134)
                have HR134_3 := Aside0.mk hi134_3
                have HC134_3 := Aside0.mk hl134_3
                clear hi134_3 hl134_3
                replace p134 := eq_true p134
                replace q134 := eq_true q134
                have ea_ := Option.some.inj (hx133_3.symm.trans hx134_3)
                injection ea_ with ea_ en_ ec_
                subst ea_
                subst ec_
                clear en_
                go_wp2
                go_ret
                exact ⟨by first | rfl | (simp; done) | (simp [*]; done), by repeat (first | exact Drawn0.refl _ | apply Drawn0.step)⟩
              · rw [if_neg c6] at H
                have c6b0 : decide (200 < (((rd_T47 l0 x3_1).f2).size : Int)) = false := decide_eq_false c6
                have c6b1 : decide (200 < ((rd_T47 l0 x3_1).f2).size) = false := decide_eq_false (by omega)
                clear c6
                by_cases c7 : (((rd_T47 l0 x3_1).f3).length : Int) > 10
                · rw [if_pos c7] at H
                  have c7b0 : decide (10 < (((rd_T47 l0 x3_1).f3).length : Int)) = true := decide_eq_true c7
                  have c7b1 : decide (10 < ((rd_T47 l0 x3_1).f3).length) = true := decide_eq_true (by omega)
                  clear c7
                  obtain rfl := Option.some.inj H
                  have p133 : 0 ≤ (x3_1 : Int) := of_decide_eq_true (by first | (with_reducible assumption) | assumption)
                  have q133 : x3_1 < (l0.length : Int) := of_decide_eq_true (by first | (with_reducible assumption) | assumption)
                  obtain ⟨ad133, A133_3, c133_3, e133, hx133_0, hx133_1, hx133_2, hx133_3, hx133_4, hl133_3, hi133_3⟩ := at_T47 HR0.out x3_1 p133 q133
                  cases e133
                  have HR133_3 := Aside0.mk hi133_3
                  have HC133_3 := Aside0.mk hl133_3
                  clear hi133_3 hl133_3
                  replace p133 := eq_true p133
                  replace q133 := eq_true q133
                  have p134 : 0 ≤ (x3_1 : Int) := of_decide_eq_true (by first | (with_reducible assumption) | assumption)
                  have q134 : x3_1 < (l0.length : Int) := of_decide_eq_true (by first | (with_reducible assumption) | assumption)
                  obtain ⟨ad134, A134_3, c134_3, e134, hx134_0, hx134_1, hx134_2, hx134_3, hx134_4, hl134_3, hi134_3⟩ := at_T47 HR0.out x3_1 p134 q134
                  obtain rfl : ad133 = ad134 := (by injection e134)
                  have HR134_3 := Aside0.mk hi134_3
                  have HC134_3 := Aside0.mk hl134_3
                  clear hi134_3 hl134_3
                  replace p134 := eq_true p134
                  replace q134 := eq_true q134
                  have ea_ := Option.some.inj (hx133_3.symm.trans hx134_3)
                  injection ea_ with ea_ en_ ec_
                  subst ea_
                  subst ec_
                  clear en_
                  have p135 : 0 ≤ (x3_1 : Int) := of_decide_eq_true (by first | (with_reducible assumption) | assumption)
                  have q135 : x3_1 < (l0.length : Int) := of_decide_eq_true (by first | (with_reducible assumption) | assumption)
                  obtain ⟨ad135, A135_3, c135_3, e135, hx135_0, hx135_1, hx135_2, hx135_3, hx135_4, hl135_3, hi135_3⟩ := at_T47 HR0.out x3_1 p135 q135
                  obtain rfl : ad133 = ad135 := (by injection e135)
                  have HR135_3 := Aside0.mk hi135_3
                  have HC135_3 := Aside0.mk hl135_3
                  clear hi135_3 hl135_3
                  replace p135 := eq_true p135
                  replace q135 := eq_true q135
                  have ea_ := Option.some.inj (hx133_3.symm.trans hx135_3)
                  injection ea_ with ea_ en_ ec_
                  subst ea_
                  subst ec_
                  clear en_
                  go_wp2
                  go_ret
                  exact ⟨by first | rfl | (simp; done) | (simp [*]; done), by repeat (first | exact Drawn0.refl _ | apply Drawn0.step)⟩
                · rw [if_neg c7] at H
                  have c7b0 : decide (10 < (((rd_T47 l0 x3_1).f3).length : Int)) = false := decide_eq_false c7
                  have c7b1 : decide (10 < ((rd_T47 l0 x3_1).f3).length) = false := decide_eq_false (by omega)
                  clear c7
                  have H' := Aside0.mk H
                  clear H
                  have p133 : 0 ≤ (x3_1 : Int) := of_decide_eq_true (by first | (with_reducible assumption) | assumption)
                  have q133 : x3_1 < (l0.length : Int) := of_decide_eq_true (by first | (with_reducible assumption) | assumption)
                  obtain ⟨ad133, A133_3, c133_3, e133, hx133_0, hx133_1, hx133_2, hx133_3, hx133_4, hl133_3, hi133_3⟩ := at_T47 HR0.out x3_1 p133 q133
                  cases e133
                  have HR133_3 := Aside0.mk hi133_3
                  have HC133_3 := Aside0.mk hl133_3
                  clear hi133_3 hl133_3
                  replace p133 := eq_true p133
                  replace q133 := eq_true q133
                  have p134 : 0 ≤ (x3_1 : Int) := of_decide_eq_true (by first | (with_reducible assumption) | assumption)
                  have q134 : x3_1 < (l0.length : Int) := of_decide_eq_true (by first | (with_reducible assumption) | assumption)
                  obtain ⟨ad134, A134_3, c134_3, e134, hx134_0, hx134_1, hx134_2, hx134_3, hx134_4, hl134_3, hi134_3⟩ := at_T47 HR0.out x3_1 p134 q134
                  obtain rfl : ad133 = ad134 := (by injection e134)
                  have HR134_3 := Aside0.mk hi134_3
                  have HC134_3 := Aside0.mk hl134_3
                  clear hi134_3 hl134_3
                  replace p134 := eq_true p134
                  replace q134 := eq_true q134
                  have ea_ := Option.some.inj (hx133_3.symm.trans hx134_3)
                  injection ea_ with ea_ en_ ec_
                  subst ea_
                  subst ec_
                  clear en_
                  have p135 : 0 ≤ (x3_1 : Int) := of_decide_eq_true (by first | (with_reducible assumption) | assumption)
                  have q135 : x3_1 < (l0.length : Int) := of_decide_eq_true (by first | (with_reducible assumption) | assumption)
                  obtain ⟨ad135, A135_3, c135_3, e135, hx135_0, hx135_1, hx135_2, hx135_3, hx135_4, hl135_3, hi135_3⟩ := at_T47 HR0.out x3_1 p135 q135
                  obtain rfl : ad133 = ad135 := (by injection e135)
                  have HR135_3 := Aside0.mk hi135_3
                  have HC135_3 := Aside0.mk hl135_3
                  clear hi135_3 hl135_3
                  replace p135 := eq_true p135
                  replace q135 := eq_true q135
                  have ea_ := Option.some.inj (hx133_3.symm.trans hx135_3)
                  injection ea_ with ea_ en_ ec_
                  subst ea_
                  subst ec_
                  clear en_
                  go_wp2
                  go_roundg k1
                  case measure => have := HK1.out; omega
                  case rel => exact ⟨(wrap64 (x3_1 + 1)), (by first | rfl | (simp; done) | (simp [*]; done)), H', ⟨by have := HK1.out; omega⟩, by repeat (first | exact Drawn0.refl _ | apply Drawn0.step)⟩
          · rw [if_neg c4] at H
            exact absurd H (by simp)
        · rw [if_neg c3] at H
          have c3b0 : decide (x3_1 < (l0.length : Int)) = false := decide_eq_false c3
          clear c3
          obtain rfl := Option.some.inj H
          go_wp2
          go_ret
          exact ⟨by first | rfl | (simp; done) | (simp [*]; done), by repeat (first | exact Drawn0.refl _ | apply Drawn0.step)⟩

end Go.Proofs.Ytaejicolhliecaa.PRe
