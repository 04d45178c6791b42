/- Several texts of this claim, laid together into one file. -/
import Derived.Test.YteccaekalcjihaaGreatDoorLotB
import Derived.Test.YteccaekalcjihaaGreatDoorLotC
import Derived.Maps.OwnSet
import Derived.Maps.RangeWalk
import Derived.Carry
import Derived.Shelf.Strings.Builder1
import Derived.Shelf.Strings.Builder2
import Derived.Shelf.Small.Strs
import Derived.Shelf.Strings.Search1
import Derived.Shelf.Strings.Search2
import Derived.Shelf.Strings.Search3
import Derived.Shelf.Strings.Cut
import Derived.Shelf.Strings.Count
import Derived.Shelf.LaysM
import Derived.Shelf.Strings.Shaped
import Derived.Shelf.Strings.LastIndex
import Derived.Shelf.Strings.Split
import Derived.Shelf.Strings.Replace
import Derived.Shelf.Bits.Mul64
import Derived.Shelf.Unicode.DecodeSlow
import Derived.Test.YteccaekalcjihaaGreatDoorProg
import Derived.LoopN
import Derived.Laws.Tables
import Derived.Laws.Rows
import Derived.Laws.FloatArith
import Derived.WalkKit
import Derived.WalkLawsBesides
set_option linter.unusedSimpArgs false
set_option linter.unusedVariables false
namespace Go.Proofs.YteccaekalcjihaaGreatDoor.PTn
open Go.RowKit Go.Proofs.YteccaekalcjihaaGreatDoorW.PrintWords Go.Proofs.YteccaekalcjihaaGreatDoorW.PrintLast Go.Proofs.YteccaekalcjihaaGreatDoorW.PrintMore
attribute [local go_sem] max2_int min2_int max_two min_two max_three min_three max_four min_four
set_option linter.unusedVariables false
set_option linter.unusedSimpArgs false
def sign_Begins.f (a0 : ByteArray) (a1 : Int) (a2 : ByteArray) : Option (Bool) := if a1 < 0 then (some false) else (if a1 > (a0.size : Int) then (some false) else (if (wrap64 ((a0.size : Int) - a1)) < (a2.size : Int) then (some false) else (if 0 ≤ a1 then (if a1 ≤ (wrap64 (a1 + (a2.size : Int))) then (if (wrap64 (a1 + (a2.size : Int))) ≤ (a0.size : Int) then ((sign_Lower.f (a0.extract (a1 : Int).toNat ((wrap64 (a1 + (a2.size : Int))) : Int).toNat)).bind fun t111 => (some (t111.toList == a2.toList))) else (none)) else (none)) else (none))))
set_option maxHeartbeats 8000000 in
set_option maxRecDepth 100000 in
theorem sign_Begins.calls (a0 : ByteArray) (a1 : Int) (a2 : ByteArray) (r : Bool) (w : World) (h : sign_Begins.f a0 a1 a2 = some r) :
    Calls Tryz.prog 58 #[.string a0, .int .i64 a1, .string a2] w fun e w' => e = .returned (.bool r) ∧ Below w.heap.size w w' := by
  have HB := Aside0.mk (Below.refl w.heap.size w)
  have H : (if a1 < 0 then (some false) else (if a1 > (a0.size : Int) then (some false) else (if (wrap64 ((a0.size : Int) - a1)) < (a2.size : Int) then (some false) else (if 0 ≤ a1 then (if a1 ≤ (wrap64 (a1 + (a2.size : Int))) then (if (wrap64 (a1 + (a2.size : Int))) ≤ (a0.size : Int) then ((sign_Lower.f (a0.extract (a1 : Int).toNat ((wrap64 (a1 + (a2.size : Int))) : Int).toNat)).bind fun t111 => (some (t111.toList == a2.toList))) else (none)) else (none)) else (none))))) = some r := h
  clear h
  by_cases c4 : a1 < 0
  · rw [if_pos c4] at H
    have c4b0 : decide (a1 < 0) = true := decide_eq_true c4
    clear c4
    obtain rfl := Option.some.inj H
    go_enter Tryz.func58, Tryz.ntmps58
    go_wp2
    go_ret
    exact ⟨by first | rfl | (simp [*] <;> rfl), by with_reducible repeat first | exact HB.out | apply below_alloc | apply pw_below_drewN | apply below_drew1⟩
  · rw [if_neg c4] at H
    have c4b0 : decide (a1 < 0) = false := decide_eq_false c4
    clear c4
    by_cases c5 : a1 > (a0.size : Int)
    · rw [if_pos c5] at H
      have c5b0 : decide ((a0.size : Int) < a1) = true := decide_eq_true c5
      clear c5
      obtain rfl := Option.some.inj H
      go_enter Tryz.func58, Tryz.ntmps58
      go_wp2
      go_ret
      exact ⟨by first | rfl | (simp [*] <;> rfl), by with_reducible repeat first | exact HB.out | apply below_alloc | apply pw_below_drewN | apply below_drew1⟩
    · rw [if_neg c5] at H
      have c5b0 : decide ((a0.size : Int) < a1) = false := decide_eq_false c5
      clear c5
      by_cases c6 : (wrap64 ((a0.size : Int) - a1)) < (a2.size : Int)
      · rw [if_pos c6] at H
        have c6b0 : decide ((wrap64 ((a0.size : Int) - a1)) < (a2.size : Int)) = true := decide_eq_true c6
        clear c6
        obtain rfl := Option.some.inj H
        go_enter Tryz.func58, Tryz.ntmps58
        go_wp2
        go_ret
        exact ⟨by first | rfl | (simp [*] <;> rfl), by with_reducible repeat first | exact HB.out | apply below_alloc | apply pw_below_drewN | apply below_drew1⟩
      · rw [if_neg c6] at H
        have c6b0 : decide ((wrap64 ((a0.size : Int) - a1)) < (a2.size : Int)) = false := decide_eq_false c6
        clear c6
        by_cases c7 : 0 ≤ a1
        · rw [if_pos c7] at H
          have c7b0 := eq_true c7
          have c7b1 : decide (0 ≤ a1) = true := decide_eq_true c7
          clear c7
          by_cases c8 : a1 ≤ (wrap64 (a1 + (a2.size : Int)))
          · rw [if_pos c8] at H
            have c8b0 := eq_true c8
            have c8b1 : decide (a1 ≤ (wrap64 (a1 + (a2.size : Int)))) = true := decide_eq_true c8
            by_cases c9 : (wrap64 (a1 + (a2.size : Int))) ≤ (a0.size : Int)
            · rw [if_pos c9] at H
              have c9b0 := eq_true c9
              have c9b1 : decide ((wrap64 (a1 + (a2.size : Int))) ≤ (a0.size : Int)) = true := decide_eq_true c9
              replace H := Option.bind_eq_some_iff.mp H
              obtain ⟨t111, A100, H⟩ := H
              (try dsimp only at H)
              have A10 := Aside0.mk A100
              clear A100
              obtain rfl := Option.some.inj H
              go_enter Tryz.func58, Tryz.ntmps58
              go_wp2_with (first | ((with_reducible refine gate_callee (f := 60) rfl ?_); refine goesL_ (some 31) rfl rfl Tryz.func60 (by kernel_rfl) rfl #[.string (a0.extract (a1 : Int).toNat ((wrap64 (a1 + (a2.size : Int))) : Int).toNat)] rfl (by simp only [List.map_toArray, List.map_cons, List.map_nil] <;> rfl) ?_; (with_reducible refine (sign_Lower.calls (a0.extract (a1 : Int).toNat ((wrap64 (a1 + (a2.size : Int))) : Int).toNat) t111 _ A10.out).mono ?_); rintro e w11 ⟨rfl, hb⟩; refine ⟨_, rfl, ?_⟩; have n0_ := Aside0.mk (below_step (by with_reducible repeat first | exact HB.out | apply below_alloc | apply pw_below_drewN | apply below_drew1) hb); clear HB; have HB := n0_; clear n0_; (try clear hb); (try clear hb2); (try clear hk); (try clear hi)))
              go_ret
              exact ⟨by first | rfl | (simp [*] <;> rfl), by with_reducible repeat first | exact HB.out | apply below_alloc | apply pw_below_drewN | apply below_drew1⟩
            · rw [if_neg c9] at H
              exact absurd H (by simp)
          · rw [if_neg c8] at H
            exact absurd H (by simp)
        · rw [if_neg c7] at H
          exact absurd H (by simp)
end Go.Proofs.YteccaekalcjihaaGreatDoor.PTn
namespace Go.Proofs.YteccaekalcjihaaGreatDoor.PTn
open Go.RowKit Go.Proofs.YteccaekalcjihaaGreatDoorW.PrintWords Go.Proofs.YteccaekalcjihaaGreatDoorW.PrintLast Go.Proofs.YteccaekalcjihaaGreatDoorW.PrintMore
attribute [local go_sem] max2_int min2_int max_two min_two max_three min_three max_four min_four
set_option linter.unusedVariables false
set_option linter.unusedSimpArgs false
def sign_Letter.f (a0 : Int) : Option (Bool) := (sign_within.f (Go.bits .or .u8 a0 32) 97 122).bind fun t112 => (some t112)
set_option maxHeartbeats 8000000 in
set_option maxRecDepth 100000 in
theorem sign_Letter.calls (a0 : Int) (r : Bool) (w : World) (h : sign_Letter.f a0 = some r) :
    Calls Tryz.prog 127 #[.int .u8 a0] w fun e w' => e = .returned (.bool r) ∧ Drawn0 w w' := by
  have H : ((sign_within.f (Go.bits .or .u8 a0 32) 97 122).bind fun t112 => (some t112)) = some r := h
  clear h
  replace H := Option.bind_eq_some_iff.mp H
  obtain ⟨t112, A20, H⟩ := H
  (try dsimp only at H)
  have A2 := Aside0.mk A20
  clear A20
  obtain rfl := Option.some.inj H
  go_enter Tryz.func127, Tryz.ntmps127
  go_wp2_with (first | ((with_reducible refine gate_callee (f := 114) rfl ?_); refine goesL_ (some 5) rfl rfl Tryz.func114 (by kernel_rfl) rfl #[.int .u8 (Go.bits .or .u8 a0 32), .int .u8 97, .int .u8 122] rfl (by simp only [List.map_toArray, List.map_cons, List.map_nil] <;> rfl) ?_; (with_reducible refine (sign_within.calls (Go.bits .or .u8 a0 32) 97 122 t112 _ A2.out).mono ?_); rintro e w' ⟨rfl, ⟨nd, rfl⟩⟩; refine ⟨_, rfl, ?_⟩))
  go_ret
  exact ⟨by first | rfl | (simp; done) | (simp [*]; done), by repeat (first | exact Drawn0.refl _ | apply Drawn0.step)⟩
end Go.Proofs.YteccaekalcjihaaGreatDoor.PTn
namespace Go.Proofs.YteccaekalcjihaaGreatDoor.PTn
open Go.RowKit Go.Proofs.YteccaekalcjihaaGreatDoorW.PrintWords Go.Proofs.YteccaekalcjihaaGreatDoorW.PrintLast Go.Proofs.YteccaekalcjihaaGreatDoorW.PrintMore
attribute [local go_sem] max2_int min2_int max_two min_two max_three min_three max_four min_four
set_option linter.unusedVariables false
set_option linter.unusedSimpArgs false
def tag_place_letter.f (a0_0 : ByteArray) (a0_1 : Int) (a1 : Int) : Option (Bool) := if (wrap64 (a0_1 + a1)) < (a0_0.size : Int) then (if 0 ≤ (wrap64 (a0_1 + a1)) then ((sign_Letter.f (bt a0_0 (wrap64 (a0_1 + a1)))).bind fun t114 => (some t114)) else (none)) else (some false)
set_option maxHeartbeats 8000000 in
set_option maxRecDepth 100000 in
theorem tag_place_letter.calls (a0_0 : ByteArray) (a0_1 : Int) (a1 : Int) (r : Bool) (w : World) (h : tag_place_letter.f a0_0 a0_1 a1 = some r) :
    Calls Tryz.prog 169 #[.agg #[.string a0_0, .int .i64 a0_1], .int .i64 a1] w fun e w' => e = .returned (.bool r) ∧ Below w.heap.size w w' := by
  have hu140 := Tryz.underlying140
  have HB := Aside0.mk (Below.refl w.heap.size w)
  have H : (if (wrap64 (a0_1 + a1)) < (a0_0.size : Int) then (if 0 ≤ (wrap64 (a0_1 + a1)) then ((sign_Letter.f (bt a0_0 (wrap64 (a0_1 + a1)))).bind fun t114 => (some t114)) else (none)) else (some false)) = some r := h
  clear h
  by_cases c3 : (wrap64 (a0_1 + a1)) < (a0_0.size : Int)
  · rw [if_pos c3] at H
    have c3b0 : decide ((wrap64 (a0_1 + a1)) < (a0_0.size : Int)) = true := decide_eq_true c3
    clear c3
    obtain ⟨ji4, hji4⟩ : ∃ j_ : Int, (wrap64 (a0_1 + a1)) = j_ := ⟨_, rfl⟩
    replace H : (if 0 ≤ (ji4) then ((sign_Letter.f (bt a0_0 (ji4))).bind fun t114 => (some t114)) else (none)) = some r := by first | (rw [hji4] at H; exact H) | (simp only [hji4] at H ⊢; exact H)
    (try rw [hji4] at c3b0)
    have hji4w : (IntKind.i64.wrap (a0_1 + a1)) = ji4 := (i64_w _).trans hji4
    by_cases c5 : 0 ≤ (ji4)
    · rw [if_pos c5] at H
      have c5b0 : decide (0 ≤ (ji4)) = true := decide_eq_true c5
      clear c5
      replace H := Option.bind_eq_some_iff.mp H
      obtain ⟨t114, A70, H⟩ := H
      (try dsimp only at H)
      have A7 := Aside0.mk A70
      clear A70
      obtain rfl := Option.some.inj H
      go_enter Tryz.func169, Tryz.ntmps169
      go_wp2_with (first | ((with_reducible refine gate_dst (N := 2) rfl ?_); refine box_event ?hg (N := 2) ?hd (cs := #[.string a0_0, .int .i64 a0_1]) (t := 140) ?hr ?_; (case hd => rfl); (case hg => rfl); (case hr => first | (go_simp; done) | (go_simp; rfl)); intro gb113 hg w8 hbox hb; have n0_ := Aside0.mk (below_step (by with_reducible repeat first | exact HB.out | apply below_alloc | apply pw_below_drewN | apply below_drew1) hb); have n1_ := Aside0.mk (hbox); have n2_ := Aside0.mk ((by rw [hg]; exact (below_size (by with_reducible repeat first | exact HB.out | apply below_alloc | apply pw_below_drewN | apply below_drew1)) : w.heap.size ≤ gb113)); have n3_ := Aside0.mk ((by rw [hg]; exact (below_size (by with_reducible repeat first | exact HB.out | apply below_alloc | apply pw_below_drewN | apply below_drew1)) : w.heap.size ≤ gb113)); clear HB; have HB := n0_; have BK113 := n1_; have GW113 := n2_; have GE113 := n3_; clear n0_ n1_ n2_ n3_; clear hb hbox hg; have hcz9_0 : w8.cell? ⟨gb113, 0, none⟩ = some (.string a0_0) := (blk_cell BK113.out 0).trans rfl; have hcz9_1 : w8.cell? ⟨gb113, 1, none⟩ = some (.int .i64 a0_1) := (blk_cell BK113.out 1).trans rfl; have hfz9_0 := blk_frozen BK113.out 0; have hfz9_1 := blk_frozen BK113.out 1; have p6 : 0 ≤ ((ji4) : Int) := of_decide_eq_true (by first | (with_reducible assumption) | assumption); have q6 : (ji4) < (a0_0.size : Int) := of_decide_eq_true (by first | (with_reducible assumption) | assumption); have hx6 := bt_at a0_0 (ji4); replace p6 := eq_true p6; replace q6 := eq_true q6) | (go_at_call 127; (with_reducible refine (sign_Letter.calls (bt a0_0 (ji4)) t114 _ A7.out).mono ?_); rintro e w' ⟨rfl, ⟨nd, rfl⟩⟩))
      go_ret
      exact ⟨by first | rfl | (simp [errW_none, errW_some] <;> rfl) | (simp only [← hji4]; first | rfl | (simp [errW_none, errW_some] <;> rfl)) | (simp [*, errW_none, errW_some] <;> rfl), by repeat (first | (with_reducible first | exact HB.out | apply below_alloc | apply pw_below_drewN | apply below_drew1 | refine below_set ?_ GE113.out) | exact HB.out)⟩
    · rw [if_neg c5] at H
      exact absurd H (by simp)
  · rw [if_neg c3] at H
    have c3b0 : decide ((wrap64 (a0_1 + a1)) < (a0_0.size : Int)) = false := decide_eq_false c3
    clear c3
    obtain rfl := Option.some.inj H
    go_enter Tryz.func169, Tryz.ntmps169
    go_wp2_with (first | ((with_reducible refine gate_dst (N := 2) rfl ?_); refine box_event ?hg (N := 2) ?hd (cs := #[.string a0_0, .int .i64 a0_1]) (t := 140) ?hr ?_; (case hd => rfl); (case hg => rfl); (case hr => first | (go_simp; done) | (go_simp; rfl)); intro gb113 hg w10 hbox hb; have n0_ := Aside0.mk (below_step (by with_reducible repeat first | exact HB.out | apply below_alloc | apply pw_below_drewN | apply below_drew1) hb); have n1_ := Aside0.mk (hbox); have n2_ := Aside0.mk ((by rw [hg]; exact (below_size (by with_reducible repeat first | exact HB.out | apply below_alloc | apply pw_below_drewN | apply below_drew1)) : w.heap.size ≤ gb113)); have n3_ := Aside0.mk ((by rw [hg]; exact (below_size (by with_reducible repeat first | exact HB.out | apply below_alloc | apply pw_below_drewN | apply below_drew1)) : w.heap.size ≤ gb113)); clear HB; have HB := n0_; have BK113 := n1_; have GW113 := n2_; have GE113 := n3_; clear n0_ n1_ n2_ n3_; clear hb hbox hg; have hcz11_0 : w10.cell? ⟨gb113, 0, none⟩ = some (.string a0_0) := (blk_cell BK113.out 0).trans rfl; have hcz11_1 : w10.cell? ⟨gb113, 1, none⟩ = some (.int .i64 a0_1) := (blk_cell BK113.out 1).trans rfl; have hfz11_0 := blk_frozen BK113.out 0; have hfz11_1 := blk_frozen BK113.out 1))
    go_ret
    exact ⟨by first | rfl | (simp [*] <;> rfl), by repeat (first | (with_reducible first | exact HB.out | apply below_alloc | apply pw_below_drewN | apply below_drew1 | refine below_set ?_ GE113.out) | exact HB.out)⟩
end Go.Proofs.YteccaekalcjihaaGreatDoor.PTn
set_option linter.unusedVariables false
namespace Go.TopMaps
open Go.Maps
def rdF (v : Value) : Option (DataW Value × List MemPlace) := some (.held v, [])
def puts : List (Lit × Value) → DataW Value
  | [] => .map []
  | p :: t => (puts t).put p.1 (.held p.2)
theorem puts_map : ∀ l, IsMap (puts l)
  | [] => isMap_empty
  | p :: t => (puts_map t).put _ _
def getL (k : Lit) : List (Lit × Value) → Option Value
  | [] => none
  | p :: t => if p.1.sameKey k = true then some p.2 else getL k t
theorem puts_at : ∀ (l : List (Lit × Value)) (k : Lit) (z : DataW Value), (∀ p ∈ l, WideAt.IsKeyLit p.1) → (puts l).atKey k z = (match getL k l with | some v => .held v | none => z) ∧ Maps.has (puts l) k = (getL k l).isSome
  | [], k, z, _ => ⟨rfl, rfl⟩
  | p :: t, k, z, h => by
    have ih := puts_at t k z (fun q hq => h q (List.mem_cons_of_mem _ hq))
    by_cases e : p.1 = k
    · subst e
      simp only [puts, getL, WideAt.sameKey_self (h p List.mem_cons_self), if_true]
      exact ⟨atKey_put_same (puts_map t) (h p List.mem_cons_self) _ _, has_put_same (puts_map t) (h p List.mem_cons_self) _⟩
    · simp only [puts, getL]
      rw [atKey_put_other (fun h => e h.symm), has_put_other (fun h => e h.symm), if_neg (fun hs => e (WideAt.sameKey_eq hs))]
      exact ih
section
variable {P : Program} {k e t : TypeId} {w : World} {b n : Nat} {l : List (Lit × Value)}
theorem put_step (h : w.ownsMap P k rdF b n (puts l)) (K : Keyed P k) (ht : P.underlying t = some (.map k e)) (hn : n < maxLen) {key val : Value} {kl : Lit} (hkey : keyOf P k key = some kl) :
    ∃ w', (Instr.mapUpdate t (.map (some b)) key val).run P w = .ok () w' ∧ w'.ownsMap P k rdF b (n + 1) (puts ((kl, val) :: l)) ∧ w.grownBy w' (some b) :=
  h.update K ht hn hkey (d := .held val) (ps := []) rfl
theorem made (w : World) (P : Program) (k : TypeId) : (w.alloc (.map #[] 0)).ownsMap P k rdF w.heap.size 0 (puts []) := World.ownsMap_made w P k rdF
theorem look (h : w.ownsMap P k rdF b n (puts l)) (K : Keyed P k) (ht : P.underlying t = some (.map k e)) (hl : ∀ p ∈ l, WideAt.IsKeyLit p.1) {key z : Value} {kl : Lit} (hkey : keyOf P k key = some kl) (hz : (zeroValue e).run P w = .ok z w) :
    ∃ v, (Instr.lookup t (.map (some b)) key false).run P w = .ok v w ∧ v = (getL kl l).getD z := by
  obtain ⟨v, ps, h1, h2⟩ := h.lookup K ht hz (zd := .held z) (zp := []) rfl hkey
  refine ⟨v, h1, ?_⟩
  unfold rdF at h2
  simp only [Option.some.injEq, Prod.mk.injEq] at h2
  have h3 := h2.1
  rw [(puts_at l kl _ hl).1] at h3
  cases hg : getL kl l with
  | none => rw [hg] at h3; injection h3
  | some p => rw [hg] at h3; injection h3
end
end Go.TopMaps
set_option linter.unusedVariables false
namespace Go.Proofs.YteccaekalcjihaaGreatDoor.PTn
open Go.RowKit Go.Lib Go.Maps Go.TopMaps Go.Proofs.YteccaekalcjihaaGreatDoor.Buf Go.Proofs.YteccaekalcjihaaGreatDoorW.PrintWords
def tagLt : ByteArray := ⟨#[60]⟩
def tagEnd : ByteArray := ⟨#[60, 47]⟩
def nameAt (s : ByteArray) (i : Int) (b : ByteArray) (n : Int) : Option Bool := (sign_Begins.f s i b).bind fun x => if x = true then tag_place_letter.f s i n else some false
def tag_place_name.f (a0 : ByteArray) (a1 : Int) : Option Int := (nameAt a0 a1 tagLt 1).bind fun x => (nameAt a0 a1 tagEnd 2).bind fun y => if x = true ∧ y = true then none else some (if x = true then 1 else if y = true then 2 else 0)
theorem nameAt_split {s : ByteArray} {i : Int} {b : ByteArray} {n : Int} {r : Bool} (h : nameAt s i b n = some r) : (sign_Begins.f s i b = some false ∧ r = false) ∨ (sign_Begins.f s i b = some true ∧ tag_place_letter.f s i n = some r) := by
  unfold nameAt at h
  obtain ⟨x, h1, h2⟩ := Option.bind_eq_some_iff.1 h
  cases x with
  | true => exact .inr ⟨h1, by simpa using h2⟩
  | false => exact .inl ⟨h1, by simpa using h2.symm⟩
theorem na_grown {w w' : World} (h : Below w.heap.size w w') : w.grownBy w' none := ⟨h.os, h.tape, h.output, h.size, fun k hk _ => h.block k hk⟩
def nl (k : Int) : Lit := .int .i64 k
def nameKV : List (Lit × Value) := [(nl 2, .string tagEnd), (nl 1, .string tagLt)]
theorem nameKV_lit : ∀ p ∈ nameKV, WideAt.IsKeyLit p.1 := by
  intro p hp
  simp only [nameKV, List.mem_cons, List.mem_nil_iff, or_false] at hp
  rcases hp with rfl | rfl <;> exact trivial
theorem nameKV_get (x : Int) (c : Value) (h : getL (nl x) nameKV = some c) : (x = 1 ∧ c = .string tagLt) ∨ (x = 2 ∧ c = .string tagEnd) := by
  simp only [getL, nameKV, nl, Lit.sameKey, decide_eq_true_eq, true_and] at h
  by_cases h2 : (2 : Int) = x
  · rw [if_pos h2] at h
    exact .inr ⟨h2.symm, (Option.some.inj h).symm⟩
  · rw [if_neg h2] at h
    by_cases h1 : (1 : Int) = x
    · rw [if_pos h1] at h
      exact .inl ⟨h1.symm, (Option.some.inj h).symm⟩
    · rw [if_neg h1] at h
      cases h
set_option maxRecDepth 100000 in
theorem name_entry {x : Int} {c : Value} {kl : Lit} {y : DataW Value × List MemPlace} (hk : keyOf Tryz.prog 3 (.int .i64 x) = some kl) (hR : rdF c = some y) (hat : ∀ zd, (puts nameKV).atKey kl zd = y.1) : kl = nl x ∧ ((x = 1 ∧ c = .string tagLt) ∨ (x = 2 ∧ c = .string tagEnd)) := by
  obtain ⟨x', e, rfl, hw⟩ := Maps.keyOf_int_inv Tryz.underlying3 hk
  cases e
  refine ⟨rfl, nameKV_get x c ?_⟩
  obtain rfl := Option.some.inj hR
  have h1 := hat (.held (.bool true))
  have h2 := hat (.held (.bool false))
  rw [(puts_at nameKV _ _ nameKV_lit).1] at h1 h2
  cases hg : getL (Lit.int .i64 x) nameKV with
  | none =>
    rw [hg] at h1 h2
    rw [← h2] at h1
    cases h1
  | some v =>
    have : getL (nl x) nameKV = some v := hg
    rw [this]
    rw [hg] at h1
    injection h1 with h1
    rw [h1]
theorem nl_ne {a b : Int} (h : a ≠ b) : (nl a).sameKey (nl b) = false := by simp [nl, Lit.sameKey, h]
structure NAt (w wr : World) (s : ByteArray) (i : Int) : Prop where
  below : Below w.heap.size w wr
  size : w.heap.size < wr.heap.size
  box : wr.heap[w.heap.size]? = some (.cells #[.string s, .int .i64 i] 140 (0, 0))
theorem NAt.then {w w1 w2 : World} {s : ByteArray} {i : Int} (h : NAt w w1 s i) (hb : Below w1.heap.size w1 w2) : NAt w w2 s i :=
  ⟨h.below.trans (hb.mono h.below.size), Nat.lt_of_lt_of_le h.size hb.size, (hb.block _ h.size).trans h.box⟩
theorem NAt.grown {w w1 w2 : World} {s : ByteArray} {i : Int} {r : Nat} (h : NAt w w1 s i) (hg : w1.grownBy w2 (some r)) (hr : w.heap.size < r) : NAt w w2 s i :=
  ⟨h.below.trans ⟨hg.os, hg.tape, hg.output, Nat.le_trans h.below.size hg.size |> fun _ => hg.size, fun k hk => hg.block k (Nat.lt_of_lt_of_le hk h.below.size) (by simp; omega)⟩, Nat.lt_of_lt_of_le h.size hg.size, (hg.block _ h.size (by simp; omega)).trans h.box⟩
theorem NAt.cells {w wr : World} {s : ByteArray} {i : Int} (h : NAt w wr s i) : wr.cell? ⟨w.heap.size, 0, none⟩ = some (.string s) ∧ wr.cell? ⟨w.heap.size, 1, none⟩ = some (.int .i64 i) := by
  constructor <;> (rw [Lib.cell_of_heap h.box]; rfl)
theorem name_start (w : World) (s : ByteArray) (i : Int) : ∃ w5 w6,
    (Instr.mapUpdate 158 (.map (some (w.heap.size + 1))) (.int .i64 1) (.string tagLt)).run Tryz.prog ((w.alloc (.cells #[.string s, .int .i64 i] 140)).alloc (.map #[] 0)) = .ok () w5 ∧
    (Instr.mapUpdate 158 (.map (some (w.heap.size + 1))) (.int .i64 2) (.string tagEnd)).run Tryz.prog w5 = .ok () w6 ∧
    w6.ownsMap Tryz.prog 3 rdF (w.heap.size + 1) 2 (puts nameKV) ∧ NAt w w6 s i ∧ w.heap.size + 1 < w6.heap.size := by
  have hm := made (w.alloc (.cells #[.string s, .int .i64 i] 140)) Tryz.prog 3
  have hs1 : (w.alloc (.cells #[.string s, .int .i64 i] 140)).heap.size = w.heap.size + 1 := by simp
  rw [hs1] at hm
  have hlen : maxLen = 9223372036854775807 := rfl
  have K : Keyed Tryz.prog 3 := int_keyed Tryz.underlying3
  obtain ⟨w5, h5, o5, g5⟩ := put_step hm K Tryz.underlying158 (by omega) (key := .int .i64 1) (val := .string tagLt) (kl := nl 1) (keyOf_int_mk Tryz.underlying3 (by decide))
  obtain ⟨w6, h6, o6, g6⟩ := put_step o5 K Tryz.underlying158 (by omega) (key := .int .i64 2) (val := .string tagEnd) (kl := nl 2) (keyOf_int_mk Tryz.underlying3 (by decide))
  have n0 : NAt w ((w.alloc (.cells #[.string s, .int .i64 i] 140)).alloc (.map #[] 0)) s i := by
    refine ⟨((Below.refl _ _).alloc (Nat.le_refl _) _).alloc (by simp) _, by simp; omega, (Lib.alloc_old _ _ _ (by simp)).trans (heap_alloc_new w _)⟩
  exact ⟨w5, w6, h5, h6, o6, (n0.grown g5 (by omega)).grown g6 (by omega), o6.lt⟩
set_option maxHeartbeats 8000000 in
set_option maxRecDepth 100000 in
theorem tag_place_name.calls (a0 : ByteArray) (a1 : Int) (r : Int) (w : World) (h : tag_place_name.f a0 a1 = some r) :
    Calls Tryz.prog 126 #[.agg #[.string a0, .int .i64 a1]] w fun e w' => e = .returned (.int .i64 r) ∧ Below w.heap.size w w' := by
  unfold tag_place_name.f at h
  obtain ⟨x1, hx1, h⟩ := Option.bind_eq_some_iff.1 h
  obtain ⟨x2, hx2, h⟩ := Option.bind_eq_some_iff.1 h
  have HX1 := Aside0.mk hx1
  have HX2 := Aside0.mk hx2
  have HR := Aside0.mk h
  clear h hx1 hx2
  obtain ⟨w5, w6, h5, h6, hown, hN, hz⟩ := name_start w a0 a1
  have HO := Aside0.mk hown
  have HN := Aside0.mk hN
  have HZ := Aside0.mk hz
  clear hown hN hz
  unfold tagLt at h5
  unfold tagEnd at h6
  have hmm := @run_makeMap Tryz.prog
  go_enter Tryz.func126, Tryz.ntmps126
  go_wp2_with (at_range; refine Stop.out (?_ : Stop _))
  refine Stop.mk ?_
  clear h5 h6 hmm
  refine wpList_range_own _ rfl _ 158 rfl 3 9 (int_keyed Tryz.underlying3) Tryz.underlying158 rdF _ 2 _ ?hm HO.out ?_
  case hm => rfl
  intro w7 hrg0 hg0 hs0
  have hn7 := HN.out.then (⟨hg0.os, hg0.tape, hg0.output, hg0.size, fun k hk => hg0.block k hk (by simp)⟩ : Below w6.heap.size w6 w7)
  have HRG := Aside0.mk hrg0
  have HN7 := Aside0.mk hn7
  clear hrg0 hg0 hs0 hn7 HO HN
  go_frame
  go_wp2
  go_loopg [] 3 (fun kq wr => ∃ left cnt, Aside0 (NAt w wr a0 a1) ∧ Aside0 (wr.ranges Tryz.prog 3 rdF (w.heap.size + 1) w6.heap.size 2 (puts nameKV) left cnt) ∧ Aside0 (left (nl 1) = false → x1 = false) ∧ Aside0 (left (nl 2) = false → x2 = false) ∧ Aside0 (cnt < kq))
  case atStart => exact ⟨_, _, HN7, HRG, ⟨fun h => by rw [(puts_at nameKV _ (.held .nilFunc) nameKV_lit).2] at h; cases h⟩, ⟨fun h => by rw [(puts_at nameKV _ (.held .nilFunc) nameKV_lit).2] at h; cases h⟩, ⟨by decide⟩⟩
  case round =>
    clear HN7 HRG
    obtain ⟨left, cnt, HN, HG, H1, H2, HC⟩ := hrel
    go_wp2_with (at_next; refine Stop.out (?_ : Stop _))
    refine Stop.mk ?_
    refine wpList_next_ranges _ rfl _ rfl 3 (int_keyed Tryz.underlying3) rdF (Value.int .i64) (fun v : Value => v) ?invK ?invV (w.heap.size + 1) w6.heap.size 2 (puts nameKV) left cnt ?hit HG.out ?done ?more
    case invK => exact fun key kl hk => by obtain ⟨x, rfl, _⟩ := Maps.keyOf_int_inv Tryz.underlying3 hk; exact ⟨x, rfl⟩
    case invV => exact fun v y _ => ⟨v, rfl⟩
    case hit => rfl
    case done =>
      intro _ hl
      have hx1 := H1.out (hl _)
      have hx2 := H2.out (hl _)
      have hr := HR.out
      rw [hx1, hx2] at hr
      simp at hr
      subst hr
      clear hx1 hx2 hl
      go_frame
      go_wp2
      go_ret
      exact ⟨rfl, HN.out.below⟩
    case more =>
      intro x c kl y w1 cnt1 hk hlk hR hat hrg1 hlt hg1 hs1 hen
      obtain ⟨rfl, hx⟩ := name_entry hk hR hat
      have HN1 := Aside0.mk (HN.out.grown hg1 (by have := HZ.out; omega))
      have HRG := Aside0.mk hrg1
      have HLT := Aside0.mk hlt
      clear hk hR hat hrg1 hlt hg1 hs1 hlk
      obtain ⟨cc0, cc1⟩ := HN1.out.cells
      rcases hx with ⟨rfl, rfl⟩ | ⟨rfl, rfl⟩
      · unfold tagLt at hen ⊢
        rcases nameAt_split HX1.out with ⟨hb, hf⟩ | ⟨hb, hle⟩
        · have HB := Aside0.mk (show sign_Begins.f a0 a1 ⟨#[60]⟩ = some false from hb)
          have HF2 := Aside0.mk hf
          have HF := Aside0.mk (show tag_place_letter.f a0 a1 1 = tag_place_letter.f a0 a1 1 from rfl)
          clear hb hf
          go_frame
          go_wp2_with (first | (go_at_call 58; (with_reducible refine (sign_Begins.calls a0 a1 ⟨#[60]⟩ false _ HB.out).mono ?_); rintro e w2 ⟨rfl, hb⟩; have HN2 := Aside0.mk (HN1.out.then hb); have HRG2 := Aside0.mk (HRG.out.kept (na_grown hb) (by simp) (by simp)); obtain ⟨dd0, dd1⟩ := HN2.out.cells; clear hb))
          obtain ⟨gk1, rfl⟩ : ∃ g, gk = g + 1 := ⟨gk - 1, by have := HC.out; omega⟩
          go_roundg gk1
          case measure => omega
          case rel => exact ⟨_, cnt1, HN2, HRG2, ⟨fun _ => HF2.out⟩, ⟨fun h => H2.out (by rw [nl_ne (by decide)] at h; simpa using h)⟩, ⟨by have := HLT.out; have := HC.out; omega⟩⟩
        · have HB := Aside0.mk (show sign_Begins.f a0 a1 ⟨#[60]⟩ = some true from hb)
          have HF := Aside0.mk hle
          clear hb hle
          go_frame
          cases x1 with
          | false =>
            go_wp2_with (first | (go_at_call 58; (with_reducible refine (sign_Begins.calls a0 a1 ⟨#[60]⟩ true _ HB.out).mono ?_); rintro e w2 ⟨rfl, hb⟩; have HN2 := Aside0.mk (HN1.out.then hb); have HRG2 := Aside0.mk (HRG.out.kept (na_grown hb) (by simp) (by simp)); obtain ⟨dd0, dd1⟩ := HN2.out.cells; clear hb) | (go_at_call 169; (with_reducible refine (tag_place_letter.calls a0 a1 1 false _ HF.out).mono ?_); rintro e w3 ⟨rfl, hb3⟩; have HN3 := Aside0.mk (HN2.out.then hb3); have HRG3 := Aside0.mk (HRG2.out.kept (na_grown hb3) (by simp) (by simp)); clear hb3))
            obtain ⟨gk1, rfl⟩ : ∃ g, gk = g + 1 := ⟨gk - 1, by have := HC.out; omega⟩
            go_roundg gk1
            case measure => omega
            case rel => exact ⟨_, cnt1, HN3, HRG3, ⟨fun _ => by first | rfl | trivial⟩, ⟨fun h => H2.out (by rw [nl_ne (by decide)] at h; simpa using h)⟩, ⟨by have := HLT.out; have := HC.out; omega⟩⟩
          | true =>
            go_wp2_with (first | (go_at_call 58; (with_reducible refine (sign_Begins.calls a0 a1 ⟨#[60]⟩ true _ HB.out).mono ?_); rintro e w2 ⟨rfl, hb⟩; have HN2 := Aside0.mk (HN1.out.then hb); have HRG2 := Aside0.mk (HRG.out.kept (na_grown hb) (by simp) (by simp)); obtain ⟨dd0, dd1⟩ := HN2.out.cells; clear hb) | (go_at_call 169; (with_reducible refine (tag_place_letter.calls a0 a1 1 true _ HF.out).mono ?_); rintro e w3 ⟨rfl, hb3⟩; have HN3 := Aside0.mk (HN2.out.then hb3); have HRG3 := Aside0.mk (HRG2.out.kept (na_grown hb3) (by simp) (by simp)); clear hb3))
            have hr := HR.out
            cases x2 with
            | true => exact absurd hr (by simp)
            | false =>
              simp at hr
              subst hr
              go_ret
              exact ⟨rfl, HN3.out.below⟩
      · unfold tagEnd at hen ⊢
        rcases nameAt_split HX2.out with ⟨hb, hf⟩ | ⟨hb, hle⟩
        · have HB := Aside0.mk (show sign_Begins.f a0 a1 ⟨#[60, 47]⟩ = some false from hb)
          have HF2 := Aside0.mk hf
          have HF := Aside0.mk (show tag_place_letter.f a0 a1 2 = tag_place_letter.f a0 a1 2 from rfl)
          clear hb hf
          go_frame
          go_wp2_with (first | (go_at_call 58; (with_reducible refine (sign_Begins.calls a0 a1 ⟨#[60, 47]⟩ false _ HB.out).mono ?_); rintro e w2 ⟨rfl, hb⟩; have HN2 := Aside0.mk (HN1.out.then hb); have HRG2 := Aside0.mk (HRG.out.kept (na_grown hb) (by simp) (by simp)); obtain ⟨dd0, dd1⟩ := HN2.out.cells; clear hb))
          obtain ⟨gk1, rfl⟩ : ∃ g, gk = g + 1 := ⟨gk - 1, by have := HC.out; omega⟩
          go_roundg gk1
          case measure => omega
          case rel => exact ⟨_, cnt1, HN2, HRG2, ⟨fun h => H1.out (by rw [nl_ne (by decide)] at h; simpa using h)⟩, ⟨fun _ => HF2.out⟩, ⟨by have := HLT.out; have := HC.out; omega⟩⟩
        · have HB := Aside0.mk (show sign_Begins.f a0 a1 ⟨#[60, 47]⟩ = some true from hb)
          have HF := Aside0.mk hle
          clear hb hle
          go_frame
          cases x2 with
          | false =>
            go_wp2_with (first | (go_at_call 58; (with_reducible refine (sign_Begins.calls a0 a1 ⟨#[60, 47]⟩ true _ HB.out).mono ?_); rintro e w2 ⟨rfl, hb⟩; have HN2 := Aside0.mk (HN1.out.then hb); have HRG2 := Aside0.mk (HRG.out.kept (na_grown hb) (by simp) (by simp)); obtain ⟨dd0, dd1⟩ := HN2.out.cells; clear hb) | (go_at_call 169; (with_reducible refine (tag_place_letter.calls a0 a1 2 false _ HF.out).mono ?_); rintro e w3 ⟨rfl, hb3⟩; have HN3 := Aside0.mk (HN2.out.then hb3); have HRG3 := Aside0.mk (HRG2.out.kept (na_grown hb3) (by simp) (by simp)); clear hb3))
            obtain ⟨gk1, rfl⟩ : ∃ g, gk = g + 1 := ⟨gk - 1, by have := HC.out; omega⟩
            go_roundg gk1
            case measure => omega
            case rel => exact ⟨_, cnt1, HN3, HRG3, ⟨fun h => H1.out (by rw [nl_ne (by decide)] at h; simpa using h)⟩, ⟨fun _ => by first | rfl | trivial⟩, ⟨by have := HLT.out; have := HC.out; omega⟩⟩
          | true =>
            go_wp2_with (first | (go_at_call 58; (with_reducible refine (sign_Begins.calls a0 a1 ⟨#[60, 47]⟩ true _ HB.out).mono ?_); rintro e w2 ⟨rfl, hb⟩; have HN2 := Aside0.mk (HN1.out.then hb); have HRG2 := Aside0.mk (HRG.out.kept (na_grown hb) (by simp) (by simp)); obtain ⟨dd0, dd1⟩ := HN2.out.cells; clear hb) | (go_at_call 169; (with_reducible refine (tag_place_letter.calls a0 a1 2 true _ HF.out).mono ?_); rintro e w3 ⟨rfl, hb3⟩; have HN3 := Aside0.mk (HN2.out.then hb3); have HRG3 := Aside0.mk (HRG2.out.kept (na_grown hb3) (by simp) (by simp)); clear hb3))
            have hr := HR.out
            cases x1 with
            | true => exact absurd hr (by simp)
            | false =>
              simp at hr
              subst hr
              go_ret
              exact ⟨rfl, HN3.out.below⟩
end Go.Proofs.YteccaekalcjihaaGreatDoor.PTn
namespace Go.Proofs.YteccaekalcjihaaGreatDoor.PTn
open Go.RowKit Go.Proofs.YteccaekalcjihaaGreatDoorW.PrintWords Go.Proofs.YteccaekalcjihaaGreatDoorW.PrintLast Go.Proofs.YteccaekalcjihaaGreatDoorW.PrintMore
attribute [local go_sem] max2_int min2_int max_two min_two max_three min_three max_four min_four
set_option linter.unusedVariables false
set_option linter.unusedSimpArgs false
def tag_Begins.f (a0 : ByteArray) (a1 : Int) : Option (Bool) := (tag_place_name.f a0 a1).bind fun t115 => (some (decide (t115 > 0)))
set_option maxHeartbeats 8000000 in
set_option maxRecDepth 100000 in
theorem tag_Begins.calls (a0 : ByteArray) (a1 : Int) (r : Bool) (w : World) (h : tag_Begins.f a0 a1 = some r) :
    Calls Tryz.prog 72 #[.string a0, .int .i64 a1] w fun e w' => e = .returned (.bool r) ∧ Below w.heap.size w w' := by
  have hu140 := Tryz.underlying140
  have HB := Aside0.mk (Below.refl w.heap.size w)
  have H : ((tag_place_name.f a0 a1).bind fun t115 => (some (decide (t115 > 0)))) = some r := h
  clear h
  replace H := Option.bind_eq_some_iff.mp H
  obtain ⟨t115, A30, H⟩ := H
  (try dsimp only at H)
  have A3 := Aside0.mk A30
  clear A30
  obtain rfl := Option.some.inj H
  go_enter Tryz.func72, Tryz.ntmps72
  go_wp2_with (first | ((with_reducible refine gate_callee (f := 126) rfl ?_); refine goesL_ (some 8) rfl rfl Tryz.func126 (by kernel_rfl) rfl #[.agg #[.string a0, .int .i64 a1]] rfl (by simp only [List.map_toArray, List.map_cons, List.map_nil] <;> rfl) ?_; (with_reducible refine (tag_place_name.calls a0 a1 t115 _ A3.out).mono ?_); rintro e w4 ⟨rfl, hb⟩; refine ⟨_, rfl, ?_⟩; have n0_ := Aside0.mk (below_step (by with_reducible repeat first | exact HB.out | apply below_alloc | apply pw_below_drewN | apply below_drew1) hb); clear HB; have HB := n0_; clear n0_; (try clear hb); (try clear hb2); (try clear hk); (try clear hi)))
  go_ret
  exact ⟨by first | rfl | (simp [*] <;> rfl), by with_reducible repeat first | exact HB.out | apply below_alloc | apply pw_below_drewN | apply below_drew1⟩
end Go.Proofs.YteccaekalcjihaaGreatDoor.PTn
namespace Go.Proofs.YteccaekalcjihaaGreatDoor.PTn
open Go.RowKit Go.Proofs.YteccaekalcjihaaGreatDoorW.PrintWords Go.Proofs.YteccaekalcjihaaGreatDoorW.PrintLast Go.Proofs.YteccaekalcjihaaGreatDoorW.PrintMore
attribute [local go_sem] max2_int min2_int max_two min_two max_three min_three max_four min_four
set_option linter.unusedVariables false
set_option linter.unusedSimpArgs false
def comment_Begins.f (a0 : ByteArray) (a1 : Int) : Option (Bool) := (sign_Begins.f a0 a1 (⟨#[60, 33]⟩ : ByteArray)).bind fun t116 => (if t116 = true then ((sign_Begins.f a0 a1 (⟨#[60, 33, 100, 111, 99, 116, 121, 112, 101]⟩ : ByteArray)).bind fun t117 => (some (!t117))) else ((sign_Begins.f a0 a1 (⟨#[60, 63]⟩ : ByteArray)).bind fun t118 => (if t118 = true then (some true) else ((sign_Begins.f a0 a1 (⟨#[60, 47]⟩ : ByteArray)).bind fun t119 => (if t119 = true then (if (wrap64 (a1 + 2)) = (a0.size : Int) then (some false) else (if 0 ≤ (wrap64 (a1 + 2)) then (if (wrap64 (a1 + 2)) < (a0.size : Int) then (if (bt a0 (wrap64 (a1 + 2))) = 62 then (some false) else ((sign_Letter.f (bt a0 (wrap64 (a1 + 2)))).bind fun t120 => (some (!t120)))) else (none)) else (none))) else (some false))))))
set_option maxHeartbeats 8000000 in
set_option maxRecDepth 100000 in
theorem comment_Begins.calls (a0 : ByteArray) (a1 : Int) (r : Bool) (w : World) (h : comment_Begins.f a0 a1 = some r) :
    Calls Tryz.prog 74 #[.string a0, .int .i64 a1] w fun e w' => e = .returned (.bool r) ∧ Below w.heap.size w w' := by
  have HB := Aside0.mk (Below.refl w.heap.size w)
  have H : ((sign_Begins.f a0 a1 (⟨#[60, 33]⟩ : ByteArray)).bind fun t116 => (if t116 = true then ((sign_Begins.f a0 a1 (⟨#[60, 33, 100, 111, 99, 116, 121, 112, 101]⟩ : ByteArray)).bind fun t117 => (some (!t117))) else ((sign_Begins.f a0 a1 (⟨#[60, 63]⟩ : ByteArray)).bind fun t118 => (if t118 = true then (some true) else ((sign_Begins.f a0 a1 (⟨#[60, 47]⟩ : ByteArray)).bind fun t119 => (if t119 = true then (if (wrap64 (a1 + 2)) = (a0.size : Int) then (some false) else (if 0 ≤ (wrap64 (a1 + 2)) then (if (wrap64 (a1 + 2)) < (a0.size : Int) then (if (bt a0 (wrap64 (a1 + 2))) = 62 then (some false) else ((sign_Letter.f (bt a0 (wrap64 (a1 + 2)))).bind fun t120 => (some (!t120)))) else (none)) else (none))) else (some false))))))) = some r := h
  clear h
  replace H := Option.bind_eq_some_iff.mp H
  obtain ⟨t116, A30, H⟩ := H
  (try dsimp only at H)
  have A3 := Aside0.mk A30
  clear A30
  by_cases c4 : t116 = true
  · subst c4
    rw [if_pos rfl] at H
    replace H := Option.bind_eq_some_iff.mp H
    obtain ⟨t117, A50, H⟩ := H
    (try dsimp only at H)
    have A5 := Aside0.mk A50
    clear A50
    obtain rfl := Option.some.inj H
    go_enter Tryz.func74, Tryz.ntmps74
    go_wp2_with (first | ((with_reducible refine gate_callee (f := 58) rfl ?_); refine goesL_ (some 9) rfl rfl Tryz.func58 (by kernel_rfl) rfl #[.string a0, .int .i64 a1, .string (⟨#[60, 33]⟩ : ByteArray)] rfl (by simp only [List.map_toArray, List.map_cons, List.map_nil] <;> rfl) ?_; (with_reducible refine (sign_Begins.calls a0 a1 (⟨#[60, 33]⟩ : ByteArray) true _ A3.out).mono ?_); rintro e w6 ⟨rfl, hb⟩; refine ⟨_, rfl, ?_⟩; have n0_ := Aside0.mk (below_step (by with_reducible repeat first | exact HB.out | apply below_alloc | apply pw_below_drewN | apply below_drew1) hb); clear HB; have HB := n0_; clear n0_; (try clear hb); (try clear hb2); (try clear hk); (try clear hi)) | ((with_reducible refine gate_callee (f := 58) rfl ?_); refine goesL_ (some 12) rfl rfl Tryz.func58 (by kernel_rfl) rfl #[.string a0, .int .i64 a1, .string (⟨#[60, 33, 100, 111, 99, 116, 121, 112, 101]⟩ : ByteArray)] rfl (by simp only [List.map_toArray, List.map_cons, List.map_nil] <;> rfl) ?_; (with_reducible refine (sign_Begins.calls a0 a1 (⟨#[60, 33, 100, 111, 99, 116, 121, 112, 101]⟩ : ByteArray) t117 _ A5.out).mono ?_); rintro e w7 ⟨rfl, hb⟩; refine ⟨_, rfl, ?_⟩; have n0_ := Aside0.mk (below_step (by with_reducible repeat first | exact HB.out | apply below_alloc | apply pw_below_drewN | apply below_drew1) hb); clear HB; have HB := n0_; clear n0_; (try clear hb); (try clear hb2); (try clear hk); (try clear hi)))
    go_ret
    exact ⟨by first | rfl | (simp [*] <;> rfl), by with_reducible repeat first | exact HB.out | apply below_alloc | apply pw_below_drewN | apply below_drew1⟩
  · replace c4 := Bool.eq_false_iff.mpr c4
    subst c4
    rw [if_neg (show ¬ (false = true) by decide)] at H
    replace H := Option.bind_eq_some_iff.mp H
    obtain ⟨t118, A80, H⟩ := H
    (try dsimp only at H)
    have A8 := Aside0.mk A80
    clear A80
    by_cases c9 : t118 = true
    · subst c9
      rw [if_pos rfl] at H
      obtain rfl := Option.some.inj H
      go_enter Tryz.func74, Tryz.ntmps74
      go_wp2_with (first | ((with_reducible refine gate_callee (f := 58) rfl ?_); refine goesL_ (some 9) rfl rfl Tryz.func58 (by kernel_rfl) rfl #[.string a0, .int .i64 a1, .string (⟨#[60, 33]⟩ : ByteArray)] rfl (by simp only [List.map_toArray, List.map_cons, List.map_nil] <;> rfl) ?_; (with_reducible refine (sign_Begins.calls a0 a1 (⟨#[60, 33]⟩ : ByteArray) false _ A3.out).mono ?_); rintro e w10 ⟨rfl, hb⟩; refine ⟨_, rfl, ?_⟩; have n0_ := Aside0.mk (below_step (by with_reducible repeat first | exact HB.out | apply below_alloc | apply pw_below_drewN | apply below_drew1) hb); clear HB; have HB := n0_; clear n0_; (try clear hb); (try clear hb2); (try clear hk); (try clear hi)) | ((with_reducible refine gate_callee (f := 58) rfl ?_); refine goesL_ (some 17) rfl rfl Tryz.func58 (by kernel_rfl) rfl #[.string a0, .int .i64 a1, .string (⟨#[60, 63]⟩ : ByteArray)] rfl (by simp only [List.map_toArray, List.map_cons, List.map_nil] <;> rfl) ?_; (with_reducible refine (sign_Begins.calls a0 a1 (⟨#[60, 63]⟩ : ByteArray) true _ A8.out).mono ?_); rintro e w11 ⟨rfl, hb⟩; refine ⟨_, rfl, ?_⟩; have n0_ := Aside0.mk (below_step (by with_reducible repeat first | exact HB.out | apply below_alloc | apply pw_below_drewN | apply below_drew1) hb); clear HB; have HB := n0_; clear n0_; (try clear hb); (try clear hb2); (try clear hk); (try clear hi)))
      go_ret
      exact ⟨by first | rfl | (simp [*] <;> rfl), by with_reducible repeat first | exact HB.out | apply below_alloc | apply pw_below_drewN | apply below_drew1⟩
    · replace c9 := Bool.eq_false_iff.mpr c9
      subst c9
      rw [if_neg (show ¬ (false = true) by decide)] at H
      replace H := Option.bind_eq_some_iff.mp H
      obtain ⟨t119, A120, H⟩ := H
      (try dsimp only at H)
      have A12 := Aside0.mk A120
      clear A120
      by_cases c13 : t119 = true
      · subst c13
        rw [if_pos rfl] at H
        by_cases c14 : (wrap64 (a1 + 2)) = (a0.size : Int)
        · rw [if_pos c14] at H
          have c14b0 : ((wrap64 (a1 + 2)) == (a0.size : Int)) = true := beq_iff_eq.mpr c14
          have c14b1 : ((wrap64 (a1 + 2)) != (a0.size : Int)) = false := bne_eq_false_iff_eq.mpr c14
          clear c14
          obtain rfl := Option.some.inj H
          go_enter Tryz.func74, Tryz.ntmps74
          go_wp2_with (first | ((with_reducible refine gate_callee (f := 58) rfl ?_); refine goesL_ (some 9) rfl rfl Tryz.func58 (by kernel_rfl) rfl #[.string a0, .int .i64 a1, .string (⟨#[60, 33]⟩ : ByteArray)] rfl (by simp only [List.map_toArray, List.map_cons, List.map_nil] <;> rfl) ?_; (with_reducible refine (sign_Begins.calls a0 a1 (⟨#[60, 33]⟩ : ByteArray) false _ A3.out).mono ?_); rintro e w15 ⟨rfl, hb⟩; refine ⟨_, rfl, ?_⟩; have n0_ := Aside0.mk (below_step (by with_reducible repeat first | exact HB.out | apply below_alloc | apply pw_below_drewN | apply below_drew1) hb); clear HB; have HB := n0_; clear n0_; (try clear hb); (try clear hb2); (try clear hk); (try clear hi)) | ((with_reducible refine gate_callee (f := 58) rfl ?_); refine goesL_ (some 17) rfl rfl Tryz.func58 (by kernel_rfl) rfl #[.string a0, .int .i64 a1, .string (⟨#[60, 63]⟩ : ByteArray)] rfl (by simp only [List.map_toArray, List.map_cons, List.map_nil] <;> rfl) ?_; (with_reducible refine (sign_Begins.calls a0 a1 (⟨#[60, 63]⟩ : ByteArray) false _ A8.out).mono ?_); rintro e w16 ⟨rfl, hb⟩; refine ⟨_, rfl, ?_⟩; have n0_ := Aside0.mk (below_step (by with_reducible repeat first | exact HB.out | apply below_alloc | apply pw_below_drewN | apply below_drew1) hb); clear HB; have HB := n0_; clear n0_; (try clear hb); (try clear hb2); (try clear hk); (try clear hi)) | ((with_reducible refine gate_callee (f := 58) rfl ?_); refine goesL_ (some 21) rfl rfl Tryz.func58 (by kernel_rfl) rfl #[.string a0, .int .i64 a1, .string (⟨#[60, 47]⟩ : ByteArray)] rfl (by simp only [List.map_toArray, List.map_cons, List.map_nil] <;> rfl) ?_; (with_reducible refine (sign_Begins.calls a0 a1 (⟨#[60, 47]⟩ : ByteArray) true _ A12.out).mono ?_); rintro e w17 ⟨rfl, hb⟩; refine ⟨_, rfl, ?_⟩; have n0_ := Aside0.mk (below_step (by with_reducible repeat first | exact HB.out | apply below_alloc | apply pw_below_drewN | apply below_drew1) hb); clear HB; have HB := n0_; clear n0_; (try clear hb); (try clear hb2); (try clear hk); (try clear hi)))
          go_ret
          exact ⟨by first | rfl | (simp [*] <;> rfl), by with_reducible repeat first | exact HB.out | apply below_alloc | apply pw_below_drewN | apply below_drew1⟩
        · rw [if_neg c14] at H
          have c14b0 : ((wrap64 (a1 + 2)) == (a0.size : Int)) = false := beq_eq_false_iff_ne.mpr c14
          have c14b1 : ((wrap64 (a1 + 2)) != (a0.size : Int)) = true := bne_iff_ne.mpr c14
          obtain ⟨ji18, hji18⟩ : ∃ j_ : Int, (wrap64 (a1 + 2)) = j_ := ⟨_, rfl⟩
          replace H : (if 0 ≤ (ji18) then (if (ji18) < (a0.size : Int) then (if (bt a0 (ji18)) = 62 then (some false) else ((sign_Letter.f (bt a0 (ji18))).bind fun t120 => (some (!t120)))) else (none)) else (none)) = some r := by first | (rw [hji18] at H; exact H) | (simp only [hji18] at H ⊢; exact H)
          (try rw [hji18] at c14b0)
          (try rw [hji18] at c14b1)
          (try rw [hji18] at A3)
          (try rw [hji18] at A8)
          (try rw [hji18] at A12)
          have hji18w : (IntKind.i64.wrap (a1 + 2)) = ji18 := (i64_w _).trans hji18
          by_cases c19 : 0 ≤ (ji18)
          · rw [if_pos c19] at H
            have c19b0 : decide (0 ≤ (ji18)) = true := decide_eq_true c19
            clear c19
            by_cases c20 : (ji18) < (a0.size : Int)
            · rw [if_pos c20] at H
              have c20b0 : decide ((ji18) < (a0.size : Int)) = true := decide_eq_true c20
              clear c20
              by_cases c22 : (bt a0 (ji18)) = 62
              · rw [if_pos c22] at H
                have c22b0 : ((bt a0 (ji18)) == 62) = true := beq_iff_eq.mpr c22
                have c22b1 : ((bt a0 (ji18)) != 62) = false := bne_eq_false_iff_eq.mpr c22
                clear c22
                obtain rfl := Option.some.inj H
                go_enter Tryz.func74, Tryz.ntmps74
                go_wp2_with (first | ((with_reducible refine gate_callee (f := 58) rfl ?_); refine goesL_ (some 9) rfl rfl Tryz.func58 (by kernel_rfl) rfl #[.string a0, .int .i64 a1, .string (⟨#[60, 33]⟩ : ByteArray)] rfl (by simp only [List.map_toArray, List.map_cons, List.map_nil] <;> rfl) ?_; (with_reducible refine (sign_Begins.calls a0 a1 (⟨#[60, 33]⟩ : ByteArray) false _ A3.out).mono ?_); rintro e w23 ⟨rfl, hb⟩; refine ⟨_, rfl, ?_⟩; have n0_ := Aside0.mk (below_step (by with_reducible repeat first | exact HB.out | apply below_alloc | apply pw_below_drewN | apply below_drew1) hb); clear HB; have HB := n0_; clear n0_; (try clear hb); (try clear hb2); (try clear hk); (try clear hi)) | ((with_reducible refine gate_callee (f := 58) rfl ?_); refine goesL_ (some 17) rfl rfl Tryz.func58 (by kernel_rfl) rfl #[.string a0, .int .i64 a1, .string (⟨#[60, 63]⟩ : ByteArray)] rfl (by simp only [List.map_toArray, List.map_cons, List.map_nil] <;> rfl) ?_; (with_reducible refine (sign_Begins.calls a0 a1 (⟨#[60, 63]⟩ : ByteArray) false _ A8.out).mono ?_); rintro e w24 ⟨rfl, hb⟩; refine ⟨_, rfl, ?_⟩; have n0_ := Aside0.mk (below_step (by with_reducible repeat first | exact HB.out | apply below_alloc | apply pw_below_drewN | apply below_drew1) hb); clear HB; have HB := n0_; clear n0_; (try clear hb); (try clear hb2); (try clear hk); (try clear hi)) | ((with_reducible refine gate_callee (f := 58) rfl ?_); refine goesL_ (some 21) rfl rfl Tryz.func58 (by kernel_rfl) rfl #[.string a0, .int .i64 a1, .string (⟨#[60, 47]⟩ : ByteArray)] rfl (by simp only [List.map_toArray, List.map_cons, List.map_nil] <;> rfl) ?_; (with_reducible refine (sign_Begins.calls a0 a1 (⟨#[60, 47]⟩ : ByteArray) true _ A12.out).mono ?_); rintro e w25 ⟨rfl, hb⟩; refine ⟨_, rfl, ?_⟩; have n0_ := Aside0.mk (below_step (by with_reducible repeat first | exact HB.out | apply below_alloc | apply pw_below_drewN | apply below_drew1) hb); clear HB; have HB := n0_; clear n0_; (try clear hb); (try clear hb2); (try clear hk); (try clear hi); have p21 : 0 ≤ ((ji18) : Int) := of_decide_eq_true (by first | (with_reducible assumption) | assumption); have q21 : (ji18) < (a0.size : Int) := of_decide_eq_true (by first | (with_reducible assumption) | assumption); have hx21 := bt_at a0 (ji18); replace p21 := eq_true p21; replace q21 := eq_true q21))
                go_ret
                exact ⟨by first | rfl | (simp [errW_none, errW_some] <;> rfl) | (simp only [← hji18]; first | rfl | (simp [errW_none, errW_some] <;> rfl)) | (simp [*, errW_none, errW_some] <;> rfl), by with_reducible repeat first | exact HB.out | apply below_alloc | apply pw_below_drewN | apply below_drew1⟩
              · rw [if_neg c22] at H
                have c22b0 : ((bt a0 (ji18)) == 62) = false := beq_eq_false_iff_ne.mpr c22
                have c22b1 : ((bt a0 (ji18)) != 62) = true := bne_iff_ne.mpr c22
                replace H := Option.bind_eq_some_iff.mp H
                obtain ⟨t120, A260, H⟩ := H
                (try dsimp only at H)
                have A26 := Aside0.mk A260
                clear A260
                obtain rfl := Option.some.inj H
                go_enter Tryz.func74, Tryz.ntmps74
                go_wp2_with (first | ((with_reducible refine gate_callee (f := 58) rfl ?_); refine goesL_ (some 9) rfl rfl Tryz.func58 (by kernel_rfl) rfl #[.string a0, .int .i64 a1, .string (⟨#[60, 33]⟩ : ByteArray)] rfl (by simp only [List.map_toArray, List.map_cons, List.map_nil] <;> rfl) ?_; (with_reducible refine (sign_Begins.calls a0 a1 (⟨#[60, 33]⟩ : ByteArray) false _ A3.out).mono ?_); rintro e w27 ⟨rfl, hb⟩; refine ⟨_, rfl, ?_⟩; have n0_ := Aside0.mk (below_step (by with_reducible repeat first | exact HB.out | apply below_alloc | apply pw_below_drewN | apply below_drew1) hb); clear HB; have HB := n0_; clear n0_; (try clear hb); (try clear hb2); (try clear hk); (try clear hi)) | ((with_reducible refine gate_callee (f := 58) rfl ?_); refine goesL_ (some 17) rfl rfl Tryz.func58 (by kernel_rfl) rfl #[.string a0, .int .i64 a1, .string (⟨#[60, 63]⟩ : ByteArray)] rfl (by simp only [List.map_toArray, List.map_cons, List.map_nil] <;> rfl) ?_; (with_reducible refine (sign_Begins.calls a0 a1 (⟨#[60, 63]⟩ : ByteArray) false _ A8.out).mono ?_); rintro e w28 ⟨rfl, hb⟩; refine ⟨_, rfl, ?_⟩; have n0_ := Aside0.mk (below_step (by with_reducible repeat first | exact HB.out | apply below_alloc | apply pw_below_drewN | apply below_drew1) hb); clear HB; have HB := n0_; clear n0_; (try clear hb); (try clear hb2); (try clear hk); (try clear hi)) | ((with_reducible refine gate_callee (f := 58) rfl ?_); refine goesL_ (some 21) rfl rfl Tryz.func58 (by kernel_rfl) rfl #[.string a0, .int .i64 a1, .string (⟨#[60, 47]⟩ : ByteArray)] rfl (by simp only [List.map_toArray, List.map_cons, List.map_nil] <;> rfl) ?_; (with_reducible refine (sign_Begins.calls a0 a1 (⟨#[60, 47]⟩ : ByteArray) true _ A12.out).mono ?_); rintro e w29 ⟨rfl, hb⟩; refine ⟨_, rfl, ?_⟩; have n0_ := Aside0.mk (below_step (by with_reducible repeat first | exact HB.out | apply below_alloc | apply pw_below_drewN | apply below_drew1) hb); clear HB; have HB := n0_; clear n0_; (try clear hb); (try clear hb2); (try clear hk); (try clear hi); have p21 : 0 ≤ ((ji18) : Int) := of_decide_eq_true (by first | (with_reducible assumption) | assumption); have q21 : (ji18) < (a0.size : Int) := of_decide_eq_true (by first | (with_reducible assumption) | assumption); have hx21 := bt_at a0 (ji18); replace p21 := eq_true p21; replace q21 := eq_true q21) | (go_at_call 127; (with_reducible refine (sign_Letter.calls (bt a0 (ji18)) t120 _ A26.out).mono ?_); rintro e w' ⟨rfl, ⟨nd, rfl⟩⟩))
                go_ret
                exact ⟨by first | rfl | (simp [errW_none, errW_some] <;> rfl) | (simp only [← hji18]; first | rfl | (simp [errW_none, errW_some] <;> rfl)) | (simp [*, errW_none, errW_some] <;> rfl), by with_reducible repeat first | exact HB.out | apply below_alloc | apply pw_below_drewN | apply below_drew1⟩
            · rw [if_neg c20] at H
              exact absurd H (by simp)
          · rw [if_neg c19] at H
            exact absurd H (by simp)
      · replace c13 := Bool.eq_false_iff.mpr c13
        subst c13
        rw [if_neg (show ¬ (false = true) by decide)] at H
        obtain rfl := Option.some.inj H
        go_enter Tryz.func74, Tryz.ntmps74
        go_wp2_with (first | ((with_reducible refine gate_callee (f := 58) rfl ?_); refine goesL_ (some 9) rfl rfl Tryz.func58 (by kernel_rfl) rfl #[.string a0, .int .i64 a1, .string (⟨#[60, 33]⟩ : ByteArray)] rfl (by simp only [List.map_toArray, List.map_cons, List.map_nil] <;> rfl) ?_; (with_reducible refine (sign_Begins.calls a0 a1 (⟨#[60, 33]⟩ : ByteArray) false _ A3.out).mono ?_); rintro e w30 ⟨rfl, hb⟩; refine ⟨_, rfl, ?_⟩; have n0_ := Aside0.mk (below_step (by with_reducible repeat first | exact HB.out | apply below_alloc | apply pw_below_drewN | apply below_drew1) hb); clear HB; have HB := n0_; clear n0_; (try clear hb); (try clear hb2); (try clear hk); (try clear hi)) | ((with_reducible refine gate_callee (f := 58) rfl ?_); refine goesL_ (some 17) rfl rfl Tryz.func58 (by kernel_rfl) rfl #[.string a0, .int .i64 a1, .string (⟨#[60, 63]⟩ : ByteArray)] rfl (by simp only [List.map_toArray, List.map_cons, List.map_nil] <;> rfl) ?_; (with_reducible refine (sign_Begins.calls a0 a1 (⟨#[60, 63]⟩ : ByteArray) false _ A8.out).mono ?_); rintro e w31 ⟨rfl, hb⟩; refine ⟨_, rfl, ?_⟩; have n0_ := Aside0.mk (below_step (by with_reducible repeat first | exact HB.out | apply below_alloc | apply pw_below_drewN | apply below_drew1) hb); clear HB; have HB := n0_; clear n0_; (try clear hb); (try clear hb2); (try clear hk); (try clear hi)) | ((with_reducible refine gate_callee (f := 58) rfl ?_); refine goesL_ (some 21) rfl rfl Tryz.func58 (by kernel_rfl) rfl #[.string a0, .int .i64 a1, .string (⟨#[60, 47]⟩ : ByteArray)] rfl (by simp only [List.map_toArray, List.map_cons, List.map_nil] <;> rfl) ?_; (with_reducible refine (sign_Begins.calls a0 a1 (⟨#[60, 47]⟩ : ByteArray) false _ A12.out).mono ?_); rintro e w32 ⟨rfl, hb⟩; refine ⟨_, rfl, ?_⟩; have n0_ := Aside0.mk (below_step (by with_reducible repeat first | exact HB.out | apply below_alloc | apply pw_below_drewN | apply below_drew1) hb); clear HB; have HB := n0_; clear n0_; (try clear hb); (try clear hb2); (try clear hk); (try clear hi)))
        go_ret
        exact ⟨by first | rfl | (simp [*] <;> rfl), by with_reducible repeat first | exact HB.out | apply below_alloc | apply pw_below_drewN | apply below_drew1⟩
end Go.Proofs.YteccaekalcjihaaGreatDoor.PTn
namespace Go.Proofs.YteccaekalcjihaaGreatDoor.PTn
open Go.RowKit Go.Proofs.YteccaekalcjihaaGreatDoorW.PrintWords Go.Proofs.YteccaekalcjihaaGreatDoorW.PrintLast Go.Proofs.YteccaekalcjihaaGreatDoorW.PrintMore
attribute [local go_sem] max2_int min2_int max_two min_two max_three min_three max_four min_four
set_option linter.unusedVariables false
set_option linter.unusedSimpArgs false
def doctype_Begins.f (a0 : ByteArray) (a1 : Int) : Option (Bool) := (sign_Begins.f a0 a1 (⟨#[60, 33, 100, 111, 99, 116, 121, 112, 101]⟩ : ByteArray)).bind fun t121 => (some t121)
set_option maxHeartbeats 8000000 in
set_option maxRecDepth 100000 in
theorem doctype_Begins.calls (a0 : ByteArray) (a1 : Int) (r : Bool) (w : World) (h : doctype_Begins.f a0 a1 = some r) :
    Calls Tryz.prog 76 #[.string a0, .int .i64 a1] w fun e w' => e = .returned (.bool r) ∧ Below w.heap.size w w' := by
  have HB := Aside0.mk (Below.refl w.heap.size w)
  have H : ((sign_Begins.f a0 a1 (⟨#[60, 33, 100, 111, 99, 116, 121, 112, 101]⟩ : ByteArray)).bind fun t121 => (some t121)) = some r := h
  clear h
  replace H := Option.bind_eq_some_iff.mp H
  obtain ⟨t121, A30, H⟩ := H
  (try dsimp only at H)
  have A3 := Aside0.mk A30
  clear A30
  obtain rfl := Option.some.inj H
  go_enter Tryz.func76, Tryz.ntmps76
  go_wp2_with (first | ((with_reducible refine gate_callee (f := 58) rfl ?_); refine goesL_ (some 7) rfl rfl Tryz.func58 (by kernel_rfl) rfl #[.string a0, .int .i64 a1, .string (⟨#[60, 33, 100, 111, 99, 116, 121, 112, 101]⟩ : ByteArray)] rfl (by simp only [List.map_toArray, List.map_cons, List.map_nil] <;> rfl) ?_; (with_reducible refine (sign_Begins.calls a0 a1 (⟨#[60, 33, 100, 111, 99, 116, 121, 112, 101]⟩ : ByteArray) t121 _ A3.out).mono ?_); rintro e w4 ⟨rfl, hb⟩; refine ⟨_, rfl, ?_⟩; have n0_ := Aside0.mk (below_step (by with_reducible repeat first | exact HB.out | apply below_alloc | apply pw_below_drewN | apply below_drew1) hb); clear HB; have HB := n0_; clear n0_; (try clear hb); (try clear hb2); (try clear hk); (try clear hi)))
  go_ret
  exact ⟨by first | rfl | (simp [*] <;> rfl), by with_reducible repeat first | exact HB.out | apply below_alloc | apply pw_below_drewN | apply below_drew1⟩
end Go.Proofs.YteccaekalcjihaaGreatDoor.PTn
namespace Go.Proofs.YteccaekalcjihaaGreatDoor.PTn
open Go.RowKit Go.Proofs.YteccaekalcjihaaGreatDoorW.PrintWords Go.Proofs.YteccaekalcjihaaGreatDoorW.PrintLast Go.Proofs.YteccaekalcjihaaGreatDoorW.PrintMore
attribute [local go_sem] max2_int min2_int max_two min_two max_three min_three max_four min_four
set_option linter.unusedVariables false
set_option linter.unusedSimpArgs false
def text_inside.f (a0 : ByteArray) (a1 : Int) : Option (Int) := some (mn (mx a1 0) (a0.size : Int))
set_option maxHeartbeats 8000000 in
set_option maxRecDepth 100000 in
theorem text_inside.calls (a0 : ByteArray) (a1 : Int) (r : Int) (w : World) (h : text_inside.f a0 a1 = some r) :
    Calls Tryz.prog 132 #[.string a0, .int .i64 a1] w fun e w' => e = .returned (.int .i64 r) ∧ Below w.heap.size w w' := by
  have HB := Aside0.mk (Below.refl w.heap.size w)
  have H : (some (mn (mx a1 0) (a0.size : Int))) = some r := h
  clear h
  obtain ⟨ji3, hji3⟩ : ∃ j_ : Int, (mx a1 0) = j_ := ⟨_, rfl⟩
  replace H : (some (mn (ji3) (a0.size : Int))) = some r := by first | (rw [hji3] at H; exact H) | (simp only [hji3] at H ⊢; exact H)
  (try (have hji3l : 0 ≤ ji3 := by (rw [← hji3]; unfold mx; (repeat' split) <;> omega)))
  (try (have hji3m : 0 ≤ ji3 := by omega))
  have hji3_ : (if a1 < 0 then 0 else a1) = ji3 := hji3
  obtain ⟨ji4, hji4⟩ : ∃ j_ : Int, (mn (ji3) (a0.size : Int)) = j_ := ⟨_, rfl⟩
  replace H : (some ji4) = some r := by first | (rw [hji4] at H; exact H) | (simp only [hji4] at H ⊢; exact H)
  have hji4_ : (if (a0.size : Int) < (ji3) then (a0.size : Int) else (ji3)) = ji4 := hji4
  obtain rfl := Option.some.inj H
  go_enter Tryz.func132, Tryz.ntmps132
  go_wp2
  go_ret
  exact ⟨by first | rfl | (simp [errW_none, errW_some] <;> rfl) | (simp only [← hji3, ← hji4]; first | rfl | (simp [errW_none, errW_some] <;> rfl)) | (simp [*, errW_none, errW_some] <;> rfl), by with_reducible repeat first | exact HB.out | apply below_alloc | apply pw_below_drewN | apply below_drew1⟩
end Go.Proofs.YteccaekalcjihaaGreatDoor.PTn
namespace Go.Proofs
open Go.Shelf
def Tryz.lays137_ren : Go.Shelf.Ren := ⟨fun | 137 => 65 | 217 => 117 | 266 => 158 | n => n, fun | 9 => 9 | 5 => 5 | 3 => 3 | n => n, fun | n => n⟩
theorem Tryz.lays137 : Go.Proofs.Lays.n137 Tryz.prog Tryz.lays137_ren := {
  mixed := by kernel_rfl
  f137 := Tryz.func65.trans (congrArg some (by kernel_rfl))
  f217 := Tryz.func117.trans (congrArg some (by kernel_rfl))
  f266 := Tryz.func158.trans (congrArg some (by kernel_rfl))
  t3 := Tryz.underlying3
  a3 := Tryz.isAgg3
  z3 := Tryz.sizeOf3
  v3 := Tryz.zeroValue3
  t5 := Tryz.underlying5
  a5 := Tryz.isAgg5
  z5 := Tryz.sizeOf5
  v5 := Tryz.zeroValue5
  t9 := Tryz.underlying9
  a9 := Tryz.isAgg9
  z9 := Tryz.sizeOf9
  v9 := Tryz.zeroValue9 }
open Go.RowKit in
theorem Tryz.strings_IndexByte (s : ByteArray) (c : Int) (w : World) :
    Calls Tryz.prog 65 #[.string s, .int .u8 c] w fun e w' => e = .returned (.int .i64 (Lib.indexByte s.data.toList c.toNat.toUInt8)) ∧ w' = w := Any.strings_IndexByte Tryz.lays137 s c w
def Tryz.lays219_ren : Go.Shelf.Ren := ⟨fun | 219 => 193 | 217 => 117 | 225 => 212 | 224 => 213 | 267 => 214 | 266 => 158 | 314 => 228 | n => n, fun | 9 => 9 | 3 => 3 | 4 => 4 | 5 => 5 | 46 => 168 | 146 => 184 | 51 => 183 | n => n, fun | 1 => 0 | n => n⟩
theorem Tryz.lays219 : Go.Proofs.Lays.n219 Tryz.prog Tryz.lays219_ren := {
  mixed := by kernel_rfl
  f217 := Tryz.func117.trans (congrArg some (by kernel_rfl))
  f219 := Tryz.func193.trans (congrArg some (by kernel_rfl))
  f224 := Tryz.func213.trans (congrArg some (by kernel_rfl))
  f225 := Tryz.func212.trans (congrArg some (by kernel_rfl))
  f266 := Tryz.func158.trans (congrArg some (by kernel_rfl))
  f267 := Tryz.func214.trans (congrArg some (by kernel_rfl))
  f314 := Tryz.func228.trans (congrArg some (by kernel_rfl))
  t3 := Tryz.underlying3
  a3 := Tryz.isAgg3
  z3 := Tryz.sizeOf3
  v3 := Tryz.zeroValue3
  t4 := Tryz.underlying4
  a4 := Tryz.isAgg4
  z4 := Tryz.sizeOf4
  v4 := Tryz.zeroValue4
  t5 := Tryz.underlying5
  a5 := Tryz.isAgg5
  z5 := Tryz.sizeOf5
  v5 := Tryz.zeroValue5
  t9 := Tryz.underlying9
  a9 := Tryz.isAgg9
  z9 := Tryz.sizeOf9
  v9 := Tryz.zeroValue9
  t46 := Tryz.underlying168
  a46 := Tryz.isAgg168
  z46 := Tryz.sizeOf168
  v46 := Tryz.zeroValue168
  t51 := Tryz.underlying183
  a51 := Tryz.isAgg183
  z51 := Tryz.sizeOf183
  v51 := Tryz.zeroValue183
  t146 := Tryz.underlying184
  a146 := Tryz.isAgg184
  z146 := Tryz.sizeOf184
  v146 := Tryz.zeroValue184
  g1 := by kernel_rfl }
open Go.RowKit Go.Lib in
theorem Tryz.stringslite_Index_one (s : ByteArray) (c : UInt8) (w : World) :
    Calls Tryz.prog 193 #[.string s, .string ⟨#[c]⟩] w fun e w' => e = .returned (.int .i64 (Lib.indexByte s.data.toList c)) ∧ w' = w := Any.stringslite_Index_one Tryz.lays219 s c w
def Tryz.lays143_ren : Go.Shelf.Ren := ⟨fun | 143 => 186 | 219 => 193 | 217 => 117 | 225 => 212 | 224 => 213 | 267 => 214 | 266 => 158 | 314 => 228 | n => n, fun | 9 => 9 | 3 => 3 | 4 => 4 | 5 => 5 | 46 => 168 | 146 => 184 | 51 => 183 | n => n, fun | 1 => 0 | n => n⟩
theorem Tryz.lays143 : Go.Proofs.Lays.n143 Tryz.prog Tryz.lays143_ren := {
  mixed := by kernel_rfl
  f143 := Tryz.func186.trans (congrArg some (by kernel_rfl))
  f217 := Tryz.func117.trans (congrArg some (by kernel_rfl))
  f219 := Tryz.func193.trans (congrArg some (by kernel_rfl))
  f224 := Tryz.func213.trans (congrArg some (by kernel_rfl))
  f225 := Tryz.func212.trans (congrArg some (by kernel_rfl))
  f266 := Tryz.func158.trans (congrArg some (by kernel_rfl))
  f267 := Tryz.func214.trans (congrArg some (by kernel_rfl))
  f314 := Tryz.func228.trans (congrArg some (by kernel_rfl))
  t3 := Tryz.underlying3
  a3 := Tryz.isAgg3
  z3 := Tryz.sizeOf3
  v3 := Tryz.zeroValue3
  t4 := Tryz.underlying4
  a4 := Tryz.isAgg4
  z4 := Tryz.sizeOf4
  v4 := Tryz.zeroValue4
  t5 := Tryz.underlying5
  a5 := Tryz.isAgg5
  z5 := Tryz.sizeOf5
  v5 := Tryz.zeroValue5
  t9 := Tryz.underlying9
  a9 := Tryz.isAgg9
  z9 := Tryz.sizeOf9
  v9 := Tryz.zeroValue9
  t46 := Tryz.underlying168
  a46 := Tryz.isAgg168
  z46 := Tryz.sizeOf168
  v46 := Tryz.zeroValue168
  t51 := Tryz.underlying183
  a51 := Tryz.isAgg183
  z51 := Tryz.sizeOf183
  v51 := Tryz.zeroValue183
  t146 := Tryz.underlying184
  a146 := Tryz.isAgg184
  z146 := Tryz.sizeOf184
  v146 := Tryz.zeroValue184
  g1 := by kernel_rfl }
open Go.RowKit Go.Lib in
theorem Tryz.strings_Index (s sub : ByteArray) (m : Int) (w : World) (hs : s.size < 4294967281) (hm : w.cell? ⟨0, 0, none⟩ = some (.int .i64 m)) :
    Calls Tryz.prog 186 #[.string s, .string sub] w fun e w' => e = .returned (.int .i64 (Lib.index s.data.toList sub.data.toList)) ∧ w' = w := Any.strings_Index Tryz.lays143 s sub m w hs hm
def Tryz.lays138_ren : Go.Shelf.Ren := ⟨fun | 138 => 185 | 195 => 206 | 218 => 207 | 143 => 186 | 219 => 193 | 217 => 117 | 225 => 212 | 224 => 213 | 267 => 214 | 266 => 158 | 314 => 228 | n => n, fun | 9 => 9 | 3 => 3 | 4 => 4 | 5 => 5 | 0 => 0 | 46 => 168 | 146 => 184 | 51 => 183 | n => n, fun | 1 => 0 | n => n⟩
theorem Tryz.lays138 : Go.Proofs.Lays.n138 Tryz.prog Tryz.lays138_ren := {
  mixed := by kernel_rfl
  f138 := Tryz.func185.trans (congrArg some (by kernel_rfl))
  f143 := Tryz.func186.trans (congrArg some (by kernel_rfl))
  f195 := Tryz.func206.trans (congrArg some (by kernel_rfl))
  f217 := Tryz.func117.trans (congrArg some (by kernel_rfl))
  f218 := Tryz.func207.trans (congrArg some (by kernel_rfl))
  f219 := Tryz.func193.trans (congrArg some (by kernel_rfl))
  f224 := Tryz.func213.trans (congrArg some (by kernel_rfl))
  f225 := Tryz.func212.trans (congrArg some (by kernel_rfl))
  f266 := Tryz.func158.trans (congrArg some (by kernel_rfl))
  f267 := Tryz.func214.trans (congrArg some (by kernel_rfl))
  f314 := Tryz.func228.trans (congrArg some (by kernel_rfl))
  t0 := Tryz.underlying0
  a0 := Tryz.isAgg0
  z0 := Tryz.sizeOf0
  v0 := Tryz.zeroValue0
  t3 := Tryz.underlying3
  a3 := Tryz.isAgg3
  z3 := Tryz.sizeOf3
  v3 := Tryz.zeroValue3
  t4 := Tryz.underlying4
  a4 := Tryz.isAgg4
  z4 := Tryz.sizeOf4
  v4 := Tryz.zeroValue4
  t5 := Tryz.underlying5
  a5 := Tryz.isAgg5
  z5 := Tryz.sizeOf5
  v5 := Tryz.zeroValue5
  t9 := Tryz.underlying9
  a9 := Tryz.isAgg9
  z9 := Tryz.sizeOf9
  v9 := Tryz.zeroValue9
  t46 := Tryz.underlying168
  a46 := Tryz.isAgg168
  z46 := Tryz.sizeOf168
  v46 := Tryz.zeroValue168
  t51 := Tryz.underlying183
  a51 := Tryz.isAgg183
  z51 := Tryz.sizeOf183
  v51 := Tryz.zeroValue183
  t146 := Tryz.underlying184
  a146 := Tryz.isAgg184
  z146 := Tryz.sizeOf184
  v146 := Tryz.zeroValue184
  g1 := by kernel_rfl }
open Go.RowKit Go.Lib in
theorem Tryz.strings_Count_one (s : ByteArray) (c : UInt8) (w : World) :
    Calls Tryz.prog 185 #[.string s, .string ⟨#[c]⟩] w fun e w' => e = .returned (.int .i64 (Lib.countByte s.data.toList c)) ∧ w' = w := Any.strings_Count_one Tryz.lays138 s c w
def Tryz.lays149_ren : Go.Shelf.Ren := ⟨fun | 149 => 209 | 222 => 221 | n => n, fun | 9 => 9 | 5 => 5 | 3 => 3 | 4 => 4 | n => n, fun | n => n⟩
theorem Tryz.lays149 : Go.Proofs.Lays.n149 Tryz.prog Tryz.lays149_ren := {
  mixed := by kernel_rfl
  f149 := Tryz.func209.trans (congrArg some (by kernel_rfl))
  f222 := Tryz.func221.trans (congrArg some (by kernel_rfl))
  t3 := Tryz.underlying3
  a3 := Tryz.isAgg3
  z3 := Tryz.sizeOf3
  v3 := Tryz.zeroValue3
  t4 := Tryz.underlying4
  a4 := Tryz.isAgg4
  z4 := Tryz.sizeOf4
  v4 := Tryz.zeroValue4
  t5 := Tryz.underlying5
  a5 := Tryz.isAgg5
  z5 := Tryz.sizeOf5
  v5 := Tryz.zeroValue5
  t9 := Tryz.underlying9
  a9 := Tryz.isAgg9
  z9 := Tryz.sizeOf9
  v9 := Tryz.zeroValue9 }
open Go.RowKit Go.Lib in
theorem Tryz.strings_LastIndexByte (s : ByteArray) (c : Int) (hs : s.size < 4611686018427387904) (w : World) :
    Calls Tryz.prog 209 #[.string s, .int .u8 c] w fun e w' => e = .returned (.int .i64 (Lib.lastIndexByte s c)) ∧ w' = w := Any.strings_LastIndexByte Tryz.lays149 s c hs w
end Go.Proofs
set_option linter.unusedVariables false
namespace Go.Proofs.YteccaekalcjihaaGreatDoor.PTn
open Go.RowKit Go.Lib Go.Proofs.YteccaekalcjihaaGreatDoorW.PrintWords
def idxGo (c : UInt8) : List UInt8 → Nat → Int
  | [], _ => -1
  | b :: l, n => if b == c then (n : Int) else idxGo c l (n + 1)
theorem idxGo_eq (c : UInt8) : ∀ (l : List UInt8) (n : Nat), idxGo c l n = if Lib.indexByte l c = -1 then -1 else Lib.indexByte l c + n
  | [], n => by simp [idxGo, Lib.indexByte]
  | b :: l, n => by
    have ih := idxGo_eq c l (n + 1)
    have hge := Lib.indexByte_ge l c
    obtain ⟨x, hx⟩ : ∃ x, Lib.indexByte (b :: l) c = x := ⟨_, rfl⟩
    have e1 : Lib.indexByte (b :: l) c = (if (b == c) = true then 0 else if (Lib.indexByte l c == -1) = true then -1 else Lib.indexByte l c + 1) := rfl
    rw [hx]
    rw [e1] at hx
    simp only [idxGo]
    by_cases h : (b == c) = true
    · rw [if_pos h] at hx ⊢
      subst hx
      simp
    · rw [if_neg h] at hx ⊢
      rw [ih]
      by_cases h1 : Lib.indexByte l c = -1
      · rw [if_pos (by simpa using h1)] at hx
        subst hx
        simp [h1]
      · rw [if_neg (by simpa using h1)] at hx
        subst hx
        rw [if_neg h1, if_neg (by omega)]
        omega
theorem idxGo_0 (c : UInt8) (l : List UInt8) : idxGo c l 0 = Lib.indexByte l c := by
  rw [idxGo_eq]
  split <;> simp_all
def strings_IndexByte.f (s : ByteArray) (c : Int) : Option Int := some (idxGo c.toNat.toUInt8 s.data.toList 0)
theorem strings_IndexByte.calls (a0 : ByteArray) (a1 : Int) (r : Int) (w : World) (h : strings_IndexByte.f a0 a1 = some r) :
    Calls Tryz.prog 65 #[.string a0, .int .u8 a1] w fun e w' => e = .returned (.int .i64 r) ∧ Drawn0 w w' := by
  obtain rfl := Option.some.inj h
  refine (Tryz.strings_IndexByte a0 a1 w).mono ?_
  rintro e w' ⟨rfl, rfl⟩
  exact ⟨by rw [idxGo_0], Drawn0.refl _⟩
def strings_LastIndexByte.f (s : ByteArray) (c : Int) : Option Int := if s.size < 1000000000 then some (Lib.lastIndexByte s c) else none
theorem strings_LastIndexByte.calls (a0 : ByteArray) (a1 : Int) (r : Int) (w : World) (h : strings_LastIndexByte.f a0 a1 = some r) :
    Calls Tryz.prog 209 #[.string a0, .int .u8 a1] w fun e w' => e = .returned (.int .i64 r) ∧ Drawn0 w w' := by
  unfold strings_LastIndexByte.f at h
  split at h
  · rename_i hs
    obtain rfl := Option.some.inj h
    refine (Tryz.strings_LastIndexByte a0 a1 (by omega) w).mono ?_
    rintro e w' ⟨rfl, rfl⟩
    exact ⟨rfl, Drawn0.refl _⟩
  · cases h
def stringslite_Index.f (s b : ByteArray) : Option Int := match b.data.toList with | [c] => some (idxGo c s.data.toList 0) | _ => none
theorem stringslite_Index.calls (a0 : ByteArray) (a1 : ByteArray) (r : Int) (w : World) (h : stringslite_Index.f a0 a1 = some r) :
    Calls Tryz.prog 193 #[.string a0, .string a1] w fun e w' => e = .returned (.int .i64 r) ∧ Drawn0 w w' := by
  unfold stringslite_Index.f at h
  split at h
  · rename_i c hc
    obtain rfl := Option.some.inj h
    obtain rfl : a1 = ⟨#[c]⟩ := by
      obtain ⟨d⟩ := a1
      congr 1
      exact Array.toList_inj.1 hc
    refine (Tryz.stringslite_Index_one a0 c w).mono ?_
    rintro e w' ⟨rfl, rfl⟩
    exact ⟨by rw [idxGo_0], Drawn0.refl _⟩
  · cases h
end Go.Proofs.YteccaekalcjihaaGreatDoor.PTn
namespace Go.Proofs.YteccaekalcjihaaGreatDoor.PTn
open Go.RowKit Go.Proofs.YteccaekalcjihaaGreatDoorW.PrintWords Go.Proofs.YteccaekalcjihaaGreatDoorW.PrintLast Go.Proofs.YteccaekalcjihaaGreatDoorW.PrintMore
attribute [local go_sem] max2_int min2_int max_two min_two max_three min_three max_four min_four
set_option linter.unusedVariables false
set_option linter.unusedSimpArgs false
def text_void.f (a0 : ByteArray) (a1 : Int) : Option (Bool) := (sign_Begins.f a0 a1 (⟨#[60, 47, 62]⟩ : ByteArray)).bind fun t142 => (some t142)
set_option maxHeartbeats 8000000 in
set_option maxRecDepth 100000 in
theorem text_void.calls (a0 : ByteArray) (a1 : Int) (r : Bool) (w : World) (h : text_void.f a0 a1 = some r) :
    Calls Tryz.prog 194 #[.string a0, .int .i64 a1] w fun e w' => e = .returned (.bool r) ∧ Below w.heap.size w w' := by
  have HB := Aside0.mk (Below.refl w.heap.size w)
  have H : ((sign_Begins.f a0 a1 (⟨#[60, 47, 62]⟩ : ByteArray)).bind fun t142 => (some t142)) = some r := h
  clear h
  replace H := Option.bind_eq_some_iff.mp H
  obtain ⟨t142, A30, H⟩ := H
  (try dsimp only at H)
  have A3 := Aside0.mk A30
  clear A30
  obtain rfl := Option.some.inj H
  go_enter Tryz.func194, Tryz.ntmps194
  go_wp2_with (first | ((with_reducible refine gate_callee (f := 58) rfl ?_); refine goesL_ (some 7) rfl rfl Tryz.func58 (by kernel_rfl) rfl #[.string a0, .int .i64 a1, .string (⟨#[60, 47, 62]⟩ : ByteArray)] rfl (by simp only [List.map_toArray, List.map_cons, List.map_nil] <;> rfl) ?_; (with_reducible refine (sign_Begins.calls a0 a1 (⟨#[60, 47, 62]⟩ : ByteArray) t142 _ A3.out).mono ?_); rintro e w4 ⟨rfl, hb⟩; refine ⟨_, rfl, ?_⟩; have n0_ := Aside0.mk (below_step (by with_reducible repeat first | exact HB.out | apply below_alloc | apply pw_below_drewN | apply below_drew1) hb); clear HB; have HB := n0_; clear n0_; (try clear hb); (try clear hb2); (try clear hk); (try clear hi)))
  go_ret
  exact ⟨by first | rfl | (simp [*] <;> rfl), by with_reducible repeat first | exact HB.out | apply below_alloc | apply pw_below_drewN | apply below_drew1⟩
end Go.Proofs.YteccaekalcjihaaGreatDoor.PTn
set_option linter.unusedVariables false
namespace Go.Proofs.YteccaekalcjihaaGreatDoor.PTn
open Go.RowKit Go.Lib Go.Proofs.YteccaekalcjihaaGreatDoorW.PrintWords
def text_Begins.f (s : ByteArray) (i : Int) : Option Bool := (tag_Begins.f s i).bind fun a => if a = true then some true else (comment_Begins.f s i).bind fun b => if b = true then some true else (doctype_Begins.f s i).bind fun c => if c = true then some true else text_void.f s i
theorem below_row {w W : World} (hb : Below w.heap.size w W) (o : Obj) (cs : Array Value) : Below w.heap.size w ((W.alloc o).setRow W.heap.size cs) := by
  have h1 : Below w.heap.size w (W.alloc o) := hb.alloc hb.size _
  exact ⟨h1.os, h1.tape, h1.output, by simp; have := hb.size; omega, fun k hk => (setRow_other _ _ k _ (by have := hb.size; omega)).trans (h1.block k hk)⟩
theorem row_cell (W : World) (o cs : Array Value) (T : TypeId) (v : Value) (h : cs[0]? = some v) : ((W.alloc (.cells o T)).setRow W.heap.size cs).cell? ⟨W.heap.size, 0, none⟩ = some v := by
  rw [cell_of_row _ _ _ _ _ _ (setRow_heap _ _ _ _ _ _ (heap_alloc_new W _)), h]
set_option maxHeartbeats 4000000 in
set_option maxRecDepth 100000 in
theorem text_Begins.calls (s : ByteArray) (i : Int) (r : Bool) (w : World) (h : text_Begins.f s i = some r) :
    Calls Tryz.prog 173 #[.string s, .int .i64 i] w fun e w' => e = .returned (.bool r) ∧ Below w.heap.size w w' := by
  unfold text_Begins.f at h
  obtain ⟨a, ha, h⟩ := Option.bind_eq_some_iff.1 h
  have HA := Aside0.mk ha
  have HH := Aside0.mk h
  have HB := Aside0.mk (Below.refl w.heap.size w)
  clear ha h
  have x0 : ∀ w', (Instr.index 182 (.agg #[.func (.func 72) #[] #[], .func (.func 74) #[] #[], .func (.func 76) #[] #[], .func (.func 194) #[] #[]]) (.int .i64 0)).run Tryz.prog w' = .ok (.agg #[.func (.func 72) #[] #[]]) w' := fun w' => by kernel_rfl
  have x1 : ∀ w', (Instr.index 182 (.agg #[.func (.func 72) #[] #[], .func (.func 74) #[] #[], .func (.func 76) #[] #[], .func (.func 194) #[] #[]]) (.int .i64 1)).run Tryz.prog w' = .ok (.agg #[.func (.func 74) #[] #[]]) w' := fun w' => by kernel_rfl
  have x2 : ∀ w', (Instr.index 182 (.agg #[.func (.func 72) #[] #[], .func (.func 74) #[] #[], .func (.func 76) #[] #[], .func (.func 194) #[] #[]]) (.int .i64 2)).run Tryz.prog w' = .ok (.agg #[.func (.func 76) #[] #[]]) w' := fun w' => by kernel_rfl
  have x3 : ∀ w', (Instr.index 182 (.agg #[.func (.func 72) #[] #[], .func (.func 74) #[] #[], .func (.func 76) #[] #[], .func (.func 194) #[] #[]]) (.int .i64 3)).run Tryz.prog w' = .ok (.agg #[.func (.func 194) #[] #[]]) w' := fun w' => by kernel_rfl
  go_enter Tryz.func173, Tryz.ntmps173
  go_wp2
  refine wp_loop_rounds 5 ?_
  rw [rounds_succ]
  cases a with
  | true =>
    obtain rfl := Option.some.inj HH.out
    go_wp2_with (first | (refine wpList_store_row rfl 181 _ _ rfl _ #[.func (.func 72) #[] #[]] rfl rfl _ _ (heap_alloc_new _ _) (by kernel_rfl) rfl (by kernel_rfl) ?_; have n1_ := Aside0.mk (below_row HB.out (.cells #[.nilFunc] 181) #[.func (.func 72) #[] #[]]); clear HB; have HB := n1_; clear n1_; have hrc := fun W => row_cell W #[.nilFunc] #[.func (.func 72) #[] #[]] 181 _ rfl) | (go_at_call 72; (with_reducible refine (tag_Begins.calls s i true _ HA.out).mono ?_); rintro e w1 ⟨rfl, hb⟩; have n0_ := Aside0.mk (below_step (by repeat (first | (with_reducible first | exact HB.out | apply below_alloc | apply pw_below_drewN | apply below_drew1) | exact HB.out)) hb); clear HB; have HB := n0_; clear n0_ hb))
    go_ret
    exact ⟨rfl, HB.out⟩
  | false =>
    obtain ⟨b, hb0, h⟩ := Option.bind_eq_some_iff.1 HH.out
    have HA2 := Aside0.mk hb0
    have HH2 := Aside0.mk h
    clear hb0 h HH
    go_wp2_with (first | (refine wpList_store_row rfl 181 _ _ rfl _ #[.func (.func 72) #[] #[]] rfl rfl _ _ (heap_alloc_new _ _) (by kernel_rfl) rfl (by kernel_rfl) ?_; have n1_ := Aside0.mk (below_row HB.out (.cells #[.nilFunc] 181) #[.func (.func 72) #[] #[]]); clear HB; have HB := n1_; clear n1_; have hrc := fun W => row_cell W #[.nilFunc] #[.func (.func 72) #[] #[]] 181 _ rfl) | (go_at_call 72; (with_reducible refine (tag_Begins.calls s i false _ HA.out).mono ?_); rintro e w1 ⟨rfl, hb⟩; have n0_ := Aside0.mk (below_step (by repeat (first | (with_reducible first | exact HB.out | apply below_alloc | apply pw_below_drewN | apply below_drew1) | exact HB.out)) hb); clear HB; have HB := n0_; clear n0_ hb))
    rw [rounds_succ]
    cases b with
    | true =>
      obtain rfl := Option.some.inj HH2.out
      go_wp2_with (first | (refine wpList_store_row rfl 181 _ _ rfl _ #[.func (.func 74) #[] #[]] rfl rfl _ _ (heap_alloc_new _ _) (by kernel_rfl) rfl (by kernel_rfl) ?_; have n1_ := Aside0.mk (below_row HB.out (.cells #[.nilFunc] 181) #[.func (.func 74) #[] #[]]); clear HB; have HB := n1_; clear n1_; have hrc := fun W => row_cell W #[.nilFunc] #[.func (.func 74) #[] #[]] 181 _ rfl) | (go_at_call 74; (with_reducible refine (comment_Begins.calls s i true _ HA2.out).mono ?_); rintro e w1 ⟨rfl, hb⟩; have n0_ := Aside0.mk (below_step (by repeat (first | (with_reducible first | exact HB.out | apply below_alloc | apply pw_below_drewN | apply below_drew1) | exact HB.out)) hb); clear HB; have HB := n0_; clear n0_ hb))
      go_ret
      exact ⟨rfl, HB.out⟩
    | false =>
      obtain ⟨c, hc0, h⟩ := Option.bind_eq_some_iff.1 HH2.out
      have HA3 := Aside0.mk hc0
      have HH3 := Aside0.mk h
      clear hc0 h HH2
      go_wp2_with (first | (refine wpList_store_row rfl 181 _ _ rfl _ #[.func (.func 74) #[] #[]] rfl rfl _ _ (heap_alloc_new _ _) (by kernel_rfl) rfl (by kernel_rfl) ?_; have n1_ := Aside0.mk (below_row HB.out (.cells #[.nilFunc] 181) #[.func (.func 74) #[] #[]]); clear HB; have HB := n1_; clear n1_; have hrc := fun W => row_cell W #[.nilFunc] #[.func (.func 74) #[] #[]] 181 _ rfl) | (go_at_call 74; (with_reducible refine (comment_Begins.calls s i false _ HA2.out).mono ?_); rintro e w1 ⟨rfl, hb⟩; have n0_ := Aside0.mk (below_step (by repeat (first | (with_reducible first | exact HB.out | apply below_alloc | apply pw_below_drewN | apply below_drew1) | exact HB.out)) hb); clear HB; have HB := n0_; clear n0_ hb))
      rw [rounds_succ]
      cases c with
      | true =>
        obtain rfl := Option.some.inj HH3.out
        go_wp2_with (first | (refine wpList_store_row rfl 181 _ _ rfl _ #[.func (.func 76) #[] #[]] rfl rfl _ _ (heap_alloc_new _ _) (by kernel_rfl) rfl (by kernel_rfl) ?_; have n1_ := Aside0.mk (below_row HB.out (.cells #[.nilFunc] 181) #[.func (.func 76) #[] #[]]); clear HB; have HB := n1_; clear n1_; have hrc := fun W => row_cell W #[.nilFunc] #[.func (.func 76) #[] #[]] 181 _ rfl) | (go_at_call 76; (with_reducible refine (doctype_Begins.calls s i true _ HA3.out).mono ?_); rintro e w1 ⟨rfl, hb⟩; have n0_ := Aside0.mk (below_step (by repeat (first | (with_reducible first | exact HB.out | apply below_alloc | apply pw_below_drewN | apply below_drew1) | exact HB.out)) hb); clear HB; have HB := n0_; clear n0_ hb))
        go_ret
        exact ⟨rfl, HB.out⟩
      | false =>
        have HH4 := Aside0.mk (show text_void.f s i = some r from HH3.out)
        clear HH3
        go_wp2_with (first | (refine wpList_store_row rfl 181 _ _ rfl _ #[.func (.func 76) #[] #[]] rfl rfl _ _ (heap_alloc_new _ _) (by kernel_rfl) rfl (by kernel_rfl) ?_; have n1_ := Aside0.mk (below_row HB.out (.cells #[.nilFunc] 181) #[.func (.func 76) #[] #[]]); clear HB; have HB := n1_; clear n1_; have hrc := fun W => row_cell W #[.nilFunc] #[.func (.func 76) #[] #[]] 181 _ rfl) | (go_at_call 76; (with_reducible refine (doctype_Begins.calls s i false _ HA3.out).mono ?_); rintro e w1 ⟨rfl, hb⟩; have n0_ := Aside0.mk (below_step (by repeat (first | (with_reducible first | exact HB.out | apply below_alloc | apply pw_below_drewN | apply below_drew1) | exact HB.out)) hb); clear HB; have HB := n0_; clear n0_ hb))
        rw [rounds_succ]
        cases r with
        | true =>
          go_wp2_with (first | (refine wpList_store_row rfl 181 _ _ rfl _ #[.func (.func 194) #[] #[]] rfl rfl _ _ (heap_alloc_new _ _) (by kernel_rfl) rfl (by kernel_rfl) ?_; have n1_ := Aside0.mk (below_row HB.out (.cells #[.nilFunc] 181) #[.func (.func 194) #[] #[]]); clear HB; have HB := n1_; clear n1_; have hrc := fun W => row_cell W #[.nilFunc] #[.func (.func 194) #[] #[]] 181 _ rfl) | (go_at_call 194; (with_reducible refine (text_void.calls s i true _ HH4.out).mono ?_); rintro e w1 ⟨rfl, hb⟩; have n0_ := Aside0.mk (below_step (by repeat (first | (with_reducible first | exact HB.out | apply below_alloc | apply pw_below_drewN | apply below_drew1) | exact HB.out)) hb); clear HB; have HB := n0_; clear n0_ hb))
          go_ret
          exact ⟨rfl, HB.out⟩
        | false =>
          go_wp2_with (first | (refine wpList_store_row rfl 181 _ _ rfl _ #[.func (.func 194) #[] #[]] rfl rfl _ _ (heap_alloc_new _ _) (by kernel_rfl) rfl (by kernel_rfl) ?_; have n1_ := Aside0.mk (below_row HB.out (.cells #[.nilFunc] 181) #[.func (.func 194) #[] #[]]); clear HB; have HB := n1_; clear n1_; have hrc := fun W => row_cell W #[.nilFunc] #[.func (.func 194) #[] #[]] 181 _ rfl) | (go_at_call 194; (with_reducible refine (text_void.calls s i false _ HH4.out).mono ?_); rintro e w1 ⟨rfl, hb⟩; have n0_ := Aside0.mk (below_step (by repeat (first | (with_reducible first | exact HB.out | apply below_alloc | apply pw_below_drewN | apply below_drew1) | exact HB.out)) hb); clear HB; have HB := n0_; clear n0_ hb))
          rw [rounds_succ]
          go_wp2
          go_ret
          exact ⟨rfl, HB.out⟩
end Go.Proofs.YteccaekalcjihaaGreatDoor.PTn
namespace Go.Proofs.YteccaekalcjihaaGreatDoor.PTn
open Go.RowKit Go.Proofs.YteccaekalcjihaaGreatDoorW.PrintWords Go.Proofs.YteccaekalcjihaaGreatDoorW.PrintLast Go.Proofs.YteccaekalcjihaaGreatDoorW.PrintMore
attribute [local go_sem] max2_int min2_int max_two min_two max_three min_three max_four min_four
set_option linter.unusedVariables false
set_option linter.unusedSimpArgs false
def text_Next.l0 : Nat → ByteArray → Int → Option (Int)
  | 0, _, _ => none
  | k + 1, x0, x5 => if x5 < (x0.size : Int) then (if 0 ≤ x5 then (if x5 ≤ (x0.size : Int) then ((strings_IndexByte.f (x0.extract (x5 : Int).toNat x0.size) 60).bind fun t144 => (if t144 < 0 then (some (x0.size : Int)) else ((text_Begins.f x0 (wrap64 (x5 + t144))).bind fun t145 => (if t145 = true then (some (wrap64 (x5 + t144))) else (text_Next.l0 k x0 (wrap64 ((wrap64 (x5 + t144)) + 1))))))) else (none)) else (none)) else (some (x0.size : Int))
def text_Next.f (k : Nat) (a0 : ByteArray) (a1 : Int) : Option (Int) := (text_inside.f a0 a1).bind fun t143 => (text_Next.l0 k a0 t143)
set_option maxHeartbeats 8000000 in
set_option maxRecDepth 100000 in
theorem text_Next.calls (k : Nat) (a0 : ByteArray) (a1 : Int) (r : Int) (w : World) (h : text_Next.f k a0 a1 = some r) :
    Calls Tryz.prog 131 #[.string a0, .int .i64 a1] w fun e w' => e = .returned (.int .i64 r) ∧ Below w.heap.size w w' := by
  have HB := Aside0.mk (Below.refl w.heap.size w)
  have H : ((text_inside.f a0 a1).bind fun t143 => (text_Next.l0 k a0 t143)) = some r := h
  clear h
  replace H := Option.bind_eq_some_iff.mp H
  obtain ⟨t143, A30, H⟩ := H
  (try dsimp only at H)
  have A3 := Aside0.mk A30
  clear A30
  have H' := Aside0.mk H
  clear H
  go_enter Tryz.func131, Tryz.ntmps131
  go_wp2_with (first | ((with_reducible refine gate_callee (f := 132) rfl ?_); refine goesL_ (some 9) rfl rfl Tryz.func132 (by kernel_rfl) rfl #[.string a0, .int .i64 a1] rfl (by simp only [List.map_toArray, List.map_cons, List.map_nil] <;> rfl) ?_; (with_reducible refine (text_inside.calls a0 a1 t143 _ A3.out).mono ?_); rintro e w4 ⟨rfl, hb⟩; refine ⟨_, rfl, ?_⟩; have n0_ := Aside0.mk (below_step (by with_reducible repeat first | exact HB.out | apply below_alloc | apply pw_below_drewN | apply below_drew1) hb); clear HB; have HB := n0_; clear n0_; (try clear hb); (try clear hb2); (try clear hk); (try clear hi)))
  go_loopg [5] k (fun kq v5 w' => ∃ (x5_1 : Int), v5 = .int .i64 x5_1 ∧ Aside0 (text_Next.l0 kq a0 x5_1 = some r) ∧ Aside0 (kq ≤ k) ∧ Aside0 (Below w.heap.size w w'))
  case atStart => exact ⟨(t143), (by first | rfl | (simp; done) | (simp [*]; done)), H', ⟨Nat.le_refl _⟩, ⟨by with_reducible repeat first | exact HB.out | apply below_alloc | apply pw_below_drewN | apply below_drew1⟩⟩
  case round =>
    clear H'
    try clear c1
    try clear p2
    obtain ⟨x5_1, rfl, HA, HK1, HB⟩ := hrel
    cases gk with
    | zero => exact absurd HA.out (by simp [text_Next.l0])
    | succ k1 =>
      have H := HA.out
      clear HA
      simp only [text_Next.l0] at H
      by_cases c5 : x5_1 < (a0.size : Int)
      · rw [if_pos c5] at H
        have c5b0 : decide (x5_1 < (a0.size : Int)) = true := decide_eq_true c5
        clear c5
        by_cases c6 : 0 ≤ x5_1
        · rw [if_pos c6] at H
          have c6b0 := eq_true c6
          have c6b1 : decide (0 ≤ x5_1) = true := decide_eq_true c6
          clear c6
          by_cases c7 : x5_1 ≤ (a0.size : Int)
          · rw [if_pos c7] at H
            have c7b0 := eq_true c7
            have c7b1 : decide (x5_1 ≤ (a0.size : Int)) = true := decide_eq_true c7
            clear c7
            replace H := Option.bind_eq_some_iff.mp H
            obtain ⟨t144, A80, H⟩ := H
            (try dsimp only at H)
            have A8 := Aside0.mk A80
            clear A80
            by_cases c9 : t144 < 0
            · rw [if_pos c9] at H
              have c9b0 : decide (t144 < 0) = true := decide_eq_true c9
              clear c9
              obtain rfl := Option.some.inj H
              go_wp2_with (first | ((with_reducible refine gate_callee (f := 65) rfl ?_); refine goesL_ (some 19) rfl rfl Tryz.func65 (by kernel_rfl) rfl #[.string (a0.extract (x5_1 : Int).toNat a0.size), .int .u8 60] rfl (by simp only [List.map_toArray, List.map_cons, List.map_nil] <;> rfl) ?_; (with_reducible refine (strings_IndexByte.calls (a0.extract (x5_1 : Int).toNat a0.size) 60 t144 _ A8.out).mono ?_); rintro e w' ⟨rfl, ⟨nd, rfl⟩⟩; refine ⟨_, rfl, ?_⟩))
              go_ret
              exact ⟨by first | rfl | (simp [*] <;> rfl), by with_reducible repeat first | exact HB.out | apply below_alloc | apply pw_below_drewN | apply below_drew1⟩
            · rw [if_neg c9] at H
              have c9b0 : decide (t144 < 0) = false := decide_eq_false c9
              clear c9
              replace H := Option.bind_eq_some_iff.mp H
              obtain ⟨t145, A100, H⟩ := H
              (try dsimp only at H)
              have A10 := Aside0.mk A100
              clear A100
              by_cases c11 : t145 = true
              · subst c11
                rw [if_pos rfl] at H
                obtain rfl := Option.some.inj H
                go_wp2_with (first | ((with_reducible refine gate_callee (f := 65) rfl ?_); refine goesL_ (some 19) rfl rfl Tryz.func65 (by kernel_rfl) rfl #[.string (a0.extract (x5_1 : Int).toNat a0.size), .int .u8 60] rfl (by simp only [List.map_toArray, List.map_cons, List.map_nil] <;> rfl) ?_; (with_reducible refine (strings_IndexByte.calls (a0.extract (x5_1 : Int).toNat a0.size) 60 t144 _ A8.out).mono ?_); rintro e w' ⟨rfl, ⟨nd, rfl⟩⟩; refine ⟨_, rfl, ?_⟩) | ((with_reducible refine gate_callee (f := 173) rfl ?_); refine goesL_ (some 27) rfl rfl Tryz.func173 (by kernel_rfl) rfl #[.string a0, .int .i64 (wrap64 (x5_1 + t144))] rfl (by simp only [List.map_toArray, List.map_cons, List.map_nil] <;> rfl) ?_; (with_reducible refine (text_Begins.calls a0 (wrap64 (x5_1 + t144)) true _ A10.out).mono ?_); rintro e w12 ⟨rfl, hb⟩; refine ⟨_, rfl, ?_⟩; have n0_ := Aside0.mk (below_step (by with_reducible repeat first | exact HB.out | apply below_alloc | apply pw_below_drewN | apply below_drew1) hb); clear HB; have HB := n0_; clear n0_; (try clear hb); (try clear hb2); (try clear hk); (try clear hi)))
                go_ret
                exact ⟨by first | rfl | (simp [*] <;> rfl), by with_reducible repeat first | exact HB.out | apply below_alloc | apply pw_below_drewN | apply below_drew1⟩
              · replace c11 := Bool.eq_false_iff.mpr c11
                subst c11
                rw [if_neg (show ¬ (false = true) by decide)] at H
                have H' := Aside0.mk H
                clear H
                go_wp2_with (first | ((with_reducible refine gate_callee (f := 65) rfl ?_); refine goesL_ (some 19) rfl rfl Tryz.func65 (by kernel_rfl) rfl #[.string (a0.extract (x5_1 : Int).toNat a0.size), .int .u8 60] rfl (by simp only [List.map_toArray, List.map_cons, List.map_nil] <;> rfl) ?_; (with_reducible refine (strings_IndexByte.calls (a0.extract (x5_1 : Int).toNat a0.size) 60 t144 _ A8.out).mono ?_); rintro e w' ⟨rfl, ⟨nd, rfl⟩⟩; refine ⟨_, rfl, ?_⟩) | ((with_reducible refine gate_callee (f := 173) rfl ?_); refine goesL_ (some 27) rfl rfl Tryz.func173 (by kernel_rfl) rfl #[.string a0, .int .i64 (wrap64 (x5_1 + t144))] rfl (by simp only [List.map_toArray, List.map_cons, List.map_nil] <;> rfl) ?_; (with_reducible refine (text_Begins.calls a0 (wrap64 (x5_1 + t144)) false _ A10.out).mono ?_); rintro e w13 ⟨rfl, hb⟩; refine ⟨_, rfl, ?_⟩; have n0_ := Aside0.mk (below_step (by with_reducible repeat first | exact HB.out | apply below_alloc | apply pw_below_drewN | apply below_drew1) hb); clear HB; have HB := n0_; clear n0_; (try clear hb); (try clear hb2); (try clear hk); (try clear hi)))
                go_roundg k1
                case measure => have := HK1.out; omega
                case rel => exact ⟨(wrap64 ((wrap64 (x5_1 + t144)) + 1)), (by first | rfl | (simp; done) | (simp [*]; done)), H', ⟨by have := HK1.out; omega⟩, ⟨by with_reducible repeat first | exact HB.out | apply below_alloc | apply pw_below_drewN | apply below_drew1⟩⟩
          · rw [if_neg c7] at H
            exact absurd H (by simp)
        · rw [if_neg c6] at H
          exact absurd H (by simp)
      · rw [if_neg c5] at H
        have c5b0 : decide (x5_1 < (a0.size : Int)) = false := decide_eq_false c5
        clear c5
        obtain rfl := Option.some.inj H
        go_wp2
        go_ret
        exact ⟨by first | rfl | (simp [*] <;> rfl), by with_reducible repeat first | exact HB.out | apply below_alloc | apply pw_below_drewN | apply below_drew1⟩
end Go.Proofs.YteccaekalcjihaaGreatDoor.PTn
namespace Go.Proofs.YteccaekalcjihaaGreatDoor.PTn
open Go.RowKit Go.Proofs.YteccaekalcjihaaGreatDoorW.PrintWords Go.Proofs.YteccaekalcjihaaGreatDoorW.PrintLast Go.Proofs.YteccaekalcjihaaGreatDoorW.PrintMore
attribute [local go_sem] max2_int min2_int max_two min_two max_three min_three max_four min_four
set_option linter.unusedVariables false
set_option linter.unusedSimpArgs false
def sign_Digit.f (a0 : Int) : Option (Bool) := (sign_within.f a0 48 57).bind fun t122 => (some t122)
set_option maxHeartbeats 8000000 in
set_option maxRecDepth 100000 in
theorem sign_Digit.calls (a0 : Int) (r : Bool) (w : World) (h : sign_Digit.f a0 = some r) :
    Calls Tryz.prog 159 #[.int .u8 a0] w fun e w' => e = .returned (.bool r) ∧ Drawn0 w w' := by
  have H : ((sign_within.f a0 48 57).bind fun t122 => (some t122)) = some r := h
  clear h
  replace H := Option.bind_eq_some_iff.mp H
  obtain ⟨t122, A20, H⟩ := H
  (try dsimp only at H)
  have A2 := Aside0.mk A20
  clear A20
  obtain rfl := Option.some.inj H
  go_enter Tryz.func159, Tryz.ntmps159
  go_wp2_with (first | ((with_reducible refine gate_callee (f := 114) rfl ?_); refine goesL_ (some 4) rfl rfl Tryz.func114 (by kernel_rfl) rfl #[.int .u8 a0, .int .u8 48, .int .u8 57] rfl (by simp only [List.map_toArray, List.map_cons, List.map_nil] <;> rfl) ?_; (with_reducible refine (sign_within.calls a0 48 57 t122 _ A2.out).mono ?_); rintro e w' ⟨rfl, ⟨nd, rfl⟩⟩; refine ⟨_, rfl, ?_⟩))
  go_ret
  exact ⟨by first | rfl | (simp; done) | (simp [*]; done), by repeat (first | exact Drawn0.refl _ | apply Drawn0.step)⟩
end Go.Proofs.YteccaekalcjihaaGreatDoor.PTn
namespace Go.Proofs.YteccaekalcjihaaGreatDoor.PTn
open Go.RowKit Go.Proofs.YteccaekalcjihaaGreatDoorW.PrintWords Go.Proofs.YteccaekalcjihaaGreatDoorW.PrintLast Go.Proofs.YteccaekalcjihaaGreatDoorW.PrintMore
attribute [local go_sem] max2_int min2_int max_two min_two max_three min_three max_four min_four
set_option linter.unusedVariables false
set_option linter.unusedSimpArgs false
def sign_Hex.f (a0 : Int) : Option (Int) := (sign_Digit.f a0).bind fun t123 => (if t123 = true then (some (wrap64 ((wrap64 (a0)) - 48))) else ((sign_within.f a0 65 70).bind fun t124 => (if t124 = true then (some (wrap64 ((wrap64 ((wrap64 ((wrap64 (a0)) + 32)) - 97)) + 10))) else ((sign_within.f a0 97 102).bind fun t125 => (if t125 = true then (some (wrap64 ((wrap64 ((wrap64 (a0)) - 97)) + 10))) else (some (-1)))))))
set_option maxHeartbeats 8000000 in
set_option maxRecDepth 100000 in
theorem sign_Hex.calls (a0 : Int) (r : Int) (w : World) (h : sign_Hex.f a0 = some r) :
    Calls Tryz.prog 160 #[.int .u8 a0] w fun e w' => e = .returned (.int .i64 r) ∧ Drawn0 w w' := by
  have H : ((sign_Digit.f a0).bind fun t123 => (if t123 = true then (some (wrap64 ((wrap64 (a0)) - 48))) else ((sign_within.f a0 65 70).bind fun t124 => (if t124 = true then (some (wrap64 ((wrap64 ((wrap64 ((wrap64 (a0)) + 32)) - 97)) + 10))) else ((sign_within.f a0 97 102).bind fun t125 => (if t125 = true then (some (wrap64 ((wrap64 ((wrap64 (a0)) - 97)) + 10))) else (some (-1)))))))) = some r := h
  clear h
  replace H := Option.bind_eq_some_iff.mp H
  obtain ⟨t123, A20, H⟩ := H
  (try dsimp only at H)
  have A2 := Aside0.mk A20
  clear A20
  by_cases c3 : t123 = true
  · subst c3
    rw [if_pos rfl] at H
    obtain rfl := Option.some.inj H
    go_enter Tryz.func160, Tryz.ntmps160
    go_wp2_with (first | ((with_reducible refine gate_callee (f := 159) rfl ?_); refine goesL_ (some 8) rfl rfl Tryz.func159 (by kernel_rfl) rfl #[.int .u8 a0] rfl (by simp only [List.map_toArray, List.map_cons, List.map_nil] <;> rfl) ?_; (with_reducible refine (sign_Digit.calls a0 true _ A2.out).mono ?_); rintro e w' ⟨rfl, ⟨nd, rfl⟩⟩; refine ⟨_, rfl, ?_⟩))
    go_ret
    exact ⟨by first | rfl | (simp; done) | (simp [*]; done), by repeat (first | exact Drawn0.refl _ | apply Drawn0.step)⟩
  · replace c3 := Bool.eq_false_iff.mpr c3
    subst c3
    rw [if_neg (show ¬ (false = true) by decide)] at H
    replace H := Option.bind_eq_some_iff.mp H
    obtain ⟨t124, A40, H⟩ := H
    (try dsimp only at H)
    have A4 := Aside0.mk A40
    clear A40
    by_cases c5 : t124 = true
    · subst c5
      rw [if_pos rfl] at H
      obtain rfl := Option.some.inj H
      go_enter Tryz.func160, Tryz.ntmps160
      go_wp2_with (first | ((with_reducible refine gate_callee (f := 159) rfl ?_); refine goesL_ (some 8) rfl rfl Tryz.func159 (by kernel_rfl) rfl #[.int .u8 a0] rfl (by simp only [List.map_toArray, List.map_cons, List.map_nil] <;> rfl) ?_; (with_reducible refine (sign_Digit.calls a0 false _ A2.out).mono ?_); rintro e w' ⟨rfl, ⟨nd, rfl⟩⟩; refine ⟨_, rfl, ?_⟩) | ((with_reducible refine gate_callee (f := 114) rfl ?_); refine goesL_ (some 11) rfl rfl Tryz.func114 (by kernel_rfl) rfl #[.int .u8 a0, .int .u8 65, .int .u8 70] rfl (by simp only [List.map_toArray, List.map_cons, List.map_nil] <;> rfl) ?_; (with_reducible refine (sign_within.calls a0 65 70 true _ A4.out).mono ?_); rintro e w' ⟨rfl, ⟨nd, rfl⟩⟩; refine ⟨_, rfl, ?_⟩))
      go_ret
      exact ⟨by first | rfl | (simp; done) | (simp [*]; done), by repeat (first | exact Drawn0.refl _ | apply Drawn0.step)⟩
    · replace c5 := Bool.eq_false_iff.mpr c5
      subst c5
      rw [if_neg (show ¬ (false = true) by decide)] at H
      replace H := Option.bind_eq_some_iff.mp H
      obtain ⟨t125, A60, H⟩ := H
      (try dsimp only at H)
      have A6 := Aside0.mk A60
      clear A60
      by_cases c7 : t125 = true
      · subst c7
        rw [if_pos rfl] at H
        obtain rfl := Option.some.inj H
        go_enter Tryz.func160, Tryz.ntmps160
        go_wp2_with (first | ((with_reducible refine gate_callee (f := 159) rfl ?_); refine goesL_ (some 8) rfl rfl Tryz.func159 (by kernel_rfl) rfl #[.int .u8 a0] rfl (by simp only [List.map_toArray, List.map_cons, List.map_nil] <;> rfl) ?_; (with_reducible refine (sign_Digit.calls a0 false _ A2.out).mono ?_); rintro e w' ⟨rfl, ⟨nd, rfl⟩⟩; refine ⟨_, rfl, ?_⟩) | ((with_reducible refine gate_callee (f := 114) rfl ?_); refine goesL_ (some 11) rfl rfl Tryz.func114 (by kernel_rfl) rfl #[.int .u8 a0, .int .u8 65, .int .u8 70] rfl (by simp only [List.map_toArray, List.map_cons, List.map_nil] <;> rfl) ?_; (with_reducible refine (sign_within.calls a0 65 70 false _ A4.out).mono ?_); rintro e w' ⟨rfl, ⟨nd, rfl⟩⟩; refine ⟨_, rfl, ?_⟩) | ((with_reducible refine gate_callee (f := 114) rfl ?_); refine goesL_ (some 14) rfl rfl Tryz.func114 (by kernel_rfl) rfl #[.int .u8 a0, .int .u8 97, .int .u8 102] rfl (by simp only [List.map_toArray, List.map_cons, List.map_nil] <;> rfl) ?_; (with_reducible refine (sign_within.calls a0 97 102 true _ A6.out).mono ?_); rintro e w' ⟨rfl, ⟨nd, rfl⟩⟩; refine ⟨_, rfl, ?_⟩))
        go_ret
        exact ⟨by first | rfl | (simp; done) | (simp [*]; done), by repeat (first | exact Drawn0.refl _ | apply Drawn0.step)⟩
      · replace c7 := Bool.eq_false_iff.mpr c7
        subst c7
        rw [if_neg (show ¬ (false = true) by decide)] at H
        obtain rfl := Option.some.inj H
        go_enter Tryz.func160, Tryz.ntmps160
        go_wp2_with (first | ((with_reducible refine gate_callee (f := 159) rfl ?_); refine goesL_ (some 8) rfl rfl Tryz.func159 (by kernel_rfl) rfl #[.int .u8 a0] rfl (by simp only [List.map_toArray, List.map_cons, List.map_nil] <;> rfl) ?_; (with_reducible refine (sign_Digit.calls a0 false _ A2.out).mono ?_); rintro e w' ⟨rfl, ⟨nd, rfl⟩⟩; refine ⟨_, rfl, ?_⟩) | ((with_reducible refine gate_callee (f := 114) rfl ?_); refine goesL_ (some 11) rfl rfl Tryz.func114 (by kernel_rfl) rfl #[.int .u8 a0, .int .u8 65, .int .u8 70] rfl (by simp only [List.map_toArray, List.map_cons, List.map_nil] <;> rfl) ?_; (with_reducible refine (sign_within.calls a0 65 70 false _ A4.out).mono ?_); rintro e w' ⟨rfl, ⟨nd, rfl⟩⟩; refine ⟨_, rfl, ?_⟩) | ((with_reducible refine gate_callee (f := 114) rfl ?_); refine goesL_ (some 14) rfl rfl Tryz.func114 (by kernel_rfl) rfl #[.int .u8 a0, .int .u8 97, .int .u8 102] rfl (by simp only [List.map_toArray, List.map_cons, List.map_nil] <;> rfl) ?_; (with_reducible refine (sign_within.calls a0 97 102 false _ A6.out).mono ?_); rintro e w' ⟨rfl, ⟨nd, rfl⟩⟩; refine ⟨_, rfl, ?_⟩))
        go_ret
        exact ⟨by first | rfl | (simp; done) | (simp [*]; done), by repeat (first | exact Drawn0.refl _ | apply Drawn0.step)⟩
end Go.Proofs.YteccaekalcjihaaGreatDoor.PTn
namespace TopFl
open Ieee
def fw (n : Nat) : Nat := if n = 0 then 0 else (n.log2 + 1022) * 2 ^ 52 + n * 2 ^ (52 - n.log2)
theorem log2_shift (n k : Nat) (h : n ≠ 0) : (n * 2 ^ k).log2 = n.log2 + k := by
  induction k with
  | zero => simp
  | succ k ih =>
    have hk : n * 2 ^ k ≠ 0 := Nat.mul_ne_zero h (Nat.pos_iff_ne_zero.1 (Nat.two_pow_pos k))
    have : n * 2 ^ (k + 1) = 2 * (n * 2 ^ k) := by rw [Nat.pow_succ]; ac_rfl
    rw [this, Nat.log2_two_mul hk, ih]; rfl
theorem log2_le (n : Nat) (h0 : n ≠ 0) (h : n < 2 ^ 53) : n.log2 ≤ 52 := by
  have := (Nat.log2_lt h0).2 h
  omega
theorem kept_ge (n : Nat) (h0 : n ≠ 0) (h : n < 2 ^ 53) : 2 ^ 52 ≤ n * 2 ^ (52 - n.log2) := by
  have a := Nat.log2_self_le h0
  have b := log2_le n h0 h
  calc 2 ^ 52 = 2 ^ n.log2 * 2 ^ (52 - n.log2) := by rw [← Nat.pow_add]; congr 1; omega
    _ ≤ _ := Nat.mul_le_mul_right _ a
theorem kept_lt (n : Nat) (h0 : n ≠ 0) (h : n < 2 ^ 53) : n * 2 ^ (52 - n.log2) < 2 ^ 53 := by
  have a : n < 2 ^ (n.log2 + 1) := (Nat.log2_lt h0).1 (by omega)
  have b := log2_le n h0 h
  calc n * 2 ^ (52 - n.log2) < 2 ^ (n.log2 + 1) * 2 ^ (52 - n.log2) := Nat.mul_lt_mul_of_pos_right a (Nat.two_pow_pos _)
    _ = 2 ^ 53 := by rw [← Nat.pow_add]; congr 1; omega
theorem nearest_fw (n k : Nat) (h : n < 2 ^ 53) : double.nearest false (n * 2 ^ k) (-(k : Int)) = fw n := by
  unfold Format.nearest
  by_cases h0 : n = 0
  · subst h0; simp [fw, Format.word]
  · have hk : n * 2 ^ k ≠ 0 := Nat.mul_ne_zero h0 (Nat.pos_iff_ne_zero.1 (Nat.two_pow_pos k))
    rw [if_neg hk]
    have hl := log2_le n h0 h
    have e1 : (n * 2 ^ k).log2 = n.log2 + k := log2_shift n k h0
    have lp : double.leastPlace = -1074 := by decide
    have fb : double.fractionBits = 52 := rfl
    have last : max (-(k : Int) + ((n * 2 ^ k).log2 : Nat) - (double.fractionBits : Nat)) double.leastPlace = (n.log2 : Int) - 52 := by
      rw [e1, lp, fb]; omega
    dsimp only
    rw [last, lp]
    have kept : Toward.even.cut false ((n * 2 ^ k) <<< (-(k : Int) - ((n.log2 : Int) - 52)).toNat) ((n.log2 : Int) - 52 - -(k : Int)).toNat = n * 2 ^ (52 - n.log2) := by
      by_cases c : k + n.log2 ≤ 52
      · have a1 : (-(k : Int) - ((n.log2 : Int) - 52)).toNat = 52 - n.log2 - k := by omega
        have a2 : ((n.log2 : Int) - 52 - -(k : Int)).toNat = 0 := by omega
        rw [a1, a2]
        have e : (n * 2 ^ k) <<< (52 - n.log2 - k) = n * 2 ^ (52 - n.log2) := by
          rw [Nat.shiftLeft_eq, Nat.mul_assoc, ← Nat.pow_add]; congr 2; omega
        rw [e]
        simp [Toward.cut, Nat.mod_one]
      · have a1 : (-(k : Int) - ((n.log2 : Int) - 52)).toNat = 0 := by omega
        have a2 : ((n.log2 : Int) - 52 - -(k : Int)).toNat = n.log2 + k - 52 := by omega
        rw [a1, a2, Nat.shiftLeft_zero]
        have e : n * 2 ^ k = n * 2 ^ (52 - n.log2) * 2 ^ (n.log2 + k - 52) := by
          rw [Nat.mul_assoc, ← Nat.pow_add]; congr 2; omega
        have g : 1 <<< min (n.log2 + k - 52) ((n * 2 ^ k).log2 + 2) = 2 ^ (n.log2 + k - 52) := by
          rw [e1, Nat.shiftLeft_eq, Nat.one_mul]; congr 1; omega
        have q : n * 2 ^ k / 2 ^ (n.log2 + k - 52) = n * 2 ^ (52 - n.log2) := by
          rw [e]; exact Nat.mul_div_cancel _ (Nat.two_pow_pos _)
        have r : n * 2 ^ k % 2 ^ (n.log2 + k - 52) = 0 := by
          rw [e]; exact Nat.mul_mod_left _ _
        have p : 0 < 2 ^ (n.log2 + k - 52) := Nat.two_pow_pos _
        have p' : ¬ 2 ^ (n.log2 + k - 52) = 0 := by omega
        simp only [Toward.cut, g, q, r]
        simp
    rw [kept]
    have lt := kept_lt n h0 h
    have b : ((n.log2 : Int) - 52 - -1074).toNat = n.log2 + 1022 := by omega
    rw [b]
    have bi : double.binade = 2 ^ 52 := rfl
    have ir : double.infRung = 2047 * 2 ^ 52 := rfl
    rw [bi, ir]
    have : (n.log2 + 1022) * 2 ^ 52 + n * 2 ^ (52 - n.log2) ≤ 2047 * 2 ^ 52 := by
      have : (n.log2 + 1022) * 2 ^ 52 ≤ 1074 * 2 ^ 52 := Nat.mul_le_mul_right _ (by omega)
      exact Nat.le_trans (Nat.add_le_add this (Nat.le_of_lt lt)) (by decide)
    rw [Nat.min_eq_left this]
    unfold fw; rw [if_neg h0]; rfl
theorem read_fw (n : Nat) (h : n < 2 ^ 53) : ∃ k : Nat, double.read (fw n) = .number false (n * 2 ^ k) (-(k : Int)) ∧ (n ≠ 0 → k = 52 - n.log2) := by
  by_cases h0 : n = 0
  · subst h0; obtain ⟨k, hk⟩ : ∃ k : Nat, k = 1074 := ⟨_, rfl⟩; refine ⟨k, ?_, by simp⟩; rw [Nat.zero_mul, hk]; rfl
  · refine ⟨52 - n.log2, ?_, fun _ => rfl⟩
    have hl := log2_le n h0 h
    have ge := kept_ge n h0 h
    have lt := kept_lt n h0 h
    have bi : double.binade = 2 ^ 52 := rfl
    have ir : double.infRung = 2047 * 2 ^ 52 := rfl
    have sw : double.signWeight = 2 ^ 63 := rfl
    have lp : double.leastPlace = -1074 := by decide
    have top : (n.log2 + 1022) * 2 ^ 52 ≤ 1074 * 2 ^ 52 := Nat.mul_le_mul_right _ (by omega)
    have e : fw n = (n.log2 + 1022) * 2 ^ 52 + n * 2 ^ (52 - n.log2) := by simp [fw, h0]
    generalize hq : n * 2 ^ (52 - n.log2) = q at *
    have small : fw n < 2 ^ 63 := by omega
    unfold Format.read
    rw [sw]
    have m : fw n % 2 ^ 63 = fw n := Nat.mod_eq_of_lt small
    have d : fw n / 2 ^ 63 = 0 := Nat.div_eq_of_lt small
    have c1 : ¬ fw n < double.binade := by rw [bi]; omega
    have c2 : fw n < double.infRung := by rw [ir]; omega
    have dv : fw n / double.binade = n.log2 + 1023 := by rw [bi]; omega
    have md : double.binade + fw n % double.binade = q := by rw [bi]; omega
    have pl : (-1074 : Int) + ((n.log2 + 1023 - 1 : Nat) : Int) = -((52 - n.log2 : Nat) : Int) := by omega
    dsimp only
    rw [m, d, if_neg c1, if_pos c2, dv, md, lp, pl]
    rfl
theorem mul_fw (n m : Nat) (hn : n < 2 ^ 53) (hm : m < 2 ^ 53) (h : n * m < 2 ^ 53) : double.mul (fw n) (fw m) = some (fw (n * m)) := by
  obtain ⟨k, hk, _⟩ := read_fw n hn
  obtain ⟨j, hj, _⟩ := read_fw m hm
  have e1 : n * 2 ^ k * (m * 2 ^ j) = n * m * 2 ^ (k + j) := by rw [Nat.pow_add]; ac_rfl
  have e2 : (-(k : Int)) + (-(j : Int)) = -((k + j : Nat) : Int) := by omega
  simp only [Format.mul, hk, hj, Datum.product, Option.map, Format.write, e1, e2, Bool.xor_false]
  rw [nearest_fw _ _ h]
theorem shl_up (n k d : Nat) : (n * 2 ^ k) <<< d = n * 2 ^ (k + d) := by
  rw [Nat.shiftLeft_eq, Nat.mul_assoc, Nat.pow_add]
theorem add_fw (n m : Nat) (hn : n < 2 ^ 53) (hm : m < 2 ^ 53) (h : n + m < 2 ^ 53) : double.add (fw n) (fw m) = some (fw (n + m)) := by
  obtain ⟨k, hk, _⟩ := read_fw n hn
  obtain ⟨j, hj, _⟩ := read_fw m hm
  have b : min (-(k : Int)) (-(j : Int)) = -((max k j : Nat) : Int) := by omega
  have a1 : k + (-(k : Int) - -((max k j : Nat) : Int)).toNat = max k j := by omega
  have a2 : j + (-(j : Int) - -((max k j : Nat) : Int)).toNat = max k j := by omega
  have e : ((n * 2 ^ max k j : Nat) : Int) + ((m * 2 ^ max k j : Nat) : Int) = ((n + m) * 2 ^ max k j : Nat) := by
    rw [← Int.natCast_add, ← Nat.add_mul]
  have s : ∀ x : Nat, (if (x : Int) = 0 then false && false else decide ((x : Int) < 0)) = false := by
    intro x; split
    · rfl
    · exact decide_eq_false (by omega)
  simp only [Format.add, hk, hj, Datum.sum, signed, b, Option.map, Format.write, Bool.false_eq_true, if_false, shl_up, a1, a2, e, s, Int.natAbs_natCast]
  rw [nearest_fw _ _ h]
theorem int_fw (n : Nat) (hn : n < 2 ^ 53) : (double.read (fw n)).toInt .zero = some (n : Int) := by
  obtain ⟨k, hk, hz⟩ := read_fw n hn
  have c : Toward.zero.cut false ((n * 2 ^ k) <<< (-(k : Int)).toNat) (- -(k : Int)).toNat = n := by
    have a1 : (-(k : Int)).toNat = 0 := by omega
    have a2 : (- -(k : Int)).toNat = k := by omega
    rw [a1, a2, Nat.shiftLeft_zero]
    by_cases h0 : n = 0
    · subst h0; simp [Toward.cut]
    · have g : 1 <<< min k ((n * 2 ^ k).log2 + 2) = 2 ^ k := by
        rw [log2_shift n k h0, Nat.shiftLeft_eq, Nat.one_mul]; congr 1; omega
      simp only [Toward.cut, g]
      rw [Nat.mul_div_cancel _ (Nat.two_pow_pos _)]
      simp
  simp only [hk, Datum.toInt, Datum.integral, c, signed, Bool.false_eq_true, if_false, Nat.shiftLeft_zero]
theorem order_fw (n m : Nat) (hn : n < 2 ^ 53) (hm : m < 2 ^ 53) : double.order (fw n) (fw m) = some (compare n m) := by
  obtain ⟨k, hk, _⟩ := read_fw n hn
  obtain ⟨j, hj, _⟩ := read_fw m hm
  have b : min (-(k : Int)) (-(j : Int)) = -((max k j : Nat) : Int) := by omega
  have a1 : k + (-(k : Int) - -((max k j : Nat) : Int)).toNat = max k j := by omega
  have a2 : j + (-(j : Int) - -((max k j : Nat) : Int)).toNat = max k j := by omega
  simp only [Format.order, hk, hj, Datum.order, signed, b, Bool.false_eq_true, if_false, shl_up, a1, a2]
  congr 1
  generalize max k j = t
  have p : 0 < 2 ^ t := Nat.two_pow_pos _
  have lt : n * 2 ^ t < m * 2 ^ t ↔ n < m := Nat.mul_lt_mul_right p
  have eq : n * 2 ^ t = m * 2 ^ t ↔ n = m := ⟨fun h => Nat.eq_of_mul_eq_mul_right p h, fun h => by rw [h]⟩
  generalize n * 2 ^ t = x at *
  generalize m * 2 ^ t = y at *
  show compareOfLessAndEq _ _ = compareOfLessAndEq _ _
  simp only [compareOfLessAndEq, Int.ofNat_lt, Int.ofNat_inj, lt, eq]
end TopFl
namespace TopFl
open Go Ieee
theorem f64_order (n m : Nat) (hn : n < 2 ^ 53) (hm : m < 2 ^ 53) : FloatKind.f64.format.order (fw n) (fw m) = some (compare n m) := order_fw n m hn hm
theorem run_geq_fw (P : Program) (w : World) (t : TypeId) (n m : Nat) (hn : n < 2 ^ 53) (hm : m < 2 ^ 53) : (binOp .geq t (.float .f64 (fw n)) (.float .f64 (fw m))).run P w = .ok (.bool (m ≤ n)) w := by
  have h := f64_order n m hn hm
  simp only [binOp, Op.floatCmp, h]
  rcases Nat.lt_trichotomy n m with c | c | c
  · rw [Nat.compare_eq_lt.2 c, decide_eq_false (by omega)]; rfl
  · rw [Nat.compare_eq_eq.2 c, decide_eq_true (by omega)]; rfl
  · rw [Nat.compare_eq_gt.2 c, decide_eq_true (by omega)]; rfl
theorem run_add_fw (P : Program) (w : World) (t : TypeId) (n m : Nat) (hn : n < 2 ^ 53) (hm : m < 2 ^ 53) (h : n + m < 2 ^ 53) : (binOp .add t (.float .f64 (fw n)) (.float .f64 (fw m))).run P w = .ok (.float .f64 (fw (n + m))) w :=
  run_float_arith w .add t .f64 _ _ _ (add_fw n m hn hm h)
theorem run_mul_fw (P : Program) (w : World) (t : TypeId) (n m : Nat) (hn : n < 2 ^ 53) (hm : m < 2 ^ 53) (h : n * m < 2 ^ 53) : (binOp .mul t (.float .f64 (fw n)) (.float .f64 (fw m))).run P w = .ok (.float .f64 (fw (n * m))) w :=
  run_float_arith w .mul t .f64 _ _ _ (mul_fw n m hn hm h)
theorem nearest_int (n : Nat) (hn : n < 2 ^ 53) : floatOfInt .f64 (n : Int) = fw n := by
  have := nearest_fw n 0 hn
  simp only [Nat.pow_zero, Nat.mul_one] at this
  have c : decide ((n : Int) < 0) = false := decide_eq_false (by omega)
  show double.nearest (decide ((n : Int) < 0)) ((n : Int).natAbs) 0 = _
  rw [c, Int.natAbs_natCast]
  exact this
theorem to_int_fw (n : Nat) (hn : n < 2 ^ 53) : floatToIntVal .f64 (fw n) .i64 = some (n : Int) := by
  have h : (FloatKind.f64.decode (fw n)).toInt .zero = some (n : Int) := int_fw n hn
  have a : IntKind.i64.min = -9223372036854775808 := by decide
  have b : IntKind.i64.max = 9223372036854775807 := by decide
  simp only [floatToIntVal, h, a, b]
  rw [if_pos (by omega)]
theorem run_min_fw (P : Program) (w : World) (ts : Array TypeId) (t : TypeId) (n m : Nat) (hn : n < 2 ^ 53) (hm : m < 2 ^ 53) :
    (Builtin.min_ ts t #[.float .f64 (fw n), .float .f64 (fw m)]).run P w = .ok (.float .f64 (fw (min n m))) w := by
  have h := f64_order n m hn hm
  have e : (Builtin.min_ ts t #[.float .f64 (fw n), .float .f64 (fw m)]).run P w = (Builtin.min2 (.float .f64 (fw n)) (.float .f64 (fw m))).run P w := by
    simp [Builtin.min_]
  rw [e]
  simp only [Builtin.min2, h]
  rcases Nat.lt_trichotomy n m with c | c | c
  · rw [Nat.compare_eq_lt.2 c, Nat.min_eq_left (by omega)]; rfl
  · subst c
    rw [Nat.compare_eq_eq.2 rfl, Nat.min_self]
    simp
  · rw [Nat.compare_eq_gt.2 c, Nat.min_eq_right (by omega)]; rfl
end TopFl
set_option linter.unusedVariables false
namespace Go.Proofs.YteccaekalcjihaaGreatDoor.PTn
open Go.RowKit Go.Lib Go.Proofs.YteccaekalcjihaaGreatDoorW.PrintWords TopFl
def nv (s : ByteArray) (base : Nat) : Nat → Nat → Nat → Option Nat
  | 0, _, _ => none
  | k + 1, i, n => if i < s.size then (match sign_Hex.f (bt s i) with | some d => if 0 ≤ d ∧ d < base then nv s base k (i + 1) (min (n * base + d.toNat) 1114112) else none | none => none) else some n
def number_Value.f (a0 : ByteArray) (a1 : Bool) : Option Int := if 0 < a0.size ∧ a0.size ≤ 1000000 then (nv a0 (if a1 then 16 else 10) (a0.size + 1) 0 0).map (fun (n : Nat) => (n : Int)) else none
theorem nv_step {s : ByteArray} {base k i n m : Nat} (h : nv s base (k + 1) i n = some m) (hi : i < s.size) : ∃ d : Nat, sign_Hex.f (bt s i) = some (d : Int) ∧ d < base ∧ nv s base k (i + 1) (min (n * base + d) 1114112) = some m := by
  simp only [nv] at h
  rw [if_pos hi] at h
  cases hd : sign_Hex.f (bt s i) with
  | none => rw [hd] at h; cases h
  | some d =>
    rw [hd] at h
    dsimp only at h
    split at h
    · rename_i c
      obtain ⟨c1, c2⟩ := c
      refine ⟨d.toNat, by rw [Int.toNat_of_nonneg c1], by omega, h⟩
    · cases h
theorem nv_end {s : ByteArray} {base k i n m : Nat} (h : nv s base (k + 1) i n = some m) (hi : ¬ i < s.size) : n = m := by
  simp only [nv] at h
  rw [if_neg hi] at h
  exact Option.some.inj h
theorem ord_fw (n m : Nat) (o : Ordering) (hn : n < 2 ^ 53) (hm : m < 2 ^ 53) (h : compare n m ≠ o) : (FloatKind.f64.format.order (fw n) (fw m) == some o) = false := by
  rw [f64_order n m hn hm]
  exact beq_eq_false_iff_ne.2 (fun e => h (Option.some.inj e))
theorem lss0 (d : Nat) (hd : d < 2 ^ 53) : (FloatKind.f64.format.order (fw d) 0 == some Ordering.lt) = false :=
  ord_fw d 0 .lt hd (by decide) (fun e => absurd (Nat.compare_eq_lt.1 e) (by omega))
theorem gtr16 (d : Nat) (hd : d < 16) : (FloatKind.f64.format.order (fw d) 4625196817309499392 == some Ordering.gt) = false :=
  ord_fw d 16 .gt (by omega) (by decide) (fun e => absurd (Nat.compare_eq_gt.1 e) (by omega))
theorem eq16 (d : Nat) (hd : d < 16) : (FloatKind.f64.format.order (fw d) 4625196817309499392 == some Ordering.eq) = false :=
  ord_fw d 16 .eq (by omega) (by decide) (fun e => absurd (Nat.compare_eq_eq.1 e) (by omega))
theorem eql0 (d : Nat) (h0 : 0 < d) (hd : d < 2 ^ 53) : (FloatKind.f64.format.order (fw d) 0 == some Ordering.eq) = false :=
  ord_fw d 0 .eq hd (by decide) (fun e => absurd (Nat.compare_eq_eq.1 e) (by omega))
theorem mul16 (w : World) (t : TypeId) (d : Nat) (hd : d ≤ 1114112) : (binOp .mul t (.float .f64 (fw d)) (.float .f64 4625196817309499392)).run Tryz.prog w = .ok (.float .f64 (fw (d * 16))) w :=
  run_mul_fw Tryz.prog w t d 16 (by omega) (by decide) (by omega)
theorem add1 (w : World) (t : TypeId) (d : Nat) (hd : d ≤ 1000000) : (binOp .add t (.float .f64 (fw d)) (.float .f64 4607182418800017408)).run Tryz.prog w = .ok (.float .f64 (fw (d + 1))) w :=
  run_add_fw Tryz.prog w t d 1 (by omega) (by decide) (by omega)
theorem minB (w : World) (ts : Array TypeId) (t : TypeId) (d : Nat) (hd : d < 2 ^ 53) : (Builtin.min_ ts t #[.float .f64 (fw d), .float .f64 4697535886324137984]).run Tryz.prog w = .ok (.float .f64 (fw (min d 1114112))) w :=
  run_min_fw Tryz.prog w ts t d 1114112 hd (by decide)
set_option maxHeartbeats 4000000 in
set_option maxRecDepth 100000 in
theorem number_Value.calls16 (a0 : ByteArray) (n : Nat) (w : World) (hs : 0 < a0.size) (hl : a0.size ≤ 1000000) (h : nv a0 16 (a0.size + 1) 0 0 = some n) :
    Calls Tryz.prog 161 #[.string a0, .bool true] w fun e w' => e = .returned (.int .i64 n) ∧ Drawn0 w w' := by
  have H := Aside0.mk h
  clear h
  have HS := Aside0.mk hs
  clear hs
  go_enter Tryz.func161, Tryz.ntmps161
  go_wp2
  go_loopg [6, 12] (a0.size + 1) (fun kq v6 v12 w' => ∃ i x : Nat, v6 = .complex .f64 (fw x) (fw i) ∧ v12 = .int .i64 i ∧ Aside0 (nv a0 16 kq i x = some n) ∧ Aside0 (i ≤ a0.size) ∧ Aside0 (x ≤ 1114112) ∧ Drawn0 w w')
  case atStart => exact ⟨0, 0, rfl, rfl, H, ⟨by omega⟩, ⟨by omega⟩, Drawn0.refl _⟩
  case round =>
    clear H
    obtain ⟨i, x, rfl, rfl, HR, HI, HX, HD⟩ := hrel
    cases gk with
    | zero => exact absurd HR.out (by simp [nv])
    | succ k1 =>
      by_cases hi : i < a0.size
      · obtain ⟨d, hd, hlt, hnext⟩ := nv_step HR.out hi
        have hb : bt a0 (i : Int) = ((a0[i]'hi).toNat : Int) := by simp [bt, hi]
        rw [hb] at hd
        have HH := Aside0.mk hd
        clear hb
        have HN := Aside0.mk hnext
        have HL := Aside0.mk hlt
        have c1 : decide ((i : Int) < (a0.size : Int)) = true := decide_eq_true (by omega)
        have hi0 : (0 : Int) ≤ (i : Int) := by omega
        have hi1 : (i : Int) < (a0.size : Int) := by omega
        have e1 : floatOfInt .f64 (d : Int) = fw d := nearest_int d (by omega)
        have e2 := lss0 d (by omega)
        have e3 := gtr16 d hlt
        have e8 := eq16 d hlt
        have e4 := fun w t => mul16 w t x HX.out
        have e5 := fun w t => run_add_fw Tryz.prog w t (x * 16) d (by have := HX.out; omega) (by omega) (by have := HX.out; omega)
        have e6 := fun w ts t => minB w ts t (x * 16 + d) (by have := HX.out; omega)
        have e7 := fun w t => add1 w t i (by omega)
        clear hd hnext hlt HR
        go_wp2_with (go_at_call 160; (with_reducible refine (sign_Hex.calls _ d _ HH.out).mono ?_); rintro e w' ⟨rfl, ⟨nd, rfl⟩⟩)
        go_roundg k1
        case measure => omega
        case rel => exact ⟨i + 1, min (x * 16 + d) 1114112, rfl, rfl, HN, ⟨by omega⟩, ⟨by omega⟩, (by repeat (first | exact HD | apply Drawn0.step))⟩
      · have c1 : decide ((i : Int) < (a0.size : Int)) = false := decide_eq_false (by omega)
        have hx := nv_end HR.out hi
        have hp : 0 < i := by have := HS.out; omega
        have e2 := eql0 i hp (by have := HI.out; omega)
        have e3 : floatToIntVal .f64 (fw x) .i64 = some (x : Int) := to_int_fw x (by have := HX.out; omega)
        subst hx
        have e4 := fun w' => run_convert_float_int (P := Tryz.prog) w' 156 3 .f64 .i64 (fw x) x (by kernel_rfl) (by kernel_rfl) e3
        clear HR
        go_wp2
        go_ret
        exact ⟨rfl, HD⟩
theorem gtr10 (d : Nat) (hd : d < 10) : (FloatKind.f64.format.order (fw d) 4621819117588971520 == some Ordering.gt) = false :=
  ord_fw d 10 .gt (by omega) (by decide) (fun e => absurd (Nat.compare_eq_gt.1 e) (by omega))
theorem eq10 (d : Nat) (hd : d < 10) : (FloatKind.f64.format.order (fw d) 4621819117588971520 == some Ordering.eq) = false :=
  ord_fw d 10 .eq (by omega) (by decide) (fun e => absurd (Nat.compare_eq_eq.1 e) (by omega))
theorem mul10 (w : World) (t : TypeId) (d : Nat) (hd : d ≤ 1114112) : (binOp .mul t (.float .f64 (fw d)) (.float .f64 4621819117588971520)).run Tryz.prog w = .ok (.float .f64 (fw (d * 10))) w :=
  run_mul_fw Tryz.prog w t d 10 (by omega) (by decide) (by omega)
set_option maxHeartbeats 4000000 in
set_option maxRecDepth 100000 in
theorem number_Value.calls10 (a0 : ByteArray) (n : Nat) (w : World) (hs : 0 < a0.size) (hl : a0.size ≤ 1000000) (h : nv a0 10 (a0.size + 1) 0 0 = some n) :
    Calls Tryz.prog 161 #[.string a0, .bool false] w fun e w' => e = .returned (.int .i64 n) ∧ Drawn0 w w' := by
  have H := Aside0.mk h
  clear h
  have HS := Aside0.mk hs
  clear hs
  go_enter Tryz.func161, Tryz.ntmps161
  go_wp2
  go_loopg [6, 12] (a0.size + 1) (fun kq v6 v12 w' => ∃ i x : Nat, v6 = .complex .f64 (fw x) (fw i) ∧ v12 = .int .i64 i ∧ Aside0 (nv a0 10 kq i x = some n) ∧ Aside0 (i ≤ a0.size) ∧ Aside0 (x ≤ 1114112) ∧ Drawn0 w w')
  case atStart => exact ⟨0, 0, rfl, rfl, H, ⟨by omega⟩, ⟨by omega⟩, Drawn0.refl _⟩
  case round =>
    clear H
    obtain ⟨i, x, rfl, rfl, HR, HI, HX, HD⟩ := hrel
    cases gk with
    | zero => exact absurd HR.out (by simp [nv])
    | succ k1 =>
      by_cases hi : i < a0.size
      · obtain ⟨d, hd, hlt, hnext⟩ := nv_step HR.out hi
        have hb : bt a0 (i : Int) = ((a0[i]'hi).toNat : Int) := by simp [bt, hi]
        rw [hb] at hd
        have HH := Aside0.mk hd
        clear hb
        have HN := Aside0.mk hnext
        have HL := Aside0.mk hlt
        have c1 : decide ((i : Int) < (a0.size : Int)) = true := decide_eq_true (by omega)
        have hi0 : (0 : Int) ≤ (i : Int) := by omega
        have hi1 : (i : Int) < (a0.size : Int) := by omega
        have e1 : floatOfInt .f64 (d : Int) = fw d := nearest_int d (by omega)
        have e2 := lss0 d (by omega)
        have e3 := gtr10 d hlt
        have e8 := eq10 d hlt
        have e4 := fun w t => mul10 w t x HX.out
        have e5 := fun w t => run_add_fw Tryz.prog w t (x * 10) d (by have := HX.out; omega) (by omega) (by have := HX.out; omega)
        have e6 := fun w ts t => minB w ts t (x * 10 + d) (by have := HX.out; omega)
        have e7 := fun w t => add1 w t i (by omega)
        clear hd hnext hlt HR
        go_wp2_with (go_at_call 160; (with_reducible refine (sign_Hex.calls _ d _ HH.out).mono ?_); rintro e w' ⟨rfl, ⟨nd, rfl⟩⟩)
        go_roundg k1
        case measure => omega
        case rel => exact ⟨i + 1, min (x * 10 + d) 1114112, rfl, rfl, HN, ⟨by omega⟩, ⟨by omega⟩, (by repeat (first | exact HD | apply Drawn0.step))⟩
      · have c1 : decide ((i : Int) < (a0.size : Int)) = false := decide_eq_false (by omega)
        have hx := nv_end HR.out hi
        have hp : 0 < i := by have := HS.out; omega
        have e2 := eql0 i hp (by have := HI.out; omega)
        have e3 : floatToIntVal .f64 (fw x) .i64 = some (x : Int) := to_int_fw x (by have := HX.out; omega)
        subst hx
        have e4 := fun w' => run_convert_float_int (P := Tryz.prog) w' 156 3 .f64 .i64 (fw x) x (by kernel_rfl) (by kernel_rfl) e3
        clear HR
        go_wp2
        go_ret
        exact ⟨rfl, HD⟩
theorem number_Value.calls (a0 : ByteArray) (a1 : Bool) (r : Int) (w : World) (h : number_Value.f a0 a1 = some r) :
    Calls Tryz.prog 161 #[.string a0, .bool a1] w fun e w' => e = .returned (.int .i64 r) ∧ Drawn0 w w' := by
  unfold number_Value.f at h
  split at h
  · rename_i c
    obtain ⟨n, hn, rfl⟩ := Option.map_eq_some_iff.1 h
    cases a1
    · exact number_Value.calls10 a0 n w c.1 c.2 (by simpa using hn)
    · exact number_Value.calls16 a0 n w c.1 c.2 (by simpa using hn)
  · cases h
end Go.Proofs.YteccaekalcjihaaGreatDoor.PTn
