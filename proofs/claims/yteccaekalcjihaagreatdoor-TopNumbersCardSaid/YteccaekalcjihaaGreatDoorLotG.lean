/- Several texts of this claim, laid together into one file. -/
import Derived.Test.YteccaekalcjihaaGreatDoorLotF
import Derived.RangeFuncNested
import Derived.RangeFuncBound
import Derived.RangeFuncCalls
import Derived.RangeFuncLeaves
import Derived.RangeFuncBox
import Derived.Shelf.Abstract
import Derived.Shelf.RegionOpen
import Derived.WalkKit
import Derived.OwnWalkIn
import Derived.TacticsInMore
import Derived.LoopNIn
import Derived.LoopIn
import Derived.Test.YteccaekalcjihaaGreatDoorLotD
import Derived.Test.YteccaekalcjihaaGreatDoorLotE
import Derived.Test.YteccaekalcjihaaGreatDoorLotB
import Derived.Test.YteccaekalcjihaaGreatDoorLotC
import Derived.Deep.LoopGhost
import Derived.StringKeys
set_option linter.unusedSimpArgs false
set_option linter.unusedVariables false
set_option linter.unusedVariables false
set_option linter.unusedSimpArgs false
namespace Go.Proofs.YteccaekalcjihaaGreatDoor.PTn
open Go.RowKit Go.Lib Go.Shelf Go.Proofs.YteccaekalcjihaaGreatDoor.Buf Go.Proofs.YteccaekalcjihaaGreatDoorW.PrintWords
attribute [local go_sem] Oper.semAt_some
def ix2 : List UInt8 → Nat → Int
  | [], _ => -1
  | b :: l, n => if b == 60 && l.head? == some 47 then (n : Int) else ix2 l (n + 1)
theorem ix2_eq : ∀ (l : List UInt8) (n : Nat), ix2 l n = if Lib.index l [60, 47] = -1 then -1 else Lib.index l [60, 47] + n
  | [], n => rfl
  | b :: l, n => by
    have ih := ix2_eq l (n + 1)
    have hge := Lib.index_ge l [60, 47]
    obtain ⟨x, hx⟩ : ∃ x, Lib.index (b :: l) [60, 47] = x := ⟨_, rfl⟩
    have e1 : Lib.index (b :: l) [60, 47] = (if (([60, 47] : List UInt8).isPrefixOf (b :: l)) = true then 0 else if (Lib.index l [60, 47] == -1) = true then -1 else Lib.index l [60, 47] + 1) := rfl
    have e2 : (([60, 47] : List UInt8).isPrefixOf (b :: l)) = (b == 60 && l.head? == some 47) := by
      cases l with
      | nil => simp [List.isPrefixOf]
      | cons c l =>
        have e60 : ((60 : UInt8) == b) = (b == 60) := by
          rw [Bool.eq_iff_iff, beq_iff_eq, beq_iff_eq]
          exact ⟨fun e => e.symm, fun e => e.symm⟩
        have e47 : ((47 : UInt8) == c) = (some c == some 47) := by
          rw [Bool.eq_iff_iff, beq_iff_eq, beq_iff_eq]
          exact ⟨fun e => by rw [e], fun e => (Option.some.inj e).symm⟩
        simp only [List.isPrefixOf, List.head?_cons, Bool.and_true, e60, e47]
    rw [hx]
    rw [e1, e2] at hx
    simp only [ix2]
    by_cases h : (b == 60 && l.head? == some 47) = true
    · rw [if_pos h] at hx ⊢
      subst hx
      rw [if_neg (by decide)]
      omega
    · rw [if_neg h] at hx ⊢
      rw [ih]
      by_cases h1 : Lib.index l [60, 47] = -1
      · rw [if_pos (by simpa using h1)] at hx
        subst hx
        simp [h1]
      · rw [if_neg (by simpa using h1)] at hx
        subst hx
        rw [if_neg h1, if_neg (by omega)]
        omega
theorem ix2_0 (l : List UInt8) : ix2 l 0 = Lib.index l [60, 47] := by
  rw [ix2_eq]
  split <;> simp_all
def placesL (s : ByteArray) : Nat → Nat → List Nat
  | 0, _ => []
  | k + 1, i => if i < s.size then (if ix2 (s.extract i s.size).data.toList 0 < 0 then [] else (i + (ix2 (s.extract i s.size).data.toList 0).toNat) :: placesL s k (i + (ix2 (s.extract i s.size).data.toList 0).toNat + 1)) else []
theorem places_none {s : ByteArray} {k i : Nat} (h : ¬ i < s.size) : placesL s k i = [] := by
  cases k with
  | zero => rfl
  | succ k => simp [placesL, h]
theorem places_end {s : ByteArray} {k i : Nat} (h : ix2 (s.extract i s.size).data.toList 0 < 0) : placesL s k i = [] := by
  cases k with
  | zero => rfl
  | succ k =>
    simp only [placesL]
    rw [if_pos h]
    exact ite_self _
theorem places_some {s : ByteArray} {k i m : Nat} (h : i < s.size) (h2 : ix2 (s.extract i s.size).data.toList 0 = (m : Int)) : placesL s (k + 1) i = (i + m) :: placesL s k (i + m + 1) := by
  simp only [placesL]
  rw [if_pos h, h2, if_neg (by omega)]
  simp
theorem index_lt (l : List UInt8) (n : Nat) (m : Int) (h : ix2 l n = m) (h0 : 0 ≤ m) : m < n + l.length := by
  induction l generalizing n with
  | nil => simp [ix2] at h; omega
  | cons b l ih =>
    simp only [ix2] at h
    split at h
    · simp; omega
    · have := ih (n + 1) h
      simp; omega
def plV (L : List Nat) (x : Nat) : Value := .int .i64 (((L[x]?).getD 0 : Nat) : Int)
set_option maxRecDepth 100000 in
set_option maxHeartbeats 4000000 in
theorem pl1_in (n : Nat) (hn : 1 ≤ n) (r Bs Ba n₀ : Nat) (s : ByteArray) (at0 : Nat) (L : List Nat) (hL : L = placesL s (s.size + 1) at0) (hl : s.size ≤ 1000000000) (hs : Bs < n₀) (ha : Ba < n₀) (hn₀ : 3 < n₀) (hat : at0 ≤ s.size) (J Jx : List Nat → World → Prop)
    (hY : ∀ pre x W, J pre W → pre.length < L.length → YieldAt Fence.wide (n - 1) Tryz.prog r #[plV L x] W fun e W' =>
      (e = .returned (.bool true) ∧ J (pre ++ [x]) W' ∧ Below n₀ W W') ∨ (e = .returned (.bool false) ∧ Jx (pre ++ [x]) W'))
    (W : World) (hG : GW W) (hBs : W.cell? ⟨Bs, 0, none⟩ = some (.string s)) (hBa : W.cell? ⟨Ba, 0, none⟩ = some (.int .i64 (at0 : Int))) (h0 : J [] W) :
    CallsIn Fence.wide n Tryz.prog 195 #[.func (.yield r) #[] #[], .pointer (some ⟨Ba, 0, none⟩), .pointer (some ⟨Bs, 0, none⟩)] W fun e W' => (∃ v, e = .returned v) ∧
      ((∃ ys, ys = List.range L.length ∧ J ys W') ∨ (∃ pre, (∃ k, k ≤ L.length ∧ pre = List.range k) ∧ Jx pre W')) := by
  refine callsIn_of_wp Tryz.func195 rfl trivial ?_ rfl
  simp only [Tryz.ntmps195, List.size_toArray, List.length_cons, List.length_nil, Nat.reduceAdd, Nat.reduceSub, Array.replicate_succ, Array.replicate_zero, List.push_toArray, List.append_toArray, List.nil_append, List.cons_append]
  gi_wp2
  have HN0 := Aside0.mk (show 0 < n₀ by omega)
  gi_loopw [4] (fun i wr => ∃ (k fu j : Nat), i = .int .i64 j ∧ Aside0 (k ≤ L.length) ∧ Aside0 (L.drop k = placesL s fu j) ∧ Aside0 (s.size < j + fu) ∧ Aside0 (j ≤ s.size + 1) ∧ Aside0 (J (List.range k) wr) ∧ Aside0 (Below n₀ W wr))
    (fun i _ => (s.size + 2 - (RowKit.intOf i).toNat))
  case atStart => exact ⟨0, s.size + 1, at0, rfl, ⟨Nat.zero_le _⟩, ⟨by rw [List.drop_zero, hL]⟩, ⟨by omega⟩, ⟨by omega⟩, ⟨h0⟩, ⟨Below.refl _ _⟩⟩
  case round =>
    obtain ⟨k, fu, j, rfl, HK, HD, HF, HJ2, HJ, HB⟩ := hrel
    have cs := (HB.out.cell (p := ⟨Bs, 0, none⟩) hs).trans hBs
    by_cases hj : j < s.size
    · have c1 : decide ((j : Int) < (s.size : Int)) = true := decide_eq_true (by omega)
      have c2 : decide (j < s.size) = true := decide_eq_true hj
      obtain ⟨m, hm⟩ : ∃ m, ix2 (s.extract j s.size).data.toList 0 = m := ⟨_, rfl⟩
      have i1 : (j : Int) ≤ (s.size : Int) := by omega
      have GWr : GW wr := ⟨(by obtain ⟨m', h'⟩ := hG.m; exact ⟨m', (HB.out.cell (p := ⟨_, 0, none⟩) HN0.out).trans h'⟩), (by obtain ⟨t', v', h'⟩ := hG.e; exact ⟨t', v', (HB.out.cell (p := ⟨_, 0, none⟩) hn₀).trans h'⟩)⟩
      obtain ⟨mx, hmx⟩ := GWr.m
      have HMX := Aside0.mk hmx
      have HM := Aside0.mk hm
      have HX := Aside0.mk (show (s.extract j s.size).size < 4294967281 by rw [ByteArray.size_extract]; omega)
      clear hmx hm GWr
      by_cases h0m : m < 0
      · have d1 : decide (m < 0) = true := decide_eq_true h0m
        have HE := Aside0.mk (show k = L.length by
          have := HD.out
          rw [places_end (by rw [HM.out]; exact h0m)] at this
          have hz := congrArg List.length this
          rw [List.length_drop] at hz
          have := HK.out
          simp at hz
          omega)
        clear h0m
        gi_wp2_with (refine ⟨trivial, ?_⟩; gi_at_call 186; refine (callsIn_wide.2 (Tryz.strings_Index (s.extract j s.size) ⟨#[60, 47]⟩ mx wr HX.out HMX.out)).mono ?_; rw [← ix2_0, HM.out]; rintro e w2 ⟨rfl, rfl⟩)
        refine bodyPost_ret (results_none rfl _ _ _) rfl ?_
        exact ⟨⟨_, rfl⟩, .inl ⟨_, rfl, by rw [← HE.out]; exact HJ.out⟩⟩
      · obtain ⟨q, rfl⟩ : ∃ q : Nat, m = (q : Int) := ⟨m.toNat, by omega⟩
        have d1 : decide ((q : Int) < 0) = false := decide_eq_false (by omega)
        obtain ⟨fu1, rfl⟩ : ∃ g, fu = g + 1 := ⟨fu - 1, by have := HF.out; omega⟩
        have hd := HD.out
        rw [places_some hj HM.out] at hd
        have hlt : k < L.length := by
          have hz := congrArg List.length hd
          rw [List.length_drop] at hz
          simp at hz
          omega
        have hv : plV L k = .int .i64 ((j : Int) + (q : Int)) := by
          have h1 : L[k]? = some (j + q) := by
            have : L[k]? = (L.drop k)[0]? := by simp
            rw [this, hd]; rfl
          unfold plV
          rw [h1]
          rfl
        have hd2 := Aside0.mk (show L.drop (k + 1) = placesL s fu1 (j + q + 1) by
          have : L.drop (k + 1) = (L.drop k).drop 1 := by rw [List.drop_drop]
          rw [this, hd]; rfl)
        have hq : q < s.size - j := by
          have := index_lt _ 0 _ HM.out (by omega)
          rw [Array.length_toList] at this
          have hz : (s.extract j s.size).data.size = s.size - j := by
            have : (s.extract j s.size).data.size = (s.extract j s.size).size := rfl
            rw [this, ByteArray.size_extract]; omega
          omega
        have b1 : (j : Int) ≤ 1000000000 := by omega
        have b2 : (j : Int) + (q : Int) ≤ 1000000000 := by omega
        have HQ := Aside0.mk hq
        have HJQ := Aside0.mk hj
        obtain ⟨fn, tmps, assign, body, hy, hR⟩ := hY _ k wr HJ.out (by rw [List.length_range]; exact hlt)
        rw [hv] at hy
        have HLT := Aside0.mk hlt
        clear hd hlt hv hq hj h0m HD
        gi_wp2_with (refine ⟨trivial, ?_⟩; gi_at_call 186; refine (callsIn_wide.2 (Tryz.strings_Index (s.extract j s.size) ⟨#[60, 47]⟩ mx wr HX.out HMX.out)).mono ?_; rw [← ix2_0, HM.out]; rintro e w2 ⟨rfl, rfl⟩)
        refine hR.mono ?_
        rintro e W3 (⟨rfl, hJ3, hk3⟩ | ⟨rfl, hJx3⟩)
        · have HB3 := Aside0.mk (HB.out.trans hk3)
          have HJ3 := Aside0.mk hJ3
          clear hJ3 hk3 hy hR
          gi_wp2
          go_roundw
          case rel => exact ⟨k + 1, fu1, j + q + 1, rfl, ⟨by have := HLT.out; omega⟩, hd2, ⟨by have := HF.out; omega⟩, ⟨by have := HQ.out; omega⟩, ⟨by rw [List.range_succ]; exact HJ3.out⟩, HB3⟩
          case measure =>
            have h1 := HQ.out
            have h2 := HJQ.out
            simp [RowKit.intOf]
            omega
        · gi_wp2
          refine bodyPost_ret (results_none rfl _ _ _) rfl ?_
          exact ⟨⟨_, rfl⟩, .inr ⟨_, ⟨k + 1, by have := HLT.out; omega, by rw [List.range_succ]⟩, hJx3⟩⟩
    · have c1 : decide ((j : Int) < (s.size : Int)) = false := decide_eq_false (by omega)
      have c2 : decide (j < s.size) = false := decide_eq_false hj
      have HE := Aside0.mk (show k = L.length by
        have := HD.out
        rw [places_none hj] at this
        have hz := congrArg List.length this
        rw [List.length_drop] at hz
        have := HK.out
        simp at hz
        omega)
      clear hj
      gi_wp2
      go_end0
      exact ⟨⟨_, rfl⟩, .inl ⟨_, rfl, by rw [← HE.out]; exact HJ.out⟩⟩
set_option maxHeartbeats 1000000 in
theorem pl_in (n : Nat) (s : ByteArray) (i : Int) (w : World) :
    CallsIn Fence.wide n Tryz.prog 174 #[.string s, .int .i64 i] w fun e w' => e = .returned (.func (.func 195) #[] #[.pointer (some ⟨w.heap.size + 1, 0, none⟩), .pointer (some ⟨w.heap.size, 0, none⟩)]) ∧ w' = (w.alloc (.cells #[.string s] 9)).alloc (.cells #[.int .i64 i] 3) := by
  refine callsIn_of_wp Tryz.func174 rfl trivial ?_ rfl
  simp only [Tryz.ntmps174, List.size_toArray, List.length_cons, List.length_nil, Nat.reduceAdd, Nat.reduceSub, Array.replicate_succ, Array.replicate_zero, List.push_toArray, List.append_toArray, List.nil_append, List.cons_append]
  gi_wp2
  go_ret
  exact ⟨rfl, rfl⟩
theorem pl_stops (n : Nat) (hn : 1 ≤ n) (Bs Ba n₀ : Nat) (s : ByteArray) (at0 : Nat) (L : List Nat) (hL : L = placesL s (s.size + 1) at0) (hl : s.size ≤ 1000000000) (hs : Bs < n₀) (ha : Ba < n₀) (hn₀ : 3 < n₀) (hat : at0 ≤ s.size) (w : World) (hw : n₀ ≤ w.heap.size) (hG : GW w) (hBs : w.cell? ⟨Bs, 0, none⟩ = some (.string s)) (hBa : w.cell? ⟨Ba, 0, none⟩ = some (.int .i64 (at0 : Int))) :
    SeqStopsK Fence.wide n Tryz.prog 195 #[.pointer (some ⟨Ba, 0, none⟩), .pointer (some ⟨Bs, 0, none⟩)] (fun x : Nat => #[plV L x]) (Below n₀) (fun ys => ys = List.range L.length)
      (fun pre => ∃ k, k ≤ L.length ∧ pre = List.range k) L.length w := fun r J Jx W hW _ _ hY h0 =>
  pl1_in n hn r Bs Ba n₀ s at0 L hL hl hs ha hn₀ hat J Jx hY W (hG.at hW) (((hW.mono hw).cell (p := ⟨Bs, 0, none⟩) hs).trans hBs) (((hW.mono hw).cell (p := ⟨Ba, 0, none⟩) ha).trans hBa) h0
def rawGo (s name : ByteArray) : List Nat → Option Nat
  | [] => some s.size
  | x :: t => (raw_Ends.f 10 s (x : Int) name).bind fun b => if b = true then some x else rawGo s name t
def allEnds (s name : ByteArray) (L : List Nat) : Bool := (raw_Ends.f 10 s 0 name).isSome && L.all fun x => (raw_Ends.f 10 s (x : Int) name).isSome
theorem allEnds_at {s name : ByteArray} {L : List Nat} (h : allEnds s name L = true) (x : Nat) : ∃ b, raw_Ends.f 10 s (((L[x]?).getD 0 : Nat) : Int) name = some b := by
  unfold allEnds at h
  rw [Bool.and_eq_true, List.all_eq_true] at h
  cases hx : L[x]? with
  | none => exact Option.isSome_iff_exists.1 h.1
  | some q => exact Option.isSome_iff_exists.1 (h.2 q (List.mem_of_getElem? hx))
def raw_Find.f (s : ByteArray) (i : Int) (name : ByteArray) : Option Int := if 0 ≤ i ∧ i ≤ (s.size : Int) ∧ s.size ≤ 1000000000 ∧ allEnds s name (placesL s (s.size + 1) i.toNat) = true then (rawGo s name (placesL s (s.size + 1) i.toNat)).map fun (r : Nat) => (r : Int) else none
theorem rawGo_at {s name : ByteArray} : ∀ {L : List Nat} {r : Nat}, rawGo s name L = some r → (r = s.size ∧ ∀ x, x < L.length → raw_Ends.f 10 s (((L[x]?).getD 0 : Nat) : Int) name = some false) ∨ (∃ k, k < L.length ∧ (L[k]?).getD 0 = r ∧ raw_Ends.f 10 s (((L[k]?).getD 0 : Nat) : Int) name = some true ∧ ∀ x, x < k → raw_Ends.f 10 s (((L[x]?).getD 0 : Nat) : Int) name = some false)
  | [], r, h => .inl ⟨(Option.some.inj h).symm, fun x hx => absurd hx (by simp)⟩
  | y :: L, r, h => by
    obtain ⟨b, hb, h⟩ := Option.bind_eq_some_iff.1 h
    cases b with
    | true =>
      rw [if_pos rfl] at h
      exact .inr ⟨0, by simp, by simpa using h, by simpa using hb, fun x hx => absurd hx (by omega)⟩
    | false =>
      rw [if_neg (by simp)] at h
      rcases rawGo_at h with ⟨h1, h2⟩ | ⟨k, h1, h2, h3, h4⟩
      · refine .inl ⟨h1, fun x hx => ?_⟩
        cases x with
        | zero => simpa using hb
        | succ x => simpa using h2 x (by simpa using hx)
      · refine .inr ⟨k + 1, by simpa using h1, by simpa using h2, by simpa using h3, fun x hx => ?_⟩
        cases x with
        | zero => simpa using hb
        | succ x => simpa using h4 x (by omega)
theorem results_cell1 {P : Program} {fn : Func} {p : Tmp} {ty : TypeId} (h : fn.results = #[.cell p ty]) (tmps : Array Value) (w : World) (a : Addr) (v : Value)
    (hp : tmps.getD p undef = .pointer (some a)) (hagg : ∀ W, (isAgg ty).run P W = .ok false W) (hc : w.cell? a = some v) : (results fn tmps).run P w = .ok v w := by
  have hp' : tmps[p]?.getD undef = .pointer (some a) := by simpa using hp
  simp [results, h, hp', asAddr, loadVar, hagg, hc]
theorem below_setCellF {n₀ : Nat} {A B : World} (h : Below n₀ A B) (q : Addr) (hq : q.block < n₀) (v : Value) : Below n₀ (A.setCell q v) (B.setCell q v) := by
  refine ⟨h.os, h.tape, h.output, by simpa [World.setCell] using h.size, fun k hk => ?_⟩
  have := h.block k hk
  simp only [World.setCell, Array.getElem?_modify, this]
theorem keeps_below {B : Nat} {W W' : World} (h : Below W.heap.size W W') : KeepsFrom B W W' := ⟨h.size, fun k o _ hk _ => (h.block k (Array.getElem?_eq_some_iff.1 hk).1).trans hk⟩
def wFind (w : World) (s name : ByteArray) (i : Int) : World := (((((w.alloc (.cells #[.string s] 9)).alloc (.cells #[.string name] 9)).alloc (.cells #[.int .i64 0] 3)).alloc (.cells #[.string s] 9)).alloc (.cells #[.int .i64 i] 3))
structure FAt (w w1 : World) (s name : ByteArray) (i : Int) : Prop where
  below : Below w.heap.size w w1
  size : w1.heap.size = w.heap.size + 5
  c0 : w1.cell? ⟨w.heap.size, 0, none⟩ = some (.string s)
  c1 : w1.cell? ⟨w.heap.size + 1, 0, none⟩ = some (.string name)
  c2 : w1.heap[w.heap.size + 2]? = some (.cells #[.int .i64 0] 3 (0, 0))
  c3 : w1.cell? ⟨w.heap.size + 3, 0, none⟩ = some (.string s)
  c4 : w1.cell? ⟨w.heap.size + 4, 0, none⟩ = some (.int .i64 i)
theorem fat (w : World) (s name : ByteArray) (i : Int) : FAt w (wFind w s name i) s name i := by
  unfold wFind
  have e0 := heap_alloc_new w (.cells #[.string s] 9)
  have e1 := heap_alloc_new (w.alloc (.cells #[.string s] 9)) (.cells #[.string name] 9)
  have e2 := heap_alloc_new ((w.alloc (.cells #[.string s] 9)).alloc (.cells #[.string name] 9)) (.cells #[.int .i64 0] 3)
  have e3 := heap_alloc_new (((w.alloc (.cells #[.string s] 9)).alloc (.cells #[.string name] 9)).alloc (.cells #[.int .i64 0] 3)) (.cells #[.string s] 9)
  have e4 := heap_alloc_new ((((w.alloc (.cells #[.string s] 9)).alloc (.cells #[.string name] 9)).alloc (.cells #[.int .i64 0] 3)).alloc (.cells #[.string s] 9)) (.cells #[.int .i64 i] 3)
  simp only [World.size_alloc] at e1 e2 e3 e4
  refine ⟨((((((Below.refl _ w).alloc (Nat.le_refl _) _).alloc (by simp) _).alloc (by simp <;> omega) _).alloc (by simp <;> omega) _).alloc (by simp <;> omega) _), by simp, ?_, ?_, ?_, ?_, ?_⟩
  · rw [Lib.cell_of_heap ((Lib.alloc_old _ _ _ (by simp <;> omega)).trans ((Lib.alloc_old _ _ _ (by simp <;> omega)).trans ((Lib.alloc_old _ _ _ (by simp <;> omega)).trans ((Lib.alloc_old _ _ _ (by simp)).trans e0))))]; rfl
  · rw [Lib.cell_of_heap ((Lib.alloc_old _ _ _ (by simp <;> omega)).trans ((Lib.alloc_old _ _ _ (by simp <;> omega)).trans ((Lib.alloc_old _ _ _ (by simp)).trans e1)))]; rfl
  · exact (Lib.alloc_old _ _ _ (by simp <;> omega)).trans ((Lib.alloc_old _ _ _ (by simp)).trans e2)
  · rw [Lib.cell_of_heap ((Lib.alloc_old _ _ _ (by simp)).trans e3)]; rfl
  · rw [Lib.cell_of_heap e4]; rfl
set_option maxHeartbeats 8000000 in
set_option maxRecDepth 100000 in
theorem find_at (s name : ByteArray) (i : Nat) (r : Nat) (w : World) (hG : GW w) (hi : i ≤ s.size) (hl : s.size ≤ 1000000000) (ha : allEnds s name (placesL s (s.size + 1) i) = true) (h : rawGo s name (placesL s (s.size + 1) i) = some r) :
    Calls Tryz.prog 133 #[.string s, .int .i64 (i : Int), .string name] w fun e w' => e = .returned (.int .i64 (r : Int)) ∧ Below w.heap.size w w' := by
  have hF := fat w s name (i : Int)
  obtain ⟨w1, hw1⟩ : ∃ w1, wFind w s name (i : Int) = w1 := ⟨_, rfl⟩
  rw [hw1] at hF
  unfold wFind at hw1
  have hlt : 3 < w.heap.size := by
    obtain ⟨t', v', h'⟩ := hG.e
    exact gw_lt h'
  obtain ⟨L, hL⟩ : ∃ L, placesL s (s.size + 1) i = L := ⟨_, rfl⟩
  rw [hL] at h ha
  have HA := Aside0.mk ha
  have HF := Aside0.mk hF
  have HG := Aside0.mk (hG.at hF.below)
  have HL := Aside0.mk hL
  have HR := Aside0.mk (rawGo_at h)
  have HLT := Aside0.mk hlt
  have m1 : max (i : Int) 0 = (i : Int) := by omega
  have m2 : min (i : Int) (s.size : Int) = (i : Int) := by omega
  clear hF hL h hlt ha
  refine (callsIn_wide (n := 4)).1 ?_
  refine callsIn_of_wp_marks Tryz.func133 rfl trivial ?_ rfl
  simp only [Tryz.ntmps133, List.size_toArray, List.length_cons, List.length_nil, Nat.reduceAdd, Nat.reduceSub, Array.replicate_succ, Array.replicate_zero, List.push_toArray, List.append_toArray, List.nil_append, List.cons_append]
  gi_wp2_with (refine ⟨trivial, ?_⟩; gi_at_call 174; refine (pl_in (4 - 1) _ _ _).mono ?_; rintro e w' ⟨rfl, rfl⟩)
  refine wpIn_rangeFunc_ownG rfl (by decide) (gf := 195) (lb := #[.pointer (some ⟨w.heap.size + 1 + 1 + 1 + 1, 0, none⟩), .pointer (some ⟨w.heap.size + 1 + 1 + 1, 0, none⟩)]) rfl trivial (enters_of Tryz.func195 (by kernel_rfl) rfl)
    (pl_stops (4 - 1) (by decide) (w.heap.size + 1 + 1 + 1) (w.heap.size + 1 + 1 + 1 + 1) w1.heap.size s i L HL.out.symm hl (by rw [HF.out.size]; omega) (by rw [HF.out.size]; omega) (by rw [HF.out.size]; have := HLT.out; omega) hi w1 (Nat.le_refl _) HG.out HF.out.c3 HF.out.c4) belowK_t (belowK_b (Nat.le_refl _)) (Below.refl _ _) (fun _ => rfl)
    (fun pre W => (∀ x ∈ pre, raw_Ends.f 10 s (((L[x]?).getD 0 : Nat) : Int) name = some false) ∧ Below w1.heap.size w1 W)
    (fun c pre W => c = .ret ∧ ∃ ini last, pre = ini ++ [last] ∧ (∀ x ∈ ini, raw_Ends.f 10 s (((L[x]?).getD 0 : Nat) : Int) name = some false) ∧ raw_Ends.f 10 s (((L[last]?).getD 0 : Nat) : Int) name = some true ∧ Below w1.heap.size (w1.setCell ⟨w.heap.size + 1 + 1, 0, none⟩ (plV L last)) W)
    (OwnFrom.and (fun _ _ _ _ hs _ _ => hs) (ownFrom_below (Nat.le_refl _) (Nat.le_refl _)))
    (fun c s0 X Y row hs hg hr => by
      obtain ⟨hc, ini, last, e1, e2, e3, e4⟩ := hs
      exact ⟨hc, ini, last, e1, e2, e3, e4.grown hg (by have := e4.size; simpa [World.setCell] using this) (fun k e => (hr k e).1)⟩)
    ⟨by simp, Below.refl _ _⟩
    (fun x => { tmps := #[.string s, .int .i64 (i : Int), .string name, .pointer (some ⟨w.heap.size, 0, none⟩), undef, .pointer (some ⟨w.heap.size + 1, 0, none⟩), .pointer (some ⟨w.heap.size + 1 + 1, 0, none⟩), plV L x, .string s, .int .i64 (i : Int), .int .i64 (i : Int), .string s, .int .i64 (s.size : Int), .int .i64 (i : Int), .func (.func 195) #[] #[.pointer (some ⟨w.heap.size + 1 + 1 + 1 + 1, 0, none⟩), .pointer (some ⟨w.heap.size + 1 + 1 + 1, 0, none⟩)], plV L x, undef, undef, undef, undef, undef, undef, undef], defers := [] }) ?assign ?body ?done ?stop
  case assign =>
    intro r x W K hK
    gi_wp2
    exact hK
  case body =>
    rintro r pre x W ⟨hpre, hB⟩ hlen
    have hsz := HF.out.size
    have b0 := (hB.cell (p := ⟨w.heap.size, 0, none⟩) (by show w.heap.size < _; omega)).trans HF.out.c0
    have b1 := (hB.cell (p := ⟨w.heap.size + 1, 0, none⟩) (by show w.heap.size + 1 < _; omega)).trans HF.out.c1
    have HB := Aside0.mk hB
    have HQ := Aside0.mk hpre
    clear hB hpre hsz
    have hv : plV L x = .int .i64 (((L[x]?).getD 0 : Nat) : Int) := rfl
    rw [hv]
    obtain ⟨q, hq⟩ : ∃ q, (L[x]?).getD 0 = q := ⟨_, rfl⟩
    rw [hq]
    rw [hq] at hv
    have HV := Aside0.mk hv
    have HQQ := Aside0.mk hq
    obtain ⟨b, hb⟩ := allEnds_at HA.out x
    rw [hq] at hb
    have HE := Aside0.mk hb
    clear hv hq hb
    cases b with
    | false =>
      gi_wp2_with (refine ⟨trivial, ?_⟩; gi_at_call 175; refine (callsIn_wide.2 (raw_Ends.calls 10 s (q : Int) name false _ HE.out)).mono ?_; rintro e w4 ⟨rfl, hb4⟩; have HB4 := Aside0.mk hb4; clear hb4)
      exact ⟨keeps_below HB4.out, HB4.out.mono HB.out.size, fun z hz => (List.mem_append.1 hz).elim (HQ.out z) (fun e => by simp at e; subst e; rw [HQQ.out]; exact HE.out), HB.out.trans (HB4.out.mono HB.out.size)⟩
    | true =>
      have hlt6 : w.heap.size + 1 + 1 < W.heap.size := by have := HB.out.size; have := HF.out.size; omega
      have c2 : ∀ W', Below W.heap.size W W' → W'.cell? ⟨w.heap.size + 1 + 1, 0, none⟩ = some (.int .i64 0) ∧ W'.frozen? ⟨w.heap.size + 1 + 1, 0, none⟩ = false := fun W' hb => by
        have hh := (hb.block (w.heap.size + 1 + 1) hlt6).trans ((HB.out.block (w.heap.size + 1 + 1) (by have := HF.out.size; omega)).trans HF.out.c2)
        exact ⟨by rw [Lib.cell_of_heap hh]; rfl, Lib.frozen_of_heap hh 0⟩
      have HC2 := Aside0.mk c2
      clear c2 hlt6
      gi_wp2_with (refine ⟨trivial, ?_⟩; gi_at_call 175; refine (callsIn_wide.2 (raw_Ends.calls 10 s (q : Int) name true _ HE.out)).mono ?_; rintro e w4 ⟨rfl, hb4⟩; have HB4 := Aside0.mk hb4; obtain ⟨k1, k2⟩ := HC2.out _ hb4; clear hb4)
      refine ⟨(keeps_below HB4.out).trans (KeepsOthers.from (KeepsOthers.setCell _ _ _) _), rfl, pre, x, rfl, HQ.out, by rw [HQQ.out]; exact HE.out, ?_⟩
      rw [HV.out]
      exact below_setCellF (HB.out.trans (HB4.out.mono HB.out.size)) _ (by show w.heap.size + 1 + 1 < w1.heap.size; have := HF.out.size; omega) _
  case done =>
    rintro D ys W hD rfl ⟨hne, hB⟩ hK
    have hr : r = s.size := by
      rcases HR.out with ⟨h1, _⟩ | ⟨k, h1, h2, h3, h4⟩
      · exact h1
      · have := hne k (List.mem_range.2 h1)
        rw [this] at h3
        cases h3
    subst hr
    have hsz := HF.out.size
    have b0 := (hB.cell (p := ⟨w.heap.size, 0, none⟩) (by show w.heap.size < _; omega)).trans HF.out.c0
    have hh := (hB.block (w.heap.size + 1 + 1) (by omega)).trans HF.out.c2
    have k1 : W.cell? ⟨w.heap.size + 1 + 1, 0, none⟩ = some (.int .i64 0) := by rw [Lib.cell_of_heap hh]; rfl
    have k2 : W.frozen? ⟨w.heap.size + 1 + 1, 0, none⟩ = false := Lib.frozen_of_heap hh 0
    have hD2 : (W.setCell ⟨w.heap.size + 1 + 1, 0, none⟩ (.int .i64 (s.size : Int))).heap[D]? = some (.deferred (some [])) := (Below.heap_setCell _ _ _ _ (by show D ≠ w.heap.size + 1 + 1; omega)).trans hK
    have hO : (W.setCell ⟨w.heap.size + 1 + 1, 0, none⟩ (.int .i64 (s.size : Int))).heap[w.heap.size + 1 + 1]? = some (.cells #[.int .i64 (s.size : Int)] 3 (0, 0)) := heap_setCell_self hh (j := 0) _
    have HB := Aside0.mk hB
    have HD2 := Aside0.mk hD2
    have HO := Aside0.mk hO
    clear hne hB hh hD2 hO hsz
    gi_wp2
    refine ⟨by simp, .inl ⟨_, _, rfl, run_takeDeferred HD2.out, ?_⟩⟩
    have hP := belowK_b (w := w1) (Nat.le_refl _) (W.setCell ⟨w.heap.size + 1 + 1, 0, none⟩ (.int .i64 (s.size : Int))) D _ (.deferred none) hD HD2.out rfl rfl
    have hO2 := (hP.block (w.heap.size + 1 + 1) (by have := HF.out.size; omega)).trans HO.out
    exact ⟨_, results_cell1 rfl _ _ ⟨w.heap.size + 1 + 1, 0, none⟩ _ rfl (fun W' => by kernel_rfl) (by rw [Lib.cell_of_heap hO2]; rfl), rfl, ((HF.out.below.trans (HB.out.mono HF.out.below.size)).setCell (by show w.heap.size ≤ w.heap.size + 1 + 1; omega) _).trans (hP.mono HF.out.below.size)⟩
  case stop =>
    rintro D c0 pre W hD ⟨k0, hk0, rfl⟩ ⟨rfl, ini, last, e1, e2, e3, hB⟩ hK
    gi_wp2
    refine ⟨by simp, .inl ⟨_, _, rfl, run_takeDeferred hK, ?_⟩⟩
    have hP := belowK_b (w := w1) (Nat.le_refl _) W D _ (.deferred none) hD hK rfl rfl
    have hO := (hB.block (w.heap.size + 1 + 1) (by have := HF.out.size; omega)).trans (heap_setCell_self HF.out.c2 (j := 0) (plV L last))
    have hO2 := (hP.block (w.heap.size + 1 + 1) (by have := HF.out.size; omega)).trans hO
    have hki : k0 = ini.length + 1 := by have := congrArg List.length e1; simpa using this
    rw [hki, List.range_succ] at e1
    obtain ⟨h5, h6⟩ := List.append_inj' e1 rfl
    have hlast : ini.length = last := by simpa using h6
    have hr : (L[last]?).getD 0 = r := by
      rcases HR.out with ⟨_, h2⟩ | ⟨k, h1, h2, h3, h4⟩
      · have := h2 last (by omega)
        rw [this] at e3
        cases e3
      · rcases Nat.lt_trichotomy last k with hlt | heq | hgt
        · rw [h4 last hlt] at e3
          cases e3
        · rw [heq]; exact h2
        · have := e2 k (by rw [← h5, List.mem_range]; omega)
          rw [this] at h3
          cases h3
    have hv : plV L last = .int .i64 (r : Int) := by unfold plV; rw [hr]
    rw [hv] at hO hO2 hB
    exact ⟨_, results_cell1 rfl _ _ ⟨w.heap.size + 1 + 1, 0, none⟩ _ rfl (fun W' => by kernel_rfl) (by rw [Lib.cell_of_heap hO2]; rfl), rfl, (HF.out.below.setCell (by show w.heap.size ≤ w.heap.size + 1 + 1; omega) _).trans ((hB.trans hP).mono HF.out.below.size)⟩
theorem raw_Find.calls (s : ByteArray) (i : Int) (name : ByteArray) (r : Int) (w : World) (hG : GW w) (h : raw_Find.f s i name = some r) :
    Calls Tryz.prog 133 #[.string s, .int .i64 i, .string name] w fun e w' => e = .returned (.int .i64 r) ∧ Below w.heap.size w w' := by
  unfold raw_Find.f at h
  split at h
  · rename_i hc
    obtain ⟨q, hq, rfl⟩ := Option.map_eq_some_iff.1 h
    obtain ⟨j, rfl⟩ : ∃ j : Nat, i = (j : Int) := ⟨i.toNat, by omega⟩
    exact find_at s name j q w hG (by omega) hc.2.2.1 (by simpa using hc.2.2.2) (by simpa using hq)
  · cases h
end Go.Proofs.YteccaekalcjihaaGreatDoor.PTn
set_option linter.unusedVariables false
namespace Go.Proofs.YteccaekalcjihaaGreatDoor.PTn
open Go.RowKit Go.Lib Go.Proofs.YteccaekalcjihaaGreatDoorW.PrintWords
def sfGo (s : ByteArray) : Nat → Nat → Option Nat
  | 0, _ => none
  | k + 1, i => if i = s.size then some i else (raw_Ends.f 10 s (i : Int) ⟨#[115, 99, 114, 105, 112, 116]⟩).bind fun b => if b = true then some i else
      (sign_Begins.f s (i : Int) ⟨#[60, 33, 45, 45]⟩).bind fun c => if c = true then none else sfGo s k (i + 1)
def script_Find.f (s : ByteArray) (i : Int) : Option (Int × Int) := if 0 ≤ i ∧ i ≤ (s.size : Int) ∧ s.size ≤ 1000000000 then (sfGo s (s.size + 1) i.toNat).map fun (r : Nat) => ((r : Int), 0) else none
theorem sfGo_step {s : ByteArray} {k i r : Nat} (h : sfGo s (k + 1) i = some r) : (i = s.size ∧ r = i) ∨ (i ≠ s.size ∧ raw_Ends.f 10 s (i : Int) ⟨#[115, 99, 114, 105, 112, 116]⟩ = some true ∧ r = i) ∨ (i ≠ s.size ∧ raw_Ends.f 10 s (i : Int) ⟨#[115, 99, 114, 105, 112, 116]⟩ = some false ∧ sign_Begins.f s (i : Int) ⟨#[60, 33, 45, 45]⟩ = some false ∧ sfGo s k (i + 1) = some r) := by
  simp only [sfGo] at h
  split at h
  · rename_i hi
    exact .inl ⟨hi, (Option.some.inj h).symm⟩
  · rename_i hi
    obtain ⟨b, hb, h⟩ := Option.bind_eq_some_iff.1 h
    cases b with
    | true => exact .inr (.inl ⟨hi, hb, (Option.some.inj h).symm⟩)
    | false =>
      rw [if_neg (by simp)] at h
      obtain ⟨c, hc, h⟩ := Option.bind_eq_some_iff.1 h
      cases c with
      | true => cases h
      | false => exact .inr (.inr ⟨hi, hb, hc, h⟩)
set_option maxHeartbeats 4000000 in
set_option maxRecDepth 100000 in
theorem script_find_at (s : ByteArray) (i0 : Nat) (r : Nat) (w : World) (hi : i0 ≤ s.size) (hs : s.size ≤ 1000000000) (h : sfGo s (s.size + 1) i0 = some r) :
    Calls Tryz.prog 134 #[.string s, .int .i64 (i0 : Int)] w fun e w' => e = .returned (.tuple #[.int .i64 (r : Int), .int .i64 0]) ∧ Below w.heap.size w w' := by
  have HC0 := Aside0.mk h
  have HS := Aside0.mk hs
  have HI := Aside0.mk hi
  have m1 : max (i0 : Int) 0 = (i0 : Int) := by omega
  have m2 : min (i0 : Int) (s.size : Int) = (i0 : Int) := by omega
  clear h hs hi
  go_enter Tryz.func134, Tryz.ntmps134
  go_wp2
  refine wp_scope_ghost 0 (fun kq a' w' => ∃ (i : Nat) (u2 u3 u8 u9 u10 u11 u12 u13 u14 u15 u16 u17 u18 u19 u20 u21 u22 u23 u24 u25 u26 u27 u28 u29 u30 u31 u32 u33 u34 u35 u36 u37 u38 u39 u40 u41 u42 u43 u44 u45 u46 u47 u48 u49 u50 u51 u52 u53 u54 u55 u56 u57 u58 u59 u60 u61 u62 u63 u64 u65 u66 u67 u68 u69 u70 u71 u72 u73 u74 u75 : Value), a' = { tmps := #[.string s, .int .i64 (i0 : Int), u2, u3, .int .i64 i, .int .i64 0, .int .i64 0, .int .i64 0, u8, u9, u10, u11, u12, u13, u14, u15, u16, u17, u18, u19, u20, u21, u22, u23, u24, u25, u26, u27, u28, u29, u30, u31, u32, u33, u34, u35, u36, u37, u38, u39, u40, u41, u42, u43, u44, u45, u46, u47, u48, u49, u50, u51, u52, u53, u54, u55, u56, u57, u58, u59, u60, u61, u62, u63, u64, u65, u66, u67, u68, u69, u70, u71, u72, u73, u74, u75], defers := [] } ∧ Aside0 (sfGo s kq i = some r) ∧ Aside0 (i ≤ s.size) ∧ Aside0 (Below w.heap.size w w')) rfl ?_ ?_
  · intro kq a' w' hI J K hJ hK
    obtain ⟨i, u2, u3, u8, u9, u10, u11, u12, u13, u14, u15, u16, u17, u18, u19, u20, u21, u22, u23, u24, u25, u26, u27, u28, u29, u30, u31, u32, u33, u34, u35, u36, u37, u38, u39, u40, u41, u42, u43, u44, u45, u46, u47, u48, u49, u50, u51, u52, u53, u54, u55, u56, u57, u58, u59, u60, u61, u62, u63, u64, u65, u66, u67, u68, u69, u70, u71, u72, u73, u74, u75, rfl, HC, HL, HB⟩ := hI
    clear HC0
    cases kq with
    | zero =>
      have hc := HC.out
      simp [sfGo] at hc
    | succ kq =>
      rcases sfGo_step HC.out with ⟨h1, rfl⟩ | ⟨h1, h2, rfl⟩ | ⟨h1, h2, h3, h4⟩
      · have c1 : ((r : Int) == (s.size : Int)) = true := beq_iff_eq.mpr (by omega)
        clear h1 HC
        go_wp2
        rw [Exit.jump_ret]
        go_ret2
        exact ⟨rfl, HB.out⟩
      · have c1 : ((r : Int) == (s.size : Int)) = false := beq_eq_false_iff_ne.mpr (by omega)
        have H2 := Aside0.mk h2
        clear h1 h2 HC
        go_wp2_with (go_at_call 175; (with_reducible refine (raw_Ends.calls 10 s (r : Int) ⟨#[115, 99, 114, 105, 112, 116]⟩ true _ H2.out).mono ?_); rintro e w1 ⟨rfl, hb⟩; have HB2 := Aside0.mk (below_step HB.out hb); clear hb)
        rw [Exit.jump_ret]
        go_ret2
        exact ⟨rfl, HB2.out⟩
      · have c1 : ((i : Int) == (s.size : Int)) = false := beq_eq_false_iff_ne.mpr (by omega)
        have H2 := Aside0.mk h2
        have H3 := Aside0.mk h3
        have H4 := Aside0.mk h4
        have HN := Aside0.mk (show i + 1 ≤ s.size by have := HL.out; omega)
        have b1 : (i : Int) ≤ 1000000000 := by have := HL.out; have := HS.out; omega
        clear h1 h2 h3 h4 HC
        go_wp2_with (first | (go_at_call 175; (with_reducible refine (raw_Ends.calls 10 s (i : Int) ⟨#[115, 99, 114, 105, 112, 116]⟩ false _ H2.out).mono ?_); rintro e w1 ⟨rfl, hb⟩; have HB2 := Aside0.mk (below_step HB.out hb); clear hb) | (go_at_call 58; (with_reducible refine (sign_Begins.calls s (i : Int) ⟨#[60, 33, 45, 45]⟩ false _ H3.out).mono ?_); rintro e w2 ⟨rfl, hb⟩; have HB3 := Aside0.mk (below_step HB2.out hb); clear hb))
        go_step3
        exact ⟨rfl, hK _ _ (Handed.intro kq (by omega) (hJ _ _ _ ⟨i + 1, _, _, _, _, _, _, _, _, _, _, _, _, _, _, _, _, _, _, _, _, _, _, _, _, _, _, _, _, _, _, _, _, _, _, _, _, _, _, _, _, _, _, _, _, _, _, _, _, _, _, _, _, _, _, _, _, _, _, _, _, _, _, _, _, _, _, _, _, _, _, rfl, H4, HN, HB3⟩))⟩
  · intro hat
    go_wp2
    go_step3
    rename_i hh
    exact hh _ _ (hat.go (s.size + 1) _ _ ⟨i0, _, _, _, _, _, _, _, _, _, _, _, _, _, _, _, _, _, _, _, _, _, _, _, _, _, _, _, _, _, _, _, _, _, _, _, _, _, _, _, _, _, _, _, _, _, _, _, _, _, _, _, _, _, _, _, _, _, _, _, _, _, _, _, _, _, _, _, _, _, _, rfl, HC0, HI, ⟨Below.refl _ w⟩⟩)
theorem script_Find.calls (s : ByteArray) (i : Int) (r1 r2 : Int) (w : World) (h : script_Find.f s i = some (r1, r2)) :
    Calls Tryz.prog 134 #[.string s, .int .i64 i] w fun e w' => e = .returned (.tuple #[.int .i64 r1, .int .i64 r2]) ∧ Below w.heap.size w w' := by
  unfold script_Find.f at h
  split at h
  · rename_i hc
    obtain ⟨q, hq, h⟩ := Option.map_eq_some_iff.1 h
    obtain ⟨rfl, rfl⟩ := Prod.mk.inj h
    obtain ⟨j, rfl⟩ : ∃ j : Nat, i = (j : Int) := ⟨i.toNat, by omega⟩
    exact script_find_at s j q w (by omega) hc.2.2 (by simpa using hq)
  · cases h
end Go.Proofs.YteccaekalcjihaaGreatDoor.PTn
namespace Go.Proofs.YteccaekalcjihaaGreatDoor.PTn
open Go.RowKit Go.Proofs.YteccaekalcjihaaGreatDoorW.PrintWords Go.Proofs.YteccaekalcjihaaGreatDoorW.PrintLast Go.Proofs.YteccaekalcjihaaGreatDoorW.PrintMore
attribute [local go_sem] max2_int min2_int max_two min_two max_three min_three max_four min_four
set_option linter.unusedVariables false
set_option linter.unusedSimpArgs false
noncomputable def tok_ends.j0 : Nat → ByteArray → Int → Int → Int → Int → Bool → Option (ByteArray × Int × Bool)
  | 0, _, _, _, _, _, _ => none
  | k + 1, x0, x1, x2, x9, x15, x18 => if x18 = true then (if 0 ≤ x1 then (if x1 ≤ x9 then (if x9 ≤ (x0.size : Int) then ((raw_Text.f (x0.extract (x1 : Int).toNat (x9 : Int).toNat) (x2 == 1)).bind fun t196 => (some (t196, x9, true))) else (none)) else (none)) else (none)) else (if x15 = 4 then (if 0 ≤ x1 then (if x1 ≤ (x0.size : Int) then ((lines_Clean.f (x0.extract (x1 : Int).toNat x0.size)).bind fun t197 => (some (t197, (x0.size : Int), true))) else (none)) else (none)) else (some ((⟨#[]⟩ : ByteArray), x1, false)))
noncomputable def tok_ends.f (k : Nat) (a0 : ByteArray) (a1 : Int) (a2 : Int) (a3 : ByteArray) : Option (ByteArray × Int × Bool) := (raw_Find.f a0 a1 a3).bind fun t192 => (if a2 = 3 then ((script_Find.f a0 a1).bind fun bt193 => (if 0 ≤ a1 then (if a1 ≤ bt193.1 then (if bt193.1 ≤ (a0.size : Int) then ((raw_Text.f (a0.extract (a1 : Int).toNat (bt193.1 : Int).toNat) (a2 == 1)).bind fun t195 => (some (t195, bt193.1, true))) else (none)) else (none)) else (none))) else (if a2 = 1 then (tok_ends.j0 k a0 a1 a2 t192 a2 (a2 == 1)) else (tok_ends.j0 k a0 a1 a2 t192 a2 (a2 == 2))))
set_option maxHeartbeats 8000000 in
set_option maxRecDepth 100000 in
theorem tok_ends.calls (k : Nat) (a0 : ByteArray) (a1 : Int) (a2 : Int) (a3 : ByteArray) (r1 : ByteArray) (r2 : Int) (r3 : Bool) (w : World) (hG : GW w) (h : tok_ends.f k a0 a1 a2 a3 = some (r1, r2, r3)) :
    Calls Tryz.prog 79 #[.string a0, .int .i64 a1, .int .i64 a2, .string a3] w fun e w' => e = .returned (.tuple #[.string r1, .int .i64 r2, .bool r3]) ∧ Below w.heap.size w w' := by
  have HB := Aside0.mk (Below.refl w.heap.size w)
  have H : ((raw_Find.f a0 a1 a3).bind fun t192 => (if a2 = 3 then ((script_Find.f a0 a1).bind fun bt193 => (if 0 ≤ a1 then (if a1 ≤ bt193.1 then (if bt193.1 ≤ (a0.size : Int) then ((raw_Text.f (a0.extract (a1 : Int).toNat (bt193.1 : Int).toNat) (a2 == 1)).bind fun t195 => (some (t195, bt193.1, true))) else (none)) else (none)) else (none))) else (if a2 = 1 then (tok_ends.j0 k a0 a1 a2 t192 a2 (a2 == 1)) else (tok_ends.j0 k a0 a1 a2 t192 a2 (a2 == 2))))) = some (r1, r2, r3) := h
  clear h
  replace H := Option.bind_eq_some_iff.mp H
  obtain ⟨t192, A50, H⟩ := H
  (try dsimp only at H)
  have A5 := Aside0.mk A50
  clear A50
  by_cases c6 : a2 = 3
  · rw [if_pos c6] at H
    have c6b0 : (a2 == 3) = true := beq_iff_eq.mpr c6
    have c6b1 : (a2 != 3) = false := bne_eq_false_iff_eq.mpr c6
    clear c6
    replace H := Option.bind_eq_some_iff.mp H
    obtain ⟨⟨t193, t194⟩, A70, H⟩ := H
    (try dsimp only at H)
    have A7 := Aside0.mk A70
    clear A70
    by_cases c8 : 0 ≤ a1
    · rw [if_pos c8] at H
      have c8b0 := eq_true c8
      have c8b1 : decide (0 ≤ a1) = true := decide_eq_true c8
      clear c8
      by_cases c9 : a1 ≤ t193
      · rw [if_pos c9] at H
        have c9b0 := eq_true c9
        have c9b1 : decide (a1 ≤ t193) = true := decide_eq_true c9
        clear c9
        by_cases c10 : t193 ≤ (a0.size : Int)
        · rw [if_pos c10] at H
          have c10b0 := eq_true c10
          have c10b1 : decide (t193 ≤ (a0.size : Int)) = true := decide_eq_true c10
          clear c10
          replace H := Option.bind_eq_some_iff.mp H
          obtain ⟨t195, A110, H⟩ := H
          (try dsimp only at H)
          have A11 := Aside0.mk A110
          clear A110
          simp only [Option.some.injEq, Prod.mk.injEq] at H
          obtain ⟨rfl, rfl, rfl⟩ := H
          go_enter Tryz.func79, Tryz.ntmps79
          go_wp2_with (first | ((with_reducible refine gate_callee (f := 133) rfl ?_); refine goesL_ (some 14) rfl rfl Tryz.func133 (by kernel_rfl) rfl #[.string a0, .int .i64 a1, .string a3] rfl (by simp only [List.map_toArray, List.map_cons, List.map_nil] <;> rfl) ?_; (with_reducible refine (raw_Find.calls a0 a1 a3 t192 _ ?gw A5.out).mono ?_); (case gw => exact hG.at (by with_reducible repeat first | exact HB.out | apply below_alloc | apply pw_below_drewN | apply below_drew1)); rintro e w12 ⟨rfl, hb⟩; refine ⟨_, rfl, ?_⟩; have n0_ := Aside0.mk (below_step (by with_reducible repeat first | exact HB.out | apply below_alloc | apply pw_below_drewN | apply below_drew1) hb); clear HB; have HB := n0_; clear n0_; (try clear hb); (try clear hb2); (try clear hk); (try clear hi)) | ((with_reducible refine gate_callee (f := 134) rfl ?_); refine goesL_ (some 26) rfl rfl Tryz.func134 (by kernel_rfl) rfl #[.string a0, .int .i64 a1] rfl (by simp only [List.map_toArray, List.map_cons, List.map_nil] <;> rfl) ?_; (with_reducible refine (script_Find.calls a0 a1 t193 t194 _ A7.out).mono ?_); rintro e w13 ⟨rfl, hb⟩; refine ⟨_, rfl, ?_⟩; have n0_ := Aside0.mk (below_step (by with_reducible repeat first | exact HB.out | apply below_alloc | apply pw_below_drewN | apply below_drew1) hb); clear HB; have HB := n0_; clear n0_; (try clear hb); (try clear hb2); (try clear hk); (try clear hi)) | ((with_reducible refine gate_callee (f := 135) rfl ?_); refine goesL_ (some 35) rfl rfl Tryz.func135 (by kernel_rfl) rfl #[.string (a0.extract (a1 : Int).toNat (t193 : Int).toNat), .bool (a2 == 1)] rfl (by simp only [List.map_toArray, List.map_cons, List.map_nil] <;> rfl) ?_; (with_reducible refine (raw_Text.calls (a0.extract (a1 : Int).toNat (t193 : Int).toNat) (a2 == 1) t195 _ ?gw A11.out).mono ?_); (case gw => exact hG.at (by with_reducible repeat first | exact HB.out | apply below_alloc | apply pw_below_drewN | apply below_drew1)); rintro e w14 ⟨rfl, hb⟩; refine ⟨_, rfl, ?_⟩; have n0_ := Aside0.mk (below_step (by with_reducible repeat first | exact HB.out | apply below_alloc | apply pw_below_drewN | apply below_drew1) hb); clear HB; have HB := n0_; clear n0_; (try clear hb); (try clear hb2); (try clear hk); (try clear hi)))
          go_ret3
          exact ⟨by first | rfl | (simp [*] <;> rfl), by with_reducible repeat first | exact HB.out | apply below_alloc | apply pw_below_drewN | apply below_drew1⟩
        · rw [if_neg c10] at H
          exact absurd H (by simp)
      · rw [if_neg c9] at H
        exact absurd H (by simp)
    · rw [if_neg c8] at H
      exact absurd H (by simp)
  · rw [if_neg c6] at H
    have c6b0 : (a2 == 3) = false := beq_eq_false_iff_ne.mpr c6
    have c6b1 : (a2 != 3) = true := bne_iff_ne.mpr c6
    have HC15 := Aside0.mk H
    clear H
    go_enter Tryz.func79, Tryz.ntmps79
    go_upto_if 18 with (first | ((with_reducible refine gate_callee (f := 133) rfl ?_); refine goesL_ (some 14) rfl rfl Tryz.func133 (by kernel_rfl) rfl #[.string a0, .int .i64 a1, .string a3] rfl (by simp only [List.map_toArray, List.map_cons, List.map_nil] <;> rfl) ?_; (with_reducible refine (raw_Find.calls a0 a1 a3 t192 _ ?gw A5.out).mono ?_); (case gw => exact hG.at (by with_reducible repeat first | exact HB.out | apply below_alloc | apply pw_below_drewN | apply below_drew1)); rintro e w16 ⟨rfl, hb⟩; refine ⟨_, rfl, ?_⟩; have n0_ := Aside0.mk (below_step (by with_reducible repeat first | exact HB.out | apply below_alloc | apply pw_below_drewN | apply below_drew1) hb); clear HB; have HB := n0_; clear n0_; (try clear hb); (try clear hb2); (try clear hk); (try clear hi)))
    (try simp only [Act.put, List.setIfInBounds_toArray, List.set_cons_zero, List.set_cons_succ])
    go_cut [18] (fun v18 wc => ∃ (kq : Nat) (x18_14 : Bool), v18 = .bool x18_14 ∧ Aside0 (tok_ends.j0 kq a0 a1 a2 t192 a2 x18_14 = some (r1, r2, r3)) ∧ Aside0 (kq ≤ k) ∧ Aside0 (Below w.heap.size w wc))
    case first =>
      have H := HC15.out
      clear HC15
      by_cases c17 : a2 = 1
      · rw [if_pos c17] at H
        have c17b0 : (a2 == 1) = true := beq_iff_eq.mpr c17
        have c17b1 : (a2 != 1) = false := bne_eq_false_iff_eq.mpr c17
        clear c17
        (first | rw [c17b0] | (simp only [i64_w, i32_w]; rw [c17b0]) | skip)
        have H' := Aside0.mk H
        clear H
        go_wp2
        go_meet
        case rel => exact ⟨_, ((a2 == 1)), (by first | rfl | (simp; done) | (simp [*]; done)), H', ⟨by first | omega | exact Nat.le_refl _⟩, ⟨by with_reducible repeat first | exact HB.out | apply below_alloc | apply pw_below_drewN | apply below_drew1⟩⟩
      · rw [if_neg c17] at H
        have c17b0 : (a2 == 1) = false := beq_eq_false_iff_ne.mpr c17
        have c17b1 : (a2 != 1) = true := bne_iff_ne.mpr c17
        (first | rw [c17b0] | (simp only [i64_w, i32_w]; rw [c17b0]) | skip)
        have H' := Aside0.mk H
        clear H
        go_wp2
        go_meet
        case rel => exact ⟨_, ((a2 == 2)), (by first | rfl | (simp; done) | (simp [*]; done)), H', ⟨by first | omega | exact Nat.le_refl _⟩, ⟨by with_reducible repeat first | exact HB.out | apply below_alloc | apply pw_below_drewN | apply below_drew1⟩⟩
    case rest =>
      clear HC15
      try clear c1
      try clear p2
      try clear c6
      try clear c6b0
      try clear c6b1
      try clear c7
      try clear c8
      try clear c8b0
      try clear c8b1
      try clear c9
      try clear c9b0
      try clear c9b1
      try clear c10
      try clear c10b0
      try clear c10b1
      try clear c13
      try clear c17
      try clear c17b0
      try clear c17b1
      obtain ⟨kq, x18_14, rfl, HA, HJ14, HB⟩ := hcut
      cases kq with
      | zero => exact absurd HA.out (by simp [tok_ends.j0])
      | succ kj14 =>
        have H := HA.out
        clear HA
        simp only [tok_ends.j0] at H
        by_cases c18 : x18_14 = true
        · subst c18
          rw [if_pos rfl] at H
          by_cases c19 : 0 ≤ a1
          · rw [if_pos c19] at H
            have c19b0 := eq_true c19
            have c19b1 : decide (0 ≤ a1) = true := decide_eq_true c19
            clear c19
            by_cases c20 : a1 ≤ t192
            · rw [if_pos c20] at H
              have c20b0 := eq_true c20
              have c20b1 : decide (a1 ≤ t192) = true := decide_eq_true c20
              clear c20
              by_cases c21 : t192 ≤ (a0.size : Int)
              · rw [if_pos c21] at H
                have c21b0 := eq_true c21
                have c21b1 : decide (t192 ≤ (a0.size : Int)) = true := decide_eq_true c21
                clear c21
                replace H := Option.bind_eq_some_iff.mp H
                obtain ⟨t196, A220, H⟩ := H
                (try dsimp only at H)
                have A22 := Aside0.mk A220
                clear A220
                simp only [Option.some.injEq, Prod.mk.injEq] at H
                obtain ⟨rfl, rfl, rfl⟩ := H
                go_wp2_with (first | ((with_reducible refine gate_callee (f := 135) rfl ?_); refine goesL_ (some 35) rfl rfl Tryz.func135 (by kernel_rfl) rfl #[.string (a0.extract (a1 : Int).toNat (t192 : Int).toNat), .bool (a2 == 1)] rfl (by simp only [List.map_toArray, List.map_cons, List.map_nil] <;> rfl) ?_; (with_reducible refine (raw_Text.calls (a0.extract (a1 : Int).toNat (t192 : Int).toNat) (a2 == 1) t196 _ ?gw A22.out).mono ?_); (case gw => exact hG.at (by with_reducible repeat first | exact HB.out | apply below_alloc | apply pw_below_drewN | apply below_drew1)); rintro e w23 ⟨rfl, hb⟩; refine ⟨_, rfl, ?_⟩; have n0_ := Aside0.mk (below_step (by with_reducible repeat first | exact HB.out | apply below_alloc | apply pw_below_drewN | apply below_drew1) hb); clear HB; have HB := n0_; clear n0_; (try clear hb); (try clear hb2); (try clear hk); (try clear hi)))
                go_ret3
                exact ⟨by first | rfl | (simp [*] <;> rfl), by with_reducible repeat first | exact HB.out | apply below_alloc | apply pw_below_drewN | apply below_drew1⟩
              · rw [if_neg c21] at H
                exact absurd H (by simp)
            · rw [if_neg c20] at H
              exact absurd H (by simp)
          · rw [if_neg c19] at H
            exact absurd H (by simp)
        · replace c18 := Bool.eq_false_iff.mpr c18
          subst c18
          rw [if_neg (show ¬ (false = true) by decide)] at H
          by_cases c24 : a2 = 4
          · rw [if_pos c24] at H
            have c24b0 : (a2 == 4) = true := beq_iff_eq.mpr c24
            have c24b1 : (a2 != 4) = false := bne_eq_false_iff_eq.mpr c24
            clear c24
            by_cases c25 : 0 ≤ a1
            · rw [if_pos c25] at H
              have c25b0 := eq_true c25
              have c25b1 : decide (0 ≤ a1) = true := decide_eq_true c25
              clear c25
              by_cases c26 : a1 ≤ (a0.size : Int)
              · rw [if_pos c26] at H
                have c26b0 := eq_true c26
                have c26b1 : decide (a1 ≤ (a0.size : Int)) = true := decide_eq_true c26
                clear c26
                replace H := Option.bind_eq_some_iff.mp H
                obtain ⟨t197, A270, H⟩ := H
                (try dsimp only at H)
                have A27 := Aside0.mk A270
                clear A270
                simp only [Option.some.injEq, Prod.mk.injEq] at H
                obtain ⟨rfl, rfl, rfl⟩ := H
                go_wp2_with (first | ((with_reducible refine gate_callee (f := 59) rfl ?_); refine goesL_ (some 40) rfl rfl Tryz.func59 (by kernel_rfl) rfl #[.string (a0.extract (a1 : Int).toNat a0.size)] rfl (by simp only [List.map_toArray, List.map_cons, List.map_nil] <;> rfl) ?_; (with_reducible refine (lines_Clean.calls (a0.extract (a1 : Int).toNat a0.size) t197 _ A27.out).mono ?_); rintro e w28 ⟨rfl, hb⟩; refine ⟨_, rfl, ?_⟩; have n0_ := Aside0.mk (below_step (by with_reducible repeat first | exact HB.out | apply below_alloc | apply pw_below_drewN | apply below_drew1) hb); clear HB; have HB := n0_; clear n0_; (try clear hb); (try clear hb2); (try clear hk); (try clear hi)))
                go_ret3
                exact ⟨by first | rfl | (simp [*] <;> rfl), by with_reducible repeat first | exact HB.out | apply below_alloc | apply pw_below_drewN | apply below_drew1⟩
              · rw [if_neg c26] at H
                exact absurd H (by simp)
            · rw [if_neg c25] at H
              exact absurd H (by simp)
          · rw [if_neg c24] at H
            have c24b0 : (a2 == 4) = false := beq_eq_false_iff_ne.mpr c24
            have c24b1 : (a2 != 4) = true := bne_iff_ne.mpr c24
            simp only [Option.some.injEq, Prod.mk.injEq] at H
            obtain ⟨rfl, rfl, rfl⟩ := H
            go_wp2
            go_ret3
            exact ⟨by first | rfl | (simp [*] <;> rfl), by with_reducible repeat first | exact HB.out | apply below_alloc | apply pw_below_drewN | apply below_drew1⟩
end Go.Proofs.YteccaekalcjihaaGreatDoor.PTn
namespace Go.Proofs.YteccaekalcjihaaGreatDoor.PTn
open Go.RowKit Go.Proofs.YteccaekalcjihaaGreatDoorW.PrintWords Go.Proofs.YteccaekalcjihaaGreatDoorW.PrintLast Go.Proofs.YteccaekalcjihaaGreatDoorW.PrintMore
attribute [local go_sem] max2_int min2_int max_two min_two max_three min_three max_four min_four
set_option linter.unusedVariables false
set_option linter.unusedSimpArgs false
noncomputable def tok_Rest.j0 : Nat → ByteArray → List (S40) → Int → Option ((List (S40)) × Int)
  | 0, _, _, _ => none
  | k + 1, x0, x8, x9 => if x9 = (x0.size : Int) then (some (x8, x9)) else ((tag_Read.f x0 x9).bind fun bt205 => (if bt205.2.2.2.2.2.2 = true then (if x8.length < 1954687338268 then (some ((x8 ++ [(⟨bt205.1, bt205.2.1, bt205.2.2.1, bt205.2.2.2.1, bt205.2.2.2.2.1⟩ : S40)]), bt205.2.2.2.2.2.1)) else (none)) else (some (x8, bt205.2.2.2.2.2.1))))
noncomputable def tok_Rest.f (k : Nat) (a0 : ByteArray) (a1 : Int) (a2 : Int) (a3 : ByteArray) : Option ((List (S40)) × Int) := (tok_inside.f a0 a1).bind fun t198 => ((tok_ends.f k a0 t198 a2 a3).bind fun bt199 => (if bt199.2.2 = true then (if bt199.1.toList = ([] : List UInt8) then (tok_Rest.j0 k a0 ([] : List (S40)) bt199.2.1) else (if ([] : List (S40)).length < 1954687338268 then (tok_Rest.j0 k a0 (([] : List (S40)) ++ [(⟨0, (⟨#[]⟩ : ByteArray), bt199.1, ([] : List (S38)), false⟩ : S40)]) bt199.2.1) else (none))) else (some (([] : List (S40)), t198))))
set_option maxHeartbeats 8000000 in
set_option maxRecDepth 100000 in
theorem tok_Rest.calls (k : Nat) (a0 : ByteArray) (a1 : Int) (a2 : Int) (a3 : ByteArray) (r1 : List (S40)) (r2 : Int) (w : World) (hG : GW w) (h : tok_Rest.f k a0 a1 a2 a3 = some (r1, r2)) :
    Calls Tryz.prog 28 #[.string a0, .int .i64 a1, .int .i64 a2, .string a3] w fun e w' => ∃ v0_ : Value, e = .returned (.tuple #[v0_, .int .i64 r2]) ∧ Kd.S k40 40 w' w.heap.size (fun _ => True) v0_ r1 ∧ Below w.heap.size w w' := by
  have hu40 := Tryz.underlying40
  have HB := Aside0.mk (Below.refl w.heap.size w)
  have H : ((tok_inside.f a0 a1).bind fun t198 => ((tok_ends.f k a0 t198 a2 a3).bind fun bt199 => (if bt199.2.2 = true then (if bt199.1.toList = ([] : List UInt8) then (tok_Rest.j0 k a0 ([] : List (S40)) bt199.2.1) else (if ([] : List (S40)).length < 1954687338268 then (tok_Rest.j0 k a0 (([] : List (S40)) ++ [(⟨0, (⟨#[]⟩ : ByteArray), bt199.1, ([] : List (S38)), false⟩ : S40)]) bt199.2.1) else (none))) else (some (([] : List (S40)), t198))))) = some (r1, r2) := h
  clear h
  replace H := Option.bind_eq_some_iff.mp H
  obtain ⟨t198, A50, H⟩ := H
  (try dsimp only at H)
  have A5 := Aside0.mk A50
  clear A50
  replace H := Option.bind_eq_some_iff.mp H
  obtain ⟨⟨t199, t200, t201⟩, A60, H⟩ := H
  (try dsimp only at H)
  have A6 := Aside0.mk A60
  clear A60
  by_cases c7 : t201 = true
  · subst c7
    rw [if_pos rfl] at H
    have HC8 := Aside0.mk H
    clear H
    go_enter Tryz.func28, Tryz.ntmps28
    go_upto_if 29 with (first | ((with_reducible refine gate_callee (f := 71) rfl ?_); refine goesL_ (some 15) rfl rfl Tryz.func71 (by kernel_rfl) rfl #[.string a0, .int .i64 a1] rfl (by simp only [List.map_toArray, List.map_cons, List.map_nil] <;> rfl) ?_; (with_reducible refine (tok_inside.calls a0 a1 t198 _ A5.out).mono ?_); rintro e w9 ⟨rfl, hb⟩; refine ⟨_, rfl, ?_⟩; have n0_ := Aside0.mk (below_step (by with_reducible repeat first | exact HB.out | apply below_alloc | apply pw_below_drewN | apply below_drew1) hb); clear HB; have HB := n0_; clear n0_; (try clear hb); (try clear hb2); (try clear hk); (try clear hi)) | ((with_reducible refine gate_callee (f := 79) rfl ?_); refine goesL_ (some 21) rfl rfl Tryz.func79 (by kernel_rfl) rfl #[.string a0, .int .i64 t198, .int .i64 a2, .string a3] rfl (by simp only [List.map_toArray, List.map_cons, List.map_nil] <;> rfl) ?_; (with_reducible refine (tok_ends.calls k a0 t198 a2 a3 t199 t200 true _ ?gw A6.out).mono ?_); (case gw => exact hG.at (by with_reducible repeat first | exact HB.out | apply below_alloc | apply pw_below_drewN | apply below_drew1)); rintro e w10 ⟨rfl, hb⟩; refine ⟨_, rfl, ?_⟩; have n0_ := Aside0.mk (below_step (by with_reducible repeat first | exact HB.out | apply below_alloc | apply pw_below_drewN | apply below_drew1) hb); clear HB; have HB := n0_; clear n0_; (try clear hb); (try clear hb2); (try clear hk); (try clear hi)))
    (try simp only [Act.put, List.setIfInBounds_toArray, List.set_cons_zero, List.set_cons_succ])
    go_cut [8] (fun v8 wc => ∃ (kq : Nat) (x8_7 : List (S40)), Aside0 (tok_Rest.j0 kq a0 x8_7 t200 = some (r1, r2)) ∧ Aside0 (kq ≤ k) ∧ Aside0 (Kd.S k40 40 wc w.heap.size (fun _ => True) v8 x8_7) ∧ Aside0 (Below w.heap.size w wc))
    case first =>
      have H := HC8.out
      clear HC8
      by_cases c11 : t199.toList = ([] : List UInt8)
      · rw [if_pos c11] at H
        have c11b0 : (t199.toList == ([] : List UInt8)) = true := beq_iff_eq.mpr c11
        (try rw [show t199.toList.isEmpty = true from List.isEmpty_iff.mpr c11])
        have c11b1 : (t199.toList != ([] : List UInt8)) = false := bne_eq_false_iff_eq.mpr c11
        clear c11
        (first | rw [c11b0] | (simp only [i64_w, i32_w]; rw [c11b0]) | skip)
        have H' := Aside0.mk H
        clear H
        go_wp2
        go_meet
        case rel => exact ⟨_, (([] : List (S40))), H', ⟨by first | omega | exact Nat.le_refl _⟩, ⟨by first | exact Kd.S_nil _ _ _ _ _ | exact Kd.N_nil _ _ _ _ _ | exact Kd.V_nil _ _ _ _ _ | exact Kd.Q_nil _ _ _ _ _ | exact Kd.R_nil _ _ _ _ _⟩, ⟨by with_reducible repeat first | exact HB.out | apply below_alloc | apply pw_below_drewN | apply below_drew1⟩⟩
      · rw [if_neg c11] at H
        have c11b0 : (t199.toList == ([] : List UInt8)) = false := beq_eq_false_iff_ne.mpr c11
        (try rw [show t199.toList.isEmpty = false from List.isEmpty_eq_false_iff.mpr c11])
        have c11b1 : (t199.toList != ([] : List UInt8)) = true := bne_iff_ne.mpr c11
        (first | rw [c11b0] | (simp only [i64_w, i32_w]; rw [c11b0]) | skip)
        by_cases c12 : ([] : List (S40)).length < 1954687338268
        · rw [if_pos c12] at H
          have LMc12 := Aside0.mk c12
          clear c12
          obtain ⟨y202, hy202⟩ : ∃ y_ : List (S40), y_ = (([] : List (S40)) ++ [(⟨0, (⟨#[]⟩ : ByteArray), t199, ([] : List (S38)), false⟩ : S40)]) := ⟨_, rfl⟩
          replace H : (tok_Rest.j0 k a0 y202 t200) = some (r1, r2) := by first | (rw [hy202]; with_reducible exact H) | (have H2_ := (Option.bind_some _ _).symm.trans H; rw [hy202]; with_reducible exact H2_) | (have H2_ := (Option.bind_some _ _).symm.trans H; with_reducible exact H2_) | with_reducible exact H | (rw [hy202]; exact H) | exact H
          have Ny202 := Aside0.mk hy202
          clear hy202
          have H' := Aside0.mk H
          clear H
          go_wp2_with (first | ((with_reducible refine gate_builtin (b := .append) (xs := #[.tmp 30, .tmp 33]) rfl ?_); at_builtin; refine Kd.S_append k40 (w0 := w) w.heap.size rfl (.tmp 30) (.tmp 33) 26 40 (.agg #[(.int .i64 0), (.string ⟨#[]⟩), (.string ⟨#[]⟩), (.slice none 0 0), (.bool false)]) 72 rfl Tryz.underlying26 info40 rfl (by decide) (by omega) (.slice none 0 0) ([] : List (S40)) (⟨0, (⟨#[]⟩ : ByteArray), t199, ([] : List (S38)), false⟩ : S40) [.int .i64 0, .string (⟨#[]⟩ : ByteArray), .string t199, .slice none 0 0, .bool false] (fun _ => True) (fun _ => False) rfl rfl ?aP (fun k_ hk_ => hk_.elim) ?aF ?aO ?aB ?aS ?aL ?_; (case aP => exact k40_mkM _ _ _ (⟨0, (⟨#[]⟩ : ByteArray), t199, ([] : List (S38)), false⟩ : S40) (Kd.R_nil _ _ _ _ _)); (case aB => exact (by with_reducible repeat first | exact HB.out | apply below_alloc | apply pw_below_drewN | apply below_drew1)); (case aF => exact (fun _ _ => trivial)); (case aO => exact ((Kd.S_nil _ _ _ _ _))); (case aS => exact (below_size (by with_reducible repeat first | exact HB.out | apply below_alloc | apply pw_below_drewN | apply below_drew1))); (case aL => have := LMc12.out; omega); intro v203 w13 ho hb hg hat; rw [← Ny202.out] at ho; have n0_ := Aside0.mk (hb); have n1_ := Aside0.mk (ho); clear HB; have HB := n0_; have HO204 := n1_; clear n0_ n1_; clear ho hb hg hat))
          go_meet
          case rel => exact ⟨_, (y202), H', ⟨by first | omega | exact Nat.le_refl _⟩, ⟨by (with_reducible repeat (first | apply Kd.S_alloc | apply Kd.S_drewN | apply Kd.S_drew)); exact HO204.out⟩, ⟨by with_reducible repeat first | exact HB.out | apply below_alloc | apply pw_below_drewN | apply below_drew1⟩⟩
        · rw [if_neg c12] at H
          exact absurd H (by simp)
    case rest =>
      clear HC8
      try clear c1
      try clear c2
      try clear p2
      try clear c7
      try clear c11
      try clear c11b0
      try clear c11b1
      try clear c12
      obtain ⟨kq, x8_7, HA, HJ7, HO_8, HB⟩ := hcut
      cases kq with
      | zero => exact absurd HA.out (by simp [tok_Rest.j0])
      | succ kj7 =>
        have H := HA.out
        clear HA
        simp only [tok_Rest.j0] at H
        by_cases c14 : t200 = (a0.size : Int)
        · rw [if_pos c14] at H
          have c14b0 : (t200 == (a0.size : Int)) = true := beq_iff_eq.mpr c14
          have c14b1 : (t200 != (a0.size : Int)) = false := bne_eq_false_iff_eq.mpr c14
          clear c14
          simp only [Option.some.injEq, Prod.mk.injEq] at H
          obtain ⟨rfl, rfl⟩ := H
          go_wp2
          go_ret2
          exact ⟨_, by first | rfl | (simp [errW_none, errW_some] <;> rfl) | (simp [*, errW_none, errW_some] <;> rfl), by (with_reducible repeat (first | apply Kd.S_alloc | apply Kd.S_drewN | apply Kd.S_drew)); exact HO_8.out, by with_reducible repeat first | exact HB.out | apply below_alloc | apply pw_below_drewN | apply below_drew1⟩
        · rw [if_neg c14] at H
          have c14b0 : (t200 == (a0.size : Int)) = false := beq_eq_false_iff_ne.mpr c14
          have c14b1 : (t200 != (a0.size : Int)) = true := bne_iff_ne.mpr c14
          replace H := Option.bind_eq_some_iff.mp H
          obtain ⟨⟨t205, t206, t207, t208, t211, t212, t213⟩, A150, H⟩ := H
          (try dsimp only at H)
          have A15 := Aside0.mk A150
          clear A150
          by_cases c16 : t213 = true
          · subst c16
            rw [if_pos rfl] at H
            by_cases c17 : x8_7.length < 1954687338268
            · rw [if_pos c17] at H
              have LMc17 := Aside0.mk c17
              clear c17
              obtain ⟨y215, hy215⟩ : ∃ y_ : List (S40), y_ = (x8_7 ++ [(⟨t205, t206, t207, t208, t211⟩ : S40)]) := ⟨_, rfl⟩
              replace H : (some (y215, t212)) = some (r1, r2) := by first | (rw [hy215]; with_reducible exact H) | (have H2_ := (Option.bind_some _ _).symm.trans H; rw [hy215]; with_reducible exact H2_) | (have H2_ := (Option.bind_some _ _).symm.trans H; with_reducible exact H2_) | with_reducible exact H | (rw [hy215]; exact H) | exact H
              have Ny215 := Aside0.mk hy215
              clear hy215
              simp only [Option.some.injEq, Prod.mk.injEq] at H
              obtain ⟨rfl, rfl⟩ := H
              go_wp2_with (first | ((with_reducible refine gate_callee (f := 73) rfl ?_); refine goesL_ (some 44) rfl rfl Tryz.func73 (by kernel_rfl) rfl #[.string a0, .int .i64 t200] rfl (by simp only [List.map_toArray, List.map_cons, List.map_nil] <;> rfl) ?_; (with_reducible refine (tag_Read.calls a0 t200 t205 t206 t207 t208 t211 t212 true _ ?gw A15.out).mono ?_); (case gw => exact hG.at (by with_reducible repeat first | exact HB.out | apply below_alloc | apply pw_below_drewN | apply below_drew1)); rintro e w18 ⟨v209, rfl, ho0, hb⟩; refine ⟨_, rfl, ?_⟩; have n0_ := Aside0.mk (Kd.S_elder' (by (with_reducible repeat (first | apply Kd.S_alloc | apply Kd.S_drewN | apply Kd.S_drew)); exact HO_8.out) (Kd.R_base ho0) hb); have n1_ := Aside0.mk (Kd.R_lower ho0 (below_size (by with_reducible repeat first | exact HB.out | apply below_alloc | apply pw_below_drewN | apply below_drew1))); have n2_ := Aside0.mk (below_step (by with_reducible repeat first | exact HB.out | apply below_alloc | apply pw_below_drewN | apply below_drew1) hb); clear HO_8; clear HB; have HO_8 := n0_; have HO210 := n1_; have HB := n2_; clear n0_ n1_ n2_; (try clear hb); (try clear hb2); (try clear hk); (try clear hi); (try clear ho0)) | ((with_reducible refine gate_dst (N := 12) rfl ?_); refine box_event ?hg (N := 12) ?hd (cs := #[.int .i64 0, .string (⟨#[]⟩ : ByteArray), .string (⟨#[]⟩ : ByteArray), .slice none 0 0, .bool false]) (t := 40) ?hr ?_; (case hd => rfl); (case hg => rfl); (case hr => first | (go_simp; done) | (go_simp; rfl)); intro gb214 hg w19 hbox hb; have n0_ := Aside0.mk (Kd.S_below (Kd.S_elderB (by (with_reducible repeat (first | apply Kd.S_alloc | apply Kd.S_drewN | apply Kd.S_drew)); exact HO_8.out) gb214 (Nat.le_of_eq hg.symm)) hb); have n1_ := Aside0.mk (Kd.R_below (by (with_reducible repeat (first | apply Kd.R_alloc | apply Kd.R_drewN | apply Kd.R_drew)); exact HO210.out) hb); have n2_ := Aside0.mk (below_step (by with_reducible repeat first | exact HB.out | apply below_alloc | apply pw_below_drewN | apply below_drew1) hb); have n3_ := Aside0.mk (hbox); have n4_ := Aside0.mk ((by rw [hg]; exact (below_size (by with_reducible repeat first | exact HB.out | apply below_alloc | apply pw_below_drewN | apply below_drew1)) : w.heap.size ≤ gb214)); have n5_ := Aside0.mk ((by rw [hg]; exact (below_size (by with_reducible repeat first | exact HB.out | apply below_alloc | apply pw_below_drewN | apply below_drew1)) : w.heap.size ≤ gb214)); clear HO_8; clear HO210; clear HB; have HO_8 := n0_; have HO210 := n1_; have HB := n2_; have BK214 := n3_; have GW214 := n4_; have GE214 := n5_; clear n0_ n1_ n2_ n3_ n4_ n5_; clear hb hbox hg; have hcz20_0 : w19.cell? ⟨gb214, 0, none⟩ = some (.int .i64 0) := (blk_cell BK214.out 0).trans rfl; have hcz20_1 : w19.cell? ⟨gb214, 1, none⟩ = some (.string (⟨#[]⟩ : ByteArray)) := (blk_cell BK214.out 1).trans rfl; have hcz20_2 : w19.cell? ⟨gb214, 2, none⟩ = some (.string (⟨#[]⟩ : ByteArray)) := (blk_cell BK214.out 2).trans rfl; have hcz20_3 : w19.cell? ⟨gb214, 3, none⟩ = some (.slice none 0 0) := (blk_cell BK214.out 3).trans rfl; have hcz20_4 : w19.cell? ⟨gb214, 4, none⟩ = some (.bool false) := (blk_cell BK214.out 4).trans rfl; have hfz20_0 := blk_frozen BK214.out 0; have hfz20_1 := blk_frozen BK214.out 1; have hfz20_2 := blk_frozen BK214.out 2; have hfz20_3 := blk_frozen BK214.out 3; have hfz20_4 := blk_frozen BK214.out 4; obtain ⟨Ao21, co21, eo21⟩ := Kd.R_slice HO210.out; subst eo21) | ((with_reducible refine gate_store (t := 40) (p := 12) rfl ?_); refine store_event (t := 40) (p := 12) (v := ?vo_w22) (w1 := (((((w19.setCell ⟨gb214, 0, none⟩ (.int .i64 t205)).setCell ⟨gb214, 1, none⟩ (.string t206)).setCell ⟨gb214, 2, none⟩ (.string t207)).setCell ⟨gb214, 3, none⟩ (.slice Ao21 t208.length co21)).setCell ⟨gb214, 4, none⟩ (.bool t211))) ?hg ?ho ?hn ?hr ?_; (case ho => rfl); (case hg => rfl); (case hn => rfl); (case hr => first | (go_simp; done) | (go_simp; rfl)); intro w22 hw; have n0_ : Aside0 (Kd.S k40 40 w22 w.heap.size (fun k_ => some k_ ≠ (.slice Ao21 t208.length co21 : Value).ownBlock ∧ k_ ≠ gb214) u8 x8_7) := ⟨(by rw [hw]; exact (by (with_reducible repeat (first | apply Kd.S_alloc | apply Kd.S_drewN | apply Kd.S_drew)); exact Kd.S_mono (Kd.S_far (p := ⟨gb214, 4, none⟩) (Kd.S_far (p := ⟨gb214, 3, none⟩) (Kd.S_far (p := ⟨gb214, 2, none⟩) (Kd.S_far (p := ⟨gb214, 1, none⟩) (Kd.S_far (p := ⟨gb214, 0, none⟩) (Kd.S_mono HO_8.out (fun k_ hk => (⟨hk, hk.2⟩ : _ ∧ k_ ≠ gb214))) (fun _ hk => hk.2) (.int .i64 t205)) (fun _ hk => hk.2) (.string t206)) (fun _ hk => hk.2) (.string t207)) (fun _ hk => hk.2) (.slice Ao21 t208.length co21)) (fun _ hk => hk.2) (.bool t211)) (fun _ hk => ⟨hk.1.1.2, hk.1.2⟩)))⟩; have n1_ : Aside0 (Kd.R k38 38 w22 w.heap.size (fun _ => True) (.slice Ao21 t208.length co21) t208) := ⟨(by rw [hw]; exact (by (with_reducible repeat (first | apply Kd.R_alloc | apply Kd.R_drewN | apply Kd.R_drew)); exact Kd.R_mono (Kd.R_far (p := ⟨gb214, 4, none⟩) (Kd.R_far (p := ⟨gb214, 3, none⟩) (Kd.R_far (p := ⟨gb214, 2, none⟩) (Kd.R_far (p := ⟨gb214, 1, none⟩) (Kd.R_far (p := ⟨gb214, 0, none⟩) (Kd.R_types HO210.out BK214.out (by decide)) (fun _ hk => hk.2) (.int .i64 t205)) (fun _ hk => hk.2) (.string t206)) (fun _ hk => hk.2) (.string t207)) (fun _ hk => hk.2) (.slice Ao21 t208.length co21)) (fun _ hk => hk.2) (.bool t211)) (fun _ hk => trivial)))⟩; have n2_ : Aside0 (w22.heap[gb214]? = some (.cells #[.int .i64 t205, .string t206, .string t207, .slice Ao21 t208.length co21, .bool t211] 40 (0, 0))) := ⟨(by rw [hw]; exact (by (with_reducible repeat (first | refine blk_drewN ?_ _ | refine blk_drew ?_ | refine blk_alloc ?_ _)); refine blk_put (cs := #[.int .i64 t205, .string t206, .string t207, .slice Ao21 t208.length co21, .bool false]) ?_ 4 _ rfl; (with_reducible repeat (first | refine blk_drewN ?_ _ | refine blk_drew ?_ | refine blk_alloc ?_ _)); refine blk_put (cs := #[.int .i64 t205, .string t206, .string t207, .slice none 0 0, .bool false]) ?_ 3 _ rfl; (with_reducible repeat (first | refine blk_drewN ?_ _ | refine blk_drew ?_ | refine blk_alloc ?_ _)); refine blk_put (cs := #[.int .i64 t205, .string t206, .string (⟨#[]⟩ : ByteArray), .slice none 0 0, .bool false]) ?_ 2 _ rfl; (with_reducible repeat (first | refine blk_drewN ?_ _ | refine blk_drew ?_ | refine blk_alloc ?_ _)); refine blk_put (cs := #[.int .i64 t205, .string (⟨#[]⟩ : ByteArray), .string (⟨#[]⟩ : ByteArray), .slice none 0 0, .bool false]) ?_ 1 _ rfl; (with_reducible repeat (first | refine blk_drewN ?_ _ | refine blk_drew ?_ | refine blk_alloc ?_ _)); refine blk_put (cs := #[.int .i64 0, .string (⟨#[]⟩ : ByteArray), .string (⟨#[]⟩ : ByteArray), .slice none 0 0, .bool false]) ?_ 0 _ rfl; (with_reducible repeat (first | refine blk_drewN ?_ _ | refine blk_drew ?_ | refine blk_alloc ?_ _)); exact BK214.out))⟩; have n3_ : Aside0 (Below w.heap.size w w22) := ⟨(by rw [hw]; exact (by repeat (first | (with_reducible first | exact HB.out | apply below_alloc | apply pw_below_drewN | apply below_drew1 | refine below_set ?_ GE214.out) | exact HB.out)))⟩; clear hw; clear HO_8; clear HO210; clear BK214; clear HB; have HO_8 := n0_; have HO210 := n1_; have BK214 := n2_; have HB := n3_; clear n0_ n1_ n2_ n3_; have hcz23_0 : w22.cell? ⟨gb214, 0, none⟩ = some (.int .i64 t205) := (blk_cell BK214.out 0).trans rfl; have hcz23_1 : w22.cell? ⟨gb214, 1, none⟩ = some (.string t206) := (blk_cell BK214.out 1).trans rfl; have hcz23_2 : w22.cell? ⟨gb214, 2, none⟩ = some (.string t207) := (blk_cell BK214.out 2).trans rfl; have hcz23_3 : w22.cell? ⟨gb214, 3, none⟩ = some (.slice Ao21 t208.length co21) := (blk_cell BK214.out 3).trans rfl; have hcz23_4 : w22.cell? ⟨gb214, 4, none⟩ = some (.bool t211) := (blk_cell BK214.out 4).trans rfl; have hfz23_0 := blk_frozen BK214.out 0; have hfz23_1 := blk_frozen BK214.out 1; have hfz23_2 := blk_frozen BK214.out 2; have hfz23_3 := blk_frozen BK214.out 3; have hfz23_4 := blk_frozen BK214.out 4) | ((with_reducible refine gate_builtin (b := .append) (xs := #[.tmp 49, .tmp 51]) rfl ?_); at_builtin; refine Kd.S_append k40 (w0 := w) w.heap.size rfl (.tmp 49) (.tmp 51) 26 40 (.agg #[(.int .i64 0), (.string ⟨#[]⟩), (.string ⟨#[]⟩), (.slice none 0 0), (.bool false)]) 72 rfl Tryz.underlying26 info40 rfl (by decide) (by omega) u8 x8_7 (⟨t205, t206, t207, t208, t211⟩ : S40) [.int .i64 t205, .string t206, .string t207, .slice Ao21 t208.length co21, .bool t211] (fun k_ => k_ ≠ gb214) (fun k_ => some k_ = (.slice Ao21 t208.length co21 : Value).ownBlock) rfl rfl ?aP (fun k_ hk_ => ((Kd.R_mono (ok' := fun k_ => ((fun k_ => k_ ≠ gb214)) k_ ∧ some k_ ≠ (u8 : Value).ownBlock) (Kd.R_types (Kd.R_apart' (HO210.out) (Kd.S_typed HO_8.out) (by decide)) BK214.out (by decide)) (fun k_ hk => ⟨hk.2, hk.1.2⟩))).1 k_ hk_.symm) ?aF ?aO ?aB ?aS ?aL ?_; (case aP => exact k40_mkM _ _ _ (⟨t205, t206, t207, t208, t211⟩ : S40) (Kd.R_mono (Kd.R_tight rfl (Kd.R_mono (ok' := fun k_ => ((fun k_ => k_ ≠ gb214)) k_ ∧ some k_ ≠ (u8 : Value).ownBlock) (Kd.R_types (Kd.R_apart' (HO210.out) (Kd.S_typed HO_8.out) (by decide)) BK214.out (by decide)) (fun k_ hk => ⟨hk.2, hk.1.2⟩))) (fun _ h_ => h_))); (case aB => exact (by repeat (first | (with_reducible first | exact HB.out | apply below_alloc | apply pw_below_drewN | apply below_drew1 | refine below_set ?_ GE214.out) | exact HB.out))); (case aF => exact (fun k_ hk => Kd.freshB (g := gb214) (o := .cells #[.int .i64 t205, .string t206, .string t207, .slice Ao21 t208.length co21, .bool t211] 40 (0, 0)) (by (with_reducible repeat (first | refine blk_drewN ?_ _ | refine blk_drew ?_ | refine blk_alloc ?_ _)); exact BK214.out) k_ hk)); (case aO => exact (by (with_reducible repeat (first | apply Kd.S_alloc | apply Kd.S_drewN | apply Kd.S_drew)); exact Kd.S_mono HO_8.out (fun k_ hk => ⟨hk.2, fun e_ => hk.1 e_⟩))); (case aS => exact (below_size (by repeat (first | (with_reducible first | exact HB.out | apply below_alloc | apply pw_below_drewN | apply below_drew1 | refine below_set ?_ GE214.out) | exact HB.out)))); (case aL => have := LMc17.out; omega); intro v216 w24 ho hb hg hat; rw [← Ny215.out] at ho; have n0_ := Aside0.mk (blk_grown (g := gb214) (o := .cells #[.int .i64 t205, .string t206, .string t207, .slice Ao21 t208.length co21, .bool t211] 40 (0, 0)) (by (with_reducible repeat (first | refine blk_drewN ?_ _ | refine blk_drew ?_ | refine blk_alloc ?_ _)); exact BK214.out) hg (Kd.S_away HO_8.out (fun _ hk => hk.2))); have n1_ := Aside0.mk (hb); have n2_ := Aside0.mk (ho); clear BK214; clear HB; clear HO_8; clear HO210; have BK214 := n0_; have HB := n1_; have HO217 := n2_; clear n0_ n1_ n2_; clear ho hb hg hat))
              go_ret2
              exact ⟨_, by first | rfl | (simp [errW_none, errW_some] <;> rfl) | (simp [*, errW_none, errW_some] <;> rfl), by (with_reducible repeat (first | apply Kd.S_alloc | apply Kd.S_drewN | apply Kd.S_drew)); exact Kd.S_mono HO217.out (fun _ hk => trivial), by repeat (first | (with_reducible first | exact HB.out | apply below_alloc | apply pw_below_drewN | apply below_drew1 | refine below_set ?_ GE214.out) | exact HB.out)⟩
            · rw [if_neg c17] at H
              exact absurd H (by simp)
          · replace c16 := Bool.eq_false_iff.mpr c16
            subst c16
            rw [if_neg (show ¬ (false = true) by decide)] at H
            simp only [Option.some.injEq, Prod.mk.injEq] at H
            obtain ⟨rfl, rfl⟩ := H
            go_wp2_with (first | ((with_reducible refine gate_callee (f := 73) rfl ?_); refine goesL_ (some 44) rfl rfl Tryz.func73 (by kernel_rfl) rfl #[.string a0, .int .i64 t200] rfl (by simp only [List.map_toArray, List.map_cons, List.map_nil] <;> rfl) ?_; (with_reducible refine (tag_Read.calls a0 t200 t205 t206 t207 t208 t211 t212 false _ ?gw A15.out).mono ?_); (case gw => exact hG.at (by with_reducible repeat first | exact HB.out | apply below_alloc | apply pw_below_drewN | apply below_drew1)); rintro e w25 ⟨v209, rfl, ho0, hb⟩; refine ⟨_, rfl, ?_⟩; have n0_ := Aside0.mk (Kd.S_elder' (by (with_reducible repeat (first | apply Kd.S_alloc | apply Kd.S_drewN | apply Kd.S_drew)); exact HO_8.out) (Kd.R_base ho0) hb); have n1_ := Aside0.mk (Kd.R_lower ho0 (below_size (by with_reducible repeat first | exact HB.out | apply below_alloc | apply pw_below_drewN | apply below_drew1))); have n2_ := Aside0.mk (below_step (by with_reducible repeat first | exact HB.out | apply below_alloc | apply pw_below_drewN | apply below_drew1) hb); clear HO_8; clear HB; have HO_8 := n0_; have HO210 := n1_; have HB := n2_; clear n0_ n1_ n2_; (try clear hb); (try clear hb2); (try clear hk); (try clear hi); (try clear ho0)) | ((with_reducible refine gate_dst (N := 12) rfl ?_); refine box_event ?hg (N := 12) ?hd (cs := #[.int .i64 0, .string (⟨#[]⟩ : ByteArray), .string (⟨#[]⟩ : ByteArray), .slice none 0 0, .bool false]) (t := 40) ?hr ?_; (case hd => rfl); (case hg => rfl); (case hr => first | (go_simp; done) | (go_simp; rfl)); intro gb214 hg w26 hbox hb; have n0_ := Aside0.mk (Kd.S_below (Kd.S_elderB (by (with_reducible repeat (first | apply Kd.S_alloc | apply Kd.S_drewN | apply Kd.S_drew)); exact HO_8.out) gb214 (Nat.le_of_eq hg.symm)) hb); have n1_ := Aside0.mk (Kd.R_below (by (with_reducible repeat (first | apply Kd.R_alloc | apply Kd.R_drewN | apply Kd.R_drew)); exact HO210.out) hb); have n2_ := Aside0.mk (below_step (by with_reducible repeat first | exact HB.out | apply below_alloc | apply pw_below_drewN | apply below_drew1) hb); have n3_ := Aside0.mk (hbox); have n4_ := Aside0.mk ((by rw [hg]; exact (below_size (by with_reducible repeat first | exact HB.out | apply below_alloc | apply pw_below_drewN | apply below_drew1)) : w.heap.size ≤ gb214)); have n5_ := Aside0.mk ((by rw [hg]; exact (below_size (by with_reducible repeat first | exact HB.out | apply below_alloc | apply pw_below_drewN | apply below_drew1)) : w.heap.size ≤ gb214)); clear HO_8; clear HO210; clear HB; have HO_8 := n0_; have HO210 := n1_; have HB := n2_; have BK214 := n3_; have GW214 := n4_; have GE214 := n5_; clear n0_ n1_ n2_ n3_ n4_ n5_; clear hb hbox hg; have hcz27_0 : w26.cell? ⟨gb214, 0, none⟩ = some (.int .i64 0) := (blk_cell BK214.out 0).trans rfl; have hcz27_1 : w26.cell? ⟨gb214, 1, none⟩ = some (.string (⟨#[]⟩ : ByteArray)) := (blk_cell BK214.out 1).trans rfl; have hcz27_2 : w26.cell? ⟨gb214, 2, none⟩ = some (.string (⟨#[]⟩ : ByteArray)) := (blk_cell BK214.out 2).trans rfl; have hcz27_3 : w26.cell? ⟨gb214, 3, none⟩ = some (.slice none 0 0) := (blk_cell BK214.out 3).trans rfl; have hcz27_4 : w26.cell? ⟨gb214, 4, none⟩ = some (.bool false) := (blk_cell BK214.out 4).trans rfl; have hfz27_0 := blk_frozen BK214.out 0; have hfz27_1 := blk_frozen BK214.out 1; have hfz27_2 := blk_frozen BK214.out 2; have hfz27_3 := blk_frozen BK214.out 3; have hfz27_4 := blk_frozen BK214.out 4; obtain ⟨Ao28, co28, eo28⟩ := Kd.R_slice HO210.out; subst eo28))
            go_ret2
            exact ⟨_, by first | rfl | (simp [errW_none, errW_some] <;> rfl) | (simp [*, errW_none, errW_some] <;> rfl), by (with_reducible repeat (first | apply Kd.S_alloc | apply Kd.S_drewN | apply Kd.S_drew)); exact Kd.S_mono (Kd.S_far (p := ⟨gb214, 4, none⟩) (Kd.S_far (p := ⟨gb214, 3, none⟩) (Kd.S_far (p := ⟨gb214, 2, none⟩) (Kd.S_far (p := ⟨gb214, 1, none⟩) (Kd.S_far (p := ⟨gb214, 0, none⟩) (Kd.S_mono HO_8.out (fun k_ hk => (⟨hk, hk.2⟩ : _ ∧ k_ ≠ gb214))) (fun _ hk => hk.2) (.int .i64 t205)) (fun _ hk => hk.2) (.string t206)) (fun _ hk => hk.2) (.string t207)) (fun _ hk => hk.2) (.slice Ao28 t208.length co28)) (fun _ hk => hk.2) (.bool t211)) (fun _ hk => trivial), by repeat (first | (with_reducible first | exact HB.out | apply below_alloc | apply pw_below_drewN | apply below_drew1 | refine below_set ?_ GE214.out) | exact HB.out)⟩
  · replace c7 := Bool.eq_false_iff.mpr c7
    subst c7
    rw [if_neg (show ¬ (false = true) by decide)] at H
    simp only [Option.some.injEq, Prod.mk.injEq] at H
    obtain ⟨rfl, rfl⟩ := H
    go_enter Tryz.func28, Tryz.ntmps28
    go_wp2_with (first | ((with_reducible refine gate_callee (f := 71) rfl ?_); refine goesL_ (some 15) rfl rfl Tryz.func71 (by kernel_rfl) rfl #[.string a0, .int .i64 a1] rfl (by simp only [List.map_toArray, List.map_cons, List.map_nil] <;> rfl) ?_; (with_reducible refine (tok_inside.calls a0 a1 t198 _ A5.out).mono ?_); rintro e w29 ⟨rfl, hb⟩; refine ⟨_, rfl, ?_⟩; have n0_ := Aside0.mk (below_step (by with_reducible repeat first | exact HB.out | apply below_alloc | apply pw_below_drewN | apply below_drew1) hb); clear HB; have HB := n0_; clear n0_; (try clear hb); (try clear hb2); (try clear hk); (try clear hi)) | ((with_reducible refine gate_callee (f := 79) rfl ?_); refine goesL_ (some 21) rfl rfl Tryz.func79 (by kernel_rfl) rfl #[.string a0, .int .i64 t198, .int .i64 a2, .string a3] rfl (by simp only [List.map_toArray, List.map_cons, List.map_nil] <;> rfl) ?_; (with_reducible refine (tok_ends.calls k a0 t198 a2 a3 t199 t200 false _ ?gw A6.out).mono ?_); (case gw => exact hG.at (by with_reducible repeat first | exact HB.out | apply below_alloc | apply pw_below_drewN | apply below_drew1)); rintro e w30 ⟨rfl, hb⟩; refine ⟨_, rfl, ?_⟩; have n0_ := Aside0.mk (below_step (by with_reducible repeat first | exact HB.out | apply below_alloc | apply pw_below_drewN | apply below_drew1) hb); clear HB; have HB := n0_; clear n0_; (try clear hb); (try clear hb2); (try clear hk); (try clear hi)))
    go_ret2
    exact ⟨_, by first | rfl | (simp [errW_none, errW_some] <;> rfl) | (simp [*, errW_none, errW_some] <;> rfl), by first | exact Kd.S_nil _ _ _ _ _ | exact Kd.N_nil _ _ _ _ _ | exact Kd.V_nil _ _ _ _ _ | exact Kd.Q_nil _ _ _ _ _ | exact Kd.R_nil _ _ _ _ _, by with_reducible repeat first | exact HB.out | apply below_alloc | apply pw_below_drewN | apply below_drew1⟩
end Go.Proofs.YteccaekalcjihaaGreatDoor.PTn
set_option linter.unusedVariables false
set_option linter.unusedSimpArgs false
namespace Go.Proofs.YteccaekalcjihaaGreatDoor.PTn
open Go.RowKit Go.Lib Go.Proofs.YteccaekalcjihaaGreatDoorW.PrintWords Go.Proofs.YteccaekalcjihaaGreatDoorW.PrintLast Go.Proofs.YteccaekalcjihaaGreatDoorW.PrintMore
def joOk : List S40 → Bool
  | [] => true
  | [x] => x.f3.isEmpty && !(x.f0 == 0 && x.f2.size == 0)
  | x :: y :: l => x.f3.isEmpty && !(x.f0 == 0 && x.f2.size == 0) && !(x.f0 == 0 && y.f0 == 0) && joOk (y :: l)
def tok_Join.f (l : List S40) : Option (List S40) := if joOk l = true ∧ l.length ≤ 1000000 ∧ (l.all fun x => (Lit.int .i64 x.f0).wf) = true then some l else none
theorem joOk_at : ∀ {l : List S40}, joOk l = true → ∀ i (h : i < l.length), (l[i]).f3 = [] ∧ ¬ ((l[i]).f0 = 0 ∧ (l[i]).f2.size = 0) ∧ (∀ j (hj : j + 1 = i), (l[i]).f0 = 0 → (l[j]'(by omega)).f0 ≠ 0)
  | [], _, i, h => by simp at h
  | [x], hk, i, h => by
    obtain rfl : i = 0 := by simpa using h
    simp only [joOk, Bool.and_eq_true, Bool.not_eq_true', Bool.and_eq_false_iff, beq_eq_false_iff_ne] at hk
    refine ⟨by simpa using hk.1, fun hc => ?_, fun j hj => by omega⟩
    rcases hk.2 with h1 | h1
    · exact h1 hc.1
    · exact h1 hc.2
  | x :: y :: l, hk, i, h => by
    simp only [joOk, Bool.and_eq_true, Bool.not_eq_true', Bool.and_eq_false_iff, beq_eq_false_iff_ne] at hk
    obtain ⟨⟨⟨k1, k2⟩, k3⟩, k4⟩ := hk
    cases i with
    | zero =>
      refine ⟨by simpa using k1, fun hc => ?_, fun j hj => by omega⟩
      rcases k2 with h1 | h1
      · exact h1 hc.1
      · exact h1 hc.2
    | succ i =>
      obtain ⟨a1, a2, a3⟩ := joOk_at k4 i (by simpa using h)
      refine ⟨by simpa using a1, by simpa using a2, fun j hj he => ?_⟩
      cases j with
      | zero =>
        obtain rfl : i = 0 := by omega
        rcases k3 with h1 | h1
        · exact h1
        · exact absurd (by simpa using he) h1
      | succ j =>
        have := a3 j (by omega) (by simpa using he)
        simpa using this
theorem jo_cells {w : World} {A : Option Addr} {l : List S40} (h : Kd.C k40 w A l.length l) (i : Nat) (hi : i < l.length) : ∃ ad A3 c3, A = some ad ∧ w.cell? (ad.add (i * 5)) = some (.int .i64 (l[i]).f0) ∧ w.cell? ⟨(ad.add (i * 5)).block, (ad.add (i * 5)).off + 1, none⟩ = some (.string (l[i]).f1) ∧ w.cell? ⟨(ad.add (i * 5)).block, (ad.add (i * 5)).off + 2, none⟩ = some (.string (l[i]).f2) ∧ w.cell? ⟨(ad.add (i * 5)).block, (ad.add (i * 5)).off + 3, none⟩ = some (.slice A3 (l[i]).f3.length c3) ∧ w.cell? ⟨(ad.add (i * 5)).block, (ad.add (i * 5)).off + 4, none⟩ = some (.bool (l[i]).f4) ∧ (l[i]).f3.length ≤ c3 := by
  have hg : rd_T40 l (i : Int) = l[i] := by simp [rd_T40, hi]
  obtain ⟨ad, A3, c3, h1, h2, h3, h4, h5, h6, h7⟩ := at_T40 h (i : Int) (by omega) (by omega)
  rw [hg] at h2 h3 h4 h5 h6 h7
  exact ⟨ad, A3, c3, h1, by simpa using h2, by simpa using h3, by simpa using h4, by simpa using h5, by simpa using h6, by first | exact h7.1 | exact h7⟩
theorem jo_take (l : List S40) (i : Nat) (h : i < l.length) : l.take (i + 1) = l.take i ++ [l[i]] := by
  rw [List.take_succ_eq_append_getElem h]
def JN (w wr : World) (v : Value) (l : List S40) (i : Nat) : Prop := Kd.N k40 40 wr w.heap.size (fun k => w.heap.size ≤ k) v (l.take i)
theorem jo_last {w wr : World} {v : Value} {l : List S40} {i : Nat} (h : JN w wr v l i) (hi : i ≤ l.length) (h0 : 0 < i) : ∃ ad, ∀ Ao co, v = .slice Ao i co → Ao = some ad ∧ wr.cell? (ad.add ((i - 1) * 5)) = some (.int .i64 (l[i - 1]'(by omega)).f0) := by
  obtain ⟨Ao, co, he⟩ := Kd.N_slice h
  have hl : (l.take i).length = i := by simp; omega
  subst he
  have hC := (Kd.N_reads' h).2.2
  obtain ⟨ad, A3, c3, h1, h2, _⟩ := jo_cells hC (i - 1) (by omega)
  refine ⟨ad, fun Ao' co' he => ?_⟩
  injection he with e1 e2 e3
  subst e1
  exact ⟨h1, by simpa using h2⟩
set_option maxHeartbeats 8000000 in
set_option maxRecDepth 100000 in
theorem tok_Join.calls (A0 : Option Addr) (c0 : Nat) (l0 : List S40) (r : List S40) (w : World) (hr0 : Kd.C k40 w A0 l0.length l0) (hc0 : l0.length ≤ c0) (h : tok_Join.f l0 = some r) :
    Calls Tryz.prog 30 #[.slice A0 l0.length c0] w fun e w' => ∃ v0_ : Value, e = .returned v0_ ∧ Kd.N k40 40 w' w.heap.size (fun k_ => w.heap.size ≤ k_) v0_ r ∧ Below w.heap.size w w' := by
  unfold tok_Join.f at h
  split at h
  · rename_i hok
    obtain rfl := Option.some.inj h
    have HJ := Aside0.mk (joOk_at hok.1)
    have HW := Aside0.mk (List.all_eq_true.1 hok.2.2)
    have HC := Aside0.mk hr0
    have hl2 := hok.2.1
    clear h hok hr0
    go_enter Tryz.func30, Tryz.ntmps30
    go_wp2
    go_loopg [3, 9] (l0.length + 1) (fun kq v3 v9 wr => ∃ i : Nat, v9 = .int .i64 i ∧ Aside0 (i ≤ l0.length) ∧ Aside0 (l0.length < i + kq) ∧ Aside0 (JN w wr v3 l0 i) ∧ Aside0 (Below w.heap.size w wr))
    case atStart => exact ⟨0, rfl, ⟨Nat.zero_le _⟩, ⟨by omega⟩, ⟨by unfold JN; rw [List.take_zero]; exact Kd.N_nil _ _ _ _ _⟩, ⟨Below.refl _ w⟩⟩
    case round =>
      obtain ⟨i, rfl, HI, HK, HN, HB⟩ := hrel
      have hi := HI.out
      by_cases hlt : i < l0.length
      · have d1 : decide ((i : Int) < (l0.length : Int)) = true := decide_eq_true (by omega)
        have d2 : decide (i < l0.length) = true := decide_eq_true hlt
        obtain ⟨x, hx⟩ : ∃ x, l0[i] = x := ⟨_, rfl⟩
        have hwf := HW.out x (hx ▸ List.getElem_mem hlt)
        obtain ⟨j1, j2, j3⟩ := HJ.out i hlt
        obtain ⟨ad, A3, c3, rfl, k0, k1, k2, k3, k4, k5⟩ := jo_cells (Kd.C_below HC.out HB.out) i hlt
        rw [hx] at j1 j2 j3 k0 k1 k2 k3 k4 k5
        have HX := Aside0.mk hx
        obtain ⟨Ao, co, hv⟩ := Kd.N_slice HN.out
        have hlen : (l0.take i).length = i := by simp; omega
        rw [hlen] at hv
        subst hv
        have L5 := Aside0.mk k5
        have J1 := Aside0.mk j1
        have b1 : (i : Int) ≤ 1000000 := by omega
        have b2 : i ≤ 1000000 := by omega
        clear hi hlen hx j1 k5
        have HP : Aside0 (l0.take (i + 1) = l0.take i ++ [x]) := ⟨by rw [jo_take l0 i hlt, HX.out]⟩
        have hrep : ∀ (v1 : Value) (w1 : World), Kd.N k40 40 w1 w.heap.size (fun k => w.heap.size ≤ k) v1 (l0.take i ++ [x]) → JN w w1 v1 l0 (i + 1) := fun v1 w1 hn => by unfold JN; rw [HP.out]; exact hn
        have HREP := Aside0.mk hrep
        clear hrep
        cases gk with
        | zero => exact absurd HK.out (by omega)
        | succ kq =>
        by_cases h0 : x.f0 = 0
        · have g1 : (x.f0 == 0) = true := beq_iff_eq.mpr h0
          have g2 : x.f2.toList.isEmpty = false := by
            rw [← Bool.not_eq_true, List.isEmpty_iff]
            intro he
            refine j2 ⟨h0, ?_⟩
            have : x.f2.toList.length = 0 := by rw [he]; rfl
            rw [ByteArray.toList_eq] at this
            simpa using this
          by_cases hz : i = 0
          · have g3 : decide ((i : Int) - 1 ≥ 0) = false := decide_eq_false (by omega)
            have g4 : decide (0 ≤ (i : Int) - 1) = false := decide_eq_false (by omega)
            have g5 : decide (1 ≤ (i : Int)) = false := decide_eq_false (by omega)
            have g6 : decide (1 ≤ i) = false := decide_eq_false (by omega)
            clear h0 j2 j3 hz
            go_wp2_with ((with_reducible refine gate_builtin (b := .append) (xs := #[.tmp 16, .tmp 18]) rfl ?_); at_builtin; refine Kd.N_append k40 (w0 := w) w.heap.size rfl (.tmp 16) (.tmp 18) 26 40 (.agg #[(.int .i64 0), (.string ⟨#[]⟩), (.string ⟨#[]⟩), (.slice none 0 0), (.bool false)]) 72 rfl Tryz.underlying26 info40 rfl (by decide) (by omega) (.slice Ao i co) (l0.take i) x [.int .i64 x.f0, .string x.f1, .string x.f2, .slice A3 x.f3.length c3, .bool x.f4] (fun k_ => w.heap.size ≤ k_) (fun k_ => w.heap.size ≤ k_ ∧ some k_ ≠ (Value.slice Ao i co).ownBlock) rfl (by show Value.slice (some ⟨wr.heap.size + 1, 0, none⟩) 1 1 = _; simp) ?aP (fun _ hk => hk) ?aF ?aO ?aB ?aS ?aL ?_; (case aP => exact k40_mkF _ _ x L5.out (by rw [J1.out]; exact fun W' _ => ⟨rfl, Nat.zero_le _, fun hp => absurd hp (Nat.lt_irrefl 0)⟩)); (case aF => exact fun k hk => Nat.le_trans (by have := HB.out.size; simp; omega) hk); (case aO => exact Kd.N_alloc HN.out _); (case aB => exact below_alloc HB.out _); (case aS => have := HB.out.size; simp; omega); (case aL => rw [List.length_take]; omega); intro v1 w1 hn hb hg hat; have HN1 := Aside0.mk (HREP.out v1 w1 hn); have HB1 := Aside0.mk hb; clear hn hb hg hat)
            go_roundg kq
            case rel => exact ⟨i + 1, rfl, ⟨by have := HI.out; omega⟩, ⟨by have := HK.out; omega⟩, HN1, HB1⟩
            case measure => exact Nat.lt_succ_self _
          · have hne := j3 (i - 1) (by omega) h0
            obtain ⟨ad2, hlast⟩ := jo_last (Kd.N_alloc HN.out (.cells #[.int .i64 x.f0, .string x.f1, .string x.f2, .slice A3 x.f3.length c3, .bool x.f4] 40) : JN w _ _ l0 i) (by have := HI.out; omega) (by omega)
            obtain ⟨rfl, hl1⟩ := hlast _ _ rfl
            obtain ⟨y, hy⟩ : ∃ y, l0[i - 1]'(by omega) = y := ⟨_, rfl⟩
            rw [hy] at hl1 hne
            have g3 : (y.f0 == 0) = false := beq_eq_false_iff_ne.mpr hne
            obtain ⟨m, hm⟩ : ∃ m : Nat, i - 1 = m := ⟨_, rfl⟩
            rw [hm] at hl1
            have hm1 : (i : Int) - 1 = (m : Int) := by omega
            have hm2 : (m : Int) < (i : Int) := by omega
            have hm3 : m < i := by omega
            have hm4 : decide ((m : Int) ≥ 0) = true := decide_eq_true (by omega)
            clear hlast hm h0 j2
            go_wp2_with ((with_reducible refine gate_builtin (b := .append) (xs := #[.tmp 16, .tmp 18]) rfl ?_); at_builtin; refine Kd.N_append k40 (w0 := w) w.heap.size rfl (.tmp 16) (.tmp 18) 26 40 (.agg #[(.int .i64 0), (.string ⟨#[]⟩), (.string ⟨#[]⟩), (.slice none 0 0), (.bool false)]) 72 rfl Tryz.underlying26 info40 rfl (by decide) (by omega) (.slice (some ad2) i co) (l0.take i) x [.int .i64 x.f0, .string x.f1, .string x.f2, .slice A3 x.f3.length c3, .bool x.f4] (fun k_ => w.heap.size ≤ k_) (fun k_ => w.heap.size ≤ k_ ∧ some k_ ≠ (Value.slice (some ad2) i co).ownBlock) rfl (by show Value.slice (some ⟨wr.heap.size + 1, 0, none⟩) 1 1 = _; simp) ?aP (fun _ hk => hk) ?aF ?aO ?aB ?aS ?aL ?_; (case aP => exact k40_mkF _ _ x L5.out (by rw [J1.out]; exact fun W' _ => ⟨rfl, Nat.zero_le _, fun hp => absurd hp (Nat.lt_irrefl 0)⟩)); (case aF => exact fun k hk => Nat.le_trans (by have := HB.out.size; simp; omega) hk); (case aO => exact Kd.N_alloc HN.out _); (case aB => exact below_alloc HB.out _); (case aS => have := HB.out.size; simp; omega); (case aL => rw [List.length_take]; omega); intro v1 w1 hn hb hg hat; have HN1 := Aside0.mk (HREP.out v1 w1 hn); have HB1 := Aside0.mk hb; clear hn hb hg hat)
            go_roundg kq
            case rel => exact ⟨i + 1, rfl, ⟨by have := HI.out; omega⟩, ⟨by have := HK.out; omega⟩, HN1, HB1⟩
            case measure => exact Nat.lt_succ_self _
        · have g1 : (x.f0 == 0) = false := beq_eq_false_iff_ne.mpr h0
          clear h0 j2 j3
          go_wp2_with ((with_reducible refine gate_builtin (b := .append) (xs := #[.tmp 16, .tmp 18]) rfl ?_); at_builtin; refine Kd.N_append k40 (w0 := w) w.heap.size rfl (.tmp 16) (.tmp 18) 26 40 (.agg #[(.int .i64 0), (.string ⟨#[]⟩), (.string ⟨#[]⟩), (.slice none 0 0), (.bool false)]) 72 rfl Tryz.underlying26 info40 rfl (by decide) (by omega) (.slice Ao i co) (l0.take i) x [.int .i64 x.f0, .string x.f1, .string x.f2, .slice A3 x.f3.length c3, .bool x.f4] (fun k_ => w.heap.size ≤ k_) (fun k_ => w.heap.size ≤ k_ ∧ some k_ ≠ (Value.slice Ao i co).ownBlock) rfl (by show Value.slice (some ⟨wr.heap.size + 1, 0, none⟩) 1 1 = _; simp) ?aP (fun _ hk => hk) ?aF ?aO ?aB ?aS ?aL ?_; (case aP => exact k40_mkF _ _ x L5.out (by rw [J1.out]; exact fun W' _ => ⟨rfl, Nat.zero_le _, fun hp => absurd hp (Nat.lt_irrefl 0)⟩)); (case aF => exact fun k hk => Nat.le_trans (by have := HB.out.size; simp; omega) hk); (case aO => exact Kd.N_alloc HN.out _); (case aB => exact below_alloc HB.out _); (case aS => have := HB.out.size; simp; omega); (case aL => rw [List.length_take]; omega); intro v1 w1 hn hb hg hat; have HN1 := Aside0.mk (HREP.out v1 w1 hn); have HB1 := Aside0.mk hb; clear hn hb hg hat)
          go_roundg kq
          case rel => exact ⟨i + 1, rfl, ⟨by have := HI.out; omega⟩, ⟨by have := HK.out; omega⟩, HN1, HB1⟩
          case measure => exact Nat.lt_succ_self _
      · have d1 : decide ((i : Int) < (l0.length : Int)) = false := decide_eq_false (by omega)
        have d2 : decide (i < l0.length) = false := decide_eq_false hlt
        obtain rfl : i = l0.length := by omega
        clear hlt hi
        go_wp2
        go_ret
        exact ⟨_, rfl, by have := HN.out; unfold JN at this; rw [List.take_length] at this; exact this, HB.out⟩
  · cases h
theorem jo_bound {α : Type} {d : Kd α} {e : Nat} {w : World} {base : Nat} {v : Value} {xs : List α} (h : Kd.N d e w base (fun k => base ≤ k) v xs) : Kd.N d e w base (fun k => True ∧ base ≤ k ∧ True) v xs := Kd.N_mono h (fun k hk => ⟨trivial, hk, trivial⟩)
end Go.Proofs.YteccaekalcjihaaGreatDoor.PTn
set_option linter.unusedVariables false
namespace Go.Proofs.YteccaekalcjihaaGreatDoor.PTn
open Go.RowKit Go.Lib Go.Maps Go.TopMaps Go.Proofs.YteccaekalcjihaaGreatDoorW.PrintWords
def stL : List (ByteArray × Int) := [(⟨#[112, 108, 97, 105, 110, 116, 101, 120, 116]⟩, 4), (⟨#[115, 99, 114, 105, 112, 116]⟩, 3), (⟨#[110, 111, 115, 99, 114, 105, 112, 116]⟩, 2), (⟨#[110, 111, 102, 114, 97, 109, 101, 115]⟩, 2), (⟨#[110, 111, 101, 109, 98, 101, 100]⟩, 2), (⟨#[105, 102, 114, 97, 109, 101]⟩, 2), (⟨#[120, 109, 112]⟩, 2), (⟨#[115, 116, 121, 108, 101]⟩, 2), (⟨#[116, 101, 120, 116, 97, 114, 101, 97]⟩, 1), (⟨#[116, 105, 116, 108, 101]⟩, 1)]
def stKV (l : List (ByteArray × Int)) : List (Lit × Value) := l.map fun p => (Lit.string p.1.data.toList, Value.int .i64 p.2)
def stGet (s : ByteArray) : List (ByteArray × Int) → Int
  | [] => 0
  | p :: l => if p.1.data.toList = s.data.toList then p.2 else stGet s l
def drive_State.f (s : ByteArray) : Option Int := if s.size ≤ 1000000000 then some (stGet s stL) else none
theorem stKV_lit (l : List (ByteArray × Int)) : ∀ p ∈ stKV l, WideAt.IsKeyLit p.1 := by
  intro p hp
  obtain ⟨q, _, rfl⟩ := List.mem_map.1 hp
  exact trivial
theorem stKV_get (s : ByteArray) : ∀ l : List (ByteArray × Int), (getL (Lit.string s.data.toList) (stKV l)).getD (.int .i64 0) = .int .i64 (stGet s l)
  | [] => rfl
  | p :: l => by
    have ih := stKV_get s l
    show (getL (Lit.string s.data.toList) ((Lit.string p.1.data.toList, Value.int .i64 p.2) :: stKV l)).getD _ = _
    simp only [getL, Lit.sameKey, beq_iff_eq, stGet]
    split
    · rfl
    · exact ih
theorem st_put {w : World} {b n : Nat} {l : List (ByteArray × Int)} (h : w.ownsMap Tryz.prog 9 rdF b n (puts (stKV l))) (hn : n < 100) (s : ByteArray) (hs : s.size ≤ 100) (v : Int) :
    ∃ w', (Instr.mapUpdate 112 (.map (some b)) (.string s) (.int .i64 v)).run Tryz.prog w = .ok () w' ∧ w'.ownsMap Tryz.prog 9 rdF b (n + 1) (puts (stKV ((s, v) :: l))) ∧ w.grownBy w' (some b) := by
  have hlen : maxLen = 9223372036854775807 := rfl
  exact put_step h (string_keyed Tryz.underlying9) Tryz.underlying112 (by omega) (WideMaps.keyOf_string_mk Tryz.underlying9 (by omega))
theorem st_all (w : World) : ∃ w1 w2 w3 w4 w5 w6 w7 w8 w9 w10,
    (Instr.mapUpdate 112 (.map (some w.heap.size)) (.string ⟨#[116, 105, 116, 108, 101]⟩) (.int .i64 1)).run Tryz.prog (w.alloc (.map #[] 0)) = .ok () w1 ∧
    (Instr.mapUpdate 112 (.map (some w.heap.size)) (.string ⟨#[116, 101, 120, 116, 97, 114, 101, 97]⟩) (.int .i64 1)).run Tryz.prog w1 = .ok () w2 ∧
    (Instr.mapUpdate 112 (.map (some w.heap.size)) (.string ⟨#[115, 116, 121, 108, 101]⟩) (.int .i64 2)).run Tryz.prog w2 = .ok () w3 ∧
    (Instr.mapUpdate 112 (.map (some w.heap.size)) (.string ⟨#[120, 109, 112]⟩) (.int .i64 2)).run Tryz.prog w3 = .ok () w4 ∧
    (Instr.mapUpdate 112 (.map (some w.heap.size)) (.string ⟨#[105, 102, 114, 97, 109, 101]⟩) (.int .i64 2)).run Tryz.prog w4 = .ok () w5 ∧
    (Instr.mapUpdate 112 (.map (some w.heap.size)) (.string ⟨#[110, 111, 101, 109, 98, 101, 100]⟩) (.int .i64 2)).run Tryz.prog w5 = .ok () w6 ∧
    (Instr.mapUpdate 112 (.map (some w.heap.size)) (.string ⟨#[110, 111, 102, 114, 97, 109, 101, 115]⟩) (.int .i64 2)).run Tryz.prog w6 = .ok () w7 ∧
    (Instr.mapUpdate 112 (.map (some w.heap.size)) (.string ⟨#[110, 111, 115, 99, 114, 105, 112, 116]⟩) (.int .i64 2)).run Tryz.prog w7 = .ok () w8 ∧
    (Instr.mapUpdate 112 (.map (some w.heap.size)) (.string ⟨#[115, 99, 114, 105, 112, 116]⟩) (.int .i64 3)).run Tryz.prog w8 = .ok () w9 ∧
    (Instr.mapUpdate 112 (.map (some w.heap.size)) (.string ⟨#[112, 108, 97, 105, 110, 116, 101, 120, 116]⟩) (.int .i64 4)).run Tryz.prog w9 = .ok () w10 ∧
    w10.ownsMap Tryz.prog 9 rdF w.heap.size 10 (puts (stKV stL)) ∧ Below w.heap.size w w10 := by
  have hm := made w Tryz.prog 9
  have gb : ∀ {A B : World}, Below w.heap.size w A → A.grownBy B (some w.heap.size) → Below w.heap.size w B := fun {A B} h g =>
    h.trans ⟨g.os, g.tape, g.output, Nat.le_trans h.size g.size |> fun _ => g.size, fun k hk => g.block k (Nat.lt_of_lt_of_le hk h.size) (by simp; omega)⟩
  obtain ⟨w1, h1, o1, g1⟩ := st_put (l := []) hm (by omega) ⟨#[116, 105, 116, 108, 101]⟩ (by decide) 1
  obtain ⟨w2, h2, o2, g2⟩ := st_put o1 (by omega) ⟨#[116, 101, 120, 116, 97, 114, 101, 97]⟩ (by decide) 1
  obtain ⟨w3, h3, o3, g3⟩ := st_put o2 (by omega) ⟨#[115, 116, 121, 108, 101]⟩ (by decide) 2
  obtain ⟨w4, h4, o4, g4⟩ := st_put o3 (by omega) ⟨#[120, 109, 112]⟩ (by decide) 2
  obtain ⟨w5, h5, o5, g5⟩ := st_put o4 (by omega) ⟨#[105, 102, 114, 97, 109, 101]⟩ (by decide) 2
  obtain ⟨w6, h6, o6, g6⟩ := st_put o5 (by omega) ⟨#[110, 111, 101, 109, 98, 101, 100]⟩ (by decide) 2
  obtain ⟨w7, h7, o7, g7⟩ := st_put o6 (by omega) ⟨#[110, 111, 102, 114, 97, 109, 101, 115]⟩ (by decide) 2
  obtain ⟨w8, h8, o8, g8⟩ := st_put o7 (by omega) ⟨#[110, 111, 115, 99, 114, 105, 112, 116]⟩ (by decide) 2
  obtain ⟨w9, h9, o9, g9⟩ := st_put o8 (by omega) ⟨#[115, 99, 114, 105, 112, 116]⟩ (by decide) 3
  obtain ⟨w10, h10, o10, g10⟩ := st_put o9 (by omega) ⟨#[112, 108, 97, 105, 110, 116, 101, 120, 116]⟩ (by decide) 4
  have b0 := (Below.refl w.heap.size w).alloc (Nat.le_refl _) (.map #[] 0)
  exact ⟨w1, w2, w3, w4, w5, w6, w7, w8, w9, w10, h1, h2, h3, h4, h5, h6, h7, h8, h9, h10, o10, gb (gb (gb (gb (gb (gb (gb (gb (gb (gb b0 g1) g2) g3) g4) g5) g6) g7) g8) g9) g10⟩
set_option maxHeartbeats 4000000 in
set_option maxRecDepth 100000 in
theorem drive_State.calls (s : ByteArray) (r : Int) (w : World) (h : drive_State.f s = some r) :
    Calls Tryz.prog 29 #[.string s] w fun e w' => e = .returned (.int .i64 r) ∧ Below w.heap.size w w' := by
  unfold drive_State.f at h
  split at h
  · rename_i hs
    obtain rfl := Option.some.inj h
    obtain ⟨w1, w2, w3, w4, w5, w6, w7, w8, w9, w10, h1, h2, h3, h4, h5, h6, h7, h8, h9, h10, o10, hb⟩ := st_all w
    have hlen : maxLen = 9223372036854775807 := rfl
    obtain ⟨v, hv, he⟩ := Go.TopMaps.look o10 (string_keyed Tryz.underlying9) Tryz.underlying112 (stKV_lit stL) (WideMaps.keyOf_string_mk Tryz.underlying9 (s := s) (by omega)) (z := .int .i64 0) (by kernel_rfl)
    rw [stKV_get] at he
    subst he
    have HB := Aside0.mk hb
    clear hb o10 h hs hlen
    have hmm := @run_makeMap Tryz.prog
    go_enter Tryz.func29, Tryz.ntmps29
    go_wp2
    go_ret
    exact ⟨rfl, HB.out⟩
  · cases h
end Go.Proofs.YteccaekalcjihaaGreatDoor.PTn
