/- However many digits a number has, it is read as the whole number is, in text, in attributes, and in what bytes say: of every list of numbers the law's call returns true. The card ties what the row lists to the program's text. -/
import Derived.Test.YteccaekalcjihaaGreatDoorLotM
import Derived.Test.YteccaekalcjihaaGreatDoorCards
import Derived.Test.YteccaekalcjihaaGreatDoorTie
import Derived.WalkKit
import Derived.ShutString
import Derived.ChangeOld
import Derived.Below
import Derived.SizedLaws
import Derived.SevenTiedAt
import Derived.Stop.Joined
set_option linter.unusedVariables false
namespace Go.Proofs.YteccaekalcjihaaGreatDoor.Row
open Go.ChangeShapes Go.WideShapes Go.ChangeAt Go.RowKit Go.Proofs.YteccaekalcjihaaGreatDoor.PTn Go.Proofs.YteccaekalcjihaaGreatDoorW.PrintWords
theorem laidOut : laidOutB Tryz.prog = true := by kernel_rfl
theorem u8_wf {n : Int} (h : (Lit.int .u8 n).wf = true) : 0 ≤ n ∧ n ≤ 255 := by
  simp [Lit.wf, IntKind.min, IntKind.max, IntKind.signed, IntKind.bits] at h
  omega
theorem open_bytes {H : Type} {enc : TypeId × Value → H} {W : World} {a0 : Option Addr} {len0 cap0 : Nat} {d0 : DataW H} {p0 : List MemPlace} (h0 : DataW.Trod enc Tryz.prog W 0 (fun _ => true) true 22 (Value.slice a0 len0 cap0) d0 p0) :
    ∃ l : List Int, l.length = len0 ∧ Kd.C (Kd.int .u8) W a0 l.length l ∧ ∀ i (h : i < l.length), 0 ≤ l[i] ∧ l[i] ≤ 255 := by
  obtain ⟨fuel, hf⟩ := h0
  rcases open_ints Tryz.underlying22 Tryz.underlying5 (by kernel_rfl) hf with ⟨hcs, _⟩ | ⟨x, l, c, zs, hcs, _, hl, hm, hz, _, hcell, hwz⟩
  · simp [Value.cells] at hcs
    obtain ⟨rfl, rfl, rfl⟩ := hcs
    exact ⟨[], rfl, Kd.C_nil _ _, fun i h => absurd h (Nat.not_lt_zero i)⟩
  · simp [Value.cells] at hcs
    obtain ⟨rfl, rfl, rfl⟩ := hcs
    have hzl : zs.length = cap0 := by simpa using hz
    have hlen : (zs.take len0).length = len0 := by rw [List.length_take]; omega
    refine ⟨zs.take len0, hlen, ?_, fun i h => ?_⟩
    · rw [hlen]
      refine Kd.C_of_reads (h1 := fun _ => rfl) (d := 0) ⟨hlen, by unfold maxLen at hm; omega, fun _ => ⟨_, rfl, fun j hj => ?_⟩⟩
      rw [hcell j (by omega)]
      simp [List.getD_eq_getElem?_getD, hj]
    · have h2 := hwz _ (List.mem_of_mem_take (List.getElem_mem h))
      exact u8_wf h2
set_option maxRecDepth 100000 in
theorem lifted (os : Os) (started : os.Started) (H : Type) (enc : TypeId × Value → H) :
    ReturnsInHanded {} Tryz.checked os 4 .any (fun w args => (Rows.topNumbersSpec.pre enc Tryz.prog Tryz.f4 Rows.topNumbersRow.domain false w args ∧ laidMetH Tryz.prog Rows.topNumbersRow.laid w) ∧ sizedMet enc Tryz.prog Tryz.f4 (OpenSpec.ofChange Rows.topNumbersSpec) false w args)
      (Rows.topNumbersSpec.post enc Tryz.prog Tryz.f4 false true false false) := by
  refine returns_and_shaped (C := Tryz.checked) (X := fun w _ => laidMetH Tryz.prog Rows.topNumbersRow.laid w) (fun _ _ _ hh h => h.of_heap hh) own started (by kernel_rfl) Tryz.func4 (witness enc os) ?_
  intro W base args ds gs before hval0 hW hsz0 hL hsh
  have hG := gw_of hL hsh
  have hval : ∀ (j : Nat) t v, Tryz.f4.params[j]? = some t → args[j]? = some v → Value.okWide Tryz.prog W .any base t v := hval0
  have hW' := hW
  obtain ⟨p, q, hA0, hV, rfl, hfz, hnd⟩ := hW
  have hA : DataW.TrodAll enc Tryz.prog W 0 (fun _ => true) true Tryz.f4.params.toList args.toList ds p := hA0
  rw [Tryz.params4] at hA hval
  obtain ⟨v0, vs0, d0, ds0, p0, q0, hargs, rfl, rfl, h0, r0⟩ := trodAll_cons hA
  obtain ⟨v1, vs1, d1, ds1, p1, q1, rfl, rfl, rfl, h1, r1⟩ := trodAll_cons r0
  obtain ⟨rfl, rfl, rfl⟩ := trodAll_nil r1
  obtain rfl : args = #[v0, v1] := by cases args; simp_all
  obtain ⟨rfl, rfl⟩ := trodVars_none hV
  obtain ⟨a0, len0, cap0, rfl⟩ := okWide_slice Tryz.underlying22 (hval 0 22 v0 rfl rfl)
  have k0 := h0
  have lt0 : ∀ x ∈ p0, x.block < W.heap.size := by obtain ⟨m, hm⟩ := k0; exact DataW.trod_lt m _ _ _ hm
  obtain ⟨l, rfl, hr, hu⟩ := open_bytes h0
  obtain ⟨a1, rfl, rfl, rfl⟩ := open_bool Tryz.underlying4 (hval 1 4 v1 rfl rfl) h1
  clear hA0 hval0 hsz0
  refine (numbers_all a1 l a0 cap0 W hG hr hu).mono fun e W' ⟨he, bel⟩ => ?_
  subst he
  exact ⟨_, rfl, _, _, _, [], _, [], hW', trodAll_mk1 (shut_bool Tryz.underlying4 _), (trodAll_cons_mk (Below.trod laidOut (by kernel_rfl) (of_decide_eq_true (by kernel_rfl)) k0 bel lt0) (trodAll_cons_mk (shut_bool Tryz.underlying4 _) trodAll_mk0)), rfl, bel.frame _, fun h => by cases h⟩
theorem over : Rows.TopNumbersSaid :=
  OpenClaim.holds_of_wide 4 Tryz.f4 rfl rfl rfl rfl rfl rfl rfl ⟨rfl, rfl, rfl, rfl, rfl⟩ rfl rfl rfl rfl rfl (by kernel_rfl) Tryz.func4 (by kernel_rfl)
    (of_decide_eq_true (by kernel_rfl)) (by unfold Func.isWrapper; first | (rw [if_pos (by decide +kernel)]; kernel_rfl) | (rw [if_neg (by decide +kernel)]; exact ⟨rfl, rfl⟩))
    (fun os started H enc _ => lifted os started H enc)
theorem card : Rows.TopNumbersCardSaid :=
  Claim7.holds_tied_plain_at .later [] [.data, .data, .data, .data, .sentinel, .sentinel, .pinned] true (true, "ede803efa337447c1f5b747b43fb2ac8954107614d461966f148573580d1ef50") true
    over (fun _ h => by cases h) (by kernel_rfl) (fun _ h => by cases h) topNumbers_row_tie rfl ⟨rfl, rfl⟩ (by kernel_rfl) rfl
    (fun f fn hf hfn => by
      obtain rfl : f = 4 := Option.some.inj ((show Tryz.prog.funcNamed "flail/flailtop.TopNumbers" = some 4 by kernel_rfl).symm.trans hf) |>.symm
      obtain rfl : fn = Tryz.f4 := (Option.some.inj (Tryz.func4.symm.trans hfn)).symm
      exact ⟨by kernel_rfl, fun j t ht => by
        rw [Tryz.params4] at ht
        have hm : t ∈ [22, 4] := by simpa using Array.mem_of_getElem? ht
        have hall : ([22, 4].all fun u => !Tryz.prog.wantsStandIn u) = true := by kernel_rfl
        exact (show Tryz.prog.wantsStandIn t = false by simpa using List.all_eq_true.1 hall t hm)⟩)
    (by kernel_rfl)
end Go.Proofs.YteccaekalcjihaaGreatDoor.Row
namespace Go.Proofs.YteccaekalcjihaaGreatDoor
theorem topNumbers_holds : Rows.TopNumbersCardSaid := Row.card
#print axioms topNumbers_holds
end Go.Proofs.YteccaekalcjihaaGreatDoor
