/- Several texts of this claim, laid together into one file. -/
import Derived.Test.YteccaekalcjihaaGreatDoorLotH
import Derived.Test.YteccaekalcjihaaGreatDoorLotE
import Derived.Test.YteccaekalcjihaaGreatDoorLotL
import Derived.Test.YteccaekalcjihaaGreatDoorLotK
import Derived.Test.YteccaekalcjihaaGreatDoorLotJ
import Derived.Test.YteccaekalcjihaaGreatDoorLotB
import Derived.RegionTactic
import Derived.ChangeAlike
import Derived.Deep.RegionWith
import Derived.Test.YteccaekalcjihaaGreatDoorLotI
import Derived.Test.YteccaekalcjihaaGreatDoorRows
import Derived.ProofKit
import Derived.OpenShut
import Derived.LaidMore
import Derived.Lay
import Derived.Stop.LaidErr
import Derived.Shelf.Vars
set_option linter.unusedSimpArgs false
set_option linter.unusedVariables false
set_option linter.unusedVariables false
set_option linter.unusedSimpArgs false
namespace Go.Proofs.YteccaekalcjihaaGreatDoor.PTn
open Go.RowKit Go.Lib Go.Proofs.YteccaekalcjihaaGreatDoorW.PrintWords Go.Proofs.YteccaekalcjihaaGreatDoorW.PrintLast Go.Proofs.YteccaekalcjihaaGreatDoorW.PrintMore
def dg (d : Nat) : UInt8 := if d < 10 then UInt8.ofNat (48 + d) else UInt8.ofNat (87 + d)
def dgs (D : List Nat) : List UInt8 := D.map dg
def bas (six : Bool) : Nat := if six = true then 16 else 10
def preL (six : Bool) : List UInt8 := if six = true then [35, 120] else [35]
def val (b : Nat) (D : List Nat) (n : Nat) : Nat := D.foldl (fun n d => min (n * b + d) 1114112) n
theorem val_le (b : Nat) : ∀ (D : List Nat) (n : Nat), n ≤ 1114112 → val b D n ≤ 1114112
  | [], n, h => h
  | d :: D, n, _ => val_le b D _ (Nat.min_le_right _ _)
theorem hex_dg (d : Nat) (h : d < 16) : sign_Hex.f ((dg d).toNat : Int) = some (d : Int) :=
  (by decide +kernel : ∀ d : Fin 16, sign_Hex.f ((dg d.val).toNat : Int) = some ((d.val : Nat) : Int)) ⟨d, h⟩
theorem digit_dg (d : Nat) (h : d < 16) : sign_Digit.f ((dg d).toNat : Int) = some (decide (d < 10)) :=
  (by decide +kernel : ∀ d : Fin 16, sign_Digit.f ((dg d.val).toNat : Int) = some (decide (d.val < 10))) ⟨d, h⟩
theorem bas_le (six : Bool) : bas six ≤ 16 := by cases six <;> decide
theorem nv_dgs (six : Bool) (D : List Nat) (hD : ∀ d ∈ D, d < bas six) : ∀ (k i n : Nat), i ≤ D.length → D.length ≤ i + k → nv (tx (dgs D)) (bas six) (k + 1) i n = some (val (bas six) (D.drop i) n)
  | 0, i, n, h1, h2 => by
    have hi : i = D.length := by omega
    rw [nv, tx_size, dgs, List.length_map, if_neg (by omega), hi, List.drop_length]
    rfl
  | k + 1, i, n, h1, h2 => by
    by_cases hi : i < D.length
    · have hd := hD _ (List.getElem_mem hi)
      have hb := bas_le six
      have hl : i < (dgs D).length := by simp [dgs]; exact hi
      rw [nv, tx_size, if_pos hl, tx_bt _ _ hl]
      have e : (dgs D)[i]'hl = dg (D[i]) := by simp [dgs]
      rw [e, hex_dg _ (by omega)]
      show (if 0 ≤ ((D[i] : Nat) : Int) ∧ ((D[i] : Nat) : Int) < (bas six : Int) then nv (tx (dgs D)) (bas six) (k + 1) (i + 1) (min (n * bas six + ((D[i] : Nat) : Int).toNat) 1114112) else none) = _
      rw [if_pos ⟨by omega, by omega⟩, nv_dgs six D hD k (i + 1) _ (by omega) (by omega), List.drop_eq_getElem_cons hi, Int.toNat_natCast]
      rfl
    · have hi : i = D.length := by omega
      rw [nv, tx_size, dgs, List.length_map, if_neg (by omega), hi, List.drop_length]
      rfl
theorem value_dgs (six : Bool) (D : List Nat) (hD : ∀ d ∈ D, d < bas six) (h0 : 0 < D.length) (h1 : D.length ≤ 1000) : number_Value.f (tx (dgs D)) six = some ((val (bas six) D 0 : Nat) : Int) := by
  have hs : (tx (dgs D)).size = D.length := by rw [tx_size, dgs, List.length_map]
  unfold number_Value.f
  have e : (if six = true then 16 else 10 : Nat) = bas six := rfl
  rw [hs, if_pos ⟨h0, by omega⟩, e, nv_dgs six D hD D.length 0 0 (by omega) (by omega)]
  rfl
theorem begins_one (L : List UInt8) (p : Nat) (c x : UInt8) (h : L.length ≤ 100000) (hp : L[p]? = some x) : sign_Begins.f (tx L) (p : Int) (tx [c]) = some (lowB x == c) := by
  obtain ⟨h1, h2⟩ := List.getElem?_eq_some_iff.1 hp
  rw [begins_tx L [c] p h (by simp) (by omega), decide_eq_true (by simp; omega), Bool.true_and, List.drop_eq_getElem_cons h1, h2]
  show some (lowL (x :: List.take 0 (List.drop (p + 1) L)) == [c]) = _
  simp [lowL]
theorem j2_at (L : List UInt8) (k x9 x7 n : Nat) (x1 : Int) (six : Bool) (want : ByteArray) (h : L.length ≤ 100000) (h9 : x9 ≤ x7) (h59 : L[x7]? = some 59) (hv : number_Value.f ((tx L).extract x9 x7) six = some (n : Int)) (hf : number_Fix.f (n : Int) = some want) :
    number_Read.j2 (k + 1) (tx L) x1 (x7 : Int) six (x9 : Int) = some (want, (x7 : Int) + 1, true) := by
  obtain ⟨h1, _⟩ := List.getElem?_eq_some_iff.1 h59
  rw [number_Read.j2, tx_size, if_pos (by omega), if_pos (by omega), if_pos (by omega), Int.toNat_natCast, Int.toNat_natCast, hv, Option.bind_some, if_neg (by omega), show (⟨#[59]⟩ : ByteArray) = tx [59] from rfl, begins_one L x7 59 59 h h59, Option.bind_some, if_pos (by decide), hf, Option.bind_some, w64i (by omega) (by omega)]
theorem l0_dgs (L Q : List UInt8) (x9 n : Nat) (x1 : Int) (six : Bool) (want : ByteArray) (h : L.length ≤ 100000) : ∀ (D : List Nat) (k p : Nat), (∀ d ∈ D, d < bas six) → L.drop p = dgs D ++ 59 :: Q → x9 ≤ p → D.length < k → number_Value.f ((tx L).extract x9 (p + D.length)) six = some (n : Int) → number_Fix.f (n : Int) = some want →
    number_Read.l0 (k + 1) (tx L) x1 (p : Int) six (x9 : Int) = some (want, ((p + D.length : Nat) : Int) + 1, true)
  | [], k, p, hD, hL, h9, hk, hv, hf => by
    have hp : L[p]? = some 59 := by
      have := congrArg (fun l => l[0]?) hL
      simpa [dgs, List.getElem?_drop] using this
    obtain ⟨h1, h2⟩ := List.getElem?_eq_some_iff.1 hp
    obtain ⟨k, rfl⟩ : ∃ j, k = j + 1 := ⟨k - 1, by simp at hk; omega⟩
    have hj := j2_at L k x9 p n x1 six want h h9 hp (by simpa using hv) hf
    rw [number_Read.l0, tx_size, if_pos (by omega), if_pos (by omega), tx_bt L p h1, h2, show sign_Digit.f ((59 : UInt8).toNat : Int) = some false by decide, Option.bind_some, if_neg (by decide)]
    cases six with
    | false => rw [if_neg (by decide)]; simpa using hj
    | true => rw [if_pos rfl, show sign_Hex.f ((59 : UInt8).toNat : Int) = some (-1) by decide, Option.bind_some, if_neg (by decide)]; simpa using hj
  | d :: D, k, p, hD, hL, h9, hk, hv, hf => by
    have hp : L[p]? = some (dg d) := by
      have := congrArg (fun l => l[0]?) hL
      simpa [dgs, List.getElem?_drop] using this
    obtain ⟨h1, h2⟩ := List.getElem?_eq_some_iff.1 hp
    obtain ⟨k, rfl⟩ : ∃ j, k = j + 1 := ⟨k - 1, by simp at hk; omega⟩
    have hd := hD d (List.mem_cons_self ..)
    have hb := bas_le six
    have ih := l0_dgs L Q x9 n x1 six want h D k (p + 1) (fun x hx => hD x (List.mem_cons_of_mem _ hx)) (by
      have := congrArg (List.drop 1) hL
      simpa [dgs, List.drop_drop] using this) (by omega) (by simp at hk; omega) (by
      have e : p + 1 + D.length = p + (d :: D).length := by simp; omega
      rw [e]
      exact hv) hf
    have e : p + (d :: D).length = p + 1 + D.length := by simp; omega
    rw [e, ← ih, number_Read.l0, tx_size, if_pos (by omega), if_pos (by omega), tx_bt L p h1, h2, digit_dg d (by omega), Option.bind_some, w64i (by omega) (by omega)]
    by_cases h10 : d < 10
    · rw [decide_eq_true h10, if_pos rfl]
      rfl
    · rw [decide_eq_false h10, if_neg (by decide)]
      cases six with
      | false => exact absurd hd h10
      | true => rw [if_pos rfl, hex_dg d (by omega), Option.bind_some, if_pos (by omega)]; rfl
theorem x_dg (d : Nat) (h : d < 10) : (lowB (dg d) == 120) = false := (by decide +kernel : ∀ d : Fin 10, (lowB (dg d.val) == 120) = false) ⟨d, h⟩
theorem read_dgs (A Q : List UInt8) (six : Bool) (D : List Nat) (want : ByteArray) (hD : ∀ d ∈ D, d < bas six) (h0 : 0 < D.length) (h1 : D.length ≤ 1000) (h : (A ++ (preL six ++ (dgs D ++ 59 :: Q))).length ≤ 100000) (k : Nat) (hk : D.length + 2 < k) (hf : number_Fix.f ((val (bas six) D 0 : Nat) : Int) = some want) :
    number_Read.f k (tx (A ++ (preL six ++ (dgs D ++ 59 :: Q)))) (A.length : Int) = some (want, ((A.length + (preL six).length + D.length + 1 : Nat) : Int), true) := by
  obtain ⟨L, hL⟩ : ∃ L, A ++ (preL six ++ (dgs D ++ 59 :: Q)) = L := ⟨_, rfl⟩
  have hdl : (dgs D).length = D.length := by simp [dgs]
  have hp0 : L[A.length]? = some 35 := by rw [← hL]; cases six <;> simp [preL]
  have hd : L.drop (A.length + (preL six).length) = dgs D ++ 59 :: Q := by rw [← hL, ← List.append_assoc, ← List.length_append, List.drop_left]
  have hx : (tx L).extract (A.length + (preL six).length) (A.length + (preL six).length + D.length) = tx (dgs D) := by
    rw [tx_ex, List.drop_take, hd, Nat.add_sub_cancel_left, ← hdl, List.take_left]
  have hv := value_dgs six D hD h0 h1
  rw [← hx] at hv
  obtain ⟨d, D', rfl⟩ : ∃ d D', D = d :: D' := by
    cases D with
    | nil => simp at h0
    | cons d D' => exact ⟨d, D', rfl⟩
  rw [hL] at h ⊢
  have hlen : A.length + 3 ≤ L.length := by rw [← hL]; cases six <;> simp [preL, dgs] <;> omega
  unfold number_Read.f
  rw [show (⟨#[35]⟩ : ByteArray) = tx [35] from rfl, begins_one L _ 35 35 h hp0, Option.bind_some, if_pos (by decide), w64i (by omega) (by omega), show (⟨#[120]⟩ : ByteArray) = tx [120] from rfl]
  obtain ⟨k, rfl⟩ : ∃ j, k = j + 2 := ⟨k - 2, by omega⟩
  cases six with
  | true =>
    have hp1 : L[A.length + 1]? = some 120 := by rw [← hL]; simp [preL]
    have hb := begins_one L (A.length + 1) 120 120 h hp1
    rw [Int.natCast_add, show (lowB 120 == 120) = true by decide] at hb
    rw [show ((A.length : Int) + 1) = (A.length : Int) + ((1 : Nat) : Int) from rfl, hb, Option.bind_some, if_pos rfl, number_Read.j0, w64i (by omega) (by omega), show (A.length : Int) + ((1 : Nat) : Int) + 1 = ((A.length + 2 : Nat) : Int) by omega]
    have := l0_dgs L Q (A.length + 2) _ (A.length : Int) true want h (d :: D') k (A.length + 2) hD hd (Nat.le_refl _) (by omega) hv hf
    simpa [preL] using this
  | false =>
    have hp1 : L[A.length + 1]? = some (dg d) := by rw [← hL]; simp [preL, dgs]
    have hb := begins_one L (A.length + 1) 120 (dg d) h hp1
    rw [Int.natCast_add, x_dg d (hD d (List.mem_cons_self ..))] at hb
    rw [show ((A.length : Int) + 1) = (A.length : Int) + ((1 : Nat) : Int) from rfl, hb, Option.bind_some, if_neg (by decide), number_Read.j0]
    have := l0_dgs L Q (A.length + 1) _ (A.length : Int) false want h (d :: D') k (A.length + 1) hD hd (Nat.le_refl _) (by omega) hv hf
    simpa [preL] using this
end Go.Proofs.YteccaekalcjihaaGreatDoor.PTn
set_option linter.unusedVariables false
set_option linter.unusedSimpArgs false
namespace Go.Proofs.YteccaekalcjihaaGreatDoor.PTn
open Go.RowKit Go.Lib Go.Proofs.YteccaekalcjihaaGreatDoorW.PrintWords Go.Proofs.YteccaekalcjihaaGreatDoorW.PrintLast Go.Proofs.YteccaekalcjihaaGreatDoorW.PrintMore
theorem dv {x : Int} (h : 0 ≤ x) (n : Int) : Int.tdiv x n = x / n := Int.tdiv_eq_ediv_of_nonneg h
theorem md {x : Int} (h : 0 ≤ x) (n : Int) : Int.tmod x n = x % n := Int.tmod_eq_emod_of_nonneg h
theorem sign_two (k : Nat) (v : Int) (h1 : 128 ≤ v) (h2 : v < 2048) : flailref01_Sign.f (k + 1) v = some (strOfNums [192 + v / 64, 128 + v % 64]) := by
  rw [flailref01_Sign.f, if_neg (by omega), if_neg (by omega), if_neg (by omega), flailref01_Sign.j0, if_neg (by decide), if_neg (by omega), if_pos (by omega), dv (by omega), md (by omega), w64i (x := v / 64) (by omega) (by omega), w64i (x := 192 + v / 64) (by omega) (by omega), w64i (x := 128 + v % 64) (by omega) (by omega), show (192 + v / 64) % 256 = 192 + v / 64 by omega, show (128 + v % 64) % 256 = 128 + v % 64 by omega]
theorem sign_three (k : Nat) (v : Int) (h1 : 2048 ≤ v) (h2 : v < 65536) (h3 : v < 55296 ∨ 57343 < v) : flailref01_Sign.f (k + 1) v = some (strOfNums [224 + v / 4096, 128 + v / 64 % 64, 128 + v % 64]) := by
  have hj : flailref01_Sign.j0 (k + 1) v false = some (strOfNums [224 + v / 4096, 128 + v / 64 % 64, 128 + v % 64]) := by
    rw [flailref01_Sign.j0, if_neg (by decide), if_neg (by omega), if_neg (by omega), if_pos (by omega), dv (by omega), dv (by omega), md (x := v) (by omega), w64i (x := v / 4096) (by omega) (by omega), w64i (x := v / 64) (by omega) (by omega), md (by omega), w64i (x := 224 + v / 4096) (by omega) (by omega), w64i (x := 128 + v / 64 % 64) (by omega) (by omega), w64i (x := 128 + v % 64) (by omega) (by omega), show (224 + v / 4096) % 256 = 224 + v / 4096 by omega, show (128 + v / 64 % 64) % 256 = 128 + v / 64 % 64 by omega, show (128 + v % 64) % 256 = 128 + v % 64 by omega]
  rw [flailref01_Sign.f, if_neg (by omega), if_neg (by omega)]
  by_cases h : v ≥ 55296
  · rw [if_pos h, decide_eq_false (by omega)]
    exact hj
  · rw [if_neg h]
    exact hj
theorem sign_four (k : Nat) (v : Int) (h1 : 65536 ≤ v) (h2 : v ≤ 1114111) : flailref01_Sign.f (k + 1) v = some (strOfNums [240 + v / 262144, 128 + v / 4096 % 64, 128 + v / 64 % 64, 128 + v % 64]) := by
  rw [flailref01_Sign.f, if_neg (by omega), if_neg (by omega), if_pos (by omega), decide_eq_false (by omega)]
  rw [flailref01_Sign.j0, if_neg (by decide), if_neg (by omega), if_neg (by omega), if_neg (by omega), dv (x := v) (by omega) 262144, dv (x := v) (by omega) 4096, dv (x := v) (by omega) 64, md (x := v) (by omega), w64i (x := v / 262144) (by omega) (by omega), w64i (x := v / 4096) (by omega) (by omega), w64i (x := v / 64) (by omega) (by omega), md (x := v / 4096) (by omega), md (x := v / 64) (by omega), w64i (x := 240 + v / 262144) (by omega) (by omega), w64i (x := 128 + v / 4096 % 64) (by omega) (by omega), w64i (x := 128 + v / 64 % 64) (by omega) (by omega), w64i (x := 128 + v % 64) (by omega) (by omega), show (240 + v / 262144) % 256 = 240 + v / 262144 by omega, show (128 + v / 4096 % 64) % 256 = 128 + v / 4096 % 64 by omega, show (128 + v / 64 % 64) % 256 = 128 + v / 64 % 64 by omega, show (128 + v % 64) % 256 = 128 + v % 64 by omega]
theorem valid_nat (v : Nat) : Utf8.valid (v : Int) = decide (v < 55296 ∨ (57344 ≤ v ∧ v ≤ 1114111)) := by
  unfold Utf8.valid
  by_cases h1 : v < 55296
  · simp [h1]
    left
    omega
  · by_cases h2 : 57344 ≤ v ∧ v ≤ 1114111
    · simp [h2]
      right
      omega
    · simp [h1, h2]
      omega
def sg (v : Nat) : List Nat := if v < 128 then [v] else if v < 2048 then [192 + v / 64, 128 + v % 64] else if v < 65536 then [224 + v / 4096, 128 + v / 64 % 64, 128 + v % 64] else [240 + v / 262144, 128 + v / 4096 % 64, 128 + v / 64 % 64, 128 + v % 64]
def okS (n : Int) : Prop := 0 ≤ n ∧ n ≤ 1114111 ∧ (n < 55296 ∨ 57343 < n)
instance (n : Int) : Decidable (okS n) := by unfold okS; infer_instance
def badL : List UInt8 := [239, 191, 189]
def signL (n : Int) : List UInt8 := if okS n then (sg n.toNat).map UInt8.ofNat else badL
theorem sign_at (n : Int) : utf_Sign.f n = some (tx (signL n)) := by
  unfold utf_Sign.f signL
  by_cases h : n < 0 ∨ 1114111 < n
  · rw [if_pos h, if_neg (by unfold okS; omega)]
    rfl
  · rw [if_neg h]
    congr 1
    unfold Utf8.encode
    obtain ⟨v, rfl⟩ := Int.eq_ofNat_of_zero_le (show 0 ≤ n by omega)
    rw [valid_nat]
    by_cases hv : okS (v : Int)
    · have hd : decide (v < 55296 ∨ (57344 ≤ v ∧ v ≤ 1114111)) = true := decide_eq_true (by unfold okS at hv; omega)
      rw [hd, if_pos hv]
      simp only [if_true, Int.toNat_natCast]
      unfold sg
      by_cases h1 : v < 128
      · rw [if_pos h1, if_pos h1]
        rfl
      · rw [if_neg h1, if_neg h1]
        by_cases h2 : v < 2048
        · rw [if_pos h2, if_pos h2]
          rfl
        · rw [if_neg h2, if_neg h2]
          by_cases h3 : v < 65536
          · rw [if_pos h3, if_pos h3]
            rfl
          · rw [if_neg h3, if_neg h3]
            rfl
    · have hd : decide (v < 55296 ∨ (57344 ≤ v ∧ v ≤ 1114111)) = false := decide_eq_false (by unfold okS at hv; omega)
      rw [hd, if_neg hv]
      simp only [Bool.false_eq_true, if_false]
      rfl
theorem strOf_map (l : List Nat) : strOfNums (l.map (fun x : Nat => (x : Int))) = tx (l.map UInt8.ofNat) := by
  unfold strOfNums tx
  simp [List.map_map, Function.comp_def]
theorem refsign_at (n : Int) : flailref01_Sign.f 5 n = some (tx (signL n)) := by
  unfold signL
  by_cases h : okS n
  · rw [if_pos h]
    obtain ⟨v, rfl⟩ := Int.eq_ofNat_of_zero_le h.1
    unfold okS at h
    rw [Int.toNat_natCast]
    unfold sg
    by_cases h1 : v < 128
    · rw [if_pos h1, flailref01_Sign.f, if_neg (by omega), if_neg (by omega), if_neg (by omega), flailref01_Sign.j0, if_neg (by decide), if_pos (by omega), show (v : Int) % 256 = (v : Int) by omega]
      exact congrArg some (strOf_map [v])
    · rw [if_neg h1]
      by_cases h2 : v < 2048
      · rw [if_pos h2, sign_two 4 v (by omega) (by omega)]
        exact congrArg some (strOf_map [192 + v / 64, 128 + v % 64])
      · rw [if_neg h2]
        by_cases h3 : v < 65536
        · rw [if_pos h3, sign_three 4 v (by omega) (by omega) (by omega)]
          exact congrArg some (strOf_map [224 + v / 4096, 128 + v / 64 % 64, 128 + v % 64])
        · rw [if_neg h3, sign_four 4 v (by omega) (by omega)]
          exact congrArg some (strOf_map [240 + v / 262144, 128 + v / 4096 % 64, 128 + v / 64 % 64, 128 + v % 64])
  · rw [if_neg h]
    unfold okS at h
    have hj : flailref01_Sign.j0 5 n true = some (tx badL) := by
      rw [flailref01_Sign.j0, if_pos rfl]
      rfl
    rw [flailref01_Sign.f]
    by_cases h1 : n < 0
    · rw [if_pos h1]
      exact hj
    · rw [if_neg h1]
      by_cases h2 : n > 1114111
      · rw [if_pos h2]
        exact hj
      · rw [if_neg h2, if_pos (by omega), decide_eq_true (by omega)]
        exact hj
theorem ofN0 {x : Nat} (h : x < 256) (h0 : 0 < x) : UInt8.ofNat x ≠ 0 := fun e => by
  have := congrArg UInt8.toNat e
  simp at this
  omega
theorem sign_bytes (n : Int) (h : n ≠ 0) : 0 < (signL n).length ∧ (signL n).length ≤ 4 ∧ (0 : UInt8) ∉ signL n := by
  unfold signL
  by_cases hn : okS n
  · rw [if_pos hn]
    obtain ⟨v, rfl⟩ := Int.eq_ofNat_of_zero_le hn.1
    unfold okS at hn
    rw [Int.toNat_natCast]
    unfold sg
    by_cases h1 : v < 128
    · rw [if_pos h1]
      have := ofN0 (x := v) (by omega) (by omega)
      simp only [List.map_cons, List.map_nil, List.length_cons, List.length_nil, List.mem_cons, List.not_mem_nil, or_false, Nat.zero_add]
      exact ⟨by omega, by omega, fun e => this e.symm⟩
    · rw [if_neg h1]
      by_cases h2 : v < 2048
      · rw [if_pos h2]
        have e1 := ofN0 (x := 192 + v / 64) (by omega) (by omega)
        have e2 := ofN0 (x := 128 + v % 64) (by omega) (by omega)
        simp only [List.map_cons, List.map_nil, List.length_cons, List.length_nil, List.mem_cons, List.not_mem_nil, or_false, Nat.zero_add]
        exact ⟨by omega, by omega, fun e => by rcases e with e | e <;> (first | exact e1 e.symm | exact e2 e.symm)⟩
      · rw [if_neg h2]
        by_cases h3 : v < 65536
        · rw [if_pos h3]
          have e1 := ofN0 (x := 224 + v / 4096) (by omega) (by omega)
          have e2 := ofN0 (x := 128 + v / 64 % 64) (by omega) (by omega)
          have e3 := ofN0 (x := 128 + v % 64) (by omega) (by omega)
          simp only [List.map_cons, List.map_nil, List.length_cons, List.length_nil, List.mem_cons, List.not_mem_nil, or_false, Nat.zero_add]
          exact ⟨by omega, by omega, fun e => by rcases e with e | e | e <;> (first | exact e1 e.symm | exact e2 e.symm | exact e3 e.symm)⟩
        · rw [if_neg h3]
          have e1 := ofN0 (x := 240 + v / 262144) (by omega) (by omega)
          have e2 := ofN0 (x := 128 + v / 4096 % 64) (by omega) (by omega)
          have e3 := ofN0 (x := 128 + v / 64 % 64) (by omega) (by omega)
          have e4 := ofN0 (x := 128 + v % 64) (by omega) (by omega)
          simp only [List.map_cons, List.map_nil, List.length_cons, List.length_nil, List.mem_cons, List.not_mem_nil, or_false, Nat.zero_add]
          exact ⟨by omega, by omega, fun e => by rcases e with e | e | e | e <;> (first | exact e1 e.symm | exact e2 e.symm | exact e3 e.symm | exact e4 e.symm)⟩
  · rw [if_neg hn]
    exact ⟨by decide, by decide, by decide⟩
theorem other_pos (j : Nat) (h : j < 32) : otherN.getD j 0 ≠ 0 := (by decide +kernel : ∀ j : Fin 32, otherN.getD j.val 0 ≠ 0) ⟨j, h⟩
theorem fix_same (n : Nat) : ∃ W : List UInt8, number_Fix.f (n : Int) = some (tx W) ∧ flailref04_Fix.f 7 (n : Int) = some (tx W) ∧ 0 < W.length ∧ W.length ≤ 4 ∧ (0 : UInt8) ∉ W := by
  by_cases h0 : n = 0
  · subst h0
    exact ⟨badL, rfl, rfl, by decide, by decide, by decide⟩
  · by_cases h1 : n > 1114111
    · refine ⟨badL, ?_, ?_, by decide, by decide, by decide⟩
      · unfold number_Fix.f
        rw [if_neg (by omega), if_neg (by omega), sign_at, signL, if_neg (by unfold okS; omega)]
      · unfold flailref04_Fix.f
        rw [if_neg (by omega), decide_eq_true (by omega), flailref04_Fix.j0, if_pos rfl]
        rfl
    · by_cases h2 : 128 ≤ n ∧ n < 160
      · have hj : n - 128 < 32 := by omega
        have hp := other_pos (n - 128) hj
        obtain ⟨b1, b2, b3⟩ := sign_bytes _ hp
        refine ⟨signL (otherN.getD (n - 128) 0), ?_, ?_, b1, b2, b3⟩
        · unfold number_Fix.f
          rw [if_neg (by omega), if_pos (by omega), show ((n : Int) - 128).toNat = n - 128 by omega, sign_at]
        · unfold flailref04_Fix.f
          rw [if_neg (by omega), decide_eq_false (by omega), flailref04_Fix.j0, if_neg (by decide), Option.bind_some, if_pos (by omega), decide_eq_true (by omega), flailref04_Fix.j1, if_pos rfl, w64i (by omega) (by omega), if_pos (by omega), if_pos (by show (n : Int) - 128 < ((32 : Nat) : Int); omega)]
          have hr : rd [8364, 129, 8218, 402, 8222, 8230, 8224, 8225, 710, 8240, 352, 8249, 338, 141, 381, 143, 144, 8216, 8217, 8220, 8221, 8226, 8211, 8212, 732, 8482, 353, 8250, 339, 157, 382, 376] ((n : Int) - 128) = otherN.getD (n - 128) 0 := by
            unfold rd
            rw [show ((n : Int) - 128).toNat = n - 128 by omega]
            rfl
          rw [hr, refsign_at]
          rfl
      · obtain ⟨b1, b2, b3⟩ := sign_bytes (n : Int) (by omega)
        refine ⟨signL n, ?_, ?_, b1, b2, b3⟩
        · unfold number_Fix.f
          rw [if_neg (by omega), if_neg (by omega), sign_at]
        · unfold flailref04_Fix.f
          rw [if_neg (by omega), decide_eq_false (by omega), flailref04_Fix.j0, if_neg (by decide), Option.bind_some]
          have hj : flailref04_Fix.j1 6 (n : Int) [8364, 129, 8218, 402, 8222, 8230, 8224, 8225, 710, 8240, 352, 8249, 338, 141, 381, 143, 144, 8216, 8217, 8220, 8221, 8226, 8211, 8212, 732, 8482, 353, 8250, 339, 157, 382, 376] false = some (tx (signL n)) := by
            rw [flailref04_Fix.j1, if_neg (by decide), refsign_at]
            rfl
          by_cases h3 : (n : Int) ≥ 128
          · rw [if_pos h3, decide_eq_false (by omega)]
            exact hj
          · rw [if_neg h3]
            exact hj
end Go.Proofs.YteccaekalcjihaaGreatDoor.PTn
set_option linter.unusedVariables false
set_option linter.unusedSimpArgs false
namespace Go.Proofs.YteccaekalcjihaaGreatDoor.PTn
open Go.RowKit Go.Lib Go.Proofs.YteccaekalcjihaaGreatDoorW.PrintWords Go.Proofs.YteccaekalcjihaaGreatDoorW.PrintLast Go.Proofs.YteccaekalcjihaaGreatDoorW.PrintMore
def refT (A Q : List UInt8) (six : Bool) (D : List Nat) : List UInt8 := A ++ 38 :: (preL six ++ (dgs D ++ 59 :: Q))
theorem refT_len (A Q : List UInt8) (six : Bool) (D : List Nat) : (refT A Q six D).length = A.length + (preL six).length + D.length + Q.length + 2 := by
  simp [refT, dgs]
  omega
theorem pre_le (six : Bool) : 1 ≤ (preL six).length ∧ (preL six).length ≤ 2 := by cases six <;> decide
theorem refread (A Q : List UInt8) (six : Bool) (D : List Nat) (W : List UInt8) (hD : ∀ d ∈ D, d < bas six) (h0 : 0 < D.length) (h1 : D.length ≤ 1000) (hAl : A.length ≤ 1000) (hQl : Q.length ≤ 1000) (hf : number_Fix.f ((val (bas six) D 0 : Nat) : Int) = some (tx W)) (attr : Bool) : ref_Read.f (tx (refT A Q six D)) (A.length : Int) attr = some (tx W, ((A.length + 1 + (preL six).length + D.length + 1 : Nat) : Int)) := by
  have hp := pre_le six
  have hl := refT_len A Q six D
  have hlt : A.length < (refT A Q six D).length := by omega
  have hp0 : (refT A Q six D)[A.length]? = some 38 := by simp [refT]
  have hr := read_dgs (A ++ [38]) Q six D (tx W) hD h0 h1 (by
    have : (A ++ [38] ++ (preL six ++ (dgs D ++ 59 :: Q))).length = (refT A Q six D).length := by simp [refT]
    omega) ((tx (refT A Q six D)).size + 8) (by rw [tx_size]; omega) hf
  have e : A ++ [38] ++ (preL six ++ (dgs D ++ 59 :: Q)) = refT A Q six D := by simp [refT]
  have el : (A ++ [38]).length = A.length + 1 := by simp
  rw [e, el] at hr
  have hb : sign_Begins.f (tx (refT A Q six D)) (A.length : Int) ⟨#[38]⟩ = some true := by
    rw [show (⟨#[38]⟩ : ByteArray) = tx [38] from rfl, begins_one _ _ 38 38 (by omega) hp0]
    decide
  unfold ref_Read.f
  rw [if_pos ⟨by omega, by omega, by rw [tx_size]; omega, hb⟩, show ((A.length : Int) + 1) = ((A.length + 1 : Nat) : Int) by omega, hr, Option.bind_some, if_pos rfl]
theorem decode_ref (A Q : List UInt8) (six : Bool) (D : List Nat) (W : List UInt8) (hD : ∀ d ∈ D, d < bas six) (h0 : 0 < D.length) (h1 : D.length ≤ 1000) (hA : (38 : UInt8) ∉ A) (hQ : (38 : UInt8) ∉ Q) (hAl : A.length ≤ 1000) (hQl : Q.length ≤ 1000) (hf : number_Fix.f ((val (bas six) D 0 : Nat) : Int) = some (tx W)) (hW : W.length ≤ 4) (attr : Bool) : ref_Decode.f (tx (refT A Q six D)) attr = some (tx (A ++ W ++ Q)) := by
  have hp := pre_le six
  have hl := refT_len A Q six D
  unfold ref_Decode.f
  rw [tx_size, if_pos (by omega), show (refT A Q six D).length + 1 = ((refT A Q six D).length - 1) + 1 + 1 by omega]
  have e0 : (tx (refT A Q six D)).extract 0 (tx (refT A Q six D)).size = tx (refT A Q six D) := by rw [tx_size, tx_all]
  have e1 : (tx (refT A Q six D)).extract 0 (0 + A.length) = tx A := by
    rw [tx_ex, Nat.zero_add, List.drop_zero]
    unfold refT
    rw [List.take_left]
  have e2 : (tx (refT A Q six D)).extract (A.length + 1 + (preL six).length + D.length + 1) (tx (refT A Q six D)).size = tx Q := by
    rw [tx_size, tx_ex, List.take_length]
    congr 1
    have : refT A Q six D = (A ++ [38] ++ preL six ++ dgs D ++ [59]) ++ Q := by simp [refT]
    rw [this]
    have hx : A.length + 1 + (preL six).length + D.length + 1 = (A ++ [38] ++ preL six ++ dgs D ++ [59]).length := by simp [dgs]; omega
    rw [hx, List.drop_left]
  have hi := ibyte_some A (preL six ++ (dgs D ++ 59 :: Q)) 38 hA
  have hi1 : strings_IndexByte.f (tx (refT A Q six D)) 38 = some (A.length : Int) := hi
  have hr := refread A Q six D W hD h0 h1 hAl hQl hf attr
  rw [rdGo, if_pos ⟨by omega, by simp⟩, e0, hi1, Option.bind_some, if_neg (by omega), Int.toNat_natCast, if_pos (by rw [tx_size]; omega), e1, Nat.zero_add, hr, Option.bind_some, if_pos ⟨by omega, by rw [tx_size]; omega, by rw [tx_size]; omega⟩, Int.toNat_natCast, rdGo, if_pos ⟨by rw [tx_size]; omega, by simp [tx_data]; omega⟩, e2, ibyte_none Q 38 hQ, Option.bind_some, if_pos (by decide), tx_data, tx_data, tx_data, List.nil_append]
  rfl
theorem dec_ascii : ∀ (l : List UInt8), (∀ c ∈ l, c.toNat < 128) → Spec.dec l = l
  | [], _ => rfl
  | c :: l, h => by
    have hc := h c (List.mem_cons_self ..)
    have hf : Spec.firstP (c :: l) = (1, true) := by
      simp only [Spec.firstP, hc, if_true]
    rw [Spec.dec_step _ (by simp), hf]
    show (c :: l).take 1 ++ Spec.dec ((c :: l).drop 1) = c :: l
    rw [show (c :: l).drop 1 = l from rfl, dec_ascii l (fun x hx => h x (List.mem_cons_of_mem _ hx))]
    rfl
theorem decode_ascii (l : List UInt8) (h : ∀ c ∈ l, c.toNat < 128) : Spec.decode l = l := by
  unfold Spec.decode Spec.trim
  rw [if_neg (fun e => by
    have hm : (239 : UInt8) ∈ l := List.mem_of_mem_take (by rw [e]; simp : (239 : UInt8) ∈ l.take 3)
    have := h _ hm
    simp at this), dec_ascii l h]
theorem norm_plain : ∀ (k : Nat) (l : List UInt8), l.length < k → (13 : UInt8) ∉ l → normL k l = l
  | 0, l, h, _ => by omega
  | k + 1, [], h, _ => rfl
  | k + 1, c :: l, h, hn => by
    have hc : ¬ c = 13 := fun e => hn (by rw [e]; simp)
    have := norm_plain k l (by simp at h; omega) (fun hm => hn (List.mem_cons_of_mem _ hm))
    unfold normL
    rw [if_neg hc, this]
theorem dg_small (d : Nat) (h : d < 16) : (dg d).toNat < 128 ∧ dg d ≠ 13 ∧ dg d ≠ 60 ∧ dg d ≠ 38 ∧ dg d ≠ 39 := (by decide +kernel : ∀ d : Fin 16, (dg d.val).toNat < 128 ∧ dg d.val ≠ 13 ∧ dg d.val ≠ 60 ∧ dg d.val ≠ 38 ∧ dg d.val ≠ 39) ⟨d, h⟩
theorem mem_refT {A Q : List UInt8} {six : Bool} {D : List Nat} {c : UInt8} (h : c ∈ refT A Q six D) : c ∈ A ∨ c = 38 ∨ c = 35 ∨ c = 120 ∨ (∃ d ∈ D, dg d = c) ∨ c = 59 ∨ c ∈ Q := by
  simp only [refT, dgs, List.mem_append, List.mem_cons, List.mem_map] at h
  rcases h with h | h | h | h | h | h
  · exact .inl h
  · exact .inr (.inl h)
  · cases six
    · simp [preL] at h
      exact .inr (.inr (.inl h))
    · simp [preL] at h
      rcases h with h | h
      · exact .inr (.inr (.inl h))
      · exact .inr (.inr (.inr (.inl h)))
  · exact .inr (.inr (.inr (.inr (.inl h))))
  · exact .inr (.inr (.inr (.inr (.inr (.inl h)))))
  · exact .inr (.inr (.inr (.inr (.inr (.inr h)))))
theorem refT_small (six : Bool) (D : List Nat) (hD : ∀ d ∈ D, d < bas six) : ∀ c ∈ refT [97] [98] six D, c.toNat < 128 ∧ c ≠ 13 ∧ c ≠ 60 := by
  intro c hc
  have hb := bas_le six
  rcases mem_refT hc with h | h | h | h | ⟨d, h, rfl⟩ | h | h
  · simp at h; subst h; decide
  · subst h; decide
  · subst h; decide
  · subst h; decide
  · have h2 := hD d h
    have := dg_small d (by omega)
    exact ⟨this.1, this.2.1, this.2.2.1⟩
  · subst h; decide
  · simp at h; subst h; decide
def numT (W : List UInt8) : List S40 := [⟨0, ⟨#[]⟩, tx ([97] ++ W ++ [98]), [], false⟩]
theorem num_fits (W : List UInt8) (h : W.length ≤ 4) : Rend.fits (numT W) = true := by
  unfold Rend.fits numT
  have e : (tx ([97] ++ W ++ [98])).size ≤ 10000 := by rw [tx_size]; simp; omega
  show (decide (1 ≤ 2000) && ((decide ((tx ([97] ++ W ++ [98])).size ≤ 10000) && (Lit.int .i64 0).wf) && true)) = true
  rw [decide_eq_true e]
  rfl
theorem extract_ref (six : Bool) (D : List Nat) (W : List UInt8) (hD : ∀ d ∈ D, d < bas six) (h0 : 0 < D.length) (h1 : D.length ≤ 1000) (hf : number_Fix.f ((val (bas six) D 0 : Nat) : Int) = some (tx W)) (hW : W.length ≤ 4) :
    ∃ r, extract_Extract.f (numsD (refT [97] [98] six D)) = some r ∧ r = ⟨(Flow.M.none.put false (tx ([97] ++ W ++ [98])).data.toList).told.toArray⟩ := by
  have hp := pre_le six
  have hl := refT_len [97] [98] six D
  have hl2 : (refT [97] [98] six D).length ≤ 2000 := by simp at hl; omega
  have hs := refT_small six D hD
  have e1 : utf_Decode.f (numsD (refT [97] [98] six D)) = some (tx (refT [97] [98] six D)) := by
    unfold utf_Decode.f
    rw [numsD_length, if_pos (by omega), strOf_nums]
    show some (tx (Spec.decode (tx (refT [97] [98] six D)).data.toList)) = _
    rw [tx_data, decode_ascii _ (fun c hc => (hs c hc).1)]
  have e2 : lines_Norm.f (tx (refT [97] [98] six D)) = some (tx (refT [97] [98] six D)) := by
    unfold lines_Norm.f
    rw [tx_size, if_pos (by omega), tx_data, norm_plain _ _ (by omega) (fun hm => (hs _ hm).2.1 rfl)]
    rfl
  have e3 := decode_ref [97] [98] six D W hD h0 h1 (by decide) (by decide) (by decide) (by decide) hf hW false
  have e4 := drive_text (refT [97] [98] six D) (by omega) (fun hm => (hs _ hm).2.2 rfl) 997 (tx ([97] ++ W ++ [98])) (by omega) (by rw [tx_size]; simp) e3
  refine ⟨⟨(Rend.Pg.all (numT W) Rend.Pg.none).m.told.toArray⟩, ?_, ?_⟩
  · unfold extract_Extract.f exK
    rw [e1, Option.bind_some, e2, Option.bind_some, e4, Option.bind_some]
    show render_Render.f (numT W) = _
    unfold render_Render.f
    rw [if_pos (num_fits W hW)]
  · rfl
end Go.Proofs.YteccaekalcjihaaGreatDoor.PTn
set_option linter.unusedVariables false
set_option linter.unusedSimpArgs false
namespace Go.Proofs.YteccaekalcjihaaGreatDoor.FlowBits
open Go.RowKit Go.Lib Go.Proofs.YteccaekalcjihaaGreatDoor.Buf Go.Proofs.YteccaekalcjihaaGreatDoor.Flow Go.Proofs.YteccaekalcjihaaGreatDoor.PTn Go.Proofs.YteccaekalcjihaaGreatDoorW.PrintWords
theorem conv_one (W : World) (b : UInt8) : (convert 22 9 (.slice (some ⟨W.heap.size, 0, none⟩) 1 1)).run Tryz.prog (W.alloc (.cells #[.int .u8 b.toNat] 5)) = .ok (.string ⟨#[b]⟩) (W.alloc (.cells #[.int .u8 b.toNat] 5)) := by
  have hr : Kd.C (Kd.int .u8) (W.alloc (.cells #[.int .u8 b.toNat] 5)) (some ⟨W.heap.size, 0, none⟩) 1 [(b.toNat : Int)] := by
    refine Kd.C_of_reads (h1 := fun _ => rfl) (d := 0) ⟨rfl, by decide, fun _ => ⟨_, rfl, fun j hj => ?_⟩⟩
    have hj0 : j = 0 := by omega
    subst hj0
    have hadd : (⟨W.heap.size, 0, none⟩ : Addr).add 0 = ⟨W.heap.size, 0, none⟩ := by unfold Addr.add; split <;> simp_all
    rw [hadd, Lib.cell_of_heap (heap_alloc_new W _)]
    rfl
  rw [Kd.C_string Tryz.underlying22 Tryz.underlying5 Tryz.underlying9 hr]
  have : strOfNums [(b.toNat : Int)] = ⟨#[b]⟩ := by
    apply ByteArray.ext
    simp [strOfNums]
  rw [this]
end Go.Proofs.YteccaekalcjihaaGreatDoor.FlowBits
set_option linter.unusedVariables false
namespace Go.Proofs.YteccaekalcjihaaGreatDoor.Flow
open Go.RowKit Go.Lib Go.Proofs.YteccaekalcjihaaGreatDoor.Buf Go.Proofs.YteccaekalcjihaaGreatDoor.PTn Go.Proofs.YteccaekalcjihaaGreatDoorW.PrintWords Go.Proofs.YteccaekalcjihaaGreatDoor.FlowBits
def rcells (m : M) : Array Value := #[.string ⟨m.told.toArray⟩, .int .i64 m.ends, .string ⟨m.blanks.toArray⟩]
def Rf (w : World) (b : Nat) (m : M) : Prop := w.heap[b]? = some (.cells (rcells m) 74 (0, 0))
def RDoes (w w' : World) (b : Nat) (m' : M) : Prop := Rf w' b m' ∧ Kp (fun k => k = b) w w'
theorem RDoes.trans {w w1 w2 : World} {b : Nat} {m1 m2 : M} (h : RDoes w w1 b m1) (k : RDoes w1 w2 b m2) : RDoes w w2 b m2 := ⟨k.1, h.2.trans k.2 (fun _ _ e => e)⟩
theorem Rf.refl {w : World} {b : Nat} {m : M} (h : Rf w b m) : RDoes w w b m := ⟨h, Kp.refl _ w⟩
section
variable {w : World} {b : Nat} {m : M}
theorem rf_cells (h : Rf w b m) : w.cell? ⟨b, 0, none⟩ = some (.string ⟨m.told.toArray⟩) ∧ w.cell? ⟨b, 1, none⟩ = some (.int .i64 m.ends) ∧ w.cell? ⟨b, 2, none⟩ = some (.string ⟨m.blanks.toArray⟩) ∧ ∀ j, w.frozen? ⟨b, j, none⟩ = false := by
  refine ⟨?_, ?_, ?_, fun j => Lib.frozen_of_heap h j⟩
  all_goals (rw [Lib.cell_of_heap h]; rfl)
theorem rf_told (h : Rf w b m) (t : List UInt8) : RDoes w (w.setCell ⟨b, 0, none⟩ (.string ⟨t.toArray⟩)) b { m with told := t } := ⟨heap_setCell_self h _, (Kp.refl (fun k => k = b) w).setCell (p := ⟨b, 0, none⟩) rfl _⟩
theorem rf_ends (h : Rf w b m) (n : Nat) : RDoes w (w.setCell ⟨b, 1, none⟩ (.int .i64 n)) b { m with ends := n } := ⟨heap_setCell_self h _, (Kp.refl (fun k => k = b) w).setCell (p := ⟨b, 1, none⟩) rfl _⟩
theorem rf_blanks (h : Rf w b m) (t : List UInt8) : RDoes w (w.setCell ⟨b, 2, none⟩ (.string ⟨t.toArray⟩)) b { m with blanks := t } := ⟨heap_setCell_self h _, (Kp.refl (fun k => k = b) w).setCell (p := ⟨b, 2, none⟩) rfl _⟩
set_option maxHeartbeats 4000000 in
set_option maxRecDepth 100000 in
theorem rput_zero (h : Rf w b m) (k : Bool) : Calls Tryz.prog 105 #[.pointer (some ⟨b, 0, none⟩), .int .u8 0, .bool k] w fun e w' => e = .returned (.tuple #[]) ∧ RDoes w w' b m := by
  have HR := Lib.hid h.refl
  clear h
  go_enter Tryz.func105, Tryz.ntmps105
  go_wp2
  (try simp only [Exit.inBlock, Exit.then])
  refine bodyPost_ret (results_none rfl _ _ _) rfl ?_
  exact ⟨rfl, HR.out⟩
set_option maxHeartbeats 4000000 in
set_option maxRecDepth 100000 in
theorem rput_lose (h : Rf w b m) (c : UInt8) (h0 : c ≠ 0) (hb : isBlank c = true) : Calls Tryz.prog 105 #[.pointer (some ⟨b, 0, none⟩), .int .u8 c.toNat, .bool false] w fun e w' => e = .returned (.tuple #[]) ∧ RDoes w w' b m.lose := by
  have hc : c = 9 ∨ c = 10 ∨ c = 12 ∨ c = 13 ∨ c = 32 := by
    rcases c with ⟨⟨n⟩⟩
    revert n
    decide +kernel
  obtain ⟨c0, c1, c2, hf⟩ := rf_cells h
  have hf2 := hf 2
  have HR := Lib.hid h.refl
  have HB := Lib.hid (rf_blanks h [32])
  by_cases he : m.ends = 0
  · have d1 : ((m.ends : Int) == 0) = true := by rw [he]; rfl
    by_cases hbl : m.blanks = []
    · have q1 : ((⟨m.blanks.toArray⟩ : ByteArray).toList == []) = true := by rw [ByteArray.toList_eq, hbl]; rfl
      have q2 : (m.blanks == []) = true := by rw [hbl]; rfl
      have q3 : m.blanks.isEmpty = true := by rw [hbl]; rfl
      have hl : m.lose = { m with blanks := [32] } := by unfold M.lose; rw [if_pos ⟨he, hbl⟩]
      rw [hl]
      clear he hbl hl hf h
      rcases hc with rfl | rfl | rfl | rfl | rfl
      all_goals (
        go_enter Tryz.func105, Tryz.ntmps105
        go_wp2
        (try simp only [Exit.inBlock, Exit.then])
        refine bodyPost_ret (results_none rfl _ _ _) rfl ?_
        exact ⟨rfl, HB.out⟩)
    · have q1 : ((⟨m.blanks.toArray⟩ : ByteArray).toList == []) = false := by rw [ByteArray.toList_eq]; exact beq_eq_false_iff_ne.2 hbl
      have q2 : (m.blanks == []) = false := beq_eq_false_iff_ne.2 hbl
      have q3 : m.blanks.isEmpty = false := by cases hh : m.blanks <;> simp_all
      have hl : m.lose = m := by unfold M.lose; rw [if_neg (fun e => hbl e.2)]
      rw [hl]
      clear he hbl hl hf h
      rcases hc with rfl | rfl | rfl | rfl | rfl
      all_goals (
        go_enter Tryz.func105, Tryz.ntmps105
        go_wp2
        (try simp only [Exit.inBlock, Exit.then])
        refine bodyPost_ret (results_none rfl _ _ _) rfl ?_
        exact ⟨rfl, HR.out⟩)
  · have d1 : ((m.ends : Int) == 0) = false := by
      rw [beq_eq_false_iff_ne]
      intro e
      exact he (by omega)
    have hl : m.lose = m := by unfold M.lose; rw [if_neg (fun e => he e.1)]
    rw [hl]
    clear he hl hf h
    rcases hc with rfl | rfl | rfl | rfl | rfl
    all_goals (
      go_enter Tryz.func105, Tryz.ntmps105
      go_wp2
      (try simp only [Exit.inBlock, Exit.then])
      refine bodyPost_ret (results_none rfl _ _ _) rfl ?_
      exact ⟨rfl, HR.out⟩)
theorem RDoes.drew {w' : World} {m' : M} (h : RDoes w w' b m') : RDoes w w'.drew b m' := ⟨h.1, h.2.drew⟩
theorem rf_alloc (h : Rf w b m) (o : Obj) : RDoes w (w.alloc o) b m := ⟨(Lib.alloc_old w o b (Buf.lt_of_heap h)).trans h, (Kp.refl _ w).alloc o⟩
set_option maxHeartbeats 4000000 in
set_option maxRecDepth 100000 in
theorem rput_line (h : Rf w b m) (c : UInt8) (hc : c = 10 ∨ c = 13) (he : m.ends ≤ 1000000000) : Calls Tryz.prog 105 #[.pointer (some ⟨b, 0, none⟩), .int .u8 c.toNat, .bool true] w fun e w' => e = .returned (.tuple #[]) ∧ RDoes w w' b m.line := by
  obtain ⟨c0, c1, c2, hf⟩ := rf_cells h
  have hf1 := hf 1
  have hf2 := hf 2
  have h1 := rf_ends h (m.ends + 1)
  have h2 := h1.trans (rf_blanks h1.1 [])
  rw [Int.natCast_add] at h2
  have HD := Lib.hid h2
  clear hf h1 h2 h
  rcases hc with hc | hc
  · subst hc
    go_enter Tryz.func105, Tryz.ntmps105
    go_wp2
    (try simp only [Exit.inBlock, Exit.then])
    refine bodyPost_ret (results_none rfl _ _ _) rfl ?_
    exact ⟨rfl, HD.out⟩
  · subst hc
    go_enter Tryz.func105, Tryz.ntmps105
    go_wp2
    (try simp only [Exit.inBlock, Exit.then])
    refine bodyPost_ret (results_none rfl _ _ _) rfl ?_
    exact ⟨rfl, HD.out⟩
theorem ba_snoc (l : List UInt8) (c : UInt8) : (⟨l.toArray⟩ : ByteArray) ++ (⟨#[c]⟩ : ByteArray) = ⟨(l ++ [c]).toArray⟩ := by
  apply ByteArray.ext
  simp [ByteArray.data_append]
set_option maxHeartbeats 4000000 in
set_option maxRecDepth 100000 in
theorem rput_blank (h : Rf w b m) (c : UInt8) (hcs : c = 9 ∨ c = 12 ∨ c = 32) (hl : m.blanks.length ≤ 1000000000) : Calls Tryz.prog 105 #[.pointer (some ⟨b, 0, none⟩), .int .u8 c.toNat, .bool true] w fun e w' => e = .returned (.tuple #[]) ∧ RDoes w w' b { m with blanks := m.blanks ++ [c] } := by
  obtain ⟨c0, c1, c2, hf⟩ := rf_cells h
  have hf2 := hf 2
  have h1 := rf_blanks h (m.blanks ++ [c])
  have h2 := h1.trans (rf_alloc h1.1 (.cells #[.int .u8 c.toNat] 5))
  rw [← ba_snoc] at h2
  have HD := Lib.hid h2.drew
  have hcv : (convert 22 9 (.slice (some ⟨w.heap.size, 0, none⟩) 1 1)).run Tryz.prog ((w.alloc (.cells #[.int .u8 c.toNat] 5)).drew) = .ok (.string ⟨#[c]⟩) ((w.alloc (.cells #[.int .u8 c.toNat] 5)).drew) := conv_one w.drew c
  have s0 : (⟨m.blanks.toArray⟩ : ByteArray).size = m.blanks.length := by simp [ByteArray.size]
  have s1 : (m.blanks.length + 1 ≤ 9223372036854775807) = True := eq_true (by omega)
  have s2 : decide (m.blanks.length + 1 ≤ 9223372036854775807) = true := decide_eq_true (by omega)
  have s3 : (9223372036854775807 < m.blanks.length + 1) = False := eq_false (by omega)
  have ca : ∀ o, (w.alloc o).cell? ⟨b, 2, none⟩ = some (.string ⟨m.blanks.toArray⟩) := fun o => by
    rw [Lib.cell_of_heap ((Lib.alloc_old w o b (Buf.lt_of_heap h)).trans h)]; rfl
  have cf : ∀ o, (w.alloc o).frozen? ⟨b, 2, none⟩ = false := fun o => Lib.frozen_of_heap ((Lib.alloc_old w o b (Buf.lt_of_heap h)).trans h) 2
  have hlt := Buf.lt_of_heap h
  clear hf h1 h2 h
  rcases hcs with hc | hc | hc
  · have x0 : ((c.toNat : Int) == 0) = false := by rw [hc]; decide
    have x9 : ((c.toNat : Int) == 9) = true := by rw [hc]; decide
    have x10 : ((c.toNat : Int) == 10) = false := by rw [hc]; decide
    have x12 : ((c.toNat : Int) == 12) = false := by rw [hc]; decide
    have x13 : ((c.toNat : Int) == 13) = false := by rw [hc]; decide
    have x32 : ((c.toNat : Int) == 32) = false := by rw [hc]; decide
    clear hc
    go_enter Tryz.func105, Tryz.ntmps105
    go_wp2
    go_region
    go_wp2
    (try simp only [Exit.inBlock, Exit.then])
    refine bodyPost_ret (results_none rfl _ _ _) rfl ?_
    exact ⟨rfl, HD.out⟩
  · have x0 : ((c.toNat : Int) == 0) = false := by rw [hc]; decide
    have x9 : ((c.toNat : Int) == 9) = false := by rw [hc]; decide
    have x10 : ((c.toNat : Int) == 10) = false := by rw [hc]; decide
    have x12 : ((c.toNat : Int) == 12) = true := by rw [hc]; decide
    have x13 : ((c.toNat : Int) == 13) = false := by rw [hc]; decide
    have x32 : ((c.toNat : Int) == 32) = false := by rw [hc]; decide
    clear hc
    go_enter Tryz.func105, Tryz.ntmps105
    go_wp2
    go_region
    go_wp2
    (try simp only [Exit.inBlock, Exit.then])
    refine bodyPost_ret (results_none rfl _ _ _) rfl ?_
    exact ⟨rfl, HD.out⟩
  · have x0 : ((c.toNat : Int) == 0) = false := by rw [hc]; decide
    have x9 : ((c.toNat : Int) == 9) = false := by rw [hc]; decide
    have x10 : ((c.toNat : Int) == 10) = false := by rw [hc]; decide
    have x12 : ((c.toNat : Int) == 12) = false := by rw [hc]; decide
    have x13 : ((c.toNat : Int) == 13) = false := by rw [hc]; decide
    have x32 : ((c.toNat : Int) == 32) = true := by rw [hc]; decide
    clear hc
    go_enter Tryz.func105, Tryz.ntmps105
    go_wp2
    go_region
    go_wp2
    (try simp only [Exit.inBlock, Exit.then])
    refine bodyPost_ret (results_none rfl _ _ _) rfl ?_
    exact ⟨rfl, HD.out⟩
theorem ba_app (l r : List UInt8) : (⟨l.toArray⟩ : ByteArray) ++ (⟨r.toArray⟩ : ByteArray) = ⟨(l ++ r).toArray⟩ := by
  apply ByteArray.ext
  simp [ByteArray.data_append]
theorem not_blank_facts {c : UInt8} (h0 : c ≠ 0) (hb : isBlank c = false) : ((c.toNat : Int) == 0) = false ∧ ((c.toNat : Int) == 9) = false ∧ ((c.toNat : Int) == 10) = false ∧ ((c.toNat : Int) == 12) = false ∧ ((c.toNat : Int) == 13) = false ∧ ((c.toNat : Int) == 32) = false := by
  rcases c with ⟨⟨n⟩⟩
  revert n
  decide +kernel
set_option maxHeartbeats 4000000 in
set_option maxRecDepth 100000 in
theorem rput_word (h : Rf w b m) (k : Bool) (c : UInt8) (h0 : c ≠ 0) (hb : isBlank c = false) (hz : m.size ≤ 1000000000) : Calls Tryz.prog 105 #[.pointer (some ⟨b, 0, none⟩), .int .u8 c.toNat, .bool k] w fun e w' => e = .returned (.tuple #[]) ∧ RDoes w w' b (m.word c) := by
  obtain ⟨x0, x9, x10, x12, x13, x32⟩ := not_blank_facts h0 hb
  obtain ⟨c0, c1, c2, hf⟩ := rf_cells h
  have HH := Lib.hid h
  have HZ := Lib.hid hz
  by_cases ht : m.told = []
  · have q1 : ((⟨m.told.toArray⟩ : ByteArray).toList != []) = false := by rw [ByteArray.toList_eq, ht]; rfl
    have q2 : (m.told != []) = false := by rw [ht]; rfl
    have q3 : m.told.isEmpty = true := by rw [ht]; rfl
    have HM := Lib.hid (show m.word c = { told := m.told ++ [c], blanks := [], ends := 0 } by unfold M.word; rw [if_pos ht, ht])
    have hlen : m.told.length ≤ 1000000000 := by unfold M.size at hz; omega
    have hf0 := hf 0
    have hlt2 := Buf.lt_of_heap h
    have hcv : (convert 22 9 (.slice (some ⟨w.heap.size, 0, none⟩) 1 1)).run Tryz.prog ((w.alloc (.cells #[.int .u8 c.toNat] 5)).drew) = .ok (.string ⟨#[c]⟩) ((w.alloc (.cells #[.int .u8 c.toNat] 5)).drew) := conv_one w.drew c
    obtain ⟨t2, ht2⟩ : ∃ t2, m.told = t2 := ⟨_, rfl⟩
    have hq := h.refl.trans (rf_told h (m.told ++ [c]))
    have HQ : RDoes w ((w.setCell ⟨b, 0, none⟩ (.string ((⟨m.told.toArray⟩ : ByteArray) ++ (⟨#[c]⟩ : ByteArray)))).alloc (.cells #[.int .u8 c.toNat] 5)).drew b { m with told := m.told ++ [c] } := by
      rw [ba_snoc]
      exact (hq.trans (rf_alloc hq.1 _)).drew
    have ca : ∀ o, (w.alloc o).cell? ⟨b, 0, none⟩ = some (.string ⟨m.told.toArray⟩) := fun o => by
      rw [Lib.cell_of_heap ((Lib.alloc_old w o b hlt2).trans h)]; rfl
    have cf : ∀ o, (w.alloc o).frozen? ⟨b, 0, none⟩ = false := fun o => Lib.frozen_of_heap ((Lib.alloc_old w o b hlt2).trans h) 0
    rw [ht2] at HM HQ
    simp only [ht2] at c0 ca hlen q1 q2 q3
    have s0 : (⟨t2.toArray⟩ : ByteArray).size = t2.length := by simp [ByteArray.size]
    have s1 : (t2.length + 1 ≤ 9223372036854775807) = True := eq_true (by omega)
    have s2 : decide (t2.length + 1 ≤ 9223372036854775807) = true := decide_eq_true (by omega)
    have s3 : (9223372036854775807 < t2.length + 1) = False := eq_false (by omega)
    have HQ' := Lib.hid HQ
    clear HQ hq hf ht2 hlen ht h h0 hb hz
    go_enter Tryz.func105, Tryz.ntmps105
    go_wp2_with fail
    go_region
    have HQ := HQ'.out
    generalize ((w.setCell ⟨b, 0, none⟩ (.string ((⟨t2.toArray⟩ : ByteArray) ++ (⟨#[c]⟩ : ByteArray)))).alloc (.cells #[.int .u8 c.toNat] 5)).drew = w3 at HQ ⊢
    clear c0 c1 c2 hf0 ca cf hcv s0 s1 s2 s3 HQ'
    obtain ⟨c0, c1, c2, hf⟩ := rf_cells HQ.1
    have hf1 := hf 1
    have hf2 := hf 2
    have hq1 := HQ.trans (rf_ends HQ.1 0)
    have hq2 := Lib.hid (hq1.trans (rf_blanks hq1.1 []))
    clear hf HQ hq1
    go_wp2_with fail
    go_end0
    exact ⟨rfl, by rw [HM.out]; exact hq2.out⟩
  · have q1 : ((⟨m.told.toArray⟩ : ByteArray).toList != []) = true := by rw [ByteArray.toList_eq]; exact bne_iff_ne.2 ht
    have q2 : (m.told != []) = true := bne_iff_ne.2 ht
    have q3 : m.told.isEmpty = false := by cases hh : m.told <;> simp_all
    clear hf h h0 hb hz
    go_enter Tryz.func105, Tryz.ntmps105
    go_wp2_with fail
    go_loopg [6] (m.ends + 1) (fun kq v w' => ∃ i : Nat, v = .int .i64 i ∧ Hid (i ≤ m.ends) ∧ Hid (m.ends < i + kq) ∧ Hid (RDoes w w' b { m with told := m.told ++ List.replicate i 10 }))
    case atStart => exact ⟨0, rfl, Lib.hid (Nat.zero_le _), Lib.hid (by omega), Lib.hid (by simpa using HH.out.refl)⟩
    case round =>
      clear c0 c1 c2
      obtain ⟨i, rfl, HI, HK, HR⟩ := hrel
      have hi := HI.out
      obtain ⟨c0, c1, c2, hf⟩ := rf_cells HR.out.1
      have hf0 := hf 0
      by_cases hlt : i < m.ends
      · have d1 : decide ((i : Int) < (m.ends : Int)) = true := decide_eq_true (by omega)
        have d2 : decide (i < m.ends) = true := decide_eq_true hlt
        have hsz : (m.told ++ List.replicate i (10 : UInt8)).length ≤ 1000000000 := by have := HZ.out; unfold M.size at this; simp; omega
        have HN := Lib.hid (HR.out.trans (rf_told HR.out.1 (m.told ++ List.replicate (i + 1) 10)))
        obtain ⟨t, ht⟩ : ∃ t, m.told ++ List.replicate i (10 : UInt8) = t := ⟨_, rfl⟩
        have htn : m.told ++ List.replicate (i + 1) (10 : UInt8) = t ++ [10] := by rw [List.replicate_succ', ← List.append_assoc, ht]
        simp only [ht] at c0 hsz
        have HTN := Lib.hid htn
        rw [htn, ← ba_snoc] at HN
        have s0 : (⟨t.toArray⟩ : ByteArray).size = t.length := by simp [ByteArray.size]
        have s1 : (t.length + 1 ≤ 9223372036854775807) = True := eq_true (by omega)
        have s2 : decide (t.length + 1 ≤ 9223372036854775807) = true := decide_eq_true (by omega)
        have s3 : (9223372036854775807 < t.length + 1) = False := eq_false (by omega)
        clear hf ht htn hsz
        cases gk with
        | zero => exact absurd HK.out (by omega)
        | succ k1 =>
          have hi9 : i ≤ 1000000000 := by have := HZ.out; unfold M.size at this; omega
          go_wp2_with fail
          go_roundg k1
          case measure => omega
          case rel => exact ⟨i + 1, rfl, Lib.hid (by omega), Lib.hid (by have := HK.out; omega), Lib.hid (by rw [HTN.out]; exact HN.out)⟩
      · have d1 : decide ((i : Int) < (m.ends : Int)) = false := decide_eq_false (by omega)
        have d2 : decide (i < m.ends) = false := decide_eq_false hlt
        have hie : i = m.ends := by omega
        subst hie
        have hsz : (m.told ++ List.replicate m.ends (10 : UInt8)).length + m.blanks.length ≤ 1000000000 := by have := HZ.out; unfold M.size at this; simp; omega
        obtain ⟨t, htt⟩ : ∃ t, m.told ++ List.replicate m.ends (10 : UInt8) = t := ⟨_, rfl⟩
        have HM := Lib.hid (show m.word c = { told := t ++ m.blanks ++ [c], blanks := [], ends := 0 } by unfold M.word; rw [if_neg ht, htt])
        have hR := HR.out
        simp only [htt] at c0 hsz hR
        have HR2 := Lib.hid hR
        have s0 : (⟨t.toArray⟩ : ByteArray).size = t.length := by simp [ByteArray.size]
        have s4 : (⟨m.blanks.toArray⟩ : ByteArray).size = m.blanks.length := by simp [ByteArray.size]
        have s1 : (t.length + m.blanks.length ≤ 9223372036854775807) = True := eq_true (by omega)
        have s2 : decide (t.length + m.blanks.length ≤ 9223372036854775807) = true := decide_eq_true (by omega)
        have s3 : (9223372036854775807 < t.length + m.blanks.length) = False := eq_false (by omega)
        clear hf htt hR HR d1 d2 hlt HI HK
        have HN : RDoes w (wr.setCell ⟨b, 0, none⟩ (.string ⟨(t ++ m.blanks).toArray⟩)).drew b { m with told := t ++ m.blanks } := RDoes.drew (HR2.out.trans (rf_told HR2.out.1 (t ++ m.blanks)))
        rw [← ba_app] at HN
        go_wp2_with fail
        go_region
        generalize (wr.setCell ⟨b, 0, none⟩ (.string ((⟨t.toArray⟩ : ByteArray) ++ (⟨m.blanks.toArray⟩ : ByteArray)))).drew = w2 at HN ⊢
        have HN' : Hid (RDoes w w2 b { m with told := t ++ m.blanks }) := Lib.hid HN
        clear HN c0 c1 c2 hf0 s1 s2 s3 s4 s0
        obtain ⟨c0, c1, c2, hf⟩ := rf_cells HN'.out.1
        have hf0 := hf 0
        have hlt2 := Buf.lt_of_heap HN'.out.1
        have hcv : (convert 22 9 (.slice (some ⟨w2.heap.size, 0, none⟩) 1 1)).run Tryz.prog ((w2.alloc (.cells #[.int .u8 c.toNat] 5)).drew) = .ok (.string ⟨#[c]⟩) ((w2.alloc (.cells #[.int .u8 c.toNat] 5)).drew) := conv_one w2.drew c
        obtain ⟨t2, ht2⟩ : ∃ t2, t ++ m.blanks = t2 := ⟨_, rfl⟩
        rw [ht2] at HM HN'
        simp only [ht2] at c0
        have hlen : t2.length ≤ 1000000000 := by rw [← ht2]; simp; omega
        have s0 : (⟨t2.toArray⟩ : ByteArray).size = t2.length := by simp [ByteArray.size]
        have s1 : (t2.length + 1 ≤ 9223372036854775807) = True := eq_true (by omega)
        have s2 : decide (t2.length + 1 ≤ 9223372036854775807) = true := decide_eq_true (by omega)
        have s3 : (9223372036854775807 < t2.length + 1) = False := eq_false (by omega)
        have ca : ∀ o, (w2.alloc o).cell? ⟨b, 0, none⟩ = some (.string ⟨t2.toArray⟩) := fun o => by
          rw [Lib.cell_of_heap ((Lib.alloc_old w2 o b hlt2).trans HN'.out.1)]; rfl
        have cf : ∀ o, (w2.alloc o).frozen? ⟨b, 0, none⟩ = false := fun o => Lib.frozen_of_heap ((Lib.alloc_old w2 o b hlt2).trans HN'.out.1) 0
        have hq := HN'.out.trans (rf_told HN'.out.1 (t2 ++ [c]))
        have HQ : RDoes w ((w2.setCell ⟨b, 0, none⟩ (.string ((⟨t2.toArray⟩ : ByteArray) ++ (⟨#[c]⟩ : ByteArray)))).alloc (.cells #[.int .u8 c.toNat] 5)).drew b { m with told := t2 ++ [c] } := by
          rw [ba_snoc]
          exact (hq.trans (rf_alloc hq.1 _)).drew
        have HQ' := Lib.hid HQ
        clear HQ hq hf ht2 hlen hsz
        go_wp2_with fail
        go_region
        have HQ := HQ'.out
        generalize ((w2.setCell ⟨b, 0, none⟩ (.string ((⟨t2.toArray⟩ : ByteArray) ++ (⟨#[c]⟩ : ByteArray)))).alloc (.cells #[.int .u8 c.toNat] 5)).drew = w3 at HQ ⊢
        clear c0 c1 c2 hf0 ca cf hcv s0 s1 s2 s3 HQ'
        obtain ⟨c0, c1, c2, hf⟩ := rf_cells HQ.1
        have hf1 := hf 1
        have hf2 := hf 2
        have hq1 := HQ.trans (rf_ends HQ.1 0)
        have hq2 := Lib.hid (hq1.trans (rf_blanks hq1.1 []))
        clear hf HQ hq1
        go_wp2_with fail
        go_end0
        exact ⟨rfl, by rw [HM.out]; exact hq2.out⟩
theorem rput_at (h : Rf w b m) (k : Bool) (c : UInt8) (hz : m.size ≤ 1000000000) : Calls Tryz.prog 105 #[.pointer (some ⟨b, 0, none⟩), .int .u8 c.toNat, .bool k] w fun e w' => e = .returned (.tuple #[]) ∧ RDoes w w' b (m.put1 k c) := by
  have he : m.ends ≤ 1000000000 := by unfold M.size at hz; omega
  have hl : m.blanks.length ≤ 1000000000 := by unfold M.size at hz; omega
  unfold M.put1
  by_cases h0 : c = 0
  · rw [if_pos h0, h0]
    exact rput_zero h k
  · rw [if_neg h0]
    cases hb : isBlank c with
    | false =>
      rw [if_neg (by simp)]
      exact rput_word h k c h0 hb hz
    | true =>
      rw [if_pos rfl]
      cases k with
      | false =>
        simp only [Bool.false_eq_true, if_false]
        exact rput_lose h c h0 hb
      | true =>
        rw [if_pos rfl]
        unfold M.keep
        by_cases hn : c = 10 ∨ c = 13
        · rw [if_pos hn]
          exact rput_line h c hn he
        · rw [if_neg hn]
          refine rput_blank h c ?_ hl
          have hc : c = 9 ∨ c = 10 ∨ c = 12 ∨ c = 13 ∨ c = 32 := by
            rcases c with ⟨⟨n⟩⟩
            revert n
            decide +kernel
          rcases hc with e | e | e | e | e
          · exact Or.inl e
          · exact absurd (Or.inl e) hn
          · exact Or.inr (Or.inl e)
          · exact absurd (Or.inr e) hn
          · exact Or.inr (Or.inr e)
end
end Go.Proofs.YteccaekalcjihaaGreatDoor.Flow
set_option linter.unusedVariables false
namespace Go.Proofs.YteccaekalcjihaaGreatDoor.Flow
open Go.RowKit Go.Lib Go.Proofs.YteccaekalcjihaaGreatDoor.Buf Go.Proofs.YteccaekalcjihaaGreatDoor.PTn Go.Proofs.YteccaekalcjihaaGreatDoorW.PrintWords Go.Proofs.YteccaekalcjihaaGreatDoor.FlowBits
def abox (a : Flow.Act) : Obj := .cells #[.int .i64 a.kind, .string a.s, .bool a.keep, .int .i64 a.n] 81
section
variable {w : World} {b : Nat} {m : M}
theorem rput_d {w0 : World} (h : Hid (RDoes w0 w b m)) (k : Bool) (c : UInt8) (hz : Hid (m.size ≤ 1000000000)) : Calls Tryz.prog 105 #[.pointer (some ⟨b, 0, none⟩), .int .u8 c.toNat, .bool k] w.drew fun e w' => e = .returned (.tuple #[]) ∧ Hid (RDoes w0 w' b (m.put1 k c)) := by
  refine (rput_at (w := w.drew) (m := m) h.out.1 k c hz.out).mono ?_
  rintro e w' ⟨h1, h2⟩
  exact ⟨h1, Lib.hid (h.out.drew.trans h2)⟩
set_option maxHeartbeats 4000000 in
set_option maxRecDepth 100000 in
theorem rdo_put (h : Rf w b m) (a : Flow.Act) (hk : a.kind = 0) (hz : m.size + a.s.size ≤ 1000000000) : Calls Tryz.prog 48 #[.pointer (some ⟨b, 0, none⟩), a.val] w fun e w' => e = .returned (.tuple #[]) ∧ RDoes w w' b (m.put a.keep a.s.data.toList) := by
  have k1 : (a.kind == 1) = false := by rw [hk]; rfl
  have k2 : (a.kind == 2) = false := by rw [hk]; rfl
  have k0 : (a.kind != 0) = false := by rw [hk]; rfl
  have hlt := Buf.lt_of_heap h
  have HZ := Lib.hid hz
  have HW := Lib.hid (rf_alloc h (abox a))
  have hnew : (w.alloc (abox a)).heap[w.heap.size]? = some (abox a) := heap_alloc_new w _
  have hss : a.s.size ≤ 1000000000 := by omega
  unfold Act.val
  clear h hk hz
  go_enter Tryz.func48, Tryz.ntmps48
  go_wp2_with fail
  go_loopg [5] (a.s.size + 1) (fun kq v w' => ∃ i : Nat, v = .int .i64 i ∧ Hid (i ≤ a.s.size) ∧ Hid (a.s.size < i + kq) ∧ Hid (RDoes (w.alloc (abox a)) w' b (m.put a.keep (a.s.data.toList.take i))))
  case atStart => exact ⟨0, rfl, Lib.hid (Nat.zero_le _), Lib.hid (by omega), Lib.hid (Rf.refl HW.out.1)⟩
  case round =>
    obtain ⟨i, rfl, HI, HK, HR⟩ := hrel
    have hi := HI.out
    have hbox : wr.heap[w.heap.size]? = some (abox a) := (HR.out.2.block w.heap.size (by simp) (by omega)).trans hnew
    have b1 : wr.cell? ⟨w.heap.size, 1, none⟩ = some (.string a.s) := by rw [Lib.cell_of_heap (show wr.heap[w.heap.size]? = some (.cells #[.int .i64 a.kind, .string a.s, .bool a.keep, .int .i64 a.n] 81) from hbox)]; rfl
    have b2 : wr.cell? ⟨w.heap.size, 2, none⟩ = some (.bool a.keep) := by rw [Lib.cell_of_heap (show wr.heap[w.heap.size]? = some (.cells #[.int .i64 a.kind, .string a.s, .bool a.keep, .int .i64 a.n] 81) from hbox)]; rfl
    have HNEW := Lib.hid hnew
    clear hnew hbox
    by_cases hlt2 : i < a.s.size
    · have d1 : decide ((i : Int) < (a.s.size : Int)) = true := decide_eq_true (by omega)
      have d2 : decide (i < a.s.size) = true := decide_eq_true hlt2
      obtain ⟨c, hc⟩ : ∃ c, a.s[i]'hlt2 = c := ⟨_, rfl⟩
      have HP := Lib.hid (put_take a.keep m a.s i hlt2)
      rw [hc] at HP
      have hsz := put_size a.keep (a.s.data.toList.take i) m
      have HS1 := Lib.hid (show (m.put a.keep (a.s.data.toList.take i)).size ≤ 1000000000 by have := HZ.out; simp at hsz; omega)
      clear hsz
      cases gk with
      | zero => exact absurd HK.out (by omega)
      | succ k1 =>
        go_wp2_with fail
        go_region_with (go_at_call 105; refine (rput_d HR a.keep c HS1).mono ?_; rintro e w2 ⟨rfl, HN⟩)
        all_goals (
          go_wp2_with fail
          go_roundg k1
          case measure => omega
          case rel => exact ⟨i + 1, rfl, Lib.hid (by omega), Lib.hid (by have := HK.out; omega), Lib.hid (by rw [HP.out]; exact HN.out)⟩)
    · have d1 : decide ((i : Int) < (a.s.size : Int)) = false := decide_eq_false (by omega)
      have d2 : decide (i < a.s.size) = false := decide_eq_false hlt2
      have hie : i = a.s.data.toList.length := by simp; omega
      have HF := Lib.hid (show RDoes w wr b (m.put a.keep a.s.data.toList) by have h1 := HR.out; rw [hie, List.take_length] at h1; exact HW.out.trans h1)
      clear hie
      go_wp2_with fail
      go_end0
      exact ⟨rfl, HF.out⟩
end
end Go.Proofs.YteccaekalcjihaaGreatDoor.Flow
set_option linter.unusedVariables false
set_option linter.unusedSimpArgs false
namespace Go.Proofs.YteccaekalcjihaaGreatDoor.Rend
open Go.RowKit Go.Lib Go.Proofs.YteccaekalcjihaaGreatDoor.Buf Go.Proofs.YteccaekalcjihaaGreatDoor.Flow Go.Proofs.YteccaekalcjihaaGreatDoor.PTn Go.Proofs.YteccaekalcjihaaGreatDoorW.PrintWords Go.Proofs.YteccaekalcjihaaGreatDoorW.PrintLast
set_option maxHeartbeats 4000000 in
set_option maxRecDepth 100000 in
theorem keeps_none (w : World) : Calls Tryz.prog 43 #[.string ⟨#[]⟩] w fun e w' => e = .returned (.bool false) ∧ w' = w := by
  go_enter Tryz.func43, Tryz.ntmps43
  go_wp2
  go_ret
  exact ⟨rfl, rfl⟩
set_option maxHeartbeats 4000000 in
set_option maxRecDepth 100000 in
theorem rrender_one (A : Option Addr) (c : Nat) (T : ByteArray) (w : World) (hr : Kd.C k40 w A 1 [⟨0, ⟨#[]⟩, T, [], false⟩]) (hT : T.size ≤ 10000) :
    Calls Tryz.prog 15 #[.slice A 1 c] w fun e w' => e = .returned (.string ⟨(M.none.put false T.data.toList).told.toArray⟩) ∧ Below w.heap.size w w' := by
  have HC := Lib.hid hr
  have HRf : Hid (Rf (w.alloc (.cells #[.string ⟨#[]⟩, .int .i64 0, .string ⟨#[]⟩] 74)) w.heap.size M.none) := Lib.hid (heap_alloc_new w _)
  have HB0 := Lib.hid ((Below.refl w.heap.size w).alloc (Nat.le_refl _) (.cells #[.string ⟨#[]⟩, .int .i64 0, .string ⟨#[]⟩] 74))
  obtain ⟨ad, A3, c3, rfl, c0, c1, c2, c4, c5⟩ := tok_cells (Kd.C_below HC.out HB0.out) 0 (Nat.lt_succ_self 0)
  have hz : ad.add (0 * 5) = ad := by
    rw [Nat.zero_mul]
    unfold Addr.add
    split <;> (first | rfl | (obtain ⟨b, o, s⟩ := ad; simp_all))
  rw [hz] at c0 c1 c2 c4 c5
  have HT := Lib.hid hT
  clear hr hz hT HC
  go_enter Tryz.func15, Tryz.ntmps15
  go_wp2
  refine wp_loop_rounds 2 ?_
  rw [rounds_succ]
  go_wp2_with (first | (go_at_call 43; refine (keeps_none _).mono ?_; rintro e w1 ⟨rfl, rfl⟩) | (go_at_call 48; refine (rdo_put ((rf_alloc HRf.out _).1) ⟨0, T, false, 0⟩ rfl (by have := HT.out; have h0 : M.none.size = 0 := rfl; show M.none.size + T.size ≤ _; omega)).mono ?_; rintro e w3 ⟨rfl, hd⟩; have HD := Lib.hid hd; obtain ⟨e0, e1, e2, e3⟩ := rf_cells hd.1; clear hd))
  rw [rounds_succ]
  go_wp2
  go_ret
  exact ⟨rfl, (HB0.out.alloc HB0.out.size _).trans (HD.out.2.below (by simp; omega) (fun k hk e => by omega))⟩
end Go.Proofs.YteccaekalcjihaaGreatDoor.Rend
set_option linter.unusedVariables false
set_option linter.unusedSimpArgs false
namespace Go.Proofs.YteccaekalcjihaaGreatDoor.PTn
open Go.RowKit Go.Lib Go.Proofs.YteccaekalcjihaaGreatDoor.Buf Go.Proofs.YteccaekalcjihaaGreatDoorW.PrintWords Go.Proofs.YteccaekalcjihaaGreatDoorW.PrintLast Go.Proofs.YteccaekalcjihaaGreatDoorW.PrintMore
theorem add_tx (A B : List UInt8) (hA : A.length ≤ 100000) (hB : B.length ≤ 100000) (W : World) : (Op.stringOp .add (tx A) (tx B)).run Tryz.prog W = .ok (.string (tx (A ++ B))) W := run_string_add_lists W A B (by omega) (by omega)
def digT : ByteArray := ⟨#[48, 49, 50, 51, 52, 53, 54, 55, 56, 57, 97, 98, 99, 100, 101, 102]⟩
theorem dig_at (d : Nat) (h : d < 16) : digT.extract d (d + 1) = tx [dg d] := by
  have : ∀ d : Fin 16, (digT.extract d.val (d.val + 1)).data.toList = [dg d.val] := by decide +kernel
  exact ByteArray.ext (Array.toList_inj.1 (this ⟨d, h⟩))
theorem dig_slice (d : Nat) (h : d < 16) (W : World) : (Instr.slice 9 (.string digT) (some (.int .i64 d)) (some (.int .i64 (d + 1 : Int))) none).run Tryz.prog W = .ok (.string (tx [dg d])) W := by
  have h2 : ((d : Int) + 1) ≤ ((digT.size : Nat) : Int) := by
    have : digT.size = 16 := rfl
    omega
  have := run_slice_string (P := Tryz.prog) W 9 digT .i64 .i64 d (d + 1) Tryz.underlying9 (by omega) (by omega) h2
  rw [this, Int.toNat_natCast, show ((d : Int) + 1).toNat = d + 1 by omega, dig_at d h]
def digs (b : Nat) (l : List Int) : List Nat := l.map fun x => x.toNat % b
theorem digs_len (b : Nat) (l : List Int) : (digs b l).length = l.length := by simp [digs]
theorem digs_lt (six : Bool) (l : List Int) : ∀ d ∈ digs (bas six) l, d < bas six := by
  intro d hd
  obtain ⟨x, _, rfl⟩ := List.mem_map.1 hd
  exact Nat.mod_lt _ (by cases six <;> decide)
theorem take_dig (b : Nat) (l : List Int) (i : Nat) (h : i < l.length) : (digs b l).take (i + 1) = (digs b l).take i ++ [(l[i]'h).toNat % b] := by
  rw [List.take_succ_eq_append_getElem (by rw [digs_len]; exact h)]
  simp [digs]
theorem val_snoc (b : Nat) (D : List Nat) (d n : Nat) : val b (D ++ [d]) n = min (val b D n * b + d) 1114112 := by simp [val]
theorem u8_cell {w : World} {ad : Addr} {n : Nat} {xs : List Int} (h : Kd.C (Kd.int .u8) w (some ad) n xs) (i : Nat) (hi : i < xs.length) : w.cell? (ad.add i) = some (.int .u8 (xs[i]'hi)) := by
  have hn : xs.length = n := h.1
  obtain ⟨ad', c, e, _, hK, hc0⟩ := Kd.C_get h (0 : Int) (i : Int) (by omega) (by omega)
  injection e with e
  subst e
  have := hc0 0 (.int .u8 (xs[i]'hi)) (by
    have hg : xs.getD (i : Int).toNat (0 : Int) = xs[i]'hi := by simp [List.getD_eq_getElem?_getD, hi]
    rw [hg] at hK
    obtain rfl := hK
    rfl)
  simpa [Kd.int, Kd.scalar] using this
structure Ready (six : Bool) (D : List Nat) (W : List UInt8) (r : ByteArray) : Prop where
  fix : flailref04_Fix.f 7 ((val (bas six) D 0 : Nat) : Int) = some (tx W)
  len : W.length ≤ 4
  zero : (0 : UInt8) ∉ W
  quote : (39 : UInt8) ∉ refT [] [] six D
  attr : ref_Decode.f (tx (refT [] [] six D)) true = some (tx W)
  text : ref_Decode.f (tx (refT [] [] six D)) false = some (tx W)
  said : extract_Extract.f (numsD (refT [97] [98] six D)) = some r
  told : r = ⟨(Flow.M.none.put false (tx ([97] ++ W ++ [98])).data.toList).told.toArray⟩
theorem ready (six : Bool) (D : List Nat) (hD : ∀ d ∈ D, d < bas six) (h0 : 0 < D.length) (h1 : D.length ≤ 1000) : ∃ W r, Ready six D W r := by
  obtain ⟨W, f1, f2, f3, f4, f5⟩ := fix_same (val (bas six) D 0)
  obtain ⟨r, e1, e2⟩ := extract_ref six D W hD h0 h1 f1 f4
  have d1 := decode_ref [] [] six D W hD h0 h1 (by decide) (by decide) (by decide) (by decide) f1 f4 true
  have d2 := decode_ref [] [] six D W hD h0 h1 (by decide) (by decide) (by decide) (by decide) f1 f4 false
  rw [List.nil_append, List.append_nil] at d1 d2
  refine ⟨W, r, f2, f4, f5, fun hm => ?_, d1, d2, e1, e2⟩
  have hb := bas_le six
  rcases mem_refT hm with h | h | h | h | ⟨d, h, e⟩ | h | h
  · simp at h
  · exact absurd h (by decide)
  · exact absurd h (by decide)
  · exact absurd h (by decide)
  · have h2 := hD d h
    exact (dg_small d (by omega)).2.2.2.2 e
  · exact absurd h (by decide)
  · simp at h
theorem attr_kept {w w' : World} {g j : Nat} {v : Value} (hb : Below w.heap.size w w') (h : w.cell? ⟨g, j, none⟩ = some v) : w'.cell? ⟨g, j, none⟩ = some v := (hb.cell (p := ⟨g, j, none⟩) (gw_lt h)).trans h
theorem num_row (w : World) (W : List UInt8) : Kd.C k40 (w.alloc (.cells #[.int .i64 0, .string ⟨#[]⟩, .string (tx ([97] ++ W ++ [98])), .slice none 0 0, .bool false] 40)) (some ⟨w.heap.size, 0, none⟩) 1 (numT W) := by
  have hb : (w.alloc (.cells #[.int .i64 0, .string ⟨#[]⟩, .string (tx ([97] ++ W ++ [98])), .slice none 0 0, .bool false] 40)).heap[w.heap.size]? = _ := heap_alloc_new w _
  refine ⟨rfl, by decide, fun _ => ⟨⟨w.heap.size, 0, none⟩, rfl, fun j p hp => ?_⟩⟩
  have hj : j = 0 := by
    have := (List.getElem?_eq_some_iff.1 hp).1
    simp [numT] at this
    omega
  subst hj
  obtain rfl := Option.some.inj hp
  refine ⟨_, rfl, k40_mk _ ⟨0, ⟨#[]⟩, tx ([97] ++ W ++ [98]), [], false⟩ (A3 := none) (c3 := 0) (Nat.le_refl _) (Kd.C_nil k38 _), fun i u hu => ?_⟩
  have hadd : (⟨w.heap.size, 0, none⟩ : Addr).add (0 * k40.sz + i) = ⟨w.heap.size, i, none⟩ := by
    rw [Nat.zero_mul, Nat.zero_add]
    unfold Addr.add
    split <;> simp_all
  rw [hadd, Lib.cell_of_heap hb, ← hu]
  exact (Array.getElem?_toList ..).symm
set_option maxHeartbeats 8000000 in
set_option maxRecDepth 100000 in
theorem numbers_ten (l : List Int) (A0 : Option Addr) (c0 : Nat) (w : World) (hG : GW w) (hr0 : Kd.C (Kd.int .u8) w A0 l.length l) (hu : ∀ i (h : i < l.length), 0 ≤ l[i] ∧ l[i] ≤ 255) (hl : 0 < l.length) (hl2 : l.length ≤ 100) :
    Calls Tryz.prog 4 #[.slice A0 l.length c0, .bool false] w fun e w' => e = .returned (.bool true) ∧ Below w.heap.size w w' := by
  obtain ⟨W, r, hready⟩ := ready false (digs 10 l) (digs_lt false l) (by rw [digs_len]; exact hl) (by rw [digs_len]; omega)
  have HY := Aside0.mk hready
  have HA := Aside0.mk (flailtop_awake.calls true w hG awake_true)
  have HG := Aside0.mk hG
  have HR := Aside0.mk hr0
  have HU := Aside0.mk hu
  have l1 : decide ((l.length : Int) > 100) = false := decide_eq_false (by omega)
  have l2 : decide (100 < (l.length : Int)) = false := decide_eq_false (by omega)
  have l3 : ((l.length : Int) == 0) = false := beq_eq_false_iff_ne.2 (by omega)
  have l4 : (l.length : Int) ≤ 100 := by omega
  have hlz : (0 : Int) < (l.length : Nat) := by omega
  clear hG hr0 hu hl hready
  go_enter Tryz.func4, Tryz.ntmps4
  go_wp2_with (first | (go_at_call 5; refine HA.out.mono ?_; rintro e w1 ⟨rfl, hb⟩; have HB1 := Aside0.mk hb; have HR1 := Aside0.mk (Kd.C_below HR.out hb); clear hb))
  obtain ⟨ad, rfl⟩ : ∃ ad, A0 = some ad := by
    obtain ⟨ad, c, e, _⟩ := Kd.C_get HR.out (0 : Int) 0 (by omega) hlz
    exact ⟨ad, e⟩
  go_loopg [6, 9, 10, 11] (l.length + 1) (fun kq v6 v9 v10 v11 wr => ∃ i : Nat, v6 = .string (tx (38 :: (preL false ++ dgs ((digs 10 l).take i)))) ∧ v9 = .int .i64 (val 10 ((digs 10 l).take i) 0) ∧ v10 = .int .i64 i ∧ wr = w1 ∧ Aside0 (i ≤ l.length) ∧ Aside0 (l.length < i + kq))
  case atStart => exact ⟨0, rfl, rfl, rfl, rfl, ⟨by omega⟩, ⟨by omega⟩⟩
  case round =>
    obtain ⟨i, rfl, rfl, rfl, rfl, HI, HQ⟩ := hrel
    cases gk with
    | zero => exact absurd HQ.out (by have := HI.out; omega)
    | succ kq =>
    obtain ⟨n, hn⟩ : ∃ n, val 10 ((digs 10 l).take i) 0 = n := ⟨_, rfl⟩
    have hn2 : n ≤ 1114112 := by rw [← hn]; exact val_le _ _ _ (by decide)
    rw [hn]
    by_cases hi : i < l.length
    · have d1 : decide ((i : Int) < (l.length : Int)) = true := decide_eq_true (by omega)
      have d2 : decide (i < l.length) = true := decide_eq_true hi
      have d3 : (i : Int) < (l.length : Int) := by omega
      have hc := u8_cell HR1.out i hi
      obtain ⟨x, hx⟩ : ∃ x, l[i]'hi = x := ⟨_, rfl⟩
      have hux := HU.out i hi
      rw [hx] at hc hux
      have HT := Aside0.mk (take_dig 10 l i hi)
      rw [hx] at HT
      have HX := Aside0.mk (show x % 10 = ((x.toNat % 10 : Nat) : Int) by omega)
      obtain ⟨d, hd⟩ : ∃ d, x.toNat % 10 = d := ⟨_, rfl⟩
      have hd10 : d < 10 := by rw [← hd]; exact Nat.mod_lt _ (by decide)
      rw [hd] at HT HX
      have ksl := dig_slice d (by omega)
      rw [← HX.out] at ksl
      unfold digT at ksl
      have b1 : (n : Int) ≤ 1114112 := by omega
      have b2 : (0 : Int) ≤ x % 10 := by omega
      have b3 : x % 10 ≤ 9 := by omega
      have b4 : (i : Int) ≤ 100 := by omega
      have kad := add_tx (38 :: (preL false ++ dgs ((digs 10 l).take i))) [dg d] (by simp [preL, dgs]; omega) (by simp)
      obtain ⟨so, hso⟩ : ∃ s, tx (38 :: (preL false ++ dgs ((digs 10 l).take i))) = s := ⟨_, rfl⟩
      obtain ⟨sd, hsd⟩ : ∃ s, tx [dg d] = s := ⟨_, rfl⟩
      obtain ⟨sn, hsn⟩ : ∃ s, tx (38 :: (preL false ++ dgs ((digs 10 l).take i)) ++ [dg d]) = s := ⟨_, rfl⟩
      rw [hso, hsd, hsn] at kad
      rw [hsd] at ksl
      rw [hso]
      have HS : Aside0 (sn = tx (38 :: (preL false ++ dgs ((digs 10 l).take (i + 1))))) := ⟨by rw [← hsn, HT.out]; congr 1; simp [dgs]⟩
      have HN : Aside0 (val 10 ((digs 10 l).take (i + 1)) 0 = min (n * 10 + d) 1114112) := ⟨by rw [HT.out, val_snoc, hn]⟩
      clear hx hd hsn hn hso hsd HT
      by_cases hg : 1114111 < (n : Int) * 10 + x % 10
      · have e1 : decide (1114111 < (n : Int) * 10 + x % 10) = true := decide_eq_true hg
        go_wp2
        go_roundg kq
        case rel => exact ⟨i + 1, by rw [HS.out], by rw [HN.out]; congr 1; have := HX.out; omega, rfl, rfl, ⟨by omega⟩, ⟨by have := HQ.out; omega⟩⟩
        case measure => exact Nat.lt_succ_self _
      · have e1 : decide (1114111 < (n : Int) * 10 + x % 10) = false := decide_eq_false hg
        go_wp2
        go_roundg kq
        case rel => exact ⟨i + 1, by rw [HS.out], by rw [HN.out]; congr 1; have := HX.out; omega, rfl, rfl, ⟨by omega⟩, ⟨by have := HQ.out; omega⟩⟩
        case measure => exact Nat.lt_succ_self _
    · have d1 : decide ((i : Int) < (l.length : Int)) = false := decide_eq_false (by omega)
      have d2 : decide (i < l.length) = false := decide_eq_false hi
      have d3 : ¬ ((i : Int) < (l.length : Int)) := by omega
      have htk : (digs 10 l).take i = digs 10 l := List.take_of_length_le (by rw [digs_len]; omega)
      have hDl : (digs 10 l).length ≤ 100 := by rw [digs_len]; omega
      rw [htk] at hn ⊢
      obtain ⟨D, hD⟩ : ∃ D, digs 10 l = D := ⟨_, rfl⟩
      rw [hD] at HY hn hDl ⊢
      have HFX : Aside0 (flailref04_Fix.f 7 (n : Int) = some (tx W)) := ⟨by rw [← hn]; exact HY.out.fix⟩
      have hW4 := HY.out.len
      have hsl : (38 :: (preL false ++ dgs D)).length ≤ 200 := by simp [preL, dgs]; omega
      have k1 := add_tx [120, 61, 39] (38 :: (preL false ++ dgs D)) (by decide) (by omega)
      have k2 := add_tx ([120, 61, 39] ++ 38 :: (preL false ++ dgs D)) [59, 39, 62] (by simp only [List.length_append]; simp only [List.length_cons, List.length_nil] at hsl ⊢; omega) (by decide)
      have k3 := add_tx [97] (38 :: (preL false ++ dgs D)) (by decide) (by omega)
      have k4 := add_tx ([97] ++ 38 :: (preL false ++ dgs D)) [59, 98] (by simp only [List.length_append]; simp only [List.length_cons, List.length_nil] at hsl ⊢; omega) (by decide)
      have k5 := add_tx (38 :: (preL false ++ dgs D)) [59] (by omega) (by decide)
      have k6 := add_tx [97] W (by decide) (by omega)
      have k7 := add_tx ([97] ++ W) [98] (by simp; omega) (by decide)
      rw [show [120, 61, 39] ++ 38 :: (preL false ++ dgs D) ++ [59, 39, 62] = attL (refT [] [] false D) by simp [attL, refT]] at k2
      rw [show [97] ++ 38 :: (preL false ++ dgs D) ++ [59, 98] = refT [97] [98] false D by simp [refT]] at k4
      rw [show 38 :: (preL false ++ dgs D) ++ [59] = refT [] [] false D by simp [refT]] at k5
      have hVl : (refT [] [] false D).length ≤ 10000 := by rw [refT_len]; simp [preL]; omega
      have hTl : (refT [97] [98] false D).length ≤ 10000 := by rw [refT_len]; simp [preL]; omega
      have HAT : Aside0 (∀ w', GW w' → Calls Tryz.prog 20 #[.string (tx (attL (refT [] [] false D))), .int .i64 0] w' fun e w2 => ∃ g c, e = .returned (.tuple #[.slice (some ⟨g, 0, none⟩) 1 c, .bool false, .int .i64 (((refT [] [] false D).length + 5 : Nat) : Int), .bool true]) ∧ w2.cell? ⟨g, 1, none⟩ = some (.string (tx W)) ∧ Below w'.heap.size w' w2) := ⟨fun w' h => attrs_one _ W w' h hVl HY.out.quote HY.out.attr HY.out.zero⟩
      have HEX : Aside0 (∀ w', GW w' → Calls Tryz.prog 16 #[.slice (some ⟨w'.heap.size, 0, none⟩) (tx (refT [97] [98] false D)).size (grownCap w' (tx (refT [97] [98] false D)).size 0 5)] (bytesWorld w' 5 (tx (refT [97] [98] false D))) fun e w2 => e = .returned (.string r) ∧ Below w'.heap.size w' w2) := ⟨fun w' h => by
        have hb := conv_below w' (tx (refT [97] [98] false D))
        have hr := (BR.conv w' (tx (refT [97] [98] false D))).reads (by rw [tx_data]; omega)
        have hc := grownCap_ge w' (tx (refT [97] [98] false D)).size 0 5
        rw [tx_size] at hc ⊢
        rw [tx_data, ← numsD_length] at hr
        rw [← numsD_length (refT [97] [98] false D)] at hc ⊢
        exact (extract_Extract.calls _ _ _ r _ (h.at hb) hr hc HY.out.said).mono fun e w2 ⟨he, h2⟩ => ⟨he, below_step hb h2⟩⟩
      have HDC : Aside0 (∀ w', GW w' → Calls Tryz.prog 21 #[.string (tx (refT [] [] false D)), .bool false] w' fun e w2 => e = .returned (.string (tx W)) ∧ Below w'.heap.size w' w2) := ⟨fun w' h => ref_Decode.calls _ false _ w' h HY.out.text⟩
      have HRN : Aside0 (∀ w' : World, Calls Tryz.prog 15 #[.slice (some ⟨w'.heap.size, 0, none⟩) 1 1] (w'.alloc (.cells #[.int .i64 0, .string ⟨#[]⟩, .string (tx ([97] ++ W ++ [98])), .slice none 0 0, .bool false] 40)) fun e w2 => e = .returned (.string r) ∧ Below w'.heap.size w' w2) := ⟨fun w' => (Rend.rrender_one _ 1 (tx ([97] ++ W ++ [98])) _ (num_row w' W) (by have := HY.out.len; rw [tx_size]; simp; omega)).mono fun e w2 ⟨he, h2⟩ => ⟨by rw [HY.out.told]; exact he, below_step ((Below.refl _ w').alloc (Nat.le_refl _) _) h2⟩⟩
      have kcv := fun w' : World => Lib.run_convert_string_bytes (P := Tryz.prog) w' 9 22 5 (tx (refT [97] [98] false D)) Tryz.underlying9 Tryz.underlying22 Tryz.underlying5
      obtain ⟨m5, hm5⟩ : ∃ m, (refT [] [] false D).length + 5 = m := ⟨_, rfl⟩
      obtain ⟨s0, q0⟩ : ∃ s, tx (38 :: (preL false ++ dgs D)) = s := ⟨_, rfl⟩
      obtain ⟨s1, q1⟩ : ∃ s, tx ([120, 61, 39] ++ 38 :: (preL false ++ dgs D)) = s := ⟨_, rfl⟩
      obtain ⟨s2, q2⟩ : ∃ s, tx (attL (refT [] [] false D)) = s := ⟨_, rfl⟩
      obtain ⟨s3, q3⟩ : ∃ s, tx ([97] ++ 38 :: (preL false ++ dgs D)) = s := ⟨_, rfl⟩
      obtain ⟨s4, q4⟩ : ∃ s, tx (refT [97] [98] false D) = s := ⟨_, rfl⟩
      obtain ⟨s5, q5⟩ : ∃ s, tx (refT [] [] false D) = s := ⟨_, rfl⟩
      obtain ⟨sw, qw⟩ : ∃ s, tx W = s := ⟨_, rfl⟩
      obtain ⟨s6, q6⟩ : ∃ s, tx ([97] ++ W) = s := ⟨_, rfl⟩
      obtain ⟨s7, q7⟩ : ∃ s, tx ([97] ++ W ++ [98]) = s := ⟨_, rfl⟩
      rw [q0] at k1 k3 k5 ⊢
      rw [q1] at k1 k2
      rw [q2] at k2 HAT
      rw [q3] at k3 k4
      rw [q4] at k4 HEX kcv
      rw [q5] at k5 HDC
      rw [qw] at k6 HAT HDC HFX
      rw [q6] at k6 k7
      rw [q7] at k7 HRN
      rw [hm5] at HAT
      unfold tx at k1 k2 k3 k4 k5 k6 k7
      clear q0 q1 q2 q3 q4 q5 q6 q7 qw hm5 hW4 hsl hVl hTl HY hn hD hDl htk hn2 HQ HU
      go_wp2_with (first | (go_at_call 19; (with_reducible refine (flailref04_Fix.calls 7 _ sw _ HFX.out).mono ?_); rintro e w2 ⟨rfl, hb⟩; have HB2 := Aside0.mk (below_step HB1.out hb); clear hb) | (go_at_call 20; refine (HAT.out _ (HG.out.at HB2.out)).mono ?_; rintro e w3 ⟨g, c, rfl, hc, hb⟩; have HB3 := Aside0.mk (below_step HB2.out hb); have HC := Aside0.mk hc; clear hb hc) | (go_at_call 16; refine (HEX.out _ (HG.out.at HB3.out)).mono ?_; rintro e w4 ⟨rfl, hb⟩; have HB4 := Aside0.mk (below_step HB3.out hb); have HC4 := Aside0.mk (attr_kept hb HC.out); clear hb) | (go_at_call 21; refine (HDC.out _ (HG.out.at HB4.out)).mono ?_; rintro e w5 ⟨rfl, hb⟩; have HB5 := Aside0.mk (below_step HB4.out hb); have hc5 := attr_kept hb HC4.out; clear hb) | (go_at_call 15; refine (HRN.out _).mono ?_; rintro e w6 ⟨rfl, hb⟩; have HB6 := Aside0.mk (below_step HB5.out hb); clear hb))
      go_ret
      exact ⟨rfl, HB6.out⟩
set_option maxHeartbeats 8000000 in
set_option maxRecDepth 100000 in
theorem numbers_sixteen (l : List Int) (A0 : Option Addr) (c0 : Nat) (w : World) (hG : GW w) (hr0 : Kd.C (Kd.int .u8) w A0 l.length l) (hu : ∀ i (h : i < l.length), 0 ≤ l[i] ∧ l[i] ≤ 255) (hl : 0 < l.length) (hl2 : l.length ≤ 100) :
    Calls Tryz.prog 4 #[.slice A0 l.length c0, .bool true] w fun e w' => e = .returned (.bool true) ∧ Below w.heap.size w w' := by
  obtain ⟨W, r, hready⟩ := ready true (digs 16 l) (digs_lt true l) (by rw [digs_len]; exact hl) (by rw [digs_len]; omega)
  have HY := Aside0.mk hready
  have HA := Aside0.mk (flailtop_awake.calls true w hG awake_true)
  have HG := Aside0.mk hG
  have HR := Aside0.mk hr0
  have HU := Aside0.mk hu
  have l1 : decide ((l.length : Int) > 100) = false := decide_eq_false (by omega)
  have l2 : decide (100 < (l.length : Int)) = false := decide_eq_false (by omega)
  have l3 : ((l.length : Int) == 0) = false := beq_eq_false_iff_ne.2 (by omega)
  have l4 : (l.length : Int) ≤ 100 := by omega
  have hlz : (0 : Int) < (l.length : Nat) := by omega
  clear hG hr0 hu hl hready
  go_enter Tryz.func4, Tryz.ntmps4
  go_wp2_with (first | (go_at_call 5; refine HA.out.mono ?_; rintro e w1 ⟨rfl, hb⟩; have HB1 := Aside0.mk hb; have HR1 := Aside0.mk (Kd.C_below HR.out hb); clear hb))
  obtain ⟨ad, rfl⟩ : ∃ ad, A0 = some ad := by
    obtain ⟨ad, c, e, _⟩ := Kd.C_get HR.out (0 : Int) 0 (by omega) hlz
    exact ⟨ad, e⟩
  go_loopg [6, 9, 10, 11] (l.length + 1) (fun kq v6 v9 v10 v11 wr => ∃ i : Nat, v6 = .string (tx (38 :: (preL true ++ dgs ((digs 16 l).take i)))) ∧ v9 = .int .i64 (val 16 ((digs 16 l).take i) 0) ∧ v10 = .int .i64 i ∧ wr = w1 ∧ Aside0 (i ≤ l.length) ∧ Aside0 (l.length < i + kq))
  case atStart => exact ⟨0, rfl, rfl, rfl, rfl, ⟨by omega⟩, ⟨by omega⟩⟩
  case round =>
    obtain ⟨i, rfl, rfl, rfl, rfl, HI, HQ⟩ := hrel
    cases gk with
    | zero => exact absurd HQ.out (by have := HI.out; omega)
    | succ kq =>
    obtain ⟨n, hn⟩ : ∃ n, val 16 ((digs 16 l).take i) 0 = n := ⟨_, rfl⟩
    have hn2 : n ≤ 1114112 := by rw [← hn]; exact val_le _ _ _ (by decide)
    rw [hn]
    by_cases hi : i < l.length
    · have d1 : decide ((i : Int) < (l.length : Int)) = true := decide_eq_true (by omega)
      have d2 : decide (i < l.length) = true := decide_eq_true hi
      have d3 : (i : Int) < (l.length : Int) := by omega
      have hc := u8_cell HR1.out i hi
      obtain ⟨x, hx⟩ : ∃ x, l[i]'hi = x := ⟨_, rfl⟩
      have hux := HU.out i hi
      rw [hx] at hc hux
      have HT := Aside0.mk (take_dig 16 l i hi)
      rw [hx] at HT
      have HX := Aside0.mk (show x % 16 = ((x.toNat % 16 : Nat) : Int) by omega)
      obtain ⟨d, hd⟩ : ∃ d, x.toNat % 16 = d := ⟨_, rfl⟩
      have hd10 : d < 16 := by rw [← hd]; exact Nat.mod_lt _ (by decide)
      rw [hd] at HT HX
      have ksl := dig_slice d (by omega)
      rw [← HX.out] at ksl
      unfold digT at ksl
      have b1 : (n : Int) ≤ 1114112 := by omega
      have b2 : (0 : Int) ≤ x % 16 := by omega
      have b3 : x % 16 ≤ 15 := by omega
      have b4 : (i : Int) ≤ 100 := by omega
      have kad := add_tx (38 :: (preL true ++ dgs ((digs 16 l).take i))) [dg d] (by simp [preL, dgs]; omega) (by simp)
      obtain ⟨so, hso⟩ : ∃ s, tx (38 :: (preL true ++ dgs ((digs 16 l).take i))) = s := ⟨_, rfl⟩
      obtain ⟨sd, hsd⟩ : ∃ s, tx [dg d] = s := ⟨_, rfl⟩
      obtain ⟨sn, hsn⟩ : ∃ s, tx (38 :: (preL true ++ dgs ((digs 16 l).take i)) ++ [dg d]) = s := ⟨_, rfl⟩
      rw [hso, hsd, hsn] at kad
      rw [hsd] at ksl
      rw [hso]
      have HS : Aside0 (sn = tx (38 :: (preL true ++ dgs ((digs 16 l).take (i + 1))))) := ⟨by rw [← hsn, HT.out]; congr 1; simp [dgs]⟩
      have HN : Aside0 (val 16 ((digs 16 l).take (i + 1)) 0 = min (n * 16 + d) 1114112) := ⟨by rw [HT.out, val_snoc, hn]⟩
      clear hx hd hsn hn hso hsd HT
      by_cases hg : 1114111 < (n : Int) * 16 + x % 16
      · have e1 : decide (1114111 < (n : Int) * 16 + x % 16) = true := decide_eq_true hg
        go_wp2
        go_roundg kq
        case rel => exact ⟨i + 1, by rw [HS.out], by rw [HN.out]; congr 1; have := HX.out; omega, rfl, rfl, ⟨by omega⟩, ⟨by have := HQ.out; omega⟩⟩
        case measure => exact Nat.lt_succ_self _
      · have e1 : decide (1114111 < (n : Int) * 16 + x % 16) = false := decide_eq_false hg
        go_wp2
        go_roundg kq
        case rel => exact ⟨i + 1, by rw [HS.out], by rw [HN.out]; congr 1; have := HX.out; omega, rfl, rfl, ⟨by omega⟩, ⟨by have := HQ.out; omega⟩⟩
        case measure => exact Nat.lt_succ_self _
    · have d1 : decide ((i : Int) < (l.length : Int)) = false := decide_eq_false (by omega)
      have d2 : decide (i < l.length) = false := decide_eq_false hi
      have d3 : ¬ ((i : Int) < (l.length : Int)) := by omega
      have htk : (digs 16 l).take i = digs 16 l := List.take_of_length_le (by rw [digs_len]; omega)
      have hDl : (digs 16 l).length ≤ 100 := by rw [digs_len]; omega
      rw [htk] at hn ⊢
      obtain ⟨D, hD⟩ : ∃ D, digs 16 l = D := ⟨_, rfl⟩
      rw [hD] at HY hn hDl ⊢
      have HFX : Aside0 (flailref04_Fix.f 7 (n : Int) = some (tx W)) := ⟨by rw [← hn]; exact HY.out.fix⟩
      have hW4 := HY.out.len
      have hsl : (38 :: (preL true ++ dgs D)).length ≤ 200 := by simp [preL, dgs]; omega
      have k1 := add_tx [120, 61, 39] (38 :: (preL true ++ dgs D)) (by decide) (by omega)
      have k2 := add_tx ([120, 61, 39] ++ 38 :: (preL true ++ dgs D)) [59, 39, 62] (by simp only [List.length_append]; simp only [List.length_cons, List.length_nil] at hsl ⊢; omega) (by decide)
      have k3 := add_tx [97] (38 :: (preL true ++ dgs D)) (by decide) (by omega)
      have k4 := add_tx ([97] ++ 38 :: (preL true ++ dgs D)) [59, 98] (by simp only [List.length_append]; simp only [List.length_cons, List.length_nil] at hsl ⊢; omega) (by decide)
      have k5 := add_tx (38 :: (preL true ++ dgs D)) [59] (by omega) (by decide)
      have k6 := add_tx [97] W (by decide) (by omega)
      have k7 := add_tx ([97] ++ W) [98] (by simp; omega) (by decide)
      rw [show [120, 61, 39] ++ 38 :: (preL true ++ dgs D) ++ [59, 39, 62] = attL (refT [] [] true D) by simp [attL, refT]] at k2
      rw [show [97] ++ 38 :: (preL true ++ dgs D) ++ [59, 98] = refT [97] [98] true D by simp [refT]] at k4
      rw [show 38 :: (preL true ++ dgs D) ++ [59] = refT [] [] true D by simp [refT]] at k5
      have hVl : (refT [] [] true D).length ≤ 10000 := by rw [refT_len]; simp [preL]; omega
      have hTl : (refT [97] [98] true D).length ≤ 10000 := by rw [refT_len]; simp [preL]; omega
      have HAT : Aside0 (∀ w', GW w' → Calls Tryz.prog 20 #[.string (tx (attL (refT [] [] true D))), .int .i64 0] w' fun e w2 => ∃ g c, e = .returned (.tuple #[.slice (some ⟨g, 0, none⟩) 1 c, .bool false, .int .i64 (((refT [] [] true D).length + 5 : Nat) : Int), .bool true]) ∧ w2.cell? ⟨g, 1, none⟩ = some (.string (tx W)) ∧ Below w'.heap.size w' w2) := ⟨fun w' h => attrs_one _ W w' h hVl HY.out.quote HY.out.attr HY.out.zero⟩
      have HEX : Aside0 (∀ w', GW w' → Calls Tryz.prog 16 #[.slice (some ⟨w'.heap.size, 0, none⟩) (tx (refT [97] [98] true D)).size (grownCap w' (tx (refT [97] [98] true D)).size 0 5)] (bytesWorld w' 5 (tx (refT [97] [98] true D))) fun e w2 => e = .returned (.string r) ∧ Below w'.heap.size w' w2) := ⟨fun w' h => by
        have hb := conv_below w' (tx (refT [97] [98] true D))
        have hr := (BR.conv w' (tx (refT [97] [98] true D))).reads (by rw [tx_data]; omega)
        have hc := grownCap_ge w' (tx (refT [97] [98] true D)).size 0 5
        rw [tx_size] at hc ⊢
        rw [tx_data, ← numsD_length] at hr
        rw [← numsD_length (refT [97] [98] true D)] at hc ⊢
        exact (extract_Extract.calls _ _ _ r _ (h.at hb) hr hc HY.out.said).mono fun e w2 ⟨he, h2⟩ => ⟨he, below_step hb h2⟩⟩
      have HDC : Aside0 (∀ w', GW w' → Calls Tryz.prog 21 #[.string (tx (refT [] [] true D)), .bool false] w' fun e w2 => e = .returned (.string (tx W)) ∧ Below w'.heap.size w' w2) := ⟨fun w' h => ref_Decode.calls _ false _ w' h HY.out.text⟩
      have HRN : Aside0 (∀ w' : World, Calls Tryz.prog 15 #[.slice (some ⟨w'.heap.size, 0, none⟩) 1 1] (w'.alloc (.cells #[.int .i64 0, .string ⟨#[]⟩, .string (tx ([97] ++ W ++ [98])), .slice none 0 0, .bool false] 40)) fun e w2 => e = .returned (.string r) ∧ Below w'.heap.size w' w2) := ⟨fun w' => (Rend.rrender_one _ 1 (tx ([97] ++ W ++ [98])) _ (num_row w' W) (by have := HY.out.len; rw [tx_size]; simp; omega)).mono fun e w2 ⟨he, h2⟩ => ⟨by rw [HY.out.told]; exact he, below_step ((Below.refl _ w').alloc (Nat.le_refl _) _) h2⟩⟩
      have kcv := fun w' : World => Lib.run_convert_string_bytes (P := Tryz.prog) w' 9 22 5 (tx (refT [97] [98] true D)) Tryz.underlying9 Tryz.underlying22 Tryz.underlying5
      obtain ⟨m5, hm5⟩ : ∃ m, (refT [] [] true D).length + 5 = m := ⟨_, rfl⟩
      obtain ⟨s0, q0⟩ : ∃ s, tx (38 :: (preL true ++ dgs D)) = s := ⟨_, rfl⟩
      obtain ⟨s1, q1⟩ : ∃ s, tx ([120, 61, 39] ++ 38 :: (preL true ++ dgs D)) = s := ⟨_, rfl⟩
      obtain ⟨s2, q2⟩ : ∃ s, tx (attL (refT [] [] true D)) = s := ⟨_, rfl⟩
      obtain ⟨s3, q3⟩ : ∃ s, tx ([97] ++ 38 :: (preL true ++ dgs D)) = s := ⟨_, rfl⟩
      obtain ⟨s4, q4⟩ : ∃ s, tx (refT [97] [98] true D) = s := ⟨_, rfl⟩
      obtain ⟨s5, q5⟩ : ∃ s, tx (refT [] [] true D) = s := ⟨_, rfl⟩
      obtain ⟨sw, qw⟩ : ∃ s, tx W = s := ⟨_, rfl⟩
      obtain ⟨s6, q6⟩ : ∃ s, tx ([97] ++ W) = s := ⟨_, rfl⟩
      obtain ⟨s7, q7⟩ : ∃ s, tx ([97] ++ W ++ [98]) = s := ⟨_, rfl⟩
      rw [q0] at k1 k3 k5 ⊢
      rw [q1] at k1 k2
      rw [q2] at k2 HAT
      rw [q3] at k3 k4
      rw [q4] at k4 HEX kcv
      rw [q5] at k5 HDC
      rw [qw] at k6 HAT HDC HFX
      rw [q6] at k6 k7
      rw [q7] at k7 HRN
      rw [hm5] at HAT
      unfold tx at k1 k2 k3 k4 k5 k6 k7
      clear q0 q1 q2 q3 q4 q5 q6 q7 qw hm5 hW4 hsl hVl hTl HY hn hD hDl htk hn2 HQ HU
      go_wp2_with (first | (go_at_call 19; (with_reducible refine (flailref04_Fix.calls 7 _ sw _ HFX.out).mono ?_); rintro e w2 ⟨rfl, hb⟩; have HB2 := Aside0.mk (below_step HB1.out hb); clear hb) | (go_at_call 20; refine (HAT.out _ (HG.out.at HB2.out)).mono ?_; rintro e w3 ⟨g, c, rfl, hc, hb⟩; have HB3 := Aside0.mk (below_step HB2.out hb); have HC := Aside0.mk hc; clear hb hc) | (go_at_call 16; refine (HEX.out _ (HG.out.at HB3.out)).mono ?_; rintro e w4 ⟨rfl, hb⟩; have HB4 := Aside0.mk (below_step HB3.out hb); have HC4 := Aside0.mk (attr_kept hb HC.out); clear hb) | (go_at_call 21; refine (HDC.out _ (HG.out.at HB4.out)).mono ?_; rintro e w5 ⟨rfl, hb⟩; have HB5 := Aside0.mk (below_step HB4.out hb); have hc5 := attr_kept hb HC4.out; clear hb) | (go_at_call 15; refine (HRN.out _).mono ?_; rintro e w6 ⟨rfl, hb⟩; have HB6 := Aside0.mk (below_step HB5.out hb); clear hb))
      go_ret
      exact ⟨rfl, HB6.out⟩
set_option maxHeartbeats 8000000 in
set_option maxRecDepth 100000 in
theorem numbers_off (six : Bool) (n c0 : Nat) (A0 : Option Addr) (w : World) (hG : GW w) (hl : n = 0 ∨ 100 < n) :
    Calls Tryz.prog 4 #[.slice A0 n c0, .bool six] w fun e w' => e = .returned (.bool true) ∧ Below w.heap.size w w' := by
  have HA := Aside0.mk (flailtop_awake.calls true w hG awake_true)
  by_cases h : 100 < n
  · have l1 : decide ((n : Int) > 100) = true := decide_eq_true (by omega)
    have l2 : decide (100 < (n : Int)) = true := decide_eq_true (by omega)
    have l3 : (100 : Int) < (n : Int) := by omega
    clear hG hl h
    go_enter Tryz.func4, Tryz.ntmps4
    go_wp2_with (first | (go_at_call 5; refine HA.out.mono ?_; rintro e w1 ⟨rfl, hb⟩; have HB1 := Aside0.mk hb; clear hb))
    go_ret
    exact ⟨rfl, HB1.out⟩
  · obtain rfl : n = 0 := by omega
    clear hG hl h
    go_enter Tryz.func4, Tryz.ntmps4
    go_wp2_with (first | (go_at_call 5; refine HA.out.mono ?_; rintro e w1 ⟨rfl, hb⟩; have HB1 := Aside0.mk hb; clear hb))
    go_ret
    exact ⟨rfl, HB1.out⟩
theorem numbers_all (six : Bool) (l : List Int) (A0 : Option Addr) (c0 : Nat) (w : World) (hG : GW w) (hr0 : Kd.C (Kd.int .u8) w A0 l.length l) (hu : ∀ i (h : i < l.length), 0 ≤ l[i] ∧ l[i] ≤ 255) :
    Calls Tryz.prog 4 #[.slice A0 l.length c0, .bool six] w fun e w' => e = .returned (.bool true) ∧ Below w.heap.size w w' := by
  by_cases h : l.length = 0 ∨ 100 < l.length
  · exact numbers_off six l.length c0 A0 w hG h
  · cases six with
    | false => exact numbers_ten l A0 c0 w hG hr0 hu (by omega) (by omega)
    | true => exact numbers_sixteen l A0 c0 w hG hr0 hu (by omega) (by omega)
end Go.Proofs.YteccaekalcjihaaGreatDoor.PTn
set_option linter.unusedVariables false
namespace Go.Proofs.YteccaekalcjihaaGreatDoor.Row
open Go.ChangeShapes Go.WideShapes Go.ChangeAt Go.RowKit Go.Proofs.YteccaekalcjihaaGreatDoor.PTn
theorem returns_and_shaped {H : Type} {enc : TypeId × Value → H} {a : Assume} {C : Checked} {os : Os} {f : FuncId} {fn : Func} {s : ChangeSpec} {conds : List PathCond} {apart fresh handsOn again : Bool} {X : World → Array Value → Prop}
    (hX : ∀ (w w' : World) (args : Array Value), w.heap = w'.heap → X w args → X w' args)
    (own : ownKnob C.prog.godebug = none) (started : os.Started) (noInit : C.prog.inits.idxOf? f = none) (hfn : C.prog.funcs[f]? = some fn)
    (witness : ∃ (w : World) (tape : Tape) (i : Input), w.os = os ∧ (w.forCall tape i).Shaped C.prog ∧ i.vars = [] ∧ Input.okWide C.prog (w.forCall tape i) .any w.heap.size f i ∧
      ((s.pre enc C.prog fn conds apart (w.forCall tape i).memory i.args ∧ X (w.forCall tape i).memory i.args) ∧ sizedMet enc C.prog fn (OpenSpec.ofChange s) apart (w.forCall tape i).memory i.args) ∧ a.holds C.prog (lone (Frame.enter C.prog f i.args .normal) [] (w.forCall tape i)))
    (contract : ∀ (W : World) (base : Nat) (args : Array Value) (ds gs : List (DataW H)) (before : List MemPlace),
      (∀ (j : Nat) t v, fn.params[j]? = some t → args[j]? = some v → Value.okWide C.prog W .any base t v) →
      DataW.Whole enc C.prog fn.params.toList s.vars apart W args.toList ds gs before →
      (DataW.weightsEach C.prog (fn.params.toList ++ s.plain.varTypes C.prog) (ds ++ gs)).all (· ≤ reachBytes) = true → X W args → W.ShapedOpen C.prog →
      Calls C.prog f args W fun e W' => ∃ v, e = .returned v ∧ s.post enc C.prog fn apart fresh handsOn again W args v W') :
    ReturnsInHanded a C os f .any (fun w args => (s.pre enc C.prog fn conds apart w args ∧ X w args) ∧ sizedMet enc C.prog fn (OpenSpec.ofChange s) apart w args) (s.post enc C.prog fn apart fresh handsOn again) := by
  refine returnsInHanded_of_calls own started noInit witness ?_
  intro w tape i _ hsh _ hok hpre hholds
  obtain ⟨_, _, _, fn', hfn', _, _, _, _, hval⟩ := hok
  have e : fn' = fn := Option.some.inj (hfn'.symm.trans hfn)
  subst e
  obtain ⟨⟨⟨ds, gs, before, hw, hc⟩, hx⟩, hz⟩ := hpre
  have hw' := DataW.Whole.of_heap (w' := w.forCall tape i) (by rfl) hw
  refine (contract (w.forCall tape i) w.heap.size i.args ds gs before hval hw' (hz.weights hw) (hX _ _ _ (by rfl) hx) hsh).mono fun e W' ⟨v, he, hp⟩ => ?_
  subst he
  exact ChangeSpec.post_blind hp
theorem star : "*" ++ "errors.errorString" = "*errors.errorString" := by decide
theorem rowE (u : TypeId) (h : Tryz.prog.typeName? 3 u = some "*errors.errorString") : u = 240 :=
  typeName_ptr_named (nm := "errors.errorString") (by rw [star]; kernel_rfl) (by kernel_rfl) (by decide) u (by rw [star]; exact h)
theorem cellsE : Tryz.prog.cellsOf 242 = 1 := by kernel_rfl
theorem cellsS : Tryz.prog.cellsOf 9 = 1 := by kernel_rfl
theorem synNamed : Tryz.prog.globalNamed "strconv.ErrSyntax" = some 3 := by kernel_rfl
theorem synType : (Tryz.prog.globals[3]?).map (·.type) = some 47 := by kernel_rfl
theorem plainL : laidMetH Tryz.prog Rows.topNumbersRow.laid = laidMet Tryz.prog Rows.topNumbersRow.laid := by
  funext W
  exact MakeChecks.laidMetH_plain _ _ _ (by kernel_rfl)
theorem gw_of {W : World} (h : laidMetH Tryz.prog Rows.topNumbersRow.laid W) (hs : W.ShapedOpen Tryz.prog) : GW W := by
  rw [plainL] at h
  obtain ⟨a, s, hv, _⟩ := laid_sentinel h.tail.tail.tail.tail.tail synNamed synType Tryz.underlying47 rowE Tryz.underlying240 Tryz.underlying242 rfl rfl Tryz.underlying9 cellsE cellsS
  refine ⟨cell_of_shapedOpen_int (zero := #[.int .i64 0]) hs (of_decide_eq_true (by kernel_rfl)) (by kernel_rfl) (by kernel_rfl) (by kernel_rfl) (by kernel_rfl) Tryz.underlying3, ?_⟩
  exact ⟨_, _, by simpa using World.var?_cell synNamed hv 0⟩
theorem own : ownKnob Tryz.prog.godebug = none := by kernel_rfl
set_option maxRecDepth 100000 in
theorem witness {H : Type} (enc : TypeId × Value → H) (os : Os) : ∃ (w : World) (tape : Tape) (i : Input), w.os = os ∧ (w.forCall tape i).Shaped Tryz.prog ∧ i.vars = [] ∧ Input.okWide Tryz.prog (w.forCall tape i) .any w.heap.size 4 i ∧
      ((Rows.topNumbersSpec.pre enc Tryz.prog Tryz.f4 Rows.topNumbersRow.domain false (w.forCall tape i).memory i.args ∧ laidMetH Tryz.prog Rows.topNumbersRow.laid (w.forCall tape i).memory) ∧ sizedMet enc Tryz.prog Tryz.f4 (OpenSpec.ofChange Rows.topNumbersSpec) false (w.forCall tape i).memory i.args) ∧ ({} : Assume).holds Tryz.prog (lone (Frame.enter Tryz.prog 4 i.args .normal) [] (w.forCall tape i)) :=
  ChangeSpec.witness_shaped (enc := enc) (C := Tryz.checked) (os := os) (f := 4) (fn := Tryz.f4) (s := Rows.topNumbersSpec) (X := fun w _ => laidMetH Tryz.prog Rows.topNumbersRow.laid w) false (World.laidAll Tryz.prog os Rows.topNumbersRow.laid) #[.slice none 0 0, .bool false] 8 (World.laidAll_os _ _ _)
    (World.shaped_of_ZipB (by kernel_rfl) (by kernel_rfl)) (by kernel_rfl) (by kernel_rfl) (by kernel_rfl)
    (by rw [plainL]; exact laidMet_laidAll _ (by kernel_rfl) (by kernel_rfl))
end Go.Proofs.YteccaekalcjihaaGreatDoor.Row
