/- As many lines' ends stand between two words as were asked for: of every three numbers the law's call returns true: the walk of the law's function over the contracts of what it calls. No condition. -/
import Derived.Test.YtaejicolhliecaaAwake
set_option linter.unusedVariables false
namespace Go.Proofs.Ytaejicolhliecaa.HandFlowLines
open Go.RowKit Go.Lib Go.Proofs.Ytaejicolhliecaa.Buf Go.Proofs.Ytaejicolhliecaa.Flow

def m0 : M := M.none.put false [32, 120, 32]
def lines : Nat → M → M
  | 0, m => m
  | k + 1, m => (lines k m).line
theorem lines_ends : ∀ k m, (lines k m).ends = m.ends + k
  | 0, m => rfl
  | k + 1, m => by
    show (lines k m).ends + 1 = _
    rw [lines_ends k m]
    omega
theorem lines_told : ∀ k m, (lines k m).told = m.told
  | 0, m => rfl
  | k + 1, m => lines_told k m
theorem lines_blanks : ∀ k m, m.blanks = [] → (lines k m).blanks = []
  | 0, m, h => h
  | k + 1, m, h => rfl
theorem m0_told : m0.told = [120] := by decide
theorem m0_ends : m0.ends = 0 := by decide

set_option maxHeartbeats 4000000 in
set_option maxRecDepth 100000 in
theorem lines_walk (a n c : Int) (ha : 0 ≤ a ∧ a ≤ 255) (hn : (Lit.int .i64 n).wf = true) (hc : 0 ≤ c ∧ c ≤ 255) (w : World) : Calls Try.prog 7 #[.int .u8 a, .int .i64 n, .int .u8 c] w fun e w' => e = .returned (.bool true) ∧ Below w.heap.size w w' := by
  have H0 := Lib.hid (sys_nil w)
  obtain ⟨A, hA⟩ : ∃ A : Nat, (A : Int) = a % 50 := ⟨(a % 50).toNat, by omega⟩
  obtain ⟨C, hC⟩ : ∃ C : Nat, (C : Int) = c % 50 := ⟨(c % 50).toNat, by omega⟩
  have hA1 : A < 50 := by omega
  have hC1 : C < 50 := by omega
  go_enter Try.func7, Try.ntmps7
  go_wp2_with fail
  refine (awake_at _).mono ?_
  rintro e w1 ⟨rfl, hb1⟩
  have H1 := Lib.hid (H0.out.then hb1)
  clear hb1
  go_wp2_with fail
  refine (sys_new H1.out).mono ?_
  rintro e w2 ⟨b, rfl, H2⟩
  go_wp2_with fail
  refine (sys_put 0 H2 rfl ⟨#[32, 120, 32]⟩ false (Lib.hid (by decide))).mono ?_
  rintro e w3 ⟨rfl, H3⟩
  have H4 : Hid (Flow.Sys w w3 [(b, m0)]) := H3
  clear H0 H1 H2 H3
  go_wp2_with fail
  go_loopg [9] 51 (fun kq v w' => ∃ i : Nat, v = .int .i64 i ∧ Hid (i ≤ A) ∧ Hid (A < i + kq) ∧ Hid (Flow.Sys w w' [(b, lines i m0)]))
  case atStart => exact ⟨0, rfl, Lib.hid (by omega), Lib.hid (by omega), H4⟩
  case round =>
    obtain ⟨i, rfl, HI, HK, HS⟩ := hrel
    clear H4
    have hi := HI.out
    by_cases hlt : i < A
    · have d1 : decide ((i : Int) < a % 50) = true := decide_eq_true (by omega)
      cases gk with
      | zero => exact absurd HK.out (by omega)
      | succ k1 =>
        go_wp2_with fail
        refine (sys_line 0 HS rfl (Lib.hid (by rw [lines_ends, m0_ends]; omega))).mono ?_
        rintro e w5 ⟨rfl, H5⟩
        go_wp2_with fail
        go_roundg k1
        case measure => omega
        case rel => exact ⟨i + 1, rfl, Lib.hid (by omega), Lib.hid (by have := HK.out; omega), H5⟩
    · have d1 : decide ((i : Int) < a % 50) = false := decide_eq_false (by omega)
      have hiA : i = A := by omega
      subst hiA
      go_wp2_with fail
      refine (sys_brk 0 HS rfl (Lib.hid (by rw [lines_ends, m0_ends]; omega)) n hn).mono ?_
      rintro e w4 ⟨rfl, H5⟩
      have H6 : Hid (Flow.Sys w w4 [(b, (lines i m0).brk n)]) := H5
      have hE : ((lines i m0).brk n).ends = max i (min n 100).toNat := by show max (lines i m0).ends _ = _; rw [lines_ends, m0_ends, Nat.zero_add]
      have hT : ((lines i m0).brk n).told = [120] := by show (lines i m0).told = _; rw [lines_told, m0_told]
      have hB : ((lines i m0).brk n).blanks = [] := rfl
      generalize (lines i m0).brk n = m1 at H6 hE hT hB
      have hE1 : m1.ends ≤ 100 := by omega
      clear H5 HS HI HK d1 hlt
      go_wp2_with fail
      go_loopg [10] 51 (fun kq v w' => ∃ j : Nat, v = .int .i64 j ∧ Hid (j ≤ C) ∧ Hid (C < j + kq) ∧ Hid (Flow.Sys w w' [(b, lines j m1)]))
      case atStart => exact ⟨0, rfl, Lib.hid (by omega), Lib.hid (by omega), H6⟩
      case round =>
        obtain ⟨j, rfl, HI, HK, HS⟩ := hrel
        clear H6
        have hj := HI.out
        by_cases hlt : j < C
        · have d1 : decide ((j : Int) < c % 50) = true := decide_eq_true (by omega)
          cases gk with
          | zero => exact absurd HK.out (by omega)
          | succ k1 =>
            go_wp2_with fail
            refine (sys_line 0 HS rfl (Lib.hid (by rw [lines_ends]; omega))).mono ?_
            rintro e w5 ⟨rfl, H5⟩
            go_wp2_with fail
            go_roundg k1
            case measure => omega
            case rel => exact ⟨j + 1, rfl, Lib.hid (by omega), Lib.hid (by have := HK.out; omega), H5⟩
        · have d1 : decide ((j : Int) < c % 50) = false := decide_eq_false (by omega)
          have hjC : j = C := by omega
          subst hjC
          have hE2 := lines_ends j m1
          have hT2 := lines_told j m1
          have hB2 := lines_blanks j m1 hB
          rw [hT] at hT2
          rw [hE] at hE2
          generalize lines j m1 = m2 at HS hE2 hT2 hB2
          have hm2 : m2.size + 1 ≤ 1000000000 := by unfold M.size; rw [hE2, hT2, hB2]; simp; omega
          have HZ : Hid (m2.size + (⟨#[121]⟩ : ByteArray).size ≤ 1000000000) := Lib.hid hm2
          have hY : (m2.put false [121]).told = 120 :: List.replicate m2.ends 10 ++ [121] := by
            show (m2.put1 false 121).told = _
            have : m2.put1 false 121 = m2.word 121 := rfl
            rw [this]
            unfold M.word
            rw [hT2, hB2, if_neg (by simp), List.append_nil]
            rfl
          clear HI HK d1 hlt hm2
          go_wp2_with fail
          refine (sys_put 0 HS rfl ⟨#[121]⟩ false HZ).mono ?_
          rintro e w5 ⟨rfl, H7⟩
          have H8 : Hid (Flow.Sys w w5 [(b, m2.put false [121])]) := H7
          generalize m2.put false [121] = m3 at H8 hY
          have hmany : max (a % 50) (min n 100) + c % 50 = (m2.ends : Int) := by omega
          have hE3 : m2.ends ≤ 200 := by omega
          generalize m2.ends = E at hY hmany hE3
          clear H7 HS HZ
          go_wp2_with fail
          go_loopg [12, 13] (E + 1) (fun kq v12 v13 w' => ∃ (S : ByteArray) (t : Nat), v12 = .string S ∧ v13 = .int .i64 t ∧ Hid (S = ⟨(120 :: List.replicate t (10 : UInt8)).toArray⟩) ∧ Hid (t ≤ E) ∧ Hid (E < t + kq) ∧ Hid (w' = w5))
          case atStart => exact ⟨_, 0, rfl, rfl, Lib.hid rfl, Lib.hid (Nat.zero_le _), Lib.hid (by omega), Lib.hid rfl⟩
          case round =>
            obtain ⟨S, t, rfl, rfl, HS, HI, HK, HW⟩ := hrel
            have ht := HI.out
            obtain rfl := HW.out
            have hsz : S.size = t + 1 := by rw [HS.out]; simp [ByteArray.size]
            by_cases hlt : t < E
            · have d1 : decide ((t : Int) < (E : Int)) = true := decide_eq_true (by omega)
              have d2 : decide (t < E) = true := decide_eq_true hlt
              have s1 : (S.size + 1 ≤ 9223372036854775807) = True := eq_true (by omega)
              have s2 : decide (S.size + 1 ≤ 9223372036854775807) = true := decide_eq_true (by omega)
              have s3 : (9223372036854775807 < S.size + 1) = False := eq_false (by omega)
              have HN := Lib.hid (show S ++ (⟨#[10]⟩ : ByteArray) = ⟨(120 :: List.replicate (t + 1) (10 : UInt8)).toArray⟩ by
                rw [HS.out, List.replicate_succ']
                apply ByteArray.ext
                simp [ByteArray.data_append])
              cases gk with
              | zero => exact absurd HK.out (by omega)
              | succ k1 =>
                clear hsz
                go_wp2_with fail
                go_roundg k1
                case measure => omega
                case rel => exact ⟨_, t + 1, rfl, rfl, HN, Lib.hid (by omega), Lib.hid (by have := HK.out; omega), Lib.hid rfl⟩
            · have d1 : decide ((t : Int) < (E : Int)) = false := decide_eq_false (by omega)
              have d2 : decide (t < E) = false := decide_eq_false hlt
              have s1 : (S.size + 1 ≤ 9223372036854775807) = True := eq_true (by omega)
              have s2 : decide (S.size + 1 ≤ 9223372036854775807) = true := decide_eq_true (by omega)
              have s3 : (9223372036854775807 < S.size + 1) = False := eq_false (by omega)
              have htE : t = E := by omega
              have HQ : ((⟨m3.told.toArray⟩ : ByteArray).toList == (S ++ (⟨#[121]⟩ : ByteArray)).toList) = true := by
                rw [beq_iff_eq, ByteArray.toList_eq, ByteArray.toList_eq, HS.out, hY, htE]
                simp [ByteArray.data_append]
              have HQ2 : (m3.told == (S ++ (⟨#[121]⟩ : ByteArray)).toList) = true := by
                rw [beq_iff_eq, ByteArray.toList_eq, HS.out, hY, htE]
                simp [ByteArray.data_append]
              clear hsz hlt hY htE
              go_wp2_with fail
              refine (sys_text 0 H8 rfl).mono ?_
              rintro e w6 ⟨rfl, H9⟩
              go_wp2_with fail
              go_ret
              exact ⟨rfl, H9.out.below⟩

theorem lines_row (a n c : Int) (w : World) (h0 : (Lit.int .u8 a).wf = true) (h1 : (Lit.int .i64 n).wf = true) (h2 : (Lit.int .u8 c).wf = true) : Calls Try.prog 7 #[.int .u8 a, .int .i64 n, .int .u8 c] w fun e w' => e = .returned (.bool true) ∧ Below w.heap.size w w' := by
  simp only [Lit.wf, Bool.and_eq_true, decide_eq_true_eq] at h0 h2
  exact lines_walk a n c h0 h1 h2 w
end Go.Proofs.Ytaejicolhliecaa.HandFlowLines
