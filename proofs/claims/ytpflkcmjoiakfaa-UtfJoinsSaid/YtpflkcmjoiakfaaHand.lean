/- The contracts, by hand, of four functions that the print does not take: utf.Decode (a strings.Builder), utf.Right (a range over a string), utf.Sign (string(rune)), flailref01.Right ([]byte(s)). -/
import Derived.Test.YtpflkcmjoiakfaaPAllx3
import Derived.Test.YtpflkcmjoiakfaaPAllx6
import Derived.Test.YtpflkcmjoiakfaaPAllx7
import Derived.Test.YtpflkcmjoiakfaaPAllx10
import Derived.Test.YtpflkcmjoiakfaaBuf
import Derived.Test.YtpflkcmjoiakfaaSpec
import Derived.Test.YtpflkcmjoiakfaaFirst
import Derived.Lib.ConvBytes
import Derived.Laws.RangeString
import Derived.Laws.RangeAny
import Derived.Laws.Runes
set_option linter.unusedVariables false
namespace Go.Proofs.Ytpflkcmjoiakfaa.PAll
open Go.RowKit Go.Lib Go.Proofs.Ytpflkcmjoiakfaa.Buf Go.Proofs.Ytpflkcmjoiakfaa.Spec Go.Proofs.YtpflkcmjoiakfaaW.PrintWords

/-- What is decoded of bytes that are told by their numbers. -/
def utf_Decode.f (l0 : List Int) : Option ByteArray := if l0.length ≤ 1000000000 then some ⟨(Spec.decode (strOfNums l0).data.toList).toArray⟩ else none
/-- Range over a string: from a place on, is no sign read as the error, but where it stands. -/
def rightFrom (s : ByteArray) : Nat → Nat → Bool
  | 0, _ => true
  | k + 1, pos => if pos < s.size then (if (Utf8.decode s pos).1 = 65533 ∧ (strings_HasPrefix.f (s.extract pos s.size) ⟨#[239, 191, 189]⟩ = some false) then false else rightFrom s k (pos + (Utf8.decode s pos).2)) else true
def utf_Right.f (a0 : ByteArray) : Option Bool := some (rightFrom a0 (a0.size + 1) 0)
def utf_Sign.f (a0 : Int) : Option ByteArray := some (if a0 < 0 ∨ 1114111 < a0 then ⟨#[239, 191, 189]⟩ else Utf8.encode a0)
def flailref01_Right.f (a0 : ByteArray) : Option Bool := if a0.size ≤ 1000000000 then some (right a0.data.toList) else none

set_option maxHeartbeats 1000000 in
set_option maxRecDepth 100000 in
theorem utf_Sign.calls (a0 : Int) (r : ByteArray) (w : World) (h : utf_Sign.f a0 = some r) :
    Calls Try.prog 15 #[.int .i64 a0] w fun e w' => e = .returned (.string r) ∧ Drawn0 w w' := by
  obtain rfl := Option.some.inj h
  clear h
  by_cases h1 : a0 < 0
  · rw [if_pos (Or.inl h1)]
    have c1 : decide (a0 < 0) = true := decide_eq_true h1
    clear h1
    go_enter Try.func15, Try.ntmps15
    go_wp2
    go_ret
    exact ⟨rfl, Drawn0.refl _⟩
  · by_cases h2 : 1114111 < a0
    · rw [if_pos (Or.inr h2)]
      have c1 : decide (a0 < 0) = false := decide_eq_false h1
      have c2 : decide (1114111 < a0) = true := decide_eq_true h2
      clear h1 h2
      go_enter Try.func15, Try.ntmps15
      go_wp2
      go_ret
      exact ⟨rfl, Drawn0.refl _⟩
    · rw [if_neg (by omega)]
      have c1 : decide (a0 < 0) = false := decide_eq_false h1
      have c2 : decide (1114111 < a0) = false := decide_eq_false h2
      have hw : IntKind.i32.wrap a0 = a0 := IntWalk.i32_in _ (by omega)
      have h3 : 0 ≤ a0 := by omega
      have h4 : a0 ≤ 1114111 := by omega
      clear h1 h2
      go_enter Try.func15, Try.ntmps15
      go_wp2
      go_ret
      exact ⟨rfl, Drawn0.refl _⟩

theorem width_pos (s : ByteArray) (pos : Nat) : 1 ≤ (Utf8.decode s pos).2 := by
  unfold Utf8.decode
  dsimp only
  repeat' split
  all_goals simp

theorem right_end (s : ByteArray) (k pos : Nat) (h : ¬ pos < s.size) : rightFrom s k pos = true := by
  cases k with
  | zero => rfl
  | succ k =>
    simp only [rightFrom]
    rw [if_neg h]

theorem has_total (a b : ByteArray) : ∃ r, strings_HasPrefix.f a b = some r := by
  unfold strings_HasPrefix.f stringslite_HasPrefix.f
  by_cases h : (a.size : Int) ≥ (b.size : Int)
  · rw [if_pos h, if_pos (by omega), if_pos (by omega)]
    exact ⟨_, rfl⟩
  · rw [if_neg h]
    exact ⟨_, rfl⟩

set_option maxHeartbeats 2000000 in
set_option maxRecDepth 100000 in
theorem utf_Right.calls (a0 : ByteArray) (r : Bool) (w : World) (h : utf_Right.f a0 = some r) :
    Calls Try.prog 13 #[.string a0] w fun e w' => e = .returned (.bool r) ∧ Below w.heap.size w w' := by
  have H := Aside0.mk (show rightFrom a0 (a0.size + 1) 0 = r from Option.some.inj h)
  clear h
  go_enter Try.func13, Try.ntmps13
  go_wp2
  go_loopg [] (a0.size + 1) (fun kq w' => ∃ (pos : Nat) (W0 : World), w' = W0.iter a0 pos ∧ Aside0 (rightFrom a0 kq pos = r) ∧ Aside0 (W0.heap.size = w.heap.size) ∧ Aside0 (Below w.heap.size w W0) ∧ Aside0 (a0.size < pos + kq))
  case atStart => exact ⟨0, w, rfl, H, ⟨rfl⟩, ⟨Below.refl _ _⟩, ⟨by omega⟩⟩
  case round =>
    clear H
    obtain ⟨pos, W0, rfl, HR, HZ, HB, HQ⟩ := hrel
    by_cases hp : pos < a0.size
    · cases gk with
      | zero => exact absurd HQ.out (by omega)
      | succ k1 =>
        have HN := HR.out
        clear HR
        simp only [rightFrom] at HN
        have hwd := Aside0.mk (width_pos a0 pos)
        have hnx := fun ty => run_next_any (P := Try.prog) W0 a0 pos ty hp
        rw [HZ.out] at hnx
        rw [if_pos hp] at HN
        generalize hd : Utf8.decode a0 pos = d at HN hnx hwd
        have HD := Aside0.mk hd
        clear hd
        have HHP := Aside0.mk hp
        have hp1 : pos ≤ a0.size := Nat.le_of_lt hp
        clear hp
        by_cases he : d.1 = 65533
        · have he1 : ((d.1 : Int) == 65533) = true := beq_iff_eq.2 (by omega)
          obtain ⟨b, hb⟩ := has_total (a0.extract pos a0.size) ⟨#[239, 191, 189]⟩
          have HHB := Aside0.mk hb
          rw [hb] at HN
          clear hb
          have HE := Aside0.mk he
          clear he
          cases b with
          | false =>
            rw [if_pos ⟨HE.out, rfl⟩] at HN
            subst HN
            go_wp2_with (go_at_call 23; (with_reducible refine (strings_HasPrefix.calls (a0.extract pos a0.size) _ false _ HHB.out).mono ?_); rintro e w' ⟨rfl, ⟨nd, rfl⟩⟩)
            go_ret
            exact ⟨rfl, pw_below_drewN (HB.out.alloc (by have := HZ.out; omega) _) nd⟩
          | true =>
            rw [if_neg (by simp)] at HN
            have HN' := Aside0.mk HN
            clear HN
            go_wp2_with (go_at_call 23; (with_reducible refine (strings_HasPrefix.calls (a0.extract pos a0.size) _ true _ HHB.out).mono ?_); rintro e w' ⟨rfl, ⟨nd, rfl⟩⟩)
            go_roundg k1
            case measure => omega
            case rel => exact ⟨pos + d.2, W0.drewN nd, rfl, HN', ⟨HZ.out⟩, ⟨pw_below_drewN HB.out nd⟩, ⟨by have h1 := hwd.out; have h2 := HQ.out; omega⟩⟩
        · have he1 : ((d.1 : Int) == 65533) = false := beq_eq_false_iff_ne.2 (by omega)
          rw [if_neg (fun hh => he hh.1)] at HN
          have HN' := Aside0.mk HN
          clear HN he
          go_wp2
          go_roundg k1
          case measure => omega
          case rel => exact ⟨pos + d.2, W0, rfl, HN', HZ, HB, ⟨by have h1 := hwd.out; have h2 := HQ.out; omega⟩⟩
    · have hnx := fun ty => run_next_end (P := Try.prog) W0 a0 pos ty hp
      rw [HZ.out] at hnx
      have HN := HR.out
      rw [right_end a0 gk pos hp] at HN
      subst HN
      clear hp HR
      go_wp2
      go_ret
      exact ⟨rfl, HB.out.alloc (by have := HZ.out; omega) _⟩

/-- The bytes of a conversion, read. -/
theorem conv_reads (w : World) (s : ByteArray) (hs : s.size ≤ 1000000000) : Kd.C (Kd.int .u8) (bytesWorld w 5 s) (some ⟨w.heap.size, 0, none⟩) (nums s.data.toList).length (nums s.data.toList) := by
  refine Kd.C_of_reads (h1 := fun _ => rfl) (d := 0) ⟨rfl, by rw [nums_length]; simp; omega, fun _ => ⟨_, rfl, fun j hj => ?_⟩⟩
  rw [nums_length] at hj
  have hj' : j < s.size := by simpa using hj
  have hadd : (⟨w.heap.size, 0, none⟩ : Addr).add j = ⟨w.heap.size, j, none⟩ := by unfold Addr.add; split <;> simp_all
  rw [hadd, bytesWorld_cell w 5 s j hj']
  simp [nums, hj']
theorem conv_below (w : World) (s : ByteArray) : Below w.heap.size w (bytesWorld w 5 s) := by
  refine ⟨?_, ?_, ?_, by rw [bytesWorld_size]; omega, fun k hk => bytesWorld_at_old w _ s k hk⟩
  all_goals
    unfold bytesWorld World.freeze
    rw [if_neg (by decide)]
    rfl

set_option maxHeartbeats 2000000 in
set_option maxRecDepth 100000 in
theorem flailref01_Right.calls (a0 : ByteArray) (r : Bool) (w : World) (h : flailref01_Right.f a0 = some r) :
    Calls Try.prog 14 #[.string a0] w fun e w' => e = .returned (.bool r) ∧ Below w.heap.size w w' := by
  unfold flailref01_Right.f at h
  by_cases hs : a0.size ≤ 1000000000
  · rw [if_pos hs] at h
    have H := Aside0.mk (Option.some.inj h)
    clear h
    have hcv := Lib.run_convert_string_bytes (P := Try.prog) w 9 22 5 a0 Try.underlying9 Try.underlying22 Try.underlying5
    have HC0 := Aside0.mk (conv_reads w a0 hs)
    have HB0 := Aside0.mk (conv_below w a0)
    have hcap := Aside0.mk (grownCap_ge w a0.size 0 5)
    have hz : a0.size = (nums a0.data.toList).length := by rw [nums_length]; simp
    have HSZ := Aside0.mk hs
    have hz2 := Aside0.mk hz.symm
    generalize grownCap w a0.size 0 5 = cap at hcv hcap
    rw [hz] at hcv
    generalize bytesWorld w 5 a0 = W1 at hcv HC0 HB0
    clear hz hs
    go_enter Try.func14, Try.ntmps14
    go_wp2
    clear hcv
    go_loopg [3] (a0.size + 1) (fun kq v3 w' => ∃ (A : Option Addr) (c : Nat) (L : List UInt8), v3 = .slice A (nums L).length c ∧ Aside0 (Kd.C (Kd.int .u8) w' A (nums L).length (nums L)) ∧ Aside0 ((nums L).length ≤ c) ∧ Aside0 (right L = r) ∧ Aside0 (Below w.heap.size w w') ∧ Aside0 (L.length < kq) ∧ Aside0 (L.length ≤ 1000000000))
    case atStart => exact ⟨_, _, a0.data.toList, rfl, HC0, ⟨by rw [hz2.out]; exact hcap.out⟩, H, HB0, ⟨by simp⟩, ⟨by have := HSZ.out; simpa using this⟩⟩
    case round =>
      clear H HC0 HB0 hcap HSZ hz2
      obtain ⟨A, c, L, rfl, HC, HCAP, HR, HB, HK, HLEN⟩ := hrel
      by_cases hL : L = []
      · subst hL
        have c1 : decide (0 < ((nums []).length : Int)) = false := rfl
        have c2 : decide (0 < (nums []).length) = false := rfl
        have hr : r = true := HR.out.symm
        subst hr
        go_wp2
        go_ret
        exact ⟨rfl, HB.out⟩
      · have hpos : 0 < L.length := List.length_pos_iff.2 hL
        have c1 : decide (0 < ((nums L).length : Int)) = true := decide_eq_true (by rw [nums_length]; omega)
        have c2 : decide (0 < (nums L).length) = true := decide_eq_true (by rw [nums_length]; omega)
        have hf := first_le L hL
        have hst := right_step L hL
        have hrf := Aside0.mk (ref_first L hL (by have := HLEN.out; omega))
        cases gk with
        | zero => exact absurd HK.out (by omega)
        | succ k1 =>
          obtain ⟨i0, hi0, _, hsz0, _⟩ := info_parts infoByte
          obtain ⟨A', hcut, hA, hC⟩ := print_drop_of (P := Try.prog) (Value.int .u8) 0 22 5 .i64 Try.underlying22 hi0 hsz0 A c (nums L) (((firstP L).1 : Nat) : Int) (by omega) (by rw [nums_length]; omega) HCAP.out
          simp only [Int.toNat_natCast, nums_drop] at hcut hA hC
          have HHA := Aside0.mk hA
          have HHC := Aside0.mk hC
          clear hA hC hi0 hsz0
          have HF := Aside0.mk hf
          have HST := Aside0.mk hst
          have HLN := Aside0.mk hL
          clear hf hst hL hpos
          generalize hn : (firstP L).1 = n at hcut hrf HF HST HHA HHC
          cases hw : (firstP L).2 with
          | false =>
            have hr : r = false := by
              have h1 := HR.out
              rw [HST.out, hw] at h1
              exact h1.symm
            subst hr
            rw [hw] at hrf
            clear hw hn hcut HST
            go_wp2_with (go_at_call 22; (with_reducible refine (flailref01_first.calls 60 _ _ (nums L) (n : Int) false _ ?side1 ?side2 hrf.out).mono ?_); (case side1 => exact HC.out); (case side2 => exact HCAP.out); rintro e w1 ⟨rfl, hb⟩; have HB1 := Aside0.mk (below_then HB.out HB.out.size hb); clear hb)
            go_ret
            exact ⟨rfl, HB1.out⟩
          | true =>
            rw [hw] at hrf
            have hr2 := Aside0.mk (show right (L.drop n) = r by
              have h1 := HR.out
              rw [HST.out, hw] at h1
              exact h1)
            clear hw hn HST HR
            go_wp2_with (go_at_call 22; (with_reducible refine (flailref01_first.calls 60 _ _ (nums L) (n : Int) true _ ?side1 ?side2 hrf.out).mono ?_); (case side1 => exact HC.out); (case side2 => exact HCAP.out); rintro e w1 ⟨rfl, hb⟩; have HB1 := Aside0.mk (below_then HB.out HB.out.size hb); have HC1 := Aside0.mk (Kd.C_below HC.out hb); clear hb)
            go_roundg k1
            case measure => omega
            case rel => exact ⟨A', c - n, L.drop n, rfl, ⟨Kd.C_of_reads (h1 := fun _ => rfl) (HHA.out _ (Kd.reads_of_C HC1.out))⟩, ⟨HHC.out⟩, hr2, HB1, ⟨by have := HK.out; have := HF.out; rw [List.length_drop]; omega⟩, ⟨by have := HLEN.out; rw [List.length_drop]; omega⟩⟩
  · rw [if_neg hs] at h
    exact absurd h (by simp)

theorem trim_at (s : ByteArray) (hs : s.size ≤ 1000000000) : ∃ S : ByteArray, strings_TrimPrefix.f s ⟨#[239, 187, 191]⟩ = some S ∧ S.data.toList = trim s.data.toList ∧ S.size ≤ s.size := by
  unfold strings_TrimPrefix.f stringslite_TrimPrefix.f stringslite_HasPrefix.f
  have hz : (⟨#[239, 187, 191]⟩ : ByteArray).size = 3 := rfl
  have hsl : s.data.toList.length = s.size := by simp
  simp only [hz]
  by_cases h3 : 3 ≤ s.size
  · rw [if_pos (by omega), if_pos (by omega), if_pos (by omega)]
    simp only [Option.bind_some]
    have hx : (s.extract 0 ((3 : Nat) : Int).toNat).toList = s.data.toList.take 3 := by
      rw [Lib.extract_toList]
      simp
    have hm : (⟨#[239, 187, 191]⟩ : ByteArray).toList = [239, 187, 191] := by
      rw [ByteArray.toList_eq]
    rw [hx, hm]
    unfold trim
    by_cases hc : s.data.toList.take 3 = [239, 187, 191]
    · rw [if_pos (beq_iff_eq.2 hc), if_pos (by omega), if_pos (by omega), if_pos hc]
      refine ⟨_, rfl, ?_, ?_⟩
      · rw [Lib.extract_data]
        exact List.take_of_length_le (by rw [List.length_drop, hsl]; exact Nat.le_refl _)
      · rw [ByteArray.size_extract]
        omega
    · rw [if_neg (by simpa using hc), if_neg hc]
      exact ⟨_, rfl, rfl, Nat.le_refl _⟩
  · rw [if_neg (by omega)]
    refine ⟨s, rfl, ?_, Nat.le_refl _⟩
    unfold trim
    rw [if_neg]
    intro h
    have := congrArg List.length h
    simp at this
    omega

/-- The builder of Decode: in block b, of the type of a Builder, what it holds, its rows new since w. -/
def Holds (w w' : World) (out : List UInt8) : Prop :=
  ∃ cs v, cs.size = 2 ∧ Buf.At w' 37 w.heap.size cs v ∧ w'.ownsRowF 0 5 1 v out.length (byteCells out) ∧ v.ownBlock ≠ some w.heap.size ∧ (∀ k, v.ownBlock = some k → w.heap.size ≤ k) ∧ Below w.heap.size w w'

theorem lies2 : liesAt Try.prog Try.prog.depth 37 (2 / Try.prog.cellsOf 37) 0 37 1 = true := by kernel_rfl
theorem neB : (37 : TypeId) ≠ 5 := by decide

theorem Holds.kept {w w1 w2 : World} {out : List UInt8} (h : Holds w w1 out) (hb : Below w1.heap.size w1 w2) : Holds w w2 out := by
  obtain ⟨cs, v, hz, hat, hown, hne, hnew, hbel⟩ := h
  have hk : Kp (fun _ => False) w1 w2 := Kp.of_below hb _
  refine ⟨cs, v, hz, ⟨(hb.block _ (Buf.lt_of_heap hat.heap)).trans hat.heap, hat.addr, hat.buf, hat.lies⟩, ownsF_kp hown hk (fun _ _ h => h), hne, hnew, below_then hbel hbel.size hb⟩

theorem Holds.write {w w1 : World} {out : List UInt8} (h : Holds w w1 out) (s : ByteArray) (hlen : out.length + s.size ≤ 100000000000) :
    Calls Try.prog 20 #[.pointer (some ⟨w.heap.size, 0, none⟩), .string s] w1 fun e w2 => e = .returned (.tuple #[.int .i64 s.size, .nilIface]) ∧ Holds w w2 (out ++ s.data.toList) := by
  obtain ⟨cs, v, hz, hat, hown, hne, hnew, hbel⟩ := h
  have hl : (byteCells out).length = out.length := by simp [byteCells]
  refine (writeString_at hat (bs := byteCells out) (by rw [hl]; exact hown) hne neB s (by rw [hl]; omega)).mono ?_
  rintro e w2 ⟨rfl, v', hb2, hown2, hnew2, hne2, hk⟩
  rw [hl] at hown2
  refine ⟨rfl, _, v', ?_, ⟨hb2, ?_, ?_, ?_⟩, ?_, hne2, ?_, ?_⟩
  · simp [hz]
  · right
    simp [hz]
  · simp [hz]
  · simp only [Array.size_setIfInBounds, hz]
    exact lies2
  · have e1 : (out ++ s.data.toList).length = out.length + s.size := by simp
    rw [e1, byteCells_append]
    exact hown2
  · intro k hk'
    rcases hnew2 k hk' with h | h
    · exact hnew k h
    · exact Nat.le_trans hbel.size h
  · refine ⟨hk.os.trans hbel.os, hk.tape.trans hbel.tape, hk.output.trans hbel.output, Nat.le_trans hbel.size hk.size, fun k hk' => ?_⟩
    refine (hk.block k (Nat.lt_of_lt_of_le hk' hbel.size) ?_).trans (hbel.block k hk')
    rintro (rfl | h)
    · omega
    · have := hnew k h
      omega

theorem Holds.done {w w1 : World} {out : List UInt8} (h : Holds w w1 out) :
    Calls Try.prog 21 #[.pointer (some ⟨w.heap.size, 0, none⟩)] w1 fun e w2 => e = .returned (.string ⟨out.toArray⟩) ∧ Below w.heap.size w w2 := by
  obtain ⟨cs, v, hz, hat, hown, hne, hnew, hbel⟩ := h
  refine (string_at hat.heap hat.buf hown hne).mono ?_
  rintro e w2 ⟨rfl, hb2, hown2, hk⟩
  refine ⟨rfl, hk.os.trans hbel.os, hk.tape.trans hbel.tape, hk.output.trans hbel.output, Nat.le_trans hbel.size hk.size, fun k hk' => ?_⟩
  refine (hk.block k (Nat.lt_of_lt_of_le hk' hbel.size) ?_).trans (hbel.block k hk')
  intro h
  have := hnew k h
  omega

theorem Holds.fresh (w : World) : Holds w (w.alloc (.cells #[.pointer none, .slice none 0 0] 37 (0, 0))) [] := by
  refine ⟨#[.pointer none, .slice none 0 0], .slice none 0 0, rfl, ⟨by show (w.heap.push _)[w.heap.size]? = _; simp, Or.inl rfl, rfl, lies2⟩, World.ownsRowF_nil _ _ _ _, by simp [Value.ownBlock], by simp [Value.ownBlock], (Below.refl _ _).alloc (Nat.le_refl _) _⟩

set_option maxHeartbeats 4000000 in
set_option maxRecDepth 100000 in
theorem utf_Decode.calls (A0 : Option Addr) (c0 : Nat) (l0 : List Int) (r : ByteArray) (w : World) (hr0 : Kd.C (Kd.int .u8) w A0 l0.length l0) (hc0 : l0.length ≤ c0) (h : utf_Decode.f l0 = some r) :
    Calls Try.prog 11 #[.slice A0 l0.length c0] w fun e w' => e = .returned (.string r) ∧ Below w.heap.size w w' := by
  unfold utf_Decode.f at h
  by_cases hs : l0.length ≤ 1000000000
  · rw [if_pos hs] at h
    have hr := Option.some.inj h
    subst hr
    clear h
    have hz0 : (strOfNums l0).size = l0.length := by simp [strOfNums, ByteArray.size]
    obtain ⟨S0, hT, hS, hSz⟩ := trim_at (strOfNums l0) (by omega)
    have HT := Aside0.mk hT
    have HS := Aside0.mk hS
    have HSZ := Aside0.mk (show S0.size ≤ 1000000000 by omega)
    unfold Spec.decode
    rw [← hS]
    have HH := Aside0.mk (Holds.fresh w)
    have hcv := Kd.C_string (P := Try.prog) (A := A0) (c := c0) Try.underlying22 Try.underlying5 Try.underlying9 (Kd.C_alloc hr0 (.cells #[.pointer none, .slice none 0 0] 37 (0, 0)))
    clear hr0 hc0 hT hS hSz hs hz0
    go_enter Try.func11, Try.ntmps11
    go_wp2_with (go_at_call 18; (with_reducible refine (strings_TrimPrefix.calls (strOfNums l0) _ S0 _ HT.out).mono ?_); rintro e w1 ⟨rfl, ⟨nd, rfl⟩⟩)
    clear hcv
    have HH2 := Aside0.mk (Holds.kept HH.out (pw_below_drewN (Below.refl _ _) nd))
    clear HH HT HS
    go_loopg [4] (S0.size + 1) (fun kq v4 w' => ∃ (S : ByteArray) (out : List UInt8), v4 = .string S ∧ Aside0 (Holds w w' out) ∧ Aside0 (out ++ dec S.data.toList = dec S0.data.toList) ∧ Aside0 (S.size < kq) ∧ Aside0 (out.length + 3 * S.size ≤ 3000000000))
    case atStart => exact ⟨S0, [], rfl, HH2, ⟨rfl⟩, ⟨by omega⟩, ⟨by have := HSZ.out; simp; omega⟩⟩
    case round =>
      clear HH2 HSZ
      obtain ⟨S, out, rfl, HH, HD, HK, HL⟩ := hrel
      have hsl : S.data.toList.length = S.size := by simp
      by_cases hS : S.data.toList = []
      · have c1 : S.toList.isEmpty = true := by rw [ByteArray.toList_eq, hS]; rfl
        have c2 : (S.toList == []) = true := by rw [ByteArray.toList_eq, hS]; rfl
        have c3 : (S.toList != []) = false := by rw [ByteArray.toList_eq, hS]; rfl
        have HE := Aside0.mk (show out = dec S0.data.toList by
          have := HD.out
          rw [hS, dec_nil, List.append_nil] at this
          exact this)
        clear hsl hS HD
        go_wp2_with (go_at_call 21; (with_reducible refine (Holds.done HH.out).mono ?_); rintro e w1 ⟨rfl, hb⟩; have HB1 := Aside0.mk hb; clear hb)
        go_ret
        exact ⟨by rw [HE.out]; rfl, HB1.out⟩
      · have hpos : 0 < S.size := by
          have := List.length_pos_iff.2 hS
          omega
        have hf := first_le _ hS
        rw [hsl] at hf
        have hst := dec_step _ hS
        have hfa := Aside0.mk (first_at S hpos)
        cases gk with
        | zero => exact absurd HK.out (by omega)
        | succ k1 =>
          have c1 : S.toList.isEmpty = false := by
            rw [ByteArray.toList_eq]
            cases hh : S.data.toList with
            | nil => exact absurd hh hS
            | cons _ _ => rfl
          have c2 : (S.toList == []) = false := by rw [ByteArray.toList_eq]; simpa using hS
          have c3 : (S.toList != []) = true := by rw [ByteArray.toList_eq]; simpa using hS
          have hx1 : (S.extract (firstP S.data.toList).1 S.size).data.toList = S.data.toList.drop (firstP S.data.toList).1 := by
            rw [Lib.extract_data]
            exact List.take_of_length_le (by rw [List.length_drop, hsl]; exact Nat.le_refl _)
          have hx2 : (S.extract 0 (firstP S.data.toList).1).data.toList = S.data.toList.take (firstP S.data.toList).1 := by
            rw [Lib.extract_data]
            simp
          rw [← hx1, ← hx2] at hst
          have HX := Aside0.mk (show (S.extract (firstP S.data.toList).1 S.size).size = S.size - (firstP S.data.toList).1 by rw [ByteArray.size_extract]; omega)
          have HY := Aside0.mk (show (S.extract 0 (firstP S.data.toList).1).size = (firstP S.data.toList).1 by rw [ByteArray.size_extract]; omega)
          clear hx1 hx2
          have HF := Aside0.mk hf
          have HST := Aside0.mk hst
          clear hst hS hsl hpos
          generalize hn : (firstP S.data.toList).1 = n at hfa hf HF HST HX HY
          have hn1 : n ≤ S.size := hf.2.1
          have b1 : ((n : Int) ≤ (S.size : Int)) = True := eq_true (by omega)
          have b2 : (0 ≤ (n : Int)) = True := eq_true (by omega)
          clear hf hn
          cases hw : (firstP S.data.toList).2 with
          | true =>
            rw [hw] at hfa HST
            have HN := Aside0.mk (show (out ++ (S.extract 0 n).data.toList) ++ dec (S.extract n S.size).data.toList = dec S0.data.toList by
              have h1 := HD.out
              have h2 := HST.out
              rw [if_pos rfl] at h2
              rw [List.append_assoc, ← h2]
              exact h1)
            clear hw HST HD
            go_wp2_with (first | (go_at_call 19; (with_reducible refine (utf_first.calls 10 S (n : Int) true _ hfa.out).mono ?_); rintro e w1 ⟨rfl, hb⟩; have HH1 := Aside0.mk (Holds.kept HH.out hb); clear hb HH) | (go_at_call 20; (with_reducible refine (Holds.write HH1.out (S.extract 0 n) (by have := HL.out; have := HF.out; rw [HY.out]; omega)).mono ?_); rintro e w2 ⟨rfl, hb⟩; have HH2 := Aside0.mk hb; clear hb HH1))
            go_roundg k1
            case measure => omega
            case rel => exact ⟨S.extract n S.size, _, rfl, HH2, HN, ⟨by have := HK.out; have := HF.out; rw [HX.out]; omega⟩, ⟨by have h1 := HL.out; have h2 := HF.out; have h3 := HX.out; have h4 := HY.out; rw [List.length_append, Array.length_toList]; show out.length + (S.extract 0 n).size + 3 * (S.extract n S.size).size ≤ _; omega⟩⟩
          | false =>
            rw [hw] at hfa HST
            have HN := Aside0.mk (show (out ++ (⟨#[239, 191, 189]⟩ : ByteArray).data.toList) ++ dec (S.extract n S.size).data.toList = dec S0.data.toList by
              have h1 := HD.out
              have h2 := HST.out
              rw [if_neg (by decide)] at h2
              rw [List.append_assoc]
              show out ++ (bad ++ dec (S.extract n S.size).data.toList) = _
              rw [← h2]
              exact h1)
            have HBD := Aside0.mk (show out.length + (⟨#[239, 191, 189]⟩ : ByteArray).size ≤ 100000000000 from by have h1 := HL.out; show out.length + 3 ≤ 100000000000; omega)
            clear hw HST HD
            go_wp2_with (first | (go_at_call 19; (with_reducible refine (utf_first.calls 10 S (n : Int) false _ hfa.out).mono ?_); rintro e w1 ⟨rfl, hb⟩; have HH1 := Aside0.mk (Holds.kept HH.out hb); clear hb HH) | (go_at_call 20; (with_reducible refine (Holds.write HH1.out ⟨#[239, 191, 189]⟩ HBD.out).mono ?_); rintro e w2 ⟨rfl, hb⟩; have HH2 := Aside0.mk hb; clear hb HH1))
            go_roundg k1
            case measure => omega
            case rel => exact ⟨S.extract n S.size, _, rfl, HH2, HN, ⟨by have := HK.out; have := HF.out; rw [HX.out]; omega⟩, ⟨by have h1 := HL.out; have h2 := HF.out; have h3 := HX.out; rw [List.length_append]; show out.length + 3 + 3 * (S.extract n S.size).size ≤ _; omega⟩⟩
  · rw [if_neg hs] at h
    exact absurd h (by simp)
end Go.Proofs.Ytpflkcmjoiakfaa.PAll
