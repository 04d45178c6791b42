/- Each sign is read back, whatever stands beside it: of every two numbers the law's call returns true: the walk of the law's function over the contracts of what it calls. No condition. -/
import Derived.Test.YtpflkcmjoiakfaaPureLib3
set_option linter.unusedVariables false
namespace Go.Proofs.Ytpflkcmjoiakfaa.HandUtfBack
open Go.RowKit Go.Lib Go.Proofs.Ytpflkcmjoiakfaa.PAll Go.Proofs.Ytpflkcmjoiakfaa.Spec Go.Proofs.YtpflkcmjoiakfaaW.PrintWords

theorem cA (w : World) : Calls Try.prog 10 #[] w fun e w' => e = .returned (.bool true) ∧ Below w.heap.size w w' := flaillaw01_awake.calls true w awake_at
theorem cS (n : Int) (w : World) : Calls Try.prog 15 #[.int .i64 n] w fun e w' => e = .returned (.string ⟨(signL n).toArray⟩) ∧ Drawn0 w w' := utf_Sign.calls n _ w (sign_at n)
theorem cR (s : ByteArray) {b : Bool} (h : Aside0 (right s.data.toList = b)) (w : World) : Calls Try.prog 13 #[.string s] w fun e w' => e = .returned (.bool b) ∧ Below w.heap.size w w' := utf_Right.calls s b w (by rw [right_at, h.out])

/-- Decode of a string's bytes, just converted. -/
theorem cD (S : ByteArray) (hS : Aside0 (S.size ≤ 1000)) {R : ByteArray} (hR : Aside0 (R = ⟨(Spec.decode S.data.toList).toArray⟩)) (W : World) : Calls Try.prog 11 #[.slice (some ⟨W.heap.size, 0, none⟩) S.size (grownCap W S.size 0 5)] (bytesWorld W 5 S) fun e w' => e = .returned (.string R) ∧ Below W.heap.size W w' := by
  have hz : S.size = (PAll.nums S.data.toList).length := by rw [PAll.nums_length]; simp
  have hc := grownCap_ge W S.size 0 5
  have hb := conv_below W S
  have hsz := bytesWorld_size W 5 S
  have hr := conv_reads W S (by have := hS.out; omega)
  generalize grownCap W S.size 0 5 = c at *
  rw [hz] at hc ⊢
  rw [hR.out]
  refine (utf_Decode.calls _ c (PAll.nums S.data.toList) _ _ hr hc (dec_of_nums _ (by rw [← PAll.nums_length, ← hz]; exact hS.out))).mono ?_
  rintro e w' ⟨rfl, h⟩
  exact ⟨rfl, below_then hb hb.size h⟩

theorem cD' (S : ByteArray) (hS : Aside0 (S.size ≤ 1000)) {R : ByteArray} (hR : Aside0 (R = ⟨(Spec.decode S.data.toList).toArray⟩)) (W : World) {b n c : Nat} (h1 : b = W.heap.size) (h2 : n = S.size) (h3 : c = grownCap W n 0 5) : Calls Try.prog 11 #[.slice (some ⟨b, 0, none⟩) n c] (bytesWorld W 5 S) fun e w' => e = .returned (.string R) ∧ Below W.heap.size W w' := by
  subst h1 h2 h3
  exact cD S hS hR W

theorem ba_cat (l r : List UInt8) : (⟨l.toArray⟩ : ByteArray) ++ (⟨r.toArray⟩ : ByteArray) = ⟨(l ++ r).toArray⟩ := by
  apply ba_ext
  simp [ByteArray.data_append]

set_option maxHeartbeats 2000000 in
set_option maxRecDepth 100000 in
theorem back_mark (n : Int) (w : World) : Calls Try.prog 6 #[.int .i64 65279, .int .i64 n] w fun e w' => e = .returned (.bool true) ∧ Below w.heap.size w w' := by
  have HB := Aside0.mk (Below.refl w.heap.size w)
  have hA := cS 65279
  have hN := cS n
  have l1 := sign_len 65279
  have l2 := sign_len n
  have hdec : Spec.decode (signL 65279 ++ signL n) = signL n := by
    unfold Spec.decode trim
    rw [sign_is_mark, if_pos (by simp)]
    exact dec_right (right_sign n)
  have HR := Aside0.mk (show (⟨(signL n).toArray⟩ : ByteArray) = ⟨(Spec.decode ((⟨(signL 65279).toArray⟩ : ByteArray) ++ (⟨(signL n).toArray⟩ : ByteArray)).data.toList).toArray⟩ by rw [ba_cat]; show _ = (⟨(Spec.decode (signL 65279 ++ signL n)).toArray⟩ : ByteArray); rw [hdec])
  have z1 : (⟨(signL 65279).toArray⟩ : ByteArray).size ≤ 4 := by rw [ba_size]; exact l1.2
  have z2 : (⟨(signL n).toArray⟩ : ByteArray).size ≤ 4 := by rw [ba_size]; exact l2.2
  clear l1 l2 hdec
  generalize (⟨(signL n).toArray⟩ : ByteArray) = SB at *
  generalize (⟨(signL 65279).toArray⟩ : ByteArray) = SA at *
  have HA := Aside0.mk hA
  have HN := Aside0.mk hN
  have c1 : (SA.size + SB.size ≤ 9223372036854775807) = True := eq_true (by omega)
  have c2 : decide (SA.size + SB.size ≤ 9223372036854775807) = true := decide_eq_true (by omega)
  have c3 : (9223372036854775807 < SA.size + SB.size) = False := eq_false (by omega)
  have HZ := Aside0.mk (show (SA ++ SB).size ≤ 1000 by rw [ByteArray.size_append]; omega)
  have c4 : (SB.toList == SB.toList) = true := beq_self_eq_true _
  have hcv := fun W : World => Lib.run_convert_string_bytes (P := Try.prog) W 9 22 5 (SA ++ SB) Try.underlying9 Try.underlying22 Try.underlying5
  clear hA hN z1 z2
  go_enter Try.func6, Try.ntmps6
  go_wp2_with fail
  refine (cA _).mono ?_
  rintro e w1 ⟨rfl, hb⟩
  have HB1 := Aside0.mk (below_step HB.out hb)
  clear hb
  go_wp2_with fail
  refine (HA.out _).mono ?_
  rintro e w' ⟨rfl, ⟨nd, rfl⟩⟩
  have HB2 := Aside0.mk (pw_below_drewN HB1.out nd)
  go_wp2_with fail
  refine (HN.out _).mono ?_
  rintro e w' ⟨rfl, ⟨nd2, rfl⟩⟩
  have HB3 := Aside0.mk (pw_below_drewN HB1.out (nd + nd2))
  go_wp2_with fail
  refine (cD' (SA ++ SB) HZ HR (w1.drewN (nd + nd2)) rfl (ByteArray.size_append).symm rfl).mono ?_
  rintro e w2 ⟨rfl, hb⟩
  have HB4 := Aside0.mk (below_step HB3.out hb)
  clear hb hcv
  go_wp2
  go_ret
  exact ⟨rfl, HB4.out⟩

set_option maxHeartbeats 2000000 in
set_option maxRecDepth 100000 in
theorem back_other (m n : Int) (hm : m ≠ 65279) (w : World) : Calls Try.prog 6 #[.int .i64 m, .int .i64 n] w fun e w' => e = .returned (.bool true) ∧ Below w.heap.size w w' := by
  have HB := Aside0.mk (Below.refl w.heap.size w)
  have hA := cS m
  have hN := cS n
  have l1 := sign_len m
  have l2 := sign_len n
  have hright : right (signL m ++ signL n) = true := by
    rw [right_app _ _ _ (Nat.le_refl _) (right_sign m)]
    exact right_sign n
  have hdec : Spec.decode (signL m ++ signL n) = signL m ++ signL n := by
    unfold Spec.decode
    rw [trim_app (signL n) (sign_ne m) (by rw [first_sign]) (sign_mark m hm)]
    exact dec_right hright
  have HR := Aside0.mk (show (⟨(signL m).toArray⟩ : ByteArray) ++ (⟨(signL n).toArray⟩ : ByteArray) = ⟨(Spec.decode ((⟨(signL m).toArray⟩ : ByteArray) ++ (⟨(signL n).toArray⟩ : ByteArray)).data.toList).toArray⟩ by rw [ba_cat]; show _ = (⟨(Spec.decode (signL m ++ signL n)).toArray⟩ : ByteArray); rw [hdec])
  have HRI := Aside0.mk (show right ((⟨(signL m).toArray⟩ : ByteArray) ++ (⟨(signL n).toArray⟩ : ByteArray)).data.toList = true by rw [ba_cat]; exact hright)
  have z1 : (⟨(signL m).toArray⟩ : ByteArray).size ≤ 4 := by rw [ba_size]; exact l1.2
  have z0 : 1 ≤ (⟨(signL m).toArray⟩ : ByteArray).size := by rw [ba_size]; exact l1.1
  have z2 : (⟨(signL n).toArray⟩ : ByteArray).size ≤ 4 := by rw [ba_size]; exact l2.2
  clear l1 l2 hdec hright
  generalize (⟨(signL n).toArray⟩ : ByteArray) = SB at *
  generalize (⟨(signL m).toArray⟩ : ByteArray) = SA at *
  have HA := Aside0.mk hA
  have HN := Aside0.mk hN
  have c0 : (m == 65279) = false := beq_eq_false_iff_ne.2 hm
  have c1 : (SA.size + SB.size ≤ 9223372036854775807) = True := eq_true (by omega)
  have c2 : decide (SA.size + SB.size ≤ 9223372036854775807) = true := decide_eq_true (by omega)
  have c3 : (9223372036854775807 < SA.size + SB.size) = False := eq_false (by omega)
  have HZ := Aside0.mk (show (SA ++ SB).size ≤ 1000 by rw [ByteArray.size_append]; omega)
  have c4 : ((SA ++ SB).toList == (SA ++ SB).toList) = true := beq_self_eq_true _
  have d1 : decide ((1 : Int) ≤ (SA.size : Int)) = true := decide_eq_true (by omega)
  have d2 : decide (1 ≤ SA.size) = true := decide_eq_true (by omega)
  have d3 : decide ((SA.size : Int) ≤ 4) = true := decide_eq_true (by omega)
  have d4 : decide (SA.size ≤ 4) = true := decide_eq_true (by omega)
  have hcv := fun W : World => Lib.run_convert_string_bytes (P := Try.prog) W 9 22 5 (SA ++ SB) Try.underlying9 Try.underlying22 Try.underlying5
  clear hA hN z0 z1 z2 hm
  go_enter Try.func6, Try.ntmps6
  go_wp2_with fail
  refine (cA _).mono ?_
  rintro e w1 ⟨rfl, hb⟩
  have HB1 := Aside0.mk (below_step HB.out hb)
  clear hb
  go_wp2_with fail
  refine (HA.out _).mono ?_
  rintro e w' ⟨rfl, ⟨nd, rfl⟩⟩
  have HB2 := Aside0.mk (pw_below_drewN HB1.out nd)
  go_wp2_with fail
  refine (HN.out _).mono ?_
  rintro e w' ⟨rfl, ⟨nd2, rfl⟩⟩
  have HB3 := Aside0.mk (pw_below_drewN HB1.out (nd + nd2))
  go_wp2_with fail
  refine (cD' (SA ++ SB) HZ HR (w1.drewN (nd + nd2)) rfl (ByteArray.size_append).symm rfl).mono ?_
  rintro e w2 ⟨rfl, hb⟩
  have HB4 := Aside0.mk (below_step HB3.out hb)
  clear hb hcv
  go_wp2_with fail
  refine (cR (SA ++ SB) HRI _).mono ?_
  rintro e w3 ⟨rfl, hb⟩
  have HB5 := Aside0.mk (below_step HB4.out hb)
  clear hb
  go_wp2
  go_ret
  exact ⟨rfl, HB5.out⟩

theorem back_any (m n : Int) (w : World) : Calls Try.prog 6 #[.int .i64 m, .int .i64 n] w fun e w' => e = .returned (.bool true) ∧ Below w.heap.size w w' := by
  by_cases h : m = 65279
  · subst h
    exact back_mark n w
  · exact back_other m n h w
end Go.Proofs.Ytpflkcmjoiakfaa.HandUtfBack
