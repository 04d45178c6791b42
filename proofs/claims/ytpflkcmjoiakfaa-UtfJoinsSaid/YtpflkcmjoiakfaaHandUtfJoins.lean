/- Just signs behind just signs are just signs; with a byte that can't be one between, one api.Bad stands there: of every two texts and a byte the law's call returns true: the walk of the law's function over the contracts of what it calls. No condition. -/
import Derived.Test.YtpflkcmjoiakfaaApp
import Derived.Test.YtpflkcmjoiakfaaPAllx12
set_option linter.unusedVariables false
namespace Go.Proofs.Ytpflkcmjoiakfaa.HandUtfJoins
open Go.RowKit Go.Lib Go.Proofs.Ytpflkcmjoiakfaa.PAll Go.Proofs.Ytpflkcmjoiakfaa.Spec Go.Proofs.YtpflkcmjoiakfaaW.PrintWords Go.Proofs.Ytpflkcmjoiakfaa.HandUtfBack

theorem begins_any (s : ByteArray) : flailref01_Begins.f s ⟨#[239, 187, 191]⟩ = some (decide (s.data.toList.take 3 = [239, 187, 191])) := by
  unfold flailref01_Begins.f
  have hz : (⟨#[239, 187, 191]⟩ : ByteArray).size = 3 := rfl
  have hsl : s.data.toList.length = s.size := by simp
  rw [hz]
  by_cases h : s.size < 3
  · rw [if_pos (by omega), decide_eq_false]
    intro e
    have := congrArg List.length e
    simp at this
    omega
  · rw [if_neg (by omega), if_pos (by omega), if_pos (by omega), Lib.extract_toList, ByteArray.toList_eq]
    congr 1
    rw [Bool.eq_iff_iff, beq_iff_eq, decide_eq_true_iff]
    simp
theorem cM (s : ByteArray) {b : Bool} (h : Aside0 (decide (s.data.toList.take 3 = [239, 187, 191]) = b)) (w : World) : Calls Try.prog 17 #[.string s, .string ⟨#[239, 187, 191]⟩] w fun e w' => e = .returned (.bool b) ∧ Drawn0 w w' := flailref01_Begins.calls s _ b w (by rw [begins_any, h.out])

set_option maxHeartbeats 4000000 in
set_option maxRecDepth 100000 in
theorem off1 (a b : ByteArray) (c : Int) (w : World) (m : Bool) (hm : Aside0 (decide (a.data.toList.take 3 = [239, 187, 191]) = m)) (h1 : Aside0 (300 < a.size)) :
    Calls Try.prog 9 #[.string a, .string b, .int .u8 c] w fun e w' => e = .returned (.bool true) ∧ Below w.heap.size w w' := by
  have HB := Aside0.mk (Below.refl w.heap.size w)
  have q1a : decide (300 < (a.size : Int)) = true := decide_eq_true (by have := h1.out; omega)
  have q1b : decide (300 < a.size) = true := decide_eq_true h1.out
  go_enter Try.func9, Try.ntmps9
  go_wp2_with fail
  refine (cA _).mono ?_
  rintro e w1 ⟨rfl, hb⟩
  have HB1 := Aside0.mk (below_step HB.out hb)
  clear hb
  go_wp2_with fail
  refine (cM a hm _).mono ?_
  rintro e w' ⟨rfl, ⟨nd, rfl⟩⟩
  have HB2 := Aside0.mk (pw_below_drewN HB1.out nd)
  go_wp2
  go_ret
  exact ⟨rfl, HB2.out⟩

set_option maxHeartbeats 4000000 in
set_option maxRecDepth 100000 in
theorem off2 (a b : ByteArray) (c : Int) (w : World) (m : Bool) (hm : Aside0 (decide (a.data.toList.take 3 = [239, 187, 191]) = m)) (h1 : Aside0 (¬ 300 < a.size)) (h2 : Aside0 (300 < b.size)) :
    Calls Try.prog 9 #[.string a, .string b, .int .u8 c] w fun e w' => e = .returned (.bool true) ∧ Below w.heap.size w w' := by
  have HB := Aside0.mk (Below.refl w.heap.size w)
  have q1a : decide (300 < (a.size : Int)) = false := decide_eq_false (by have := h1.out; omega)
  have q1b : decide (300 < a.size) = false := decide_eq_false h1.out
  have q2a : decide (300 < (b.size : Int)) = true := decide_eq_true (by have := h2.out; omega)
  have q2b : decide (300 < b.size) = true := decide_eq_true h2.out
  go_enter Try.func9, Try.ntmps9
  go_wp2_with fail
  refine (cA _).mono ?_
  rintro e w1 ⟨rfl, hb⟩
  have HB1 := Aside0.mk (below_step HB.out hb)
  clear hb
  go_wp2_with fail
  refine (cM a hm _).mono ?_
  rintro e w' ⟨rfl, ⟨nd, rfl⟩⟩
  have HB2 := Aside0.mk (pw_below_drewN HB1.out nd)
  go_wp2
  go_ret
  exact ⟨rfl, HB2.out⟩

set_option maxHeartbeats 4000000 in
set_option maxRecDepth 100000 in
theorem off3 (a b : ByteArray) (c : Int) (w : World) (m : Bool) (hm : Aside0 (decide (a.data.toList.take 3 = [239, 187, 191]) = m)) (h1 : Aside0 (¬ 300 < a.size)) (h2 : Aside0 (¬ 300 < b.size)) (h3 : Aside0 (a.data.toList = [])) :
    Calls Try.prog 9 #[.string a, .string b, .int .u8 c] w fun e w' => e = .returned (.bool true) ∧ Below w.heap.size w w' := by
  have HB := Aside0.mk (Below.refl w.heap.size w)
  have q1a : decide (300 < (a.size : Int)) = false := decide_eq_false (by have := h1.out; omega)
  have q1b : decide (300 < a.size) = false := decide_eq_false h1.out
  have q2a : decide (300 < (b.size : Int)) = false := decide_eq_false (by have := h2.out; omega)
  have q2b : decide (300 < b.size) = false := decide_eq_false h2.out
  have q3a : (a.toList == []) = true := by rw [ByteArray.toList_eq, h3.out]; rfl
  have q3b : a.toList.isEmpty = true := by rw [ByteArray.toList_eq, h3.out]; rfl
  go_enter Try.func9, Try.ntmps9
  go_wp2_with fail
  refine (cA _).mono ?_
  rintro e w1 ⟨rfl, hb⟩
  have HB1 := Aside0.mk (below_step HB.out hb)
  clear hb
  go_wp2_with fail
  refine (cM a hm _).mono ?_
  rintro e w' ⟨rfl, ⟨nd, rfl⟩⟩
  have HB2 := Aside0.mk (pw_below_drewN HB1.out nd)
  go_wp2
  go_ret
  exact ⟨rfl, HB2.out⟩

set_option maxHeartbeats 4000000 in
set_option maxRecDepth 100000 in
theorem off4 (a b : ByteArray) (c : Int) (w : World) (m : Bool) (hm : Aside0 (decide (a.data.toList.take 3 = [239, 187, 191]) = m)) (h1 : Aside0 (¬ 300 < a.size)) (h2 : Aside0 (¬ 300 < b.size)) (h3 : Aside0 (a.data.toList ≠ [])) (h4 : Aside0 (m = true)) :
    Calls Try.prog 9 #[.string a, .string b, .int .u8 c] w fun e w' => e = .returned (.bool true) ∧ Below w.heap.size w w' := by
  have HB := Aside0.mk (Below.refl w.heap.size w)
  have q1a : decide (300 < (a.size : Int)) = false := decide_eq_false (by have := h1.out; omega)
  have q1b : decide (300 < a.size) = false := decide_eq_false h1.out
  have q2a : decide (300 < (b.size : Int)) = false := decide_eq_false (by have := h2.out; omega)
  have q2b : decide (300 < b.size) = false := decide_eq_false h2.out
  have q3a : (a.toList == []) = false := by rw [ByteArray.toList_eq]; exact beq_eq_false_iff_ne.2 h3.out
  have q3b : a.toList.isEmpty = false := by rw [ByteArray.toList_eq]; have := h3.out; cases hh : a.data.toList <;> simp_all
  obtain rfl := h4.out
  go_enter Try.func9, Try.ntmps9
  go_wp2_with fail
  refine (cA _).mono ?_
  rintro e w1 ⟨rfl, hb⟩
  have HB1 := Aside0.mk (below_step HB.out hb)
  clear hb
  go_wp2_with fail
  refine (cM a hm _).mono ?_
  rintro e w' ⟨rfl, ⟨nd, rfl⟩⟩
  have HB2 := Aside0.mk (pw_below_drewN HB1.out nd)
  go_wp2
  go_ret
  exact ⟨rfl, HB2.out⟩

set_option maxHeartbeats 4000000 in
set_option maxRecDepth 100000 in
theorem off5 (a b : ByteArray) (c : Int) (w : World) (m : Bool) (hm : Aside0 (decide (a.data.toList.take 3 = [239, 187, 191]) = m)) (h1 : Aside0 (¬ 300 < a.size)) (h2 : Aside0 (¬ 300 < b.size)) (h3 : Aside0 (a.data.toList ≠ [])) (h4 : Aside0 (m = false)) (h5 : Aside0 (right a.data.toList = false)) :
    Calls Try.prog 9 #[.string a, .string b, .int .u8 c] w fun e w' => e = .returned (.bool true) ∧ Below w.heap.size w w' := by
  have HB := Aside0.mk (Below.refl w.heap.size w)
  have q1a : decide (300 < (a.size : Int)) = false := decide_eq_false (by have := h1.out; omega)
  have q1b : decide (300 < a.size) = false := decide_eq_false h1.out
  have q2a : decide (300 < (b.size : Int)) = false := decide_eq_false (by have := h2.out; omega)
  have q2b : decide (300 < b.size) = false := decide_eq_false h2.out
  have q3a : (a.toList == []) = false := by rw [ByteArray.toList_eq]; exact beq_eq_false_iff_ne.2 h3.out
  have q3b : a.toList.isEmpty = false := by rw [ByteArray.toList_eq]; have := h3.out; cases hh : a.data.toList <;> simp_all
  obtain rfl := h4.out
  go_enter Try.func9, Try.ntmps9
  go_wp2_with fail
  refine (cA _).mono ?_
  rintro e w1 ⟨rfl, hb⟩
  have HB1 := Aside0.mk (below_step HB.out hb)
  clear hb
  go_wp2_with fail
  refine (cM a hm _).mono ?_
  rintro e w' ⟨rfl, ⟨nd, rfl⟩⟩
  have HB2 := Aside0.mk (pw_below_drewN HB1.out nd)
  go_wp2_with fail
  refine (cR a h5 _).mono ?_
  rintro e w3 ⟨rfl, hb⟩
  have HB3 := Aside0.mk (below_step HB2.out hb)
  clear hb
  go_wp2
  go_ret
  exact ⟨rfl, HB3.out⟩

set_option maxHeartbeats 4000000 in
set_option maxRecDepth 100000 in
theorem off6 (a b : ByteArray) (c : Int) (w : World) (m : Bool) (hm : Aside0 (decide (a.data.toList.take 3 = [239, 187, 191]) = m)) (h1 : Aside0 (¬ 300 < a.size)) (h2 : Aside0 (¬ 300 < b.size)) (h3 : Aside0 (a.data.toList ≠ [])) (h4 : Aside0 (m = false)) (h5 : Aside0 (right a.data.toList = true)) (h6 : Aside0 (right b.data.toList = false)) :
    Calls Try.prog 9 #[.string a, .string b, .int .u8 c] w fun e w' => e = .returned (.bool true) ∧ Below w.heap.size w w' := by
  have HB := Aside0.mk (Below.refl w.heap.size w)
  have q1a : decide (300 < (a.size : Int)) = false := decide_eq_false (by have := h1.out; omega)
  have q1b : decide (300 < a.size) = false := decide_eq_false h1.out
  have q2a : decide (300 < (b.size : Int)) = false := decide_eq_false (by have := h2.out; omega)
  have q2b : decide (300 < b.size) = false := decide_eq_false h2.out
  have q3a : (a.toList == []) = false := by rw [ByteArray.toList_eq]; exact beq_eq_false_iff_ne.2 h3.out
  have q3b : a.toList.isEmpty = false := by rw [ByteArray.toList_eq]; have := h3.out; cases hh : a.data.toList <;> simp_all
  obtain rfl := h4.out
  go_enter Try.func9, Try.ntmps9
  go_wp2_with fail
  refine (cA _).mono ?_
  rintro e w1 ⟨rfl, hb⟩
  have HB1 := Aside0.mk (below_step HB.out hb)
  clear hb
  go_wp2_with fail
  refine (cM a hm _).mono ?_
  rintro e w' ⟨rfl, ⟨nd, rfl⟩⟩
  have HB2 := Aside0.mk (pw_below_drewN HB1.out nd)
  go_wp2_with fail
  refine (cR a h5 _).mono ?_
  rintro e w3 ⟨rfl, hb⟩
  have HB3 := Aside0.mk (below_step HB2.out hb)
  clear hb
  go_wp2_with fail
  refine (cR b h6 _).mono ?_
  rintro e w4 ⟨rfl, hb⟩
  have HB4 := Aside0.mk (below_step HB3.out hb)
  clear hb
  go_wp2
  go_ret
  exact ⟨rfl, HB4.out⟩

def noneL : List Int := [192, 193, 245, 246, 247, 248, 249, 250, 251, 252, 253, 254, 255]
def noneV (j : Nat) : Int := noneL.getD j 0

theorem cellN (W : World) (a : ByteArray) (j : Nat) (hj : j < 13) : (bytesWorld (W.alloc (Obj.cells #[.int .u8 192, .int .u8 193, .int .u8 245, .int .u8 246, .int .u8 247, .int .u8 248, .int .u8 249, .int .u8 250, .int .u8 251, .int .u8 252, .int .u8 253, .int .u8 254, .int .u8 255] 5)) 5 a).cell? ⟨W.heap.size, j, none⟩ = some (.int .u8 (noneV j)) := by
  rw [bytesWorld_old _ _ _ _ (by simp)]
  have e : j = 0 ∨ j = 1 ∨ j = 2 ∨ j = 3 ∨ j = 4 ∨ j = 5 ∨ j = 6 ∨ j = 7 ∨ j = 8 ∨ j = 9 ∨ j = 10 ∨ j = 11 ∨ j = 12 := by omega
  rw [Lib.cell_of_heap (heap_alloc_new W _)]
  rcases e with rfl | rfl | rfl | rfl | rfl | rfl | rfl | rfl | rfl | rfl | rfl | rfl | rfl <;> rfl

def litW (W : World) : World := W.alloc (Obj.cells #[.int .u8 192, .int .u8 193, .int .u8 245, .int .u8 246, .int .u8 247, .int .u8 248, .int .u8 249, .int .u8 250, .int .u8 251, .int .u8 252, .int .u8 253, .int .u8 254, .int .u8 255] 5)
theorem litW_size (W : World) : (litW W).heap.size = W.heap.size + 1 := by simp [litW]
theorem rowN' (V : World) (a : ByteArray) (o : Obj) (ha : a.size ≤ 300) (B : Nat) (hB : B ≤ V.heap.size) : App.Row ((bytesWorld V 5 a).alloc o) B 5 (.slice (some ⟨V.heap.size, 0, none⟩) a.size (grownCap V a.size 0 5)) a.size (strCells a) := by
  have hge := grownCap_ge V a.size 0 5
  have hle := grownCap_le_maxLen V a.size 0 5 (by unfold maxLen; omega)
  have hsz : (bytesCells V 5 a).size = grownCap V a.size 0 5 := by
    unfold bytesCells
    simp only [Array.size_append, Array.size_map, Array.size_replicate]
    have : a.data.size = a.size := rfl
    omega
  refine ⟨by rw [strCells_length], V.heap.size, _, _, _, rfl, hB, (Lib.alloc_old _ o _ (by rw [bytesWorld_size]; omega)).trans (bytesWorld_at_new V 5 a), Or.inr ?_, hge, hle, by rw [hsz]; exact Nat.le_refl _, ?_⟩
  · rw [hsz]
    exact Nat.le_refl _
  · unfold bytesCells
    rw [Array.toList_append]
    have e : (Array.map (fun b => Value.int IntKind.u8 b.toNat) a.data).toList = strCells a := by
      simp [strCells]
    rw [e]
    have : a.size = (strCells a).length := (strCells_length a).symm
    rw [this]
    exact List.take_left
theorem rowN (W : World) (a : ByteArray) (x : Int) (ha : a.size ≤ 300) : App.Row ((bytesWorld (litW W) 5 a).alloc (.cells #[.int .u8 x] 5)) W.heap.size 5 (.slice (some ⟨W.heap.size + 1, 0, none⟩) a.size (grownCap (litW W) a.size 0 5)) a.size (strCells a) := by
  have h := rowN' (litW W) a (.cells #[.int .u8 x] 5) ha W.heap.size (by rw [litW_size]; omega)
  rw [litW_size] at h
  exact h
theorem newsN (W : World) (a : ByteArray) (x : Int) : ∀ j u, ([.int .u8 x] : List Value)[j]? = some u → ((bytesWorld (litW W) 5 a).alloc (.cells #[.int .u8 x] 5)).cell? ((⟨(bytesWorld (litW W) 5 a).heap.size, 0, none⟩ : Addr).add j) = some u := by
  intro j u hu
  have hj : j = 0 := by
    rcases j with _ | j
    · rfl
    · simp at hu
  subst hj
  have hadd : (⟨(bytesWorld (litW W) 5 a).heap.size, 0, none⟩ : Addr).add 0 = ⟨(bytesWorld (litW W) 5 a).heap.size, 0, none⟩ := by unfold Addr.add; split <;> simp_all
  rw [hadd, Lib.cell_of_heap (heap_alloc_new _ _)]
  simpa using hu
theorem oneN (x : Int) : ∀ u ∈ ([.int .u8 x] : List Value), u.oneCell' = true := by
  intro u hu
  simp only [List.mem_singleton] at hu
  subst hu
  rfl
theorem baseN (W : World) (a : ByteArray) (x : Int) : W.heap.size ≤ ((bytesWorld (litW W) 5 a).alloc (.cells #[.int .u8 x] 5)).heap.size := by
  have hs : (bytesWorld (litW W) 5 a).heap.size = W.heap.size + 1 + 1 := by rw [bytesWorld_size, litW_size]
  simp [hs]
  omega

theorem row_slice {w : World} {base : Nat} {e : TypeId} {v : Value} {n : Nat} {xs : List Value} (h : App.Row w base e v n xs) : ∃ g cap, v = .slice (some ⟨g, 0, none⟩) n cap ∧ n ≤ cap := by
  obtain ⟨_, g, cap, cur, fz, rfl, _, _, _, h4, _⟩ := h
  exact ⟨g, cap, rfl, h4⟩
theorem strCells_at (S : ByteArray) : strCells S = (PAll.nums S.data.toList).map (fun x => Value.int .u8 x) := by
  unfold strCells PAll.nums
  rw [List.map_map]
  rfl
theorem row_reads {W : World} {base g n cap : Nat} {S : ByteArray} (h : App.Row W base 5 (.slice (some ⟨g, 0, none⟩) n cap) n (strCells S)) : Kd.C (Kd.int .u8) W (some ⟨g, 0, none⟩) (PAll.nums S.data.toList).length (PAll.nums S.data.toList) := by
  have hl := h.1
  obtain ⟨_, g', cap', _, _, e1, _, _, _, hnc, hcm, _⟩ := id h
  simp only [Value.slice.injEq] at e1
  obtain ⟨_, _, rfl⟩ := e1
  have hln : (PAll.nums S.data.toList).length = n := by rw [← hl, strCells_at, List.length_map]
  refine Kd.C_of_reads (h1 := fun _ => rfl) (d := 0) ⟨rfl, by unfold maxLen at hcm; omega, fun _ => ⟨_, rfl, fun j hj => ?_⟩⟩
  refine App.Row.cells h j _ ?_
  rw [strCells_at, List.getElem?_map, List.getElem?_eq_getElem hj]
  simp [List.getD_eq_getElem?_getD, hj]
theorem nums_size (S : ByteArray) : (PAll.nums S.data.toList).length = S.size := by rw [PAll.nums_length]; simp
theorem cX (S : ByteArray) (hS : Aside0 (S.size ≤ 1000)) {R : ByteArray} (hR : Aside0 (R = ⟨(Spec.decode S.data.toList).toArray⟩)) {W : World} {base g n cap : Nat} (hn : n = S.size) (h : App.Row W base 5 (.slice (some ⟨g, 0, none⟩) n cap) n (strCells S)) (hc : n ≤ cap) :
    Calls Try.prog 11 #[.slice (some ⟨g, 0, none⟩) n cap] W fun e w' => e = .returned (.string R) ∧ Below W.heap.size W w' := by
  have hr := row_reads h
  subst hn
  have hz := nums_size S
  rw [hR.out]
  rw [← hz] at hc ⊢
  exact utf_Decode.calls _ cap (PAll.nums S.data.toList) _ _ hr hc (dec_of_nums _ (by rw [← PAll.nums_length, hz]; exact hS.out))
theorem convX (S : ByteArray) {W : World} {base g n cap : Nat} (hn : n = S.size) (h : App.Row W base 5 (.slice (some ⟨g, 0, none⟩) n cap) n (strCells S)) : (convert 22 9 (.slice (some ⟨g, 0, none⟩) n cap)).run Try.prog W = .ok (.string S) W := by
  have hr := row_reads h
  subst hn
  rw [nums_size] at hr
  rw [Kd.C_string Try.underlying22 Try.underlying5 Try.underlying9 hr, strOf_nums]
def noneB (j : Nat) : UInt8 := UInt8.ofNat (noneV j).toNat
theorem noneB_at {j : Nat} (hj : j < 13) : noneV j = (noneB j).toNat ∧ ∀ t, firstP (noneB j :: t) = (1, false) := by
  have e : j = 0 ∨ j = 1 ∨ j = 2 ∨ j = 3 ∨ j = 4 ∨ j = 5 ∨ j = 6 ∨ j = 7 ∨ j = 8 ∨ j = 9 ∨ j = 10 ∨ j = 11 ∨ j = 12 := by omega
  rcases e with rfl | rfl | rfl | rfl | rfl | rfl | rfl | rfl | rfl | rfl | rfl | rfl | rfl <;> exact ⟨by decide, fun t => by rfl⟩
def joined (a b : ByteArray) (x : UInt8) : ByteArray := a ++ (⟨#[x]⟩ : ByteArray) ++ b
theorem joined_cells (a b : ByteArray) (x : UInt8) : strCells (joined a b x) = strCells a ++ [Value.int .u8 x.toNat] ++ strCells b := by
  unfold joined strCells
  simp [ByteArray.data_append]
theorem joined_size (a b : ByteArray) (x : UInt8) : (joined a b x).size = a.size + 1 + b.size := by
  unfold joined
  rw [ByteArray.size_append, ByteArray.size_append]
  rfl
theorem joined_list (a b : ByteArray) (x : UInt8) : (joined a b x).data.toList = a.data.toList ++ x :: b.data.toList := by
  unfold joined
  simp [ByteArray.data_append]
theorem dec_joined {a b : ByteArray} {x : UInt8} (ha : a.data.toList ≠ []) (hm : a.data.toList.take 3 ≠ [239, 187, 191]) (h5 : right a.data.toList = true) (h6 : right b.data.toList = true) (hx : ∀ t, firstP (x :: t) = (1, false)) :
    a ++ (⟨#[239, 191, 189]⟩ : ByteArray) ++ b = ⟨(Spec.decode (joined a b x).data.toList).toArray⟩ ∧ right (joined a b x).data.toList = false ∧ a ++ b = ⟨(Spec.decode (a ++ b).data.toList).toArray⟩ ∧ right (a ++ b).data.toList = true := by
  have hf : (firstP a.data.toList).2 = true := by
    have := right_step _ ha
    rw [h5] at this
    exact (Bool.and_eq_true _ _ ▸ this.symm).1
  have hab : (a ++ b).data.toList = a.data.toList ++ b.data.toList := by simp [ByteArray.data_append]
  have hr : right (a.data.toList ++ b.data.toList) = true := by rw [right_app _ _ _ (Nat.le_refl _) h5]; exact h6
  rw [joined_list, hab]
  refine ⟨?_, ?_, ?_, hr⟩
  · unfold Spec.decode
    rw [trim_app _ ha hf hm, dec_app _ _ _ (Nat.le_refl _) h5, dec_step _ (by simp), hx]
    simp only [List.drop_succ_cons, List.drop_zero, Bool.false_eq_true, if_false]
    rw [dec_right h6]
    apply ba_ext
    simp [ByteArray.data_append, bad]
  · rw [right_app _ _ _ (Nat.le_refl _) h5, right_step _ (by simp), hx]
    rfl
  · unfold Spec.decode
    rw [trim_app _ ha hf hm, dec_right hr]
    apply ba_ext
    simp [ByteArray.data_append]

theorem bel5 {W w' : World} {a : ByteArray} {o : Obj} (h : Below W.heap.size ((bytesWorld (litW W) 5 a).alloc o) w') : Below W.heap.size W w' := by
  have h1 : Below W.heap.size W (litW W) := (Below.refl _ W).alloc (Nat.le_refl _) _
  have h2 := below_then h1 h1.size (conv_below (litW W) a)
  exact (h2.alloc h2.size o).trans h

set_option maxHeartbeats 4000000 in
set_option maxRecDepth 100000 in
theorem on_walk (a b : ByteArray) (c : Int) (hc0 : 0 ≤ c) (hc1 : c ≤ 255) (w : World) (hm : Aside0 (decide (a.data.toList.take 3 = [239, 187, 191]) = false)) (h1 : Aside0 (¬ 300 < a.size)) (h2 : Aside0 (¬ 300 < b.size)) (h3 : Aside0 (a.data.toList ≠ [])) (h5 : Aside0 (right a.data.toList = true)) (h6 : Aside0 (right b.data.toList = true)) :
    Calls Try.prog 9 #[.string a, .string b, .int .u8 c] w fun e w' => e = .returned (.bool true) ∧ Below w.heap.size w w' := by
  have HB := Aside0.mk (Below.refl w.heap.size w)
  have q1a : decide (300 < (a.size : Int)) = false := decide_eq_false (by have := h1.out; omega)
  have q1b : decide (300 < a.size) = false := decide_eq_false h1.out
  have q2a : decide (300 < (b.size : Int)) = false := decide_eq_false (by have := h2.out; omega)
  have q2b : decide (300 < b.size) = false := decide_eq_false h2.out
  have q3a : (a.toList == []) = false := by rw [ByteArray.toList_eq]; exact beq_eq_false_iff_ne.2 h3.out
  have q3b : a.toList.isEmpty = false := by rw [ByteArray.toList_eq]; have := h3.out; cases hh : a.data.toList <;> simp_all
  go_enter Try.func9, Try.ntmps9
  go_wp2_with fail
  refine (cA _).mono ?_
  rintro e w1 ⟨rfl, hb⟩
  have HB1 := Aside0.mk (below_step HB.out hb)
  clear hb
  go_wp2_with fail
  refine (cM a hm _).mono ?_
  rintro e w' ⟨rfl, ⟨nd, rfl⟩⟩
  have HB2 := Aside0.mk (pw_below_drewN HB1.out nd)
  go_wp2_with fail
  refine (cR a h5 _).mono ?_
  rintro e w3 ⟨rfl, hb⟩
  have HB3 := Aside0.mk (below_step HB2.out hb)
  clear hb
  go_wp2_with fail
  refine (cR b h6 _).mono ?_
  rintro e w4 ⟨rfl, hb⟩
  have HB4 := Aside0.mk (below_step HB3.out hb)
  clear hb
  have hcv := fun W : World => Lib.run_convert_string_bytes (P := Try.prog) W 9 22 5 a Try.underlying9 Try.underlying22 Try.underlying5
  have hcell := cellN w4 a (c % 13).toNat (by omega)
  have hkb : 0 ≤ c % 13 ∧ c % 13 < 13 := by omega
  obtain ⟨i0, hi, hz0, hz1, hz2⟩ := info_parts Buf.infoByte
  have hrow := rowN w4 a (noneV (c % 13).toNat) (by have := h1.out; omega)
  have hn := newsN w4 a (noneV (c % 13).toNat)
  have hone := oneN (noneV (c % 13).toNat)
  have hbs := baseN w4 a (noneV (c % 13).toNat)
  have hfit : a.size + 1 ≤ 140737488355328 := by have := h1.out; omega
  have hfit2 : a.size + 1 + b.size ≤ 140737488355328 := by have := h1.out; have := h2.out; omega
  have hx := noneB_at (j := (c % 13).toNat) (by omega)
  have hd := dec_joined h3.out (fun e => by have := hm.out; rw [e] at this; simp at this) h5.out h6.out hx.2
  have HXC := Aside0.mk (joined_cells a b (noneB (c % 13).toNat))
  have HX1 := Aside0.mk hx.1
  have HRX := Aside0.mk hd.1
  have HRF := Aside0.mk hd.2.1
  have HRD := Aside0.mk hd.2.2.1
  have HRI := Aside0.mk hd.2.2.2
  have HXS := Aside0.mk (joined_size a b (noneB (c % 13).toNat))
  have HXZ := Aside0.mk (show (joined a b (noneB (c % 13).toNat)).size ≤ 1000 by rw [joined_size]; have := h1.out; have := h2.out; omega)
  have HZ := Aside0.mk (show (a ++ b).size ≤ 1000 by rw [ByteArray.size_append]; have := h1.out; have := h2.out; omega)
  clear hx hd
  have HROW := Lib.hid hrow
  have HN := Lib.hid hn
  have HBS := Lib.hid hbs
  clear hrow hn hbs
  go_wp2_with (at_builtin; refine Aside0.out (?_ : Aside0 _))
  refine Aside0.mk ?_
  refine App.wp_append_G _ rfl _ _ 22 rfl w4.heap.size 5 i0 (.int .u8 0) Try.underlying22 hi hz0 hz1 hz2 rfl _ a.size (strCells a) rfl HROW.out _ 1 1 [.int .u8 (noneV (c % 13).toNat)] rfl rfl HN.out hone hfit HBS.out ?_
  intro v1 w5 hR5 hb5
  have HK5 := Aside0.mk (bel5 hb5)
  clear hb5 hcell hone HN HBS HROW hcv
  generalize noneV (c % 13).toNat = X at *
  generalize c % 13 = k at *
  have HR5 := Lib.hid hR5
  clear hR5
  have hbs5 := HK5.out.size
  go_wp2_with (at_builtin; refine Aside0.out (?_ : Aside0 _))
  refine Aside0.mk ?_
  refine App.wp_append_Gs _ rfl _ _ 22 9 rfl w4.heap.size 5 i0 Try.underlying22 Try.underlying9 hi hz0 hz1 hz2 v1 (a.size + 1) (strCells a ++ [Value.int .u8 X]) ?hv HR5.out b ?hx hfit2 hbs5 ?_
  case hv => rfl
  case hx => rfl
  intro v2 w6 hR6 hb6
  have HB6 := Aside0.mk (below_step HB4.out (HK5.out.trans hb6))
  clear hb6
  obtain ⟨g, cap, ev, hcap⟩ := row_slice hR6
  subst ev
  have hR6' : App.Row w6 w4.heap.size 5 (.slice (some ⟨g, 0, none⟩) (a.size + 1 + b.size) cap) (a.size + 1 + b.size) (strCells (joined a b (noneB k.toNat))) := by rw [HXC.out, ← HX1.out]; exact hR6
  have HR6 := Lib.hid hR6'
  have HCAP := Lib.hid hcap
  clear hR6 hR6' hcap HR5 HK5 HXC HX1 hbs5 hfit hfit2 hkb hi hz0 hz1 hz2
  have z1 : a.size ≤ 300 := by have := h1.out; omega
  have z2 : b.size ≤ 300 := by have := h2.out; omega
  have s1 : (a.size + b.size ≤ 9223372036854775807) = True := eq_true (by omega)
  have s2 : decide (a.size + b.size ≤ 9223372036854775807) = true := decide_eq_true (by omega)
  have s3 : (9223372036854775807 < a.size + b.size) = False := eq_false (by omega)
  have s4 : (a.size + 3 ≤ 9223372036854775807) = True := eq_true (by omega)
  have s5 : decide (a.size + 3 ≤ 9223372036854775807) = true := decide_eq_true (by omega)
  have s6 : (9223372036854775807 < a.size + 3) = False := eq_false (by omega)
  have s7 : (a.size + 3 + b.size ≤ 9223372036854775807) = True := eq_true (by omega)
  have s8 : decide (a.size + 3 + b.size ≤ 9223372036854775807) = true := decide_eq_true (by omega)
  have s9 : (9223372036854775807 < a.size + 3 + b.size) = False := eq_false (by omega)
  have e1 : ((a ++ b).toList == (a ++ b).toList) = true := beq_self_eq_true _
  have e2 : ((a ++ (⟨#[239, 191, 189]⟩ : ByteArray) ++ b).toList == (a ++ (⟨#[239, 191, 189]⟩ : ByteArray) ++ b).toList) = true := beq_self_eq_true _
  clear z1 z2 q1a q1b q2a q2b q3a q3b
  have hcv := fun W : World => Lib.run_convert_string_bytes (P := Try.prog) W 9 22 5 (a ++ b) Try.underlying9 Try.underlying22 Try.underlying5
  go_wp2_with fail
  refine (cR (a ++ b) HRI _).mono ?_
  rintro e w7 ⟨rfl, hb⟩
  have HB7 := Aside0.mk (below_step HB6.out hb)
  have HR7 := Lib.hid (HR6.out.below hb)
  clear hb HR6
  go_wp2_with fail
  refine (cD' (a ++ b) HZ HRD w7 rfl (ByteArray.size_append).symm rfl).mono ?_
  rintro e w8 ⟨rfl, hb⟩
  have HB8 := Aside0.mk (below_step HB7.out hb)
  have HR8 := Lib.hid (HR7.out.below hb)
  clear hb HR7 hcv
  go_wp2_with fail
  refine (cX (joined a b (noneB k.toNat)) HXZ HRX HXS.out.symm HR8.out HCAP.out).mono ?_
  rintro e w9 ⟨rfl, hb⟩
  have HB9 := Aside0.mk (below_step HB8.out hb)
  have HR9 := Lib.hid (HR8.out.below hb)
  clear hb HR8
  have hcx := convX (joined a b (noneB k.toNat)) HXS.out.symm HR9.out
  go_wp2_with fail
  refine (cR (joined a b (noneB k.toNat)) HRF _).mono ?_
  rintro e w10 ⟨rfl, hb⟩
  have HB10 := Aside0.mk (below_step HB9.out hb)
  clear hb HR9 hcx
  go_wp2
  go_ret
  exact ⟨rfl, HB10.out⟩

theorem joins_any (a b : ByteArray) (c : Int) (hc : 0 ≤ c ∧ c ≤ 255) (w : World) : Calls Try.prog 9 #[.string a, .string b, .int .u8 c] w fun e w' => e = .returned (.bool true) ∧ Below w.heap.size w w' := by
  by_cases h1 : 300 < a.size
  · exact off1 a b c w _ ⟨rfl⟩ ⟨h1⟩
  by_cases h2 : 300 < b.size
  · exact off2 a b c w _ ⟨rfl⟩ ⟨h1⟩ ⟨h2⟩
  by_cases h3 : a.data.toList = []
  · exact off3 a b c w _ ⟨rfl⟩ ⟨h1⟩ ⟨h2⟩ ⟨h3⟩
  by_cases h4 : a.data.toList.take 3 = [239, 187, 191]
  · exact off4 a b c w _ ⟨rfl⟩ ⟨h1⟩ ⟨h2⟩ ⟨h3⟩ ⟨decide_eq_true h4⟩
  cases h5 : right a.data.toList with
  | false => exact off5 a b c w _ ⟨rfl⟩ ⟨h1⟩ ⟨h2⟩ ⟨h3⟩ ⟨decide_eq_false h4⟩ ⟨h5⟩
  | true =>
    cases h6 : right b.data.toList with
    | false => exact off6 a b c w _ ⟨rfl⟩ ⟨h1⟩ ⟨h2⟩ ⟨h3⟩ ⟨decide_eq_false h4⟩ ⟨h5⟩ ⟨h6⟩
    | true => exact on_walk a b c hc.1 hc.2 w ⟨decide_eq_false h4⟩ ⟨h1⟩ ⟨h2⟩ ⟨h3⟩ ⟨h5⟩ ⟨h6⟩
theorem joins_row (a b : ByteArray) (c : Int) (w : World) (h0 : a.size ≤ 140737488351232) (h1 : b.size ≤ 140737488351232) (h2 : (Lit.int .u8 c).wf = true) : Calls Try.prog 9 #[.string a, .string b, .int .u8 c] w fun e w' => e = .returned (.bool true) ∧ Below w.heap.size w w' := joins_any a b c (by
    simp only [Lit.wf, Bool.and_eq_true, decide_eq_true_eq] at h2
    exact h2) w
end Go.Proofs.Ytpflkcmjoiakfaa.HandUtfJoins
