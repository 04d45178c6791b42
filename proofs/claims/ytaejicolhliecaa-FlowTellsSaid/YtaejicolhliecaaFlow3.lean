/- A flow's New, Text, Put, and what the law's 'does' does to it. -/
import Derived.Test.YtaejicolhliecaaFlow2
import Derived.LoopTactic
import Derived.Deep.LoopGhost
set_option linter.unusedVariables false
namespace Go.Proofs.Ytaejicolhliecaa.Flow
open Go.RowKit Go.Lib Go.Proofs.Ytaejicolhliecaa.Buf

def M.size (m : M) : Nat := m.told.length + m.ends + m.blanks.length
def M.none : M := ⟨[], [], 0⟩

theorem line_size (m : M) : m.line.size ≤ m.size + 1 := by simp [M.line, M.size]; omega
theorem brk_size (n : Int) (m : M) : (m.brk n).size ≤ m.size + 100 := by simp [M.brk, M.size]; omega
theorem lose_size (m : M) : m.lose.size ≤ m.size + 1 := by
  unfold M.lose
  split
  · rename_i h
    simp [M.size, h.2]
  · simp [M.size]
theorem keep_size (c : UInt8) (m : M) : (m.keep c).size ≤ m.size + 1 := by
  unfold M.keep
  split
  · exact line_size m
  · simp [M.size]; omega
theorem word_size (c : UInt8) (m : M) : (m.word c).size ≤ m.size + 1 := by
  unfold M.word M.size
  split <;> simp <;> omega
theorem put1_size (k : Bool) (c : UInt8) (m : M) : (m.put1 k c).size ≤ m.size + 1 := by
  unfold M.put1
  split
  · omega
  · split
    · split
      · exact keep_size c m
      · exact lose_size m
    · exact word_size c m
theorem put_size (k : Bool) : ∀ (s : List UInt8) (m : M), (m.put k s).size ≤ m.size + s.length
  | [], m => by simp [M.put]
  | c :: s, m => by
    have h1 := put_size k s (m.put1 k c)
    have h2 := put1_size k c m
    simp only [M.put, List.foldl_cons, List.length_cons] at h1 ⊢
    omega
theorem put_snoc (k : Bool) (s : List UInt8) (c : UInt8) (m : M) : m.put k (s ++ [c]) = (m.put k s).put1 k c := by simp [M.put]

section
variable {w : World} {b : Nat} {F : Nat → Prop} {m : M}

set_option maxHeartbeats 1000000 in
set_option maxRecDepth 100000 in
theorem new_at (w : World) : Calls Try.prog 17 #[] w fun e w' => e = .returned (.pointer (some ⟨w.heap.size, 0, none⟩)) ∧ w' = w.alloc (.cells #[.pointer none, .slice none 0 0, .int .i64 0, .slice none 0 0] 62) := by
  go_enter Try.func17, Try.ntmps17
  go_wp2
  go_ret
  exact ⟨rfl, rfl⟩

theorem new_fl (w : World) : Fl (w.alloc (.cells #[.pointer none, .slice none 0 0, .int .i64 0, .slice none 0 0] 62)) w.heap.size (fun k => k = w.heap.size) M.none :=
  ⟨_, _, _, heap_alloc_new w _, Or.inl rfl, ⟨rfl, .inl ⟨rfl, rfl⟩⟩, ⟨rfl, .inl ⟨rfl, rfl⟩⟩, by simp [Value.ownBlock], by simp [Value.ownBlock], fun k _ => by simp [Value.ownBlock], rfl, by simp [Value.ownBlock], by simp [Value.ownBlock], fun k e => by subst e; simp⟩

set_option maxHeartbeats 1000000 in
set_option maxRecDepth 100000 in
theorem text_at (h : Fl w b F m) : Calls Try.prog 20 #[.pointer (some ⟨b, 0, none⟩)] w fun e w' => e = .returned (.string ⟨m.told.toArray⟩) ∧ Fl w' b F m ∧ Kp F w w' := by
  obtain ⟨a, v, l, h⟩ := h
  have HS := Lib.hid (string_at (l := m.told) h.heap rfl h.told h.nv)
  have HI := Lib.hid h
  clear h
  go_enter Try.func20, Try.ntmps20
  go_wp2_with (go_at_call 33; refine HS.out.mono ?_)
  rintro e w' ⟨rfl, h1, h2, h3⟩
  have hk := h3.mono (G := F) (fun k _ e => HI.out.fv k e)
  have hf : Fl w' b F m := ⟨a, v, l, h1, HI.out.addr, h2, ownsF_kp HI.out.blanks h3 (fun k e e2 => HI.out.apart k e2 e), HI.out.nv, HI.out.nl, HI.out.apart, HI.out.fb, HI.out.fv, HI.out.fl, fun k e => Nat.lt_of_lt_of_le (HI.out.fin k e) hk.size⟩
  go_wp2
  go_ret
  exact ⟨rfl, hf, hk⟩

theorem take_snoc (s : ByteArray) (i : Nat) (h : i < s.size) : s.data.toList.take (i + 1) = s.data.toList.take i ++ [s[i]'h] := by
  have hl : i < s.data.toList.length := by simpa using h
  rw [List.take_succ_eq_append_getElem hl]
  rfl
theorem put_take (k : Bool) (m : M) (s : ByteArray) (i : Nat) (h : i < s.size) : m.put k (s.data.toList.take (i + 1)) = (m.put k (s.data.toList.take i)).put1 k (s[i]'h) := by
  rw [take_snoc s i h, put_snoc]

set_option maxHeartbeats 4000000 in
set_option maxRecDepth 100000 in
theorem put_false (h : Fl w b F m) (s : ByteArray) (hb : m.size + s.size ≤ 1000000000) : Calls Try.prog 22 #[.pointer (some ⟨b, 0, none⟩), .string s, .bool false] w fun e w' => e = .returned (.tuple #[]) ∧ Does w w' b F (m.put false s.data.toList) := by
  have HH := Lib.hid h
  have HB := Lib.hid hb
  have hs : s.size ≤ 1000000000 := by omega
  clear h hb
  go_enter Try.func22, Try.ntmps22
  go_wp2_with fail
  go_loopg [12] (s.size + 1) (fun kq v12 w' => ∃ i : Nat, v12 = .int .i64 i ∧ Hid (i ≤ s.size) ∧ Hid (s.size < i + kq) ∧ Hid (Does w w' b F (m.put false (s.data.toList.take i))))
  case atStart => exact ⟨0, rfl, Lib.hid (Nat.zero_le _), Lib.hid (by omega), Lib.hid ⟨F, HH.out, Kp.refl F w, fun k h => Or.inl h⟩⟩
  case round =>
    obtain ⟨i, rfl, HI, HK, HD⟩ := hrel
    have hi := HI.out
    by_cases hlt : i < s.size
    · have d1 : decide ((i : Int) < (s.size : Int)) = true := decide_eq_true (by omega)
      have d2 : decide (i < s.size) = true := decide_eq_true hlt
      obtain ⟨c, hc⟩ : ∃ c, s[i]'hlt = c := ⟨_, rfl⟩
      have hsn := take_snoc s i hlt
      rw [hc] at hsn
      have HP := Lib.hid (put_take false m s i hlt)
      rw [hc] at HP
      have HZ := Lib.hid (put_size false (s.data.toList.take i) m)
      clear hsn
      obtain ⟨F1, h1, hk1, hF1⟩ := HD.out
      have hlen : (s.data.toList.take i).length ≤ s.size := by simp; omega
      have HS1 := Lib.hid (show (m.put false (s.data.toList.take i)).size ≤ 1000000000 by have := HB.out; have := HZ.out; omega)
      clear hlen HZ HD
      generalize m.put false (s.data.toList.take i) = m1 at h1 HP HS1
      cases gk with
      | zero => exact absurd HK.out (by omega)
      | succ k1 =>
        by_cases hz : c = 0
        · have z1 : ((c.toNat : Int) == 0) = true := by rw [hz]; rfl
          have hp1 : m1.put1 false c = m1 := by unfold M.put1; rw [if_pos hz]
          have HR := Lib.hid (show Does w wr b F (m.put false (s.data.toList.take (i + 1))) by rw [HP.out, hp1]; exact ⟨F1, h1, hk1, hF1⟩)
          clear hz hp1 h1 hk1 hF1
          go_wp2_with fail
          go_roundg k1
          case measure => omega
          case rel => exact ⟨i + 1, rfl, Lib.hid (by omega), Lib.hid (by have := HK.out; omega), HR⟩
        · have z1 : ((c.toNat : Int) == 0) = false := by
            rw [beq_eq_false_iff_ne]
            intro e
            exact hz (UInt8.toNat_inj.1 (by simpa using (by omega : c.toNat = 0)))
          have hbl := blank_at c
          cases hB : isBlank c with
          | true =>
            rw [hB] at hbl
            have hp1 : m1.put1 false c = m1.lose := by unfold M.put1; rw [if_neg hz, if_pos hB]; rfl
            have HC := Lib.hid (lose_at h1 (by have := HS1.out; unfold M.size at this; omega) c.toNat)
            have HBL := Lib.hid hbl
            clear hz hB hbl h1
            go_wp2_with (go_at_call 36; refine (HBL.out _).mono ?_)
            rintro e w1' ⟨rfl, rfl⟩
            go_wp2_with (go_at_call 34; refine HC.out.mono ?_)
            rintro e w2 ⟨rfl, hd2⟩
            have HR := Lib.hid (show Does w w2 b F (m.put false (s.data.toList.take (i + 1))) by rw [HP.out, hp1]; exact Does.trans hk1 hF1 hd2)
            clear hp1 hk1 hF1 hd2 HC
            go_wp2_with fail
            go_roundg k1
            case measure => omega
            case rel => exact ⟨i + 1, rfl, Lib.hid (by omega), Lib.hid (by have := HK.out; omega), HR⟩
          | false =>
            rw [hB] at hbl
            have hp1 : m1.put1 false c = m1.word c := by unfold M.put1; rw [if_neg hz, if_neg (by rw [hB]; simp)]
            have HC := Lib.hid (word_at h1 c HS1.out)
            have HBL := Lib.hid hbl
            clear hz hB hbl h1
            go_wp2_with (go_at_call 36; refine (HBL.out _).mono ?_)
            rintro e w1' ⟨rfl, rfl⟩
            go_wp2_with (go_at_call 37; refine HC.out.mono ?_)
            rintro e w2 ⟨rfl, hd2⟩
            have HR := Lib.hid (show Does w w2 b F (m.put false (s.data.toList.take (i + 1))) by rw [HP.out, hp1]; exact Does.trans hk1 hF1 hd2)
            clear hp1 hk1 hF1 hd2 HC
            go_wp2_with fail
            go_roundg k1
            case measure => omega
            case rel => exact ⟨i + 1, rfl, Lib.hid (by omega), Lib.hid (by have := HK.out; omega), HR⟩
    · have d1 : decide ((i : Int) < (s.size : Int)) = false := decide_eq_false (by omega)
      have d2 : decide (i < s.size) = false := decide_eq_false hlt
      have hie : i = s.data.toList.length := by simp; omega
      have HR := Lib.hid (show Does w wr b F (m.put false s.data.toList) by have h := HD.out; rw [hie, List.take_length] at h; exact h)
      clear HD hie
      go_wp2_with fail
      go_end0
      exact ⟨rfl, HR.out⟩

set_option maxHeartbeats 4000000 in
set_option maxRecDepth 100000 in
theorem put_true (h : Fl w b F m) (s : ByteArray) (hb : m.size + s.size ≤ 1000000000) : Calls Try.prog 22 #[.pointer (some ⟨b, 0, none⟩), .string s, .bool true] w fun e w' => e = .returned (.tuple #[]) ∧ Does w w' b F (m.put true s.data.toList) := by
  have HH := Lib.hid h
  have HB := Lib.hid hb
  have hs : s.size ≤ 1000000000 := by omega
  clear h hb
  go_enter Try.func22, Try.ntmps22
  go_wp2_with fail
  go_loopg [12] (s.size + 1) (fun kq v12 w' => ∃ i : Nat, v12 = .int .i64 i ∧ Hid (i ≤ s.size) ∧ Hid (s.size < i + kq) ∧ Hid (Does w w' b F (m.put true (s.data.toList.take i))))
  case atStart => exact ⟨0, rfl, Lib.hid (Nat.zero_le _), Lib.hid (by omega), Lib.hid ⟨F, HH.out, Kp.refl F w, fun k h => Or.inl h⟩⟩
  case round =>
    obtain ⟨i, rfl, HI, HK, HD⟩ := hrel
    have hi := HI.out
    by_cases hlt : i < s.size
    · have d1 : decide ((i : Int) < (s.size : Int)) = true := decide_eq_true (by omega)
      have d2 : decide (i < s.size) = true := decide_eq_true hlt
      obtain ⟨c, hc⟩ : ∃ c, s[i]'hlt = c := ⟨_, rfl⟩
      have hsn := take_snoc s i hlt
      rw [hc] at hsn
      have HP := Lib.hid (put_take true m s i hlt)
      rw [hc] at HP
      have HZ := Lib.hid (put_size true (s.data.toList.take i) m)
      clear hsn
      obtain ⟨F1, h1, hk1, hF1⟩ := HD.out
      have hlen : (s.data.toList.take i).length ≤ s.size := by simp; omega
      have HS1 := Lib.hid (show (m.put true (s.data.toList.take i)).size ≤ 1000000000 by have := HB.out; have := HZ.out; omega)
      clear hlen HZ HD
      generalize m.put true (s.data.toList.take i) = m1 at h1 HP HS1
      cases gk with
      | zero => exact absurd HK.out (by omega)
      | succ k1 =>
        by_cases hz : c = 0
        · have z1 : ((c.toNat : Int) == 0) = true := by rw [hz]; rfl
          have hp1 : m1.put1 true c = m1 := by unfold M.put1; rw [if_pos hz]
          have HR := Lib.hid (show Does w wr b F (m.put true (s.data.toList.take (i + 1))) by rw [HP.out, hp1]; exact ⟨F1, h1, hk1, hF1⟩)
          clear hz hp1 h1 hk1 hF1
          go_wp2_with fail
          go_roundg k1
          case measure => omega
          case rel => exact ⟨i + 1, rfl, Lib.hid (by omega), Lib.hid (by have := HK.out; omega), HR⟩
        · have z1 : ((c.toNat : Int) == 0) = false := by
            rw [beq_eq_false_iff_ne]
            intro e
            exact hz (UInt8.toNat_inj.1 (by simpa using (by omega : c.toNat = 0)))
          have hbl := blank_at c
          cases hB : isBlank c with
          | true =>
            rw [hB] at hbl
            have hp1 : m1.put1 true c = m1.keep c := by unfold M.put1; rw [if_neg hz, if_pos hB]; rfl
            have HC := Lib.hid (keep_at h1 c (by have := HS1.out; unfold M.size at this; omega) (by have := HS1.out; unfold M.size at this; omega))
            have HBL := Lib.hid hbl
            clear hz hB hbl h1
            go_wp2_with (go_at_call 36; refine (HBL.out _).mono ?_)
            rintro e w1' ⟨rfl, rfl⟩
            go_wp2_with (go_at_call 35; refine HC.out.mono ?_)
            rintro e w2 ⟨rfl, hd2⟩
            have HR := Lib.hid (show Does w w2 b F (m.put true (s.data.toList.take (i + 1))) by rw [HP.out, hp1]; exact Does.trans hk1 hF1 hd2)
            clear hp1 hk1 hF1 hd2 HC
            go_wp2_with fail
            go_roundg k1
            case measure => omega
            case rel => exact ⟨i + 1, rfl, Lib.hid (by omega), Lib.hid (by have := HK.out; omega), HR⟩
          | false =>
            rw [hB] at hbl
            have hp1 : m1.put1 true c = m1.word c := by unfold M.put1; rw [if_neg hz, if_neg (by rw [hB]; simp)]
            have HC := Lib.hid (word_at h1 c HS1.out)
            have HBL := Lib.hid hbl
            clear hz hB hbl h1
            go_wp2_with (go_at_call 36; refine (HBL.out _).mono ?_)
            rintro e w1' ⟨rfl, rfl⟩
            go_wp2_with (go_at_call 37; refine HC.out.mono ?_)
            rintro e w2 ⟨rfl, hd2⟩
            have HR := Lib.hid (show Does w w2 b F (m.put true (s.data.toList.take (i + 1))) by rw [HP.out, hp1]; exact Does.trans hk1 hF1 hd2)
            clear hp1 hk1 hF1 hd2 HC
            go_wp2_with fail
            go_roundg k1
            case measure => omega
            case rel => exact ⟨i + 1, rfl, Lib.hid (by omega), Lib.hid (by have := HK.out; omega), HR⟩
    · have d1 : decide ((i : Int) < (s.size : Int)) = false := decide_eq_false (by omega)
      have d2 : decide (i < s.size) = false := decide_eq_false hlt
      have hie : i = s.data.toList.length := by simp; omega
      have HR := Lib.hid (show Does w wr b F (m.put true s.data.toList) by have h := HD.out; rw [hie, List.take_length] at h; exact h)
      clear HD hie
      go_wp2_with fail
      go_end0
      exact ⟨rfl, HR.out⟩

theorem put_at (h : Fl w b F m) (s : ByteArray) (k : Bool) (hb : m.size + s.size ≤ 1000000000) : Calls Try.prog 22 #[.pointer (some ⟨b, 0, none⟩), .string s, .bool k] w fun e w' => e = .returned (.tuple #[]) ∧ Does w w' b F (m.put k s.data.toList) := by
  cases k
  · exact put_false h s hb
  · exact put_true h s hb

/-- A thing that is done: its kind, the text, whether blanks are kept, how many. -/
structure Act where
  kind : Int
  s : ByteArray
  keep : Bool
  n : Int
def Act.val (a : Act) : Value := .agg #[.int .i64 a.kind, .string a.s, .bool a.keep, .int .i64 a.n]
def M.does (a : Act) (m : M) : M := if a.kind = 0 then m.put a.keep a.s.data.toList else if a.kind = 1 then m.brk a.n else if a.kind = 2 then m.line else m
theorem does_size (a : Act) (m : M) : (m.does a).size ≤ m.size + a.s.size + 100 := by
  unfold M.does
  split
  · have := put_size a.keep a.s.data.toList m
    have hl : a.s.data.toList.length = a.s.size := by simp
    omega
  · split
    · have := brk_size a.n m
      omega
    · split
      · have := line_size m
        omega
      · omega

set_option maxHeartbeats 2000000 in
set_option maxRecDepth 100000 in
theorem does_at (h : Fl w b F m) (a : Act) (hn : (Lit.int .i64 a.n).wf = true) (hb : m.size + a.s.size ≤ 900000000) : Calls Try.prog 18 #[.pointer (some ⟨b, 0, none⟩), a.val] w fun e w' => e = .returned (.tuple #[]) ∧ Does w w' b F (m.does a) := by
  have he : m.ends ≤ 1000000000 := by unfold M.size at hb; omega
  have hk0 : Kp F w (w.alloc (.cells #[.int .i64 a.kind, .string a.s, .bool a.keep, .int .i64 a.n] 32)) := (Kp.refl F w).alloc _
  have h' : Fl (w.alloc (.cells #[.int .i64 a.kind, .string a.s, .bool a.keep, .int .i64 a.n] 32)) b F m := h.kp ((Kp.refl (fun _ => False) w).alloc _) (fun _ _ h => h)
  have HP := Lib.hid (put_at h' a.s a.keep (by omega))
  have HK := Lib.hid (brk_at h' he a.n hn)
  have HL := Lib.hid (line_at h' he)
  have HR := Lib.hid (Does.trans hk0 (fun k hf => Or.inl hf) (does_refl h'))
  have HT : ∀ (w2 : World) (m2 : M), Does (w.alloc (.cells #[.int .i64 a.kind, .string a.s, .bool a.keep, .int .i64 a.n] 32)) w2 b F m2 → Does w w2 b F m2 := fun w2 m2 hd => Does.trans hk0 (fun k hf => Or.inl hf) hd
  have HT := Lib.hid HT
  clear h' hk0
  have hd : m.does a = if a.kind = 0 then m.put a.keep a.s.data.toList else if a.kind = 1 then m.brk a.n else if a.kind = 2 then m.line else m := rfl
  clear h
  unfold Act.val
  by_cases h0 : a.kind = 0
  · have k0 : (a.kind == 0) = true := by rw [h0]; rfl
    rw [if_pos h0] at hd
    have HD := Lib.hid hd
    clear h0 hd
    go_enter Try.func18, Try.ntmps18
    go_wp2_with (go_at_call 22; refine HP.out.mono ?_)
    rintro e w' ⟨rfl, hx⟩
    go_wp2
    go_end0
    exact ⟨rfl, by rw [HD.out]; exact HT.out _ _ hx⟩
  · have k0 : (a.kind == 0) = false := beq_eq_false_iff_ne.2 h0
    rw [if_neg h0] at hd
    by_cases h1 : a.kind = 1
    · have k1 : (a.kind == 1) = true := by rw [h1]; rfl
      rw [if_pos h1] at hd
      have HD := Lib.hid hd
      clear h0 hd h1
      go_enter Try.func18, Try.ntmps18
      go_wp2_with (go_at_call 24; refine HK.out.mono ?_)
      rintro e w' ⟨rfl, hx⟩
      go_wp2
      go_end0
      exact ⟨rfl, by rw [HD.out]; exact HT.out _ _ hx⟩
    · have k1 : (a.kind == 1) = false := beq_eq_false_iff_ne.2 h1
      rw [if_neg h1] at hd
      by_cases h2 : a.kind = 2
      · have k2 : (a.kind == 2) = true := by rw [h2]; rfl
        rw [if_pos h2] at hd
        have HD := Lib.hid hd
        clear h0 hd h1 h2
        go_enter Try.func18, Try.ntmps18
        go_wp2_with (go_at_call 23; refine HL.out.mono ?_)
        rintro e w' ⟨rfl, hx⟩
        go_wp2
        go_end0
        exact ⟨rfl, by rw [HD.out]; exact HT.out _ _ hx⟩
      · have k2 : (a.kind == 2) = false := beq_eq_false_iff_ne.2 h2
        rw [if_neg h2] at hd
        have HD := Lib.hid hd
        clear h0 hd h1 h2
        go_enter Try.func18, Try.ntmps18
        go_wp2
        go_end0
        exact ⟨rfl, by rw [HD.out]; exact HR.out⟩
end
end Go.Proofs.Ytaejicolhliecaa.Flow
