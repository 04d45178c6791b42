/- Several texts of this claim, laid together into one file. -/
import Derived.Test.YteccaekalcjihaaGreatDoorLotK
import Derived.Test.YteccaekalcjihaaGreatDoorLotB
import Derived.Handy
import Derived.Deep.RegionWith
import Derived.Laws.IdiomStrings
import Derived.Test.YteccaekalcjihaaGreatDoorLotE
import Derived.KernelRfl
import Derived.Lib.SlBytesConst
import Derived.Test.YteccaekalcjihaaGreatDoorLotC
import Derived.Test.YteccaekalcjihaaGreatDoorLotH
set_option linter.unusedSimpArgs false
set_option linter.unusedVariables false
set_option linter.unusedVariables false
set_option linter.unusedSimpArgs false
namespace Go.Proofs.YteccaekalcjihaaGreatDoor.Repl
open Go.RowKit Go.Lib Go.Proofs.YteccaekalcjihaaGreatDoor.Buf Go.Proofs.YteccaekalcjihaaGreatDoorW.PrintWords Go.Proofs.YteccaekalcjihaaGreatDoorW.PrintLast Go.Proofs.YteccaekalcjihaaGreatDoorW.PrintMore
theorem ks_one : ∀ n (h : n < 7), (KS[2 * n]'(by simp [KS]; omega)).size = 1 := by decide +kernel
theorem ks_small : ∀ i (h : i < 16), (KS[i]'(by simp [KS]; omega)).size ≤ 1000 := by decide +kernel
theorem ks_val : ∀ n (h : n < 7), (KS[2 * n + 1]'(by simp [KS]; omega)).size ≠ 1 := by decide +kernel
set_option maxRecDepth 100000 in
set_option maxHeartbeats 4000000 in
theorem build_at (R : Nat) (ad : Addr) (c : Nat) (w : World) (hR : w.cell? ⟨R, 4, none⟩ = some (.slice (some ad) 16 c)) (hK : ∀ i (h : i < 16), w.cell? (ad.add i) = some (.string (KS[i]'(by simp [KS]; omega)))) (had : ad.block < w.heap.size) :
    Calls Tryz.prog 232 #[.pointer (some ⟨R, 0, none⟩)] w fun e w' => e = .returned (.iface 232 (.pointer (some ⟨w.heap.size, 0, none⟩))) ∧ (∃ t tab, Tr w' w.heap.size t 10 AS tab ∧ Ent w' tab 8) ∧ Below w.heap.size w w' := by
  have HM := Aside0.mk (make_at KS rfl ad c w rfl (fun i h => ⟨hK i (by simpa [KS] using h), ks_small i (by simpa [KS] using h)⟩) had ks_cnt)
  have HK := Aside0.mk hK
  clear hK
  go_enter Tryz.func232, Tryz.ntmps232
  go_wp2
  go_loopg [5] 10 (fun kq v5 wr => ∃ n : Nat, v5 = .int .i64 (2 * (n : Int)) ∧ wr = w ∧ Aside0 (n ≤ 7) ∧ Aside0 (8 < n + kq))
  case atStart => exact ⟨0, rfl, rfl, ⟨by omega⟩, ⟨by omega⟩⟩
  case round =>
    obtain ⟨n, rfl, rfl, HN, HQ⟩ := hrel
    have d3 : 2 * (n : Int) < 16 := by have := HN.out; omega
    have d4 : (2 * (n : Int)).toNat = 2 * n := by omega
    have d7 : 2 * (n : Int) ≤ 14 := by have := HN.out; omega
    have d1 : decide (2 * (n : Int) < 16) = true := decide_eq_true d3
    cases gk with
    | zero => exact absurd HQ.out (by have := HN.out; omega)
    | succ k2 =>
    by_cases hn : n < 7
    · have k0 := HK.out (2 * n) (by omega)
      have k1 := HK.out (2 * n + 1) (by omega)
      have z0 := ks_one n hn
      have z1 := ks_val n hn
      obtain ⟨key, hkey⟩ : ∃ key, KS[2 * n]'(by simp [KS]; omega) = key := ⟨_, rfl⟩
      obtain ⟨val, hval⟩ : ∃ val, KS[2 * n + 1]'(by simp [KS]; omega) = val := ⟨_, rfl⟩
      rw [hkey] at k0 z0
      rw [hval] at k1 z1
      obtain ⟨m, hm⟩ : ∃ m, 2 * n + 1 = m := ⟨_, rfl⟩
      rw [hm] at k1
      have hm1 : 2 * (n : Int) + 1 = (m : Int) := by omega
      have hm2 : (m : Int) < 16 := by omega
      have hm3 : m < 16 := by omega
      have z2 : ((val.size : Int) != 1) = true := by
        rw [bne_iff_ne]; omega
      have HN7 := Aside0.mk hn
      clear z1 hm hkey hval hn
      go_wp2
      go_roundg k2
      case rel => exact ⟨n + 1, by rw [show 2 * (n : Int) + 2 = 2 * ((n + 1 : Nat) : Int) by omega], rfl, HN7, ⟨by have := HQ.out; omega⟩⟩
      case measure => exact Nat.lt_succ_self _
    · have hn8 : n = 7 := by have := HN.out; omega
      have hgen : ∀ (n : Nat) (h : n = 7) (h1 : 2 * n < KS.length), (KS[2 * n]'h1).size = 3 := by
        rintro _ rfl _
        rfl
      have k0 := HK.out (2 * n) (by omega)
      have z0 := hgen n hn8 (by simp [KS]; omega)
      obtain ⟨key, hkey⟩ : ∃ key, KS[2 * n]'(by simp [KS]; omega) = key := ⟨_, rfl⟩
      rw [hkey] at k0 z0
      clear hgen hn8 hn hkey
      go_wp2_with (go_at_call 241; refine HM.out.mono ?_; rintro e w2 ⟨rfl, h1, h2⟩; have H1 := Aside0.mk h1; have H2 := Aside0.mk h2; clear h1 h2)
      go_ret
      exact ⟨rfl, H1.out, H2.out⟩
end Go.Proofs.YteccaekalcjihaaGreatDoor.Repl
set_option linter.unusedVariables false
set_option linter.unusedSimpArgs false
namespace Go.Proofs.YteccaekalcjihaaGreatDoor.Repl
open Go.RowKit Go.Lib Go.Proofs.YteccaekalcjihaaGreatDoor.Buf Go.Proofs.YteccaekalcjihaaGreatDoorW.PrintWords Go.Proofs.YteccaekalcjihaaGreatDoorW.PrintLast Go.Proofs.YteccaekalcjihaaGreatDoorW.PrintMore
def RB (w : World) (R : Nat) (d l : Int) (v o : Value) : Prop := w.heap[R]? = some (.cells #[.int .u32 d, .int .i32 l, .int .u32 0, v, o] 209 (0, 0))
theorem RB.cells {w : World} {R : Nat} {d l : Int} {v o : Value} (h : RB w R d l v o) : w.cell? ⟨R, 0, none⟩ = some (.int .u32 d) ∧ w.cell? ⟨R, 1, none⟩ = some (.int .i32 l) ∧ w.cell? ⟨R, 3, none⟩ = some v ∧ w.cell? ⟨R, 4, none⟩ = some o ∧ ∀ j, w.frozen? ⟨R, j, none⟩ = false := by
  refine ⟨?_, ?_, ?_, ?_, fun j => Lib.frozen_of_heap h j⟩
  all_goals (rw [Lib.cell_of_heap h]; rfl)
theorem RB.set0 {w : World} {R : Nat} {d l : Int} {v o : Value} (h : RB w R d l v o) (x : Int) : RB (w.setCell ⟨R, 0, none⟩ (.int .u32 x)) R x l v o := heap_setCell_self h (j := 0) _
theorem RB.set1 {w : World} {R : Nat} {d l : Int} {v o : Value} (h : RB w R d l v o) (x : Int) : RB (w.setCell ⟨R, 1, none⟩ (.int .i32 x)) R d x v o := heap_setCell_self h (j := 1) _
theorem RB.set3 {w : World} {R : Nat} {d l : Int} {v o : Value} (h : RB w R d l v o) (x : Value) : RB (w.setCell ⟨R, 3, none⟩ x) R d l x o := heap_setCell_self h (j := 3) _
theorem RB.set4 {w : World} {R : Nat} {d l : Int} {v o : Value} (h : RB w R d l v o) (x : Value) : RB (w.setCell ⟨R, 4, none⟩ x) R d l v x := heap_setCell_self h (j := 4) _
def Full (w : World) (g : Nat) : Prop := ∃ t tab, t ≠ g ∧ Tr w g t 10 AS tab ∧ Ent w tab 8
theorem Node.at' {w w' : World} {b : Nat} {v : ByteArray} {p : Int} {pre : ByteArray} {nx tb : Value} (h : Node w b v p pre nx tb) (R : Nat) (hk : Kp (fun k => k = R) w w') (x : Array Value) (hR : w.heap[R]? = some (.cells x 209 (0, 0))) : Node w' b v p pre nx tb := by
  refine (hk.block b (Buf.lt_of_heap h) ?_).trans h
  rintro rfl
  unfold Node at h
  rw [h] at hR
  simp at hR
theorem Full.kp {w w' : World} {g R : Nat} (h : Full w g) (hk : Kp (fun k => k = R) w w') (x : Array Value) (hR : w.heap[R]? = some (.cells x 209 (0, 0))) : Full w' g := by
  obtain ⟨t, tab, hn, ht, he⟩ := h
  have n1 : g ≠ R := by
    rintro rfl
    have := ht.gr.heap
    rw [this] at hR
    simp at hR
  have n2 : t ≠ R := by
    rintro rfl
    have := ht.tb
    rw [this] at hR
    simp at hR
  refine ⟨t, tab, hn, ht.move (hk.block g ht.gr.lt n1) (hk.block t (Buf.lt_of_heap ht.tb) n2), ⟨fun i h7 hi => ?_, fun h8 => ?_, he.free⟩⟩
  · obtain ⟨b, h1, h2⟩ := he.one i h7 hi
    exact ⟨b, h1, h2.at' R hk x hR⟩
  · obtain ⟨b, n2, h1, h2, h3⟩ := he.three h8
    exact ⟨b, n2, h1, h2.at' R hk x hR, h3.at' R hk x hR⟩
set_option maxRecDepth 100000 in
set_option maxHeartbeats 4000000 in
theorem once_at (R : Nat) (ad : Addr) (c : Nat) (v : Value) (w : World) (h : RB w R 0 1 v (.slice (some ad) 16 c)) (hK : ∀ i (h : i < 16), w.cell? (ad.add i) = some (.string (KS[i]'(by simp [KS]; omega)))) (had : ad.block < w.heap.size) :
    Calls Tryz.prog 220 #[.pointer (some ⟨R, 0, none⟩)] w fun e w' => e = .returned (.tuple #[]) ∧ RB w' R 0 1 (.iface 232 (.pointer (some ⟨w.heap.size, 0, none⟩))) (.slice none 0 0) ∧ Full w' w.heap.size ∧ Kp (fun k => k = R) w w' := by
  have HM := Aside0.mk (build_at R ad c w h.cells.2.2.2.1 hK had)
  have HR := Aside0.mk h
  have hlt := Buf.lt_of_heap h
  clear hK h
  go_enter Tryz.func220, Tryz.ntmps220
  go_wp2_with (go_at_call 232; refine HM.out.mono ?_; rintro e w2 ⟨rfl, ⟨t, tab, h1, h2⟩, h3⟩; have hR2 : RB w2 R 0 1 v (.slice (some ad) 16 c) := (h3.block R hlt).trans HR.out; have c3 := hR2.cells.2.2.1; have f3 := hR2.cells.2.2.2.2 3; have c4 := hR2.cells.2.2.2.1; have f4 := hR2.cells.2.2.2.2 4; have HR2 := Aside0.mk hR2; have HF : Aside0 (Full w2 w.heap.size) := ⟨⟨t, tab, h1.ne, h1, h2⟩⟩; have HB := Aside0.mk h3; clear h1 h2 h3 hR2)
  go_end0
  have hk : Kp (fun k => k = R) w2 ((w2.setCell ⟨R, 3, none⟩ (.iface 232 (.pointer (some ⟨w.heap.size, 0, none⟩)))).setCell ⟨R, 4, none⟩ (.slice none 0 0)) := ((Kp.refl (fun k => k = R) w2).setCell (p := ⟨R, 3, none⟩) rfl _).setCell (p := ⟨R, 4, none⟩) rfl _
  exact ⟨rfl, (HR2.out.set3 _).set4 _, HF.out.kp hk _ HR2.out, (Kp.of_below HB.out _).trans (G := fun k => k = R) hk (fun _ _ e => e)⟩
theorem str_cell {w : World} {ad : Addr} {n : Nat} {xs : List ByteArray} (h : Kd.C Kd.string w (some ad) n xs) (i : Nat) (hi : i < xs.length) : w.cell? (ad.add i) = some (.string (xs[i]'hi)) := by
  have hn : xs.length = n := h.1
  obtain ⟨ad', c, e, _, hK, hc0⟩ := Kd.C_get h (⟨#[]⟩ : ByteArray) (i : Int) (by omega) (by omega)
  injection e with e
  subst e
  have := hc0 0 (.string (xs[i]'hi)) (by
    have hg : xs.getD (i : Int).toNat (⟨#[]⟩ : ByteArray) = xs[i]'hi := by simp [List.getD_eq_getElem?_getD, hi]
    rw [hg] at hK
    obtain rfl := hK
    rfl)
  simpa [Kd.string, Kd.scalar] using this
set_option maxRecDepth 100000 in
set_option maxHeartbeats 4000000 in
theorem newReplacer_at (ad : Addr) (c : Nat) (w : World) (hK : ∀ i (h : i < 16), w.cell? (ad.add i) = some (.string (KS[i]'(by simp [KS]; omega)))) (had : ad.block < w.heap.size) :
    Calls Tryz.prog 204 #[.slice (some ad) 16 c] w fun e w' => ∃ R ad1 c1, e = .returned (.pointer (some ⟨R, 0, none⟩)) ∧ RB w' R 0 0 .nilIface (.slice (some ad1) 16 c1) ∧ (∀ i (h : i < 16), w'.cell? (ad1.add i) = some (.string (KS[i]'(by simp [KS]; omega)))) ∧ ad1.block < w'.heap.size ∧ ad1.block ≠ R ∧ w.heap.size ≤ R ∧ Below w.heap.size w w' := by
  have HC : Aside0 (Kd.C Kd.string w (some ad) 16 KS) := ⟨by
    refine Kd.C_of_reads (h1 := fun _ => rfl) (d := ⟨#[]⟩) ⟨rfl, by decide, fun _ => ⟨_, rfl, fun j hj => ?_⟩⟩
    have hj2 : j < KS.length := hj
    rw [hK j hj]
    simp [List.getD_eq_getElem?_getD, hj2]⟩
  have HK := Aside0.mk hK
  clear hK
  go_enter Tryz.func204, Tryz.ntmps204
  go_wp2_with (at_builtin; refine Stop.out (?_ : Stop _))
  refine Stop.mk ?_
  refine Kd.R_append_rows Kd.string (w0 := w) w.heap.size rfl (.const (.slice none 0 0)) (.tmp 8) 65 9 (.string ⟨#[]⟩) 16 rfl Tryz.underlying65 (by kernel_rfl) rfl (by decide) (by decide) (.slice none 0 0) [] KS (some ad) 16 c (fun k => w.heap.size ≤ k) (fun k => w.heap.size ≤ k ∧ some k ≠ (Value.slice none 0 0).ownBlock) rfl rfl (Kd.R_nil _ _ _ _ _) HC.out (fun _ _ h => h) (fun _ hk => hk) (fun _ hk => hk) (Below.refl _ w) (Nat.le_refl _) (by decide) ?_
  intro v1 w1 hr hb hg hat
  obtain ⟨g, cap, rfl, hg1, hg2, _⟩ := Kd.R_form hr (by decide)
  have HR := Aside0.mk (Kd.R_reads' hr).2.2
  have HB := Aside0.mk hb
  have HG := Aside0.mk (And.intro hg1 hg2)
  clear hr hb hg hat
  go_wp2
  go_ret
  refine ⟨w1.heap.size, ⟨g, 0, none⟩, cap, rfl, heap_alloc_new w1 _, fun i h => ?_, ?_, ?_, ?_, HB.out.alloc HB.out.size _⟩
  · exact str_cell (Kd.C_below HR.out ((Below.refl _ w1).alloc (Nat.le_refl _) _)) i (by simpa [KS] using h)
  · have := HG.out.2
    simp
    omega
  · have := HG.out.2
    show g ≠ w1.heap.size
    omega
  · exact HB.out.size
end Go.Proofs.YteccaekalcjihaaGreatDoor.Repl
set_option linter.unusedVariables false
set_option linter.unusedSimpArgs false
namespace Go.Proofs.YteccaekalcjihaaGreatDoor.Repl
open Go.RowKit Go.Lib Go.Proofs.YteccaekalcjihaaGreatDoor.Buf Go.Proofs.YteccaekalcjihaaGreatDoor.PTn Go.Proofs.YteccaekalcjihaaGreatDoorW.PrintWords Go.Proofs.YteccaekalcjihaaGreatDoorW.PrintLast Go.Proofs.YteccaekalcjihaaGreatDoorW.PrintMore
set_option maxRecDepth 100000 in
set_option maxHeartbeats 4000000 in
theorem look_one (g t x b : Nat) (tab : List Value) (s rest : ByteArray) (ch : UInt8) (val : ByteArray) (p : Int) (w : World) (h : Tr w g t 10 AS tab) (hs : ∃ hz : 0 < s.size, s[0]'hz = ch) (hne : s.toList.isEmpty = false) (hrest : s.extract 1 s.size = rest) (hA : AS[ch.toNat]? = some (x : Int)) (hx : x < 10) (ht : tab[x]? = some (.pointer (some ⟨b, 0, none⟩))) (hb : Node w b val p ⟨#[]⟩ (.pointer none) (.slice none 0 0)) (hp : 0 < p) :
    Calls Tryz.prog 301 #[.pointer (some ⟨g, 0, none⟩), .string s, .bool false] w fun e w' => e = .returned (.tuple #[.string val, .int .i64 1, .bool true]) ∧ Below w.heap.size w w' := by
  have r1 := h.gr.root 1 (by decide)
  have r2 := h.gr.root 2 (by decide)
  have r4 := h.gr.root 4 (by decide)
  have k4 : ∀ W : World, (binOp .neq 251 (.slice (some ⟨t, 0, none⟩) 10 10) (.slice none 0 0)).run Tryz.prog W = .ok (.bool true) W := fun W => by kernel_rfl
  have hch : ch.toNat < 256 := ch.toNat_lt
  have hmp := h.gr.map ch.toNat hch
  rw [List.getElem?_eq_getElem (by rw [h.gr.hm]; exact hch)] at hA
  rw [Option.some.inj hA] at hmp
  obtain ⟨c, hc⟩ : ∃ c, ch.toNat = c := ⟨_, rfl⟩
  have k2 : ∀ W : World, (Instr.index 9 (.string s) (.int .i64 0)).run Tryz.prog W = .ok (.int .u8 c) W := fun W => by
    obtain ⟨hz, h0⟩ := hs
    rw [← hc, ← h0]
    exact index_str s 0 hz W
  rw [hc] at hmp hch
  have g3 : (c : Int) < 256 := by omega
  have g4 : (x : Int) < 10 := by omega
  have g5 : (x : Int).toNat = x := by omega
  have z1 := (h.cell x hx).1.trans ht
  obtain ⟨b0, b1, b2, b3, b4, _⟩ := hb.cells
  have hsz : 1 ≤ s.size := hs.choose
  have g6 : (1 : Int) ≤ (s.size : Int) := by omega
  have HREST := Aside0.mk hrest
  have ts := h.gr.size
  have g7 : ((x : Int) == 10) = false := beq_eq_false_iff_ne.mpr (by omega)
  have g8 : decide (0 < p) = true := decide_eq_true hp
  have g9 : decide (p > 0) = true := decide_eq_true hp
  have k9 : ∀ W : World, (binOp .neq 251 (.slice none 0 0) (.slice none 0 0)).run Tryz.prog W = .ok (.bool false) W := fun W => by kernel_rfl
  clear hA hs hc ht hb
  go_enter Tryz.func301, Tryz.ntmps301
  go_wp2
  refine wp_loop_rounds 3 ?_
  rw [rounds_succ]
  go_wp2
  go_region
  go_wp2
  rw [rounds_succ]
  go_wp2
  all_goals (
    go_ret3
    exact ⟨rfl, by repeat (first | exact Below.refl _ _ | apply below_drew)⟩)
set_option maxRecDepth 100000 in
set_option maxHeartbeats 4000000 in
theorem look_three (g t x b n2 : Nat) (tab : List Value) (s rest : ByteArray) (ch : UInt8) (w : World) (h : Tr w g t 10 AS tab) (hs : ∃ hz : 0 < s.size, s[0]'hz = ch) (hne : s.toList.isEmpty = false) (hrest : s.extract 1 s.size = rest) (hA : AS[ch.toNat]? = some (x : Int)) (hx : x < 10) (ht : tab[x]? = some (.pointer (some ⟨b, 0, none⟩))) (hb : Node w b ⟨#[]⟩ 0 k2 (.pointer (some ⟨n2, 0, none⟩)) (.slice none 0 0)) (hp : strings_HasPrefix.f rest k2 = some false) (hr : rest.toList.isEmpty = false) :
    Calls Tryz.prog 301 #[.pointer (some ⟨g, 0, none⟩), .string s, .bool false] w fun e w' => e = .returned (.tuple #[.string ⟨#[]⟩, .int .i64 0, .bool false]) ∧ Below w.heap.size w w' := by
  have r1 := h.gr.root 1 (by decide)
  have r2 := h.gr.root 2 (by decide)
  have r4 := h.gr.root 4 (by decide)
  have k4 : ∀ W : World, (binOp .neq 251 (.slice (some ⟨t, 0, none⟩) 10 10) (.slice none 0 0)).run Tryz.prog W = .ok (.bool true) W := fun W => by kernel_rfl
  have hch : ch.toNat < 256 := ch.toNat_lt
  have hmp := h.gr.map ch.toNat hch
  rw [List.getElem?_eq_getElem (by rw [h.gr.hm]; exact hch)] at hA
  rw [Option.some.inj hA] at hmp
  obtain ⟨c, hc⟩ : ∃ c, ch.toNat = c := ⟨_, rfl⟩
  have kk2 : ∀ W : World, (Instr.index 9 (.string s) (.int .i64 0)).run Tryz.prog W = .ok (.int .u8 c) W := fun W => by
    obtain ⟨hz, h0⟩ := hs
    rw [← hc, ← h0]
    exact index_str s 0 hz W
  rw [hc] at hmp hch
  have g3 : (c : Int) < 256 := by omega
  have g4 : (x : Int) < 10 := by omega
  have g5 : (x : Int).toNat = x := by omega
  have z1 := (h.cell x hx).1.trans ht
  obtain ⟨b0, b1, b2, b3, b4, _⟩ := hb.cells
  have hsz : 1 ≤ s.size := hs.choose
  have g6 : (1 : Int) ≤ (s.size : Int) := by omega
  have HREST := Aside0.mk hrest
  have ts := h.gr.size
  have g7 : ((x : Int) == 10) = false := beq_eq_false_iff_ne.mpr (by omega)
  have HP := Aside0.mk hp
  have k10 : k2.toList.isEmpty = false := by rw [ByteArray.toList_eq]; rfl
  clear hp
  obtain ⟨pre, hpre⟩ : ∃ pre, k2 = pre := ⟨_, rfl⟩
  rw [hpre] at b2 k10 HP
  clear hpre
  have k9 : ∀ W : World, (binOp .neq 251 (.slice none 0 0) (.slice none 0 0)).run Tryz.prog W = .ok (.bool false) W := fun W => by kernel_rfl
  clear hA hs hc ht hb
  go_enter Tryz.func301, Tryz.ntmps301
  go_wp2
  refine wp_loop_rounds 3 ?_
  rw [rounds_succ]
  go_wp2
  go_region
  go_wp2
  rw [rounds_succ]
  go_wp2_with (go_at_call 156; refine (strings_HasPrefix.calls rest pre false _ HP.out).mono ?_; rintro e w1 ⟨rfl, ⟨nd, rfl⟩⟩)
  all_goals (
    go_ret3
    exact ⟨rfl, by repeat (first | exact Below.refl _ _ | apply below_drew | apply pw_below_drewN)⟩)
end Go.Proofs.YteccaekalcjihaaGreatDoor.Repl
set_option linter.unusedVariables false
set_option linter.unusedSimpArgs false
namespace Go.Proofs.YteccaekalcjihaaGreatDoor.Repl
open Go.RowKit Go.Lib Go.Proofs.YteccaekalcjihaaGreatDoorW.PrintWords
set_option maxRecDepth 100000 in
set_option maxHeartbeats 1000000 in
theorem writer_at (a : Addr) (w : World) : Calls Tryz.prog 300 #[.iface 295 (.pointer (some a))] w fun e w' => e = .returned (.iface 295 (.pointer (some a))) ∧ w' = w := by
  have hta : ∀ W : World, (Instr.typeAssert (.iface 295 (.pointer (some a))) 297 299 true).run Tryz.prog W = .ok (.tuple #[.iface 295 (.pointer (some a)), .bool true]) W := fun W => by kernel_rfl
  go_enter Tryz.func300, Tryz.ntmps300
  go_wp2
  go_ret
  exact ⟨rfl, rfl⟩
end Go.Proofs.YteccaekalcjihaaGreatDoor.Repl
set_option linter.unusedVariables false
set_option linter.unusedSimpArgs false
namespace Go.Proofs.YteccaekalcjihaaGreatDoor.Repl
open Go.RowKit Go.Lib Go.Proofs.YteccaekalcjihaaGreatDoor.Buf
def AW (n₀ : Nat) (w : World) (B : Nat) (l : List Value) : Prop := n₀ ≤ B ∧ ∃ v, w.heap[B]? = some (.cells #[v] 294 (0, 0)) ∧ w.ownsRowF 0 5 1 v l.length l ∧ ∀ k, v.ownBlock = some k → n₀ ≤ k ∧ k ≠ B
set_option maxRecDepth 100000 in
set_option maxHeartbeats 1000000 in
theorem write_at (n₀ B : Nat) (l : List Value) (s : ByteArray) (w : World) (h : AW n₀ w B l) (hn : n₀ ≤ w.heap.size) (hlen : l.length + s.size ≤ 1000000000) :
    Calls Tryz.prog 309 #[.pointer (some ⟨B, 0, none⟩), .string s] w fun e w' => e = .returned (.tuple #[.int .i64 s.size, .nilIface]) ∧ AW n₀ w' B (l ++ strCells s) ∧ Below n₀ w w' := by
  obtain ⟨hB, v, hb, hown, hk⟩ := h
  obtain ⟨i0, hi, hz0, hz1, hz2⟩ : ∃ i, Tryz.prog.info? 5 = some i ∧ i.zero = some (.int .u8 0) ∧ i.size = 1 ∧ i.bytes = 1 := ⟨_, rfl, rfl, rfl, rfl⟩
  have c0 : w.cell? ⟨B, 0, none⟩ = some v := by rw [Lib.cell_of_heap hb]; rfl
  have HB := Lib.hid hb
  have HK := Lib.hid hk
  have hb1 : l.length + s.size ≤ 140737488355328 := by omega
  clear hb hk
  go_enter Tryz.func309, Tryz.ntmps309
  go_wp2_with (at_builtin; refine wp_append_str _ rfl _ _ 294 9 rfl 5 i0 Tryz.underlying294 Tryz.underlying9 hi hz0 hz1 hz2 _ _ _ rfl hown s rfl hb1 ?_)
  intro v' w2 hown' hgrow hat
  have hb2 : w2.heap[B]? = some (.cells #[v] 294 (0, 0)) := by
    rw [hgrow.block B (Buf.lt_of_heap HB.out) (fun e => (HK.out B e.symm).2 rfl)]
    exact HB.out
  have d1 : w2.cell? ⟨B, 0, none⟩ = some v := by rw [Lib.cell_of_heap hb2]; rfl
  have f1 : w2.frozen? ⟨B, 0, none⟩ = false := Lib.frozen_of_heap hb2 0
  have hne' : v'.ownBlock ≠ some B := Lib.ownBlock_neF hown' hb2 (by decide)
  have HB2 := Lib.hid hb2
  obtain ⟨ao, n', cap, rfl⟩ : ∃ ao n' cap, v' = .slice ao n' cap := by
    rcases hown'.2 with ⟨hv, _⟩ | ⟨g, cap, cur, fz, hv, _⟩
    · exact ⟨_, _, _, hv⟩
    · exact ⟨_, _, _, hv⟩
  have hlt := Buf.lt_of_heap HB.out
  have hbel : Below n₀ w w2 := ⟨hgrow.os, hgrow.tape, hgrow.output, hgrow.size |> fun h => h, fun k hk => hgrow.block k (by omega) (fun e => by have := (HK.out k e.symm).1; omega)⟩
  clear hb2
  go_wp2
  go_ret2
  refine ⟨rfl, ⟨hB, _, heap_setCell_self HB2.out (j := 0) _, ?_, fun k hk => ⟨?_, fun e => hne' (e ▸ hk)⟩⟩, hbel.setCell (by show n₀ ≤ B; exact hB) _⟩
  · have := ownsF_kp hown' (Kp.setCell (F := fun k => k = B) (p := ⟨B, 0, none⟩) (Kp.refl _ w2) rfl (.slice ao n' cap)) (fun k hk e => hne' (e ▸ hk))
    rw [List.length_append, strCells_length]
    exact this
  · rcases hat k hk with h | h
    · exact (HK.out k h).1
    · omega
end Go.Proofs.YteccaekalcjihaaGreatDoor.Repl
set_option linter.unusedVariables false
set_option linter.unusedSimpArgs false
namespace Go.Proofs.YteccaekalcjihaaGreatDoor.Repl
open Go.RowKit Go.Lib Go.Proofs.YteccaekalcjihaaGreatDoor.Buf Go.Proofs.YteccaekalcjihaaGreatDoor.PTn Go.Proofs.YteccaekalcjihaaGreatDoorW.PrintWords Go.Proofs.YteccaekalcjihaaGreatDoorW.PrintLast Go.Proofs.YteccaekalcjihaaGreatDoorW.PrintMore
theorem Full.below {w w' : World} {g : Nat} (h : Full w g) (hb : Below w.heap.size w w') : Full w' g := by
  obtain ⟨t, tab, hn, ht, he⟩ := h
  refine ⟨t, tab, hn, ht.below hb, ⟨fun i h7 hi => ?_, fun h8 => ?_, he.free⟩⟩
  · obtain ⟨b, h1, h2⟩ := he.one i h7 hi
    exact ⟨b, h1, (hb.block b (Buf.lt_of_heap h2)).trans h2⟩
  · obtain ⟨b, n2, h1, h2, h3⟩ := he.three h8
    exact ⟨b, n2, h1, (hb.block b (Buf.lt_of_heap h2)).trans h2, (hb.block n2 (Buf.lt_of_heap h3)).trans h3⟩
set_option maxRecDepth 100000 in
set_option maxHeartbeats 4000000 in
theorem look_end (g t : Nat) (tab : List Value) (w : World) (h : Tr w g t 10 AS tab) :
    Calls Tryz.prog 301 #[.pointer (some ⟨g, 0, none⟩), .string ⟨#[]⟩, .bool false] w fun e w' => e = .returned (.tuple #[.string ⟨#[]⟩, .int .i64 0, .bool false]) ∧ Below w.heap.size w w' := by
  have r1 := h.gr.root 1 (by decide)
  go_enter Tryz.func301, Tryz.ntmps301
  go_wp2
  refine wp_loop_rounds 3 ?_
  rw [rounds_succ]
  go_wp2
  all_goals (
    go_ret3
    exact ⟨rfl, by repeat (first | exact Below.refl _ _ | apply below_drew)⟩)
end Go.Proofs.YteccaekalcjihaaGreatDoor.Repl
set_option linter.unusedVariables false
set_option linter.unusedSimpArgs false
namespace Go.Proofs.YteccaekalcjihaaGreatDoor.Repl
open Go.RowKit Go.Lib Go.Proofs.YteccaekalcjihaaGreatDoor.Buf Go.Proofs.YteccaekalcjihaaGreatDoor.PTn Go.Proofs.YteccaekalcjihaaGreatDoorW.PrintWords Go.Proofs.YteccaekalcjihaaGreatDoorW.PrintLast Go.Proofs.YteccaekalcjihaaGreatDoorW.PrintMore
def sIn : ByteArray := ⟨#[97, 32, 60, 98, 62, 10, 10, 34, 100, 239, 191, 189]⟩
def mkR : ByteArray := ⟨#[97, 32, 38, 108, 116, 59, 98, 38, 103, 116, 59, 10, 10, 38, 113, 117, 111, 116, 59, 100, 239, 191, 189]⟩
def stt (i : Nat) : Nat × ByteArray := if i ≤ 2 then (0, ⟨#[]⟩) else if i ≤ 4 then (3, ⟨#[97, 32, 38, 108, 116, 59]⟩) else if i ≤ 7 then (5, ⟨#[97, 32, 38, 108, 116, 59, 98, 38, 103, 116, 59]⟩) else (8, ⟨#[97, 32, 38, 108, 116, 59, 98, 38, 103, 116, 59, 10, 10, 38, 113, 117, 111, 116, 59]⟩)
theorem AW.below {n₀ B : Nat} {w w' : World} {l : List Value} (h : AW n₀ w B l) (hb : Below w.heap.size w w') : AW n₀ w' B l := by
  obtain ⟨h1, v, h2, h3, h4⟩ := h
  exact ⟨h1, v, (hb.block B (Buf.lt_of_heap h2)).trans h2, ownsF_kp h3 (Kp.of_below hb (fun _ => False)) (fun _ _ e => e), h4⟩
theorem Node.below {w w' : World} {b : Nat} {v : ByteArray} {p : Int} {pre : ByteArray} {nx tb : Value} (h : Node w b v p pre nx tb) (hb : Below w.heap.size w w') : Node w' b v p pre nx tb := (hb.block b (Buf.lt_of_heap h)).trans h
def bs : List Nat := [97, 32, 60, 98, 62, 10, 10, 34, 100, 239, 191, 189]
theorem bs_at : ∀ i (h : i < 12), (sIn.data[i]?).map UInt8.toNat = some (bs[i]'(by simp [bs]; omega)) := by decide +kernel
theorem in_at (i : Nat) (h : i < 12) (W : World) : (Instr.index 9 (.string sIn) (.int .i64 i)).run Tryz.prog W = .ok (.int .u8 (bs[i]'(by simp [bs]; omega))) W := by
  have hz : i < sIn.size := h
  have h1 := bs_at i h
  rw [index_str sIn i hz W]
  have h2 : sIn.data[i]? = some (sIn[i]'hz) := Array.getElem?_eq_getElem hz
  rw [h2] at h1
  simp only [Option.map_some, Option.some.injEq] at h1
  rw [h1]
def isSkip (i : Nat) : Bool := [0, 1, 3, 5, 6, 8, 11].elem i
theorem skip_at : ∀ i (h : i < 12), isSkip i = true → AS[bs[i]'(by simp [bs]; omega)]? = some 10 ∧ stt (i + 1) = stt i := by decide +kernel
theorem leaf_facts (i : Nat) (hi : i = 2 ∨ i = 4 ∨ i = 7) : ∃ (k : Nat) (h7 : k < 7), (∃ hz : 0 < (sIn.extract i 12).size, (sIn.extract i 12)[0]'hz = kb[k]'h7) ∧ (sIn.extract i 12).toList.isEmpty = false ∧ (kb[k]'h7).toNat = bs.getD i 0 ∧ (stt i).1 ≤ i ∧ strCells (stt i).2 ++ strCells (sIn.extract (stt i).1 i) ++ strCells (KS[2 * k + 1]'(by simp [KS]; omega)) = strCells (stt (i + 1)).2 ∧ (stt (i + 1)).1 = i + 1 ∧ (stt i).2.size ≤ 100 ∧ (sIn.extract (stt i).1 i).size ≤ 12 ∧ (KS[2 * k + 1]'(by simp [KS]; omega)).size ≤ 12 := by
  rcases hi with rfl | rfl | rfl
  · exact ⟨1, by decide, ⟨by decide +kernel, by decide +kernel⟩, by rw [ByteArray.toList_eq]; rfl, by decide +kernel, by decide +kernel, by rfl, by decide +kernel, by decide +kernel, by decide +kernel, by decide +kernel⟩
  · exact ⟨2, by decide, ⟨by decide +kernel, by decide +kernel⟩, by rw [ByteArray.toList_eq]; rfl, by decide +kernel, by decide +kernel, by rfl, by decide +kernel, by decide +kernel, by decide +kernel, by decide +kernel⟩
  · exact ⟨3, by decide, ⟨by decide +kernel, by decide +kernel⟩, by rw [ByteArray.toList_eq]; rfl, by decide +kernel, by decide +kernel, by rfl, by decide +kernel, by decide +kernel, by decide +kernel, by decide +kernel⟩
theorem str_slice (s : ByteArray) (i j : Nat) (hij : i ≤ j) (hj : j ≤ s.size) (W : World) : (Instr.slice 9 (.string s) (some (.int .i64 i)) (some (.int .i64 j)) none).run Tryz.prog W = .ok (.string (s.extract i j)) W := by
  have := run_slice_string (P := Tryz.prog) W 9 s .i64 .i64 i j Tryz.underlying9 (by omega) (by omega) (by omega)
  simpa using this
theorem str_slice_l (s : ByteArray) (i : Nat) (hi : i ≤ s.size) (W : World) : (Instr.slice 9 (.string s) (some (.int .i64 i)) none none).run Tryz.prog W = .ok (.string (s.extract i s.size)) W := by
  have := run_slice_string_l (P := Tryz.prog) W 9 s Tryz.underlying9 .i64 i (by omega) (by omega)
  simpa using this
set_option maxRecDepth 100000 in
set_option maxHeartbeats 4000000 in
theorem writeG_at (s : ByteArray) (hs : s = sIn) (B g : Nat) (w0 w : World) (hF : Full w0 g) (hb : Below w0.heap.size w0 w) (hA : AW w0.heap.size w B []) :
    Calls Tryz.prog 299 #[.pointer (some ⟨g, 0, none⟩), .iface 295 (.pointer (some ⟨B, 0, none⟩)), .string s] w fun e w' => (∃ v1 v2, e = .returned (.tuple #[v1, v2])) ∧ AW w0.heap.size w' B (strCells mkR) ∧ Below w0.heap.size w0 w' := by
  have HF := Aside0.mk hF
  have HB := Aside0.mk hb
  have HA := Aside0.mk hA
  have hsz : s.size = 12 := by rw [hs]; rfl
  have HSI := Aside0.mk hs
  clear hF hb hA hs
  go_enter Tryz.func299, Tryz.ntmps299
  go_wp2_with (go_at_call 300; refine (writer_at _ _).mono ?_; rintro e w1 ⟨rfl, rfl⟩)
  go_loopg [6, 7, 9, 11, 12] 20 (fun kq v6 v7 v9 v11 v12 wr => ∃ (i : Nat) (n : Nat), v6 = .int .i64 n ∧ v7 = .nilIface ∧ v9 = .int .i64 (stt i).1 ∧ v11 = .bool false ∧ v12 = .int .i64 i ∧ Aside0 (i ≤ 13) ∧ Aside0 (13 < i + kq) ∧ Aside0 (n ≤ 100 * i) ∧ Aside0 (AW w0.heap.size wr B (strCells (stt i).2)) ∧ Aside0 (Below w0.heap.size w0 wr))
  case atStart => exact ⟨0, 0, rfl, rfl, rfl, rfl, rfl, ⟨by omega⟩, ⟨by omega⟩, ⟨by omega⟩, HA, HB⟩
  case round =>
    obtain ⟨i, n, rfl, rfl, rfl, rfl, rfl, HI, HQ, HN, HA, HB⟩ := hrel
    cases gk with
    | zero => exact absurd HQ.out (by have := HI.out; omega)
    | succ kq =>
    obtain ⟨t, tab, hn, hT, hE⟩ := HF.out.below HB.out
    have r1 := hT.gr.root 1 (by decide)
    have r4 := hT.gr.root 4 (by decide)
    have ts := hT.gr.size
    have HT := Aside0.mk hT
    have HE := Aside0.mk hE
    clear hT hE hn
    by_cases hi : i < 12
    · have d1 : decide ((i : Int) ≤ 12) = true := decide_eq_true (by omega)
      have d3 : (i : Int) ≤ 12 := by omega
      have d2 : ((i : Int) != 12) = true := bne_iff_ne.mpr (by omega)
      have d4 : ((i : Int) == 12) = false := beq_eq_false_iff_ne.mpr (by omega)
      have d5 : (i == 12) = false := beq_eq_false_iff_ne.mpr (by omega)
      have d6 : ¬ ((i : Int) = 12) := by omega
      have d7 : ¬ (i = 12) := by omega
      have hin := in_at i hi
      obtain ⟨c, hc⟩ : ∃ c, bs[i]'(by simp [bs]; omega) = c := ⟨_, rfl⟩
      rw [← HSI.out, hc] at hin
      have hc256 : c < 256 := by
        rw [← hc]
        exact (by decide : ∀ i (h : i < 12), bs[i]'(by simp [bs]; omega) < 256) i hi
      have hmp := HT.out.gr.map c hc256
      have g3 : (c : Int) < 256 := by omega
      by_cases hsk : isSkip i = true
      · obtain ⟨k1, k2⟩ := skip_at i hi hsk
        rw [hc, List.getElem?_eq_getElem (by rw [HT.out.gr.hm]; exact hc256)] at k1
        rw [Option.some.inj k1] at hmp
        have HS2 := Aside0.mk k2
        clear k1 k2 hsk hc
        go_wp2
        go_region
        go_wp2
        go_roundg kq
        case rel => exact ⟨i + 1, n, rfl, rfl, by rw [HS2.out], rfl, rfl, ⟨by omega⟩, ⟨by have := HQ.out; omega⟩, ⟨by have := HN.out; omega⟩, ⟨by rw [HS2.out]; exact HA.out⟩, ⟨below_drew HB.out⟩⟩
        case measure => exact Nat.lt_succ_self _
      · by_cases hi10 : i = 10
        · have k1 : AS[c]? = some 8 := by
            rw [← hc]
            exact (by decide +kernel : ∀ i (h : i < 12), i = 10 → AS[bs[i]'(by simp [bs]; omega)]? = some 8) i hi hi10
          have k2 : stt (i + 1) = stt i := by rw [hi10]; rfl
          rw [List.getElem?_eq_getElem (by rw [HT.out.gr.hm]; exact hc256)] at k1
          rw [Option.some.inj k1] at hmp
          have z1 := (HT.out.cell 8 (by omega)).1.trans (HE.out.free 8 (by omega) ((by decide : ∀ i (h : i < 8), i < 8 → xs[i]'(by simp [xs]; omega) ≠ 8)))
          have k5 : ∀ W : World, (binOp .eql 250 (.pointer none) (.pointer none)).run Tryz.prog W = .ok (.bool true) W := fun W => by kernel_rfl
          have HS2 := Aside0.mk k2
          clear k1 k2 hsk hc hi10
          go_wp2
          go_region
          go_wp2
          go_roundg kq
          case rel => exact ⟨i + 1, n, rfl, rfl, by rw [HS2.out], rfl, rfl, ⟨by omega⟩, ⟨by have := HQ.out; omega⟩, ⟨by have := HN.out; omega⟩, ⟨by rw [HS2.out]; exact HA.out⟩, ⟨below_drew HB.out⟩⟩
          case measure => exact Nat.lt_succ_self _
        · by_cases hi9 : i = 9
          · obtain ⟨b, n2, ht, hb, _⟩ := HE.out.three rfl
            have hA : AS[c]? = some 9 := by
              rw [← hc]
              exact (by decide +kernel : ∀ i (h : i < 12), i = 9 → AS[bs[i]'(by simp [bs]; omega)]? = some 9) i hi hi9
            rw [List.getElem?_eq_getElem (by rw [HT.out.gr.hm]; exact hc256)] at hA
            rw [Option.some.inj hA] at hmp
            have z1 := (HT.out.cell 9 (by omega)).1.trans ht
            have k5 : ∀ W : World, (binOp .eql 250 (.pointer (some ⟨b, 0, none⟩)) (.pointer none)).run Tryz.prog W = .ok (.bool false) W := fun W => by kernel_rfl
            have k3s : ∀ W : World, (Instr.slice 9 (.string s) (some (.int .i64 i)) none none).run Tryz.prog W = .ok (.string (sIn.extract 9 12)) W := fun W => by rw [HSI.out, hi9]; exact str_slice_l sIn 9 (by decide) W
            have HS2 : Aside0 (stt (i + 1) = stt i) := ⟨by rw [hi9]; rfl⟩
            have HT9 := Aside0.mk ht
            have HB9 := Aside0.mk hb
            obtain ⟨tl, htl⟩ : ∃ v, sIn.extract 9 12 = v := ⟨_, rfl⟩
            have HTL := Aside0.mk htl
            rw [htl] at k3s
            clear hb ht hA hsk hi10 hc hi9 htl
            go_wp2
            go_region
            go_wp2_with ((go_at_call 301; refine (look_three g t 9 b n2 tab tl (tl.extract 1 tl.size) 239 _ (HT.out.below (by repeat (first | exact Below.refl _ _ | apply below_drew))) (by rw [← HTL.out]; exact ⟨by decide +kernel, by decide +kernel⟩) (by rw [← HTL.out, ByteArray.toList_eq]; rfl) rfl as_239 (by omega) HT9.out ((HB9.out.below (by repeat (first | exact Below.refl _ _ | apply below_drew)))) (by rw [← HTL.out]; kernel_rfl) (by rw [← HTL.out, ByteArray.toList_eq]; rfl)).mono ?_; rintro e w3 ⟨rfl, hb3⟩; have HB3 := Aside0.mk ((below_drew HB.out).trans (hb3.mono (below_drew HB.out).size)); have HA3 : Aside0 (AW w0.heap.size w3 B (strCells (stt i).2)) := ⟨(show AW w0.heap.size wr.drew B (strCells (stt i).2) from HA.out).below hb3⟩; clear hb3))
            go_roundg kq
            case rel => exact ⟨i + 1, n, rfl, rfl, by rw [HS2.out], rfl, rfl, ⟨by omega⟩, ⟨by have := HQ.out; omega⟩, ⟨by have := HN.out; omega⟩, ⟨by rw [HS2.out]; exact HA3.out⟩, HB3⟩
            case measure => exact Nat.lt_succ_self _
          · obtain ⟨k, h7, ⟨hz, hch⟩, hne, hkb, hle, hcat, hst, l1, l2, l3⟩ := leaf_facts i (by
              have : ∀ i (h : i < 12), isSkip i = false → i ≠ 10 → i ≠ 9 → i = 2 ∨ i = 4 ∨ i = 7 := by decide +kernel
              exact this i hi (by simpa using hsk) hi10 hi9)
            have hA := as_at k h7
            obtain ⟨x, hx⟩ : ∃ x, xs[k]'(by simp [xs]; omega) = x := ⟨_, rfl⟩
            have hx10 : x < 10 := by rw [← hx]; exact xs_lt k (by omega)
            obtain ⟨b, ht, hb⟩ := HE.out.one k h7 (by omega)
            rw [hx] at hA ht
            have hck : (kb[k]'h7).toNat = c := by
              rw [hkb, ← hc]
              simp [List.getD_eq_getElem?_getD, show i < bs.length from hi]
            have HA0 := Aside0.mk hA
            rw [hck, List.getElem?_eq_getElem (by rw [HT.out.gr.hm]; exact hc256)] at hA
            rw [Option.some.inj hA] at hmp
            have z1 := (HT.out.cell x hx10).1.trans ht
            have k5 : ∀ W : World, (binOp .eql 250 (.pointer (some ⟨b, 0, none⟩)) (.pointer none)).run Tryz.prog W = .ok (.bool false) W := fun W => by kernel_rfl
            have g4 : (x : Int) < 10 := by omega
            have g5 : (x : Int).toNat = x := by omega
            have g7 : ((x : Int) == 10) = false := beq_eq_false_iff_ne.mpr (by omega)
            obtain ⟨last, hlast⟩ : ∃ m, (stt i).1 = m := ⟨_, rfl⟩
            rw [hlast] at hle hcat l2
            obtain ⟨val, hval⟩ : ∃ v, KS[2 * k + 1]'(by simp [KS]; omega) = v := ⟨_, rfl⟩
            rw [hval] at hb hcat l3
            have k3s : ∀ W : World, (Instr.slice 9 (.string s) (some (.int .i64 i)) none none).run Tryz.prog W = .ok (.string (sIn.extract i 12)) W := fun W => by rw [HSI.out]; exact str_slice_l sIn i (show i ≤ 12 by omega) W
            have k4s : ∀ W : World, (Instr.slice 9 (.string s) (some (.int .i64 (stt i).1)) (some (.int .i64 i)) none).run Tryz.prog W = .ok (.string (sIn.extract last i)) W := fun W => by rw [HSI.out, hlast]; exact str_slice sIn last i hle (show i ≤ 12 by omega) W
            obtain ⟨seg, hseg⟩ : ∃ v, sIn.extract last i = v := ⟨_, rfl⟩
            rw [hseg] at hcat l2 k4s
            obtain ⟨tl, htl⟩ : ∃ v, sIn.extract i 12 = v := ⟨_, rfl⟩
            have HCH : Aside0 (∃ hz : 0 < tl.size, tl[0]'hz = kb[k]'h7) := ⟨by subst htl; exact ⟨hz, hch⟩⟩
            rw [htl] at hne k3s
            have HT9 := Aside0.mk ht
            have HB9 := Aside0.mk hb
            have HCAT := Aside0.mk hcat
            have HST := Aside0.mk hst
            have HL1 := Aside0.mk l1
            have hna : ∀ W : World, (nilAhead 405 295 (.pointer (some ⟨B, 0, none⟩)) "WriteString").run Tryz.prog W = .ok (some false) W := fun W => by kernel_rfl
            have i13 : (i : Int) ≤ 13 := by omega
            have n13 : (n : Int) ≤ 1300 := by have := HN.out; omega
            have hpos : (0 : Int) < 16 - 2 * (k : Int) := by omega
            clear hb ht hA hsk hi10 hi9 hz hch hkb hcat hst hval hseg htl hlast hx hck hc l1
            go_wp2
            go_region
            go_wp2_with ((go_at_call 301; refine (look_one g t x b tab tl (tl.extract 1 tl.size) (kb[k]'h7) val _ _ (HT.out.below (by repeat (first | exact Below.refl _ _ | apply below_drew))) HCH.out hne rfl HA0.out hx10 HT9.out (HB9.out.below (by repeat (first | exact Below.refl _ _ | apply below_drew))) hpos).mono ?_; rintro e w3 ⟨rfl, hb3⟩; have HB3 := Aside0.mk ((below_drew HB.out).trans (hb3.mono (below_drew HB.out).size)); have HA3 : Aside0 (AW w0.heap.size w3 B (strCells (stt i).2)) := ⟨(show AW w0.heap.size wr.drew B (strCells (stt i).2) from HA.out).below hb3⟩; clear hb3))
            go_region_with (go_at_call 309; refine (write_at w0.heap.size B (strCells (stt i).2) seg w3.drew HA3.out HB3.out.size (by rw [strCells_length]; have := HL1.out; omega)).mono ?_; rintro e w4 ⟨rfl, hA4, hb4⟩; have HA4 := Aside0.mk hA4; have HB4 := Aside0.mk ((below_drew HB3.out).trans hb4); clear hA4 hb4)
            go_wp2_with (go_at_call 309; refine (write_at w0.heap.size B (strCells (stt i).2 ++ strCells seg) val _ HA4.out HB4.out.size (by rw [List.length_append, strCells_length, strCells_length]; have := HL1.out; omega)).mono ?_; rintro e w5 ⟨rfl, hA5, hb5⟩; have HA5 : Aside0 (AW w0.heap.size w5 B (strCells (stt (i + 1)).2)) := ⟨HCAT.out ▸ hA5⟩; have HB5 := Aside0.mk (HB4.out.trans hb5); clear hA5 hb5)
            go_roundg kq
            case rel => exact ⟨i + 1, n + seg.size + val.size, rfl, rfl, by rw [HST.out]; rfl, rfl, rfl, ⟨by omega⟩, ⟨by have := HQ.out; omega⟩, ⟨by have := HN.out; omega⟩, HA5, HB5⟩
            case measure => exact Nat.lt_succ_self _
    · by_cases h12 : i = 12
      · subst h12
        have k3s : ∀ W : World, (Instr.slice 9 (.string s) (some (.int .i64 12)) none none).run Tryz.prog W = .ok (.string ⟨#[]⟩) W := fun W => by rw [HSI.out]; kernel_rfl
        clear hi
        go_wp2_with (go_at_call 301; refine (look_end g t tab _ HT.out).mono ?_; rintro e w3 ⟨rfl, hb3⟩; have HB3 := Aside0.mk (HB.out.trans (hb3.mono HB.out.size)); have HA3 : Aside0 (AW w0.heap.size w3 B (strCells (stt 12).2)) := ⟨HA.out.below hb3⟩; clear hb3)
        go_roundg kq
        case rel => exact ⟨13, n, rfl, rfl, rfl, rfl, rfl, ⟨by omega⟩, ⟨by have := HQ.out; omega⟩, ⟨by have := HN.out; omega⟩, HA3, HB3⟩
        case measure => exact Nat.lt_succ_self _
      · have h13 : i = 13 := by have := HI.out; omega
        have e1 : (stt i).1 = 8 := by rw [h13]; rfl
        obtain ⟨out, hout⟩ : ∃ v, (stt i).2 = v := ⟨_, rfl⟩
        obtain ⟨tl, htl⟩ : ∃ v, sIn.extract 8 12 = v := ⟨_, rfl⟩
        have HO : Aside0 (AW w0.heap.size wr B (strCells out)) := ⟨hout ▸ HA.out⟩
        have HCAT : Aside0 (strCells out ++ strCells tl = strCells mkR) := ⟨by rw [← htl, ← hout, h13]; rfl⟩
        have HL : Aside0 (out.size + tl.size ≤ 100) := ⟨by rw [← htl, ← hout, h13]; decide +kernel⟩
        have ltl : tl.size ≤ 100 := by have := HL.out; omega
        have k3s : ∀ W : World, (Instr.slice 9 (.string s) (some (.int .i64 8)) none none).run Tryz.prog W = .ok (.string tl) W := fun W => by rw [HSI.out, ← htl]; exact str_slice_l sIn 8 (by decide) W
        have hna : ∀ W : World, (nilAhead 405 295 (.pointer (some ⟨B, 0, none⟩)) "WriteString").run Tryz.prog W = .ok (some false) W := fun W => by kernel_rfl
        have n13 : (n : Int) ≤ 1300 := by have := HN.out; omega
        have d1 : decide ((i : Int) ≤ 12) = false := decide_eq_false (by omega)
        have d2 : ¬ ((i : Int) ≤ 12) := by omega
        rw [e1]
        clear hi h12 htl hout e1 h13
        go_wp2
        go_region_with (go_at_call 309; refine (write_at w0.heap.size B (strCells out) tl wr.drew HO.out HB.out.size (by rw [strCells_length]; have := HL.out; omega)).mono ?_; rintro e w4 ⟨rfl, hA4, hb4⟩; have HA4 : Aside0 (AW w0.heap.size w4 B (strCells mkR)) := ⟨HCAT.out ▸ hA4⟩; have HB4 := Aside0.mk ((below_drew HB.out).trans hb4); clear hA4 hb4)
        all_goals (
          go_wp2
          go_ret2
          exact ⟨⟨_, _, rfl⟩, HA4.out, HB4.out⟩)
end Go.Proofs.YteccaekalcjihaaGreatDoor.Repl
set_option linter.unusedVariables false
set_option linter.unusedSimpArgs false
namespace Go.Proofs.YteccaekalcjihaaGreatDoor.Repl
open Go.RowKit Go.Lib Go.Proofs.YteccaekalcjihaaGreatDoor.Buf Go.Proofs.YteccaekalcjihaaGreatDoorW.PrintWords Go.Proofs.YteccaekalcjihaaGreatDoorW.PrintLast Go.Proofs.YteccaekalcjihaaGreatDoorW.PrintMore
def Says (s r : ByteArray) : Prop := ∀ (W : World) (g : Nat), Full W g → Calls Tryz.prog 298 #[.pointer (some ⟨g, 0, none⟩), .string s] W fun e w' => e = .returned (.string r) ∧ Below W.heap.size W w'
set_option maxRecDepth 100000 in
set_option maxHeartbeats 4000000 in
theorem replace_at (s r : ByteArray) (hs : Says s r) (R : Nat) (ad : Addr) (c : Nat) (w : World) (h : RB w R 0 0 .nilIface (.slice (some ad) 16 c)) (hK : ∀ i (h : i < 16), w.cell? (ad.add i) = some (.string (KS[i]'(by simp [KS]; omega)))) (had : ad.block < w.heap.size) (hne : ad.block ≠ R) :
    Calls Tryz.prog 205 #[.pointer (some ⟨R, 0, none⟩), .string s] w fun e w' => e = .returned (.string r) ∧ Kp (fun k => k = R) w w' := by
  have hsz : (w.setCell ⟨R, 1, none⟩ (.int .i32 1)).heap.size = w.heap.size := by simp [World.setCell]
  have hK1 : ∀ i (h : i < 16), (w.setCell ⟨R, 1, none⟩ (.int .i32 1)).cell? (ad.add i) = some (.string (KS[i]'(by simp [KS]; omega))) := fun i h => by
    rw [World.cell?_setCell_other _ ⟨R, 1, none⟩ (ad.add i) _ (fun e => hne (by
      have := congrArg Addr.block e
      unfold Addr.add at this
      split at this <;> simpa using this.symm))]
    exact hK i h
  have hF := once_at R ad c .nilIface (w.setCell ⟨R, 1, none⟩ (.int .i32 1)) (h.set1 1) hK1 (by rw [hsz]; exact had)
  rw [hsz] at hF
  have hD := (Once.do_any R 0 ⟨R, 0, none⟩ w (fun w2 => RB w2 R 0 1 (.iface 232 (.pointer (some ⟨w.heap.size, 0, none⟩))) (.slice none 0 0) ∧ Full w2 w.heap.size ∧ Kp (fun k => k = R) (w.setCell ⟨R, 1, none⟩ (.int .i32 1)) w2) h.cells.1 h.cells.2.1 (h.cells.2.2.2.2 0) (h.cells.2.2.2.2 1) (hF.mono (by
    rintro e w2 ⟨rfl, h1, h2, h3⟩
    exact ⟨rfl, ⟨h1.cells.1, h1.cells.2.1, h1.cells.2.2.2.2 0, h1.cells.2.2.2.2 1⟩, h1, h2, h3⟩))).mono (R' := fun e w1 => e = .returned (.tuple #[]) ∧ RB w1 R 1 0 (.iface 232 (.pointer (some ⟨w.heap.size, 0, none⟩))) (.slice none 0 0) ∧ Full w1 w.heap.size ∧ Kp (fun k => k = R) w w1) (by
    rintro e w1 ⟨rfl, w2, ⟨h1, h2, h3⟩, _, rfl⟩
    have hkp : Kp (fun k => k = R) w2 ((w2.drew.setCell ⟨R, 0, none⟩ (.int .u32 1)).setCell ⟨R, 1, none⟩ (.int .i32 0)) := ((Kp.refl (fun k => k = R) w2).drew.setCell (p := ⟨R, 0, none⟩) rfl _).setCell (p := ⟨R, 1, none⟩) rfl _
    exact ⟨rfl, (RB.set0 (w := w2.drew) h1 1).set1 0, h2.kp hkp _ h1, (((Kp.refl (fun k => k = R) w).setCell (p := ⟨R, 1, none⟩) rfl (.int .i32 1)).trans (G := fun k => k = R) h3 (fun _ _ e => e)).trans (G := fun k => k = R) hkp (fun _ _ e => e)⟩)
  have HD := Aside0.mk hD
  clear hD
  have hmf : ∀ (fn : Fn) (first cap : Array Value) (w : World), (Instr.makeFunc fn first cap).run Tryz.prog w = .ok (.func fn first cap) w := fun _ _ _ _ => rfl
  have HS := Aside0.mk hs
  have HR := Aside0.mk h
  clear hF hK1 hK hs h
  go_enter Tryz.func205, Tryz.ntmps205
  go_wp2_with (first | (go_at_call 219; refine HD.out.mono ?_; rintro e w1 ⟨rfl, h1, h2, h3⟩; have c3 := h1.cells.2.2.1; have HF := Aside0.mk h2; have HK := Aside0.mk h3; clear h1 h2 h3) | (go_at_call 298; refine (HS.out _ _ HF.out).mono ?_; rintro e w2 ⟨rfl, hb⟩; have HB := Aside0.mk hb; clear hb))
  go_ret
  exact ⟨rfl, HK.out.trans (G := fun k => k = R) (Kp.of_below HB.out _) (fun _ _ e => e)⟩
end Go.Proofs.YteccaekalcjihaaGreatDoor.Repl
set_option linter.unusedVariables false
set_option linter.unusedSimpArgs false
namespace Go.Proofs.YteccaekalcjihaaGreatDoor.Repl
open Go.RowKit Go.Lib Go.Proofs.YteccaekalcjihaaGreatDoor.Buf Go.Proofs.YteccaekalcjihaaGreatDoor.PTn Go.Proofs.YteccaekalcjihaaGreatDoorW.PrintWords Go.Proofs.YteccaekalcjihaaGreatDoorW.PrintLast Go.Proofs.YteccaekalcjihaaGreatDoorW.PrintMore
def row12 : Array Value := (List.replicate 12 (Value.int .u8 0)).toArray
set_option maxRecDepth 100000 in
theorem makes12 (W : World) : (Instr.makeSlice 294 (.int .i64 0) (.int .i64 12)).run Tryz.prog W = .ok (.slice (some ⟨W.heap.size, 0, none⟩) 0 12) (W.alloc (.cells row12 5)) := by kernel_rfl
theorem add_plain (g j : Nat) : (⟨g, 0, none⟩ : Addr).add j = ⟨g, j, none⟩ := by
  unfold Addr.add
  split <;> simp_all
theorem back_at {w : World} {v : Value} {n : Nat} (s : ByteArray) (h : w.ownsRowF 0 5 1 v n (strCells s)) (hs : 0 < s.size) : (convert 294 9 v).run Tryz.prog w = .ok (.string s) w := by
  obtain ⟨h1, h2⟩ := h
  rw [strCells_length] at h1
  rcases h2 with ⟨_, h0⟩ | ⟨gg, cap, cur, fz, rfl, _, hg, _, hle, _, hsz, htk⟩
  · omega
  · have hn : n = s.data.toList.length := by rw [Array.length_toList]; show n = s.size; omega
    have := run_convert_bytes_back (P := Tryz.prog) w 294 9 5 ⟨gg, 0, none⟩ cap s.data.toList Tryz.underlying294 Tryz.underlying5 Tryz.underlying9 (fun j hj => by
      have hadd : (⟨gg, 0, none⟩ : Addr).add j = ⟨gg, j, none⟩ := by exact add_plain gg j
      rw [hadd, Lib.cell_of_heap hg]
      have hj2 : j < (strCells s).length := by rw [strCells_length]; simpa using hj
      have h3 : (strCells s)[j]? = some (.int .u8 (s.data.toList[j].toNat : Int)) := by
        unfold strCells
        rw [List.getElem?_map, List.getElem?_eq_getElem hj]
        rfl
      rw [← htk, List.getElem?_take, if_pos (by omega)] at h3
      simpa using h3)
    rw [hn]
    simpa using this
theorem aw_new (W : World) : AW W.heap.size ((W.alloc (.cells row12 5)).alloc (.cells #[.slice (some ⟨W.heap.size, 0, none⟩) 0 12] 294)) (W.heap.size + 1) (strCells ⟨#[]⟩) := by
  refine ⟨Nat.le_succ _, .slice (some ⟨W.heap.size, 0, none⟩) 0 12, ?_, ⟨rfl, .inr ⟨W.heap.size, 12, row12, (0, 0), rfl, Nat.zero_le _, ?_, Nat.le_refl _, Nat.zero_le _, by decide, rfl, rfl⟩⟩, ?_⟩
  · have := heap_alloc_new (W.alloc (.cells row12 5)) (.cells #[.slice (some ⟨W.heap.size, 0, none⟩) 0 12] 294)
    simpa using this
  · exact (Lib.alloc_old _ _ _ (by simp)).trans (heap_alloc_new W _)
  · intro k hk
    obtain rfl : W.heap.size = k := Option.some.inj hk
    exact ⟨Nat.le_refl _, by omega⟩
theorem below_new (W : World) : Below W.heap.size W ((W.alloc (.cells row12 5)).alloc (.cells #[.slice (some ⟨W.heap.size, 0, none⟩) 0 12] 294)) := ((Below.refl _ _).alloc (Nat.le_refl _) _).alloc (by simp) _
theorem AW.cell {n₀ B : Nat} {w : World} {s : ByteArray} (h : AW n₀ w B (strCells s)) (hs : 0 < s.size) : ∃ v, w.cell? ⟨B, 0, none⟩ = some v ∧ (∃ a n c, v = .slice a n c) ∧ (convert 294 9 v).run Tryz.prog w = .ok (.string s) w := by
  obtain ⟨_, v, h1, h2, _⟩ := h
  refine ⟨v, by rw [Lib.cell_of_heap h1]; rfl, ?_, back_at s h2 hs⟩
  rcases h2.2 with ⟨hv, _⟩ | ⟨g, cap, cur, fz, hv, _⟩
  · exact ⟨_, _, _, hv⟩
  · exact ⟨_, _, _, hv⟩
set_option maxRecDepth 100000 in
set_option maxHeartbeats 4000000 in
theorem says_at (s : ByteArray) (hs : s = sIn) : Says s mkR := by
  intro W g hF
  have HF := Aside0.mk hF
  have hsz : s.size = 12 := by rw [hs]; rfl
  have HSI := Aside0.mk hs
  clear hF hs
  have kmk := makes12
  go_enter Tryz.func298, Tryz.ntmps298
  have HA0 := Aside0.mk (aw_new W)
  have HB0 := Aside0.mk (below_new W)
  go_wp2_with (go_at_call 299; refine (writeG_at s HSI.out (W.heap.size + 1) g W _ HF.out HB0.out HA0.out).mono ?_; rintro e w1 ⟨⟨v1, v2, rfl⟩, hA, hb⟩; obtain ⟨v, hc, ⟨a, n, c, rfl⟩, hv⟩ := AW.cell hA (by decide); have HB := Aside0.mk hb; clear hA hb)
  go_ret
  exact ⟨rfl, HB.out⟩
end Go.Proofs.YteccaekalcjihaaGreatDoor.Repl
set_option linter.unusedVariables false
set_option linter.unusedSimpArgs false
namespace Go.Proofs.YteccaekalcjihaaGreatDoor.Repl
open Go.RowKit Go.Lib Go.Proofs.YteccaekalcjihaaGreatDoor.Buf Go.Proofs.YteccaekalcjihaaGreatDoor.PTn Go.Proofs.YteccaekalcjihaaGreatDoorW.PrintWords Go.Proofs.YteccaekalcjihaaGreatDoorW.PrintLast Go.Proofs.YteccaekalcjihaaGreatDoorW.PrintMore
set_option maxRecDepth 100000 in
set_option maxHeartbeats 4000000 in
theorem rep_at (s r : ByteArray) (hs : Says s r) (ad : Addr) (c : Nat) (w : World) (hK : ∀ i (h : i < 16), w.cell? (ad.add i) = some (.string (KS[i]'(by simp [KS]; omega)))) (had : ad.block < w.heap.size) :
    Calls Tryz.prog 184 #[.string s, .slice (some ad) 16 c] w fun e w' => e = .returned (.string r) ∧ Below w.heap.size w w' := by
  have HN := Aside0.mk (newReplacer_at ad c w hK had)
  have HS := Aside0.mk hs
  clear hK hs
  go_enter Tryz.func184, Tryz.ntmps184
  go_wp2_with (first | (go_at_call 204; refine HN.out.mono ?_; rintro e w1 ⟨R, ad1, c1, rfl, h1, h2, h3, h4, h5, h6⟩; have H1 := Aside0.mk h1; have H2 := Aside0.mk h2; have H3 := Aside0.mk h3; have H4 := Aside0.mk h4; have H5 := Aside0.mk h5; have H6 := Aside0.mk h6; clear h1 h2 h3 h4 h5 h6) | (go_at_call 205; refine (replace_at s r HS.out R ad1 c1 _ H1.out H2.out H3.out H4.out).mono ?_; rintro e w2 ⟨rfl, hk⟩; have HK := Aside0.mk hk; clear hk))
  go_ret
  exact ⟨rfl, H6.out.trans (HK.out.below H6.out.size (fun k hk e => by have := H5.out; omega))⟩
theorem rowk (W : World) : ∀ i (h : i < 16), (W.alloc (.cells (KS.map Value.string).toArray 9)).cell? ((⟨W.heap.size, 0, none⟩ : Addr).add i) = some (.string (KS[i]'(by simp [KS]; omega))) := by
  intro i h
  have hadd : (⟨W.heap.size, 0, none⟩ : Addr).add i = ⟨W.heap.size, i, none⟩ := by unfold Addr.add; split <;> simp_all
  have h2 : i < KS.length := h
  rw [hadd, Lib.cell_of_heap (heap_alloc_new W _)]
  simp [h2]
set_option maxRecDepth 100000 in
set_option maxHeartbeats 4000000 in
theorem marked_at (s r : ByteArray) (hs : Says s r) (hsg : utf_Sign.f 65279 = some k3) (w : World) :
    Calls Tryz.prog 155 #[.string s] w fun e w' => e = .returned (.string r) ∧ Below w.heap.size w w' := by
  have HS := Aside0.mk hs
  have HG := Aside0.mk hsg
  clear hs hsg
  go_enter Tryz.func155, Tryz.ntmps155
  go_wp2_with (first | (go_at_call 168; refine (utf_Sign.calls 65279 k3 _ HG.out).mono ?_; rintro e w1 ⟨rfl, ⟨nd, rfl⟩⟩) | (go_at_call 184; refine (rep_at s r HS.out ⟨w.heap.size, 0, none⟩ 16 ((w.drewN nd).alloc (.cells (KS.map Value.string).toArray 9)) (rowk (w.drewN nd)) (by simp)).mono ?_; rintro e w2 ⟨rfl, hb⟩; have HB := Aside0.mk hb; clear hb))
  go_ret
  exact ⟨rfl, below_step (below_alloc (pw_below_drewN (Below.refl _ w) nd) _) HB.out⟩
end Go.Proofs.YteccaekalcjihaaGreatDoor.Repl
set_option linter.unusedVariables false
namespace Go.Proofs.YteccaekalcjihaaGreatDoor.PTn
open Go.RowKit Go.Lib Go.Proofs.YteccaekalcjihaaGreatDoorW.PrintWords Go.Proofs.YteccaekalcjihaaGreatDoorW.PrintLast Go.Proofs.YteccaekalcjihaaGreatDoorW.PrintMore
def mkIn : ByteArray := ⟨#[97, 32, 60, 98, 62, 10, 10, 34, 100, 239, 191, 189]⟩
def mkOut : ByteArray := ⟨#[97, 32, 38, 108, 116, 59, 98, 38, 103, 116, 59, 10, 10, 38, 113, 117, 111, 116, 59, 100, 239, 191, 189]⟩
theorem sign_mark : utf_Sign.f 65279 = some Repl.k3 := by kernel_rfl
def escape_marked.f (s : ByteArray) : Option ByteArray := if s.data = mkIn.data then some mkOut else none
theorem escape_marked.calls (a0 : ByteArray) (r : ByteArray) (w : World) (h : escape_marked.f a0 = some r) :
    Calls Tryz.prog 155 #[.string a0] w fun e w' => e = .returned (.string r) ∧ Below w.heap.size w w' := by
  unfold escape_marked.f at h
  split at h
  · rename_i hs
    obtain rfl := Option.some.inj h
    exact Repl.marked_at a0 _ (Repl.says_at a0 (ByteArray.ext hs)) sign_mark w
  · cases h
end Go.Proofs.YteccaekalcjihaaGreatDoor.PTn
namespace Go.Proofs.YteccaekalcjihaaGreatDoor.PTn
open Go.RowKit Go.Proofs.YteccaekalcjihaaGreatDoorW.PrintWords Go.Proofs.YteccaekalcjihaaGreatDoorW.PrintLast Go.Proofs.YteccaekalcjihaaGreatDoorW.PrintMore
attribute [local go_sem] max2_int min2_int max_two min_two max_three min_three max_four min_four
set_option linter.unusedVariables false
set_option linter.unusedSimpArgs false
def escape_Encode.j0 : Nat → Int → ByteArray → Bool → Option (ByteArray)
  | 0, _, _, _ => none
  | k + 1, x0, x1, x15 => if x15 = true then (some (⟨#[]⟩ : ByteArray)) else ((escape_marked.f x1).bind fun t266 => (if x0 = 2 then ((strings_HasPrefix.f x1 (⟨#[10]⟩ : ByteArray)).bind fun t267 => (if t267 = true then (if 1 + t266.size ≤ 9223372036854775807 then (some ((⟨#[10]⟩ : ByteArray) ++ t266)) else (none)) else (some t266))) else (some t266)))
def escape_Encode.f (k : Nat) (a0 : Int) (a1 : ByteArray) : Option (ByteArray) := if a0 = 0 then (escape_Encode.j0 k a0 a1 false) else (if a0 = 1 then (escape_Encode.j0 k a0 a1 false) else (escape_Encode.j0 k a0 a1 (a0 != 2)))
set_option maxHeartbeats 8000000 in
set_option maxRecDepth 100000 in
theorem escape_Encode.calls (k : Nat) (a0 : Int) (a1 : ByteArray) (r : ByteArray) (w : World) (h : escape_Encode.f k a0 a1 = some r) :
    Calls Tryz.prog 110 #[.int .i64 a0, .string a1] w fun e w' => e = .returned (.string r) ∧ Below w.heap.size w w' := by
  have HB := Aside0.mk (Below.refl w.heap.size w)
  have H : (if a0 = 0 then (escape_Encode.j0 k a0 a1 false) else (if a0 = 1 then (escape_Encode.j0 k a0 a1 false) else (escape_Encode.j0 k a0 a1 (a0 != 2)))) = some r := h
  clear h
  have HC3 := Aside0.mk H
  clear H
  go_enter Tryz.func110, Tryz.ntmps110
  go_upto_region 1 with (fail)
  go_cut [15] (fun v15 wc => ∃ (kq : Nat) (x15_2 : Bool), v15 = .bool x15_2 ∧ Aside0 (escape_Encode.j0 kq a0 a1 x15_2 = some r) ∧ Aside0 (kq ≤ k) ∧ Aside0 (Below w.heap.size w wc))
  case first =>
    have H := HC3.out
    clear HC3
    by_cases c4 : a0 = 0
    · rw [if_pos c4] at H
      have c4b0 : (a0 == 0) = true := beq_iff_eq.mpr c4
      have c4b1 : (a0 != 0) = false := bne_eq_false_iff_eq.mpr c4
      clear c4
      (first | rw [c4b0] | (simp only [i64_w, i32_w]; rw [c4b0]) | skip)
      have H' := Aside0.mk H
      clear H
      go_wp2
      go_meet
      case rel => exact ⟨_, (false), (by first | rfl | (simp; done) | (simp [*]; done)), H', ⟨by first | omega | exact Nat.le_refl _⟩, ⟨by with_reducible repeat first | exact HB.out | apply below_alloc | apply pw_below_drewN | apply below_drew1⟩⟩
    · rw [if_neg c4] at H
      have c4b0 : (a0 == 0) = false := beq_eq_false_iff_ne.mpr c4
      have c4b1 : (a0 != 0) = true := bne_iff_ne.mpr c4
      (first | rw [c4b0] | (simp only [i64_w, i32_w]; rw [c4b0]) | skip)
      by_cases c5 : a0 = 1
      · rw [if_pos c5] at H
        have c5b0 : (a0 == 1) = true := beq_iff_eq.mpr c5
        have c5b1 : (a0 != 1) = false := bne_eq_false_iff_eq.mpr c5
        clear c5
        have H' := Aside0.mk H
        clear H
        go_wp2
        go_meet
        case rel => exact ⟨_, (false), (by first | rfl | (simp; done) | (simp [*]; done)), H', ⟨by first | omega | exact Nat.le_refl _⟩, ⟨by with_reducible repeat first | exact HB.out | apply below_alloc | apply pw_below_drewN | apply below_drew1⟩⟩
      · rw [if_neg c5] at H
        have c5b0 : (a0 == 1) = false := beq_eq_false_iff_ne.mpr c5
        have c5b1 : (a0 != 1) = true := bne_iff_ne.mpr c5
        have H' := Aside0.mk H
        clear H
        go_wp2
        go_meet
        case rel => exact ⟨_, ((a0 != 2)), (by first | rfl | (simp; done) | (simp [*]; done)), H', ⟨by first | omega | exact Nat.le_refl _⟩, ⟨by with_reducible repeat first | exact HB.out | apply below_alloc | apply pw_below_drewN | apply below_drew1⟩⟩
  case rest =>
    clear HC3
    try clear c1
    try clear p2
    try clear c4
    try clear c4b0
    try clear c4b1
    try clear c5
    try clear c5b0
    try clear c5b1
    obtain ⟨kq, x15_2, rfl, HA, HJ2, HB⟩ := hcut
    cases kq with
    | zero => exact absurd HA.out (by simp [escape_Encode.j0])
    | succ kj2 =>
      have H := HA.out
      clear HA
      simp only [escape_Encode.j0] at H
      by_cases c6 : x15_2 = true
      · subst c6
        rw [if_pos rfl] at H
        obtain rfl := Option.some.inj H
        go_wp2
        go_ret
        exact ⟨by first | rfl | (simp [*] <;> rfl), by with_reducible repeat first | exact HB.out | apply below_alloc | apply pw_below_drewN | apply below_drew1⟩
      · replace c6 := Bool.eq_false_iff.mpr c6
        subst c6
        rw [if_neg (show ¬ (false = true) by decide)] at H
        replace H := Option.bind_eq_some_iff.mp H
        obtain ⟨t266, A70, H⟩ := H
        (try dsimp only at H)
        have A7 := Aside0.mk A70
        clear A70
        by_cases c8 : a0 = 2
        · rw [if_pos c8] at H
          have c8b0 : (a0 == 2) = true := beq_iff_eq.mpr c8
          have c8b1 : (a0 != 2) = false := bne_eq_false_iff_eq.mpr c8
          clear c8
          replace H := Option.bind_eq_some_iff.mp H
          obtain ⟨t267, A90, H⟩ := H
          (try dsimp only at H)
          have A9 := Aside0.mk A90
          clear A90
          by_cases c10 : t267 = true
          · subst c10
            rw [if_pos rfl] at H
            by_cases c11 : 1 + t266.size ≤ 9223372036854775807
            · rw [if_pos c11] at H
              have c11b0 := eq_true c11
              have c11b1 : decide (1 + t266.size ≤ 9223372036854775807) = true := decide_eq_true c11
              try have c11b2 : (9223372036854775807 < 1 + t266.size) = False := eq_false (Nat.not_lt.2 c11)
              obtain rfl := Option.some.inj H
              go_wp2_with (first | ((with_reducible refine gate_callee (f := 155) rfl ?_); refine goesL_ (some 17) rfl rfl Tryz.func155 (by kernel_rfl) rfl #[.string a1] rfl (by simp only [List.map_toArray, List.map_cons, List.map_nil] <;> rfl) ?_; (with_reducible refine (escape_marked.calls a1 t266 _ A7.out).mono ?_); rintro e w12 ⟨rfl, hb⟩; refine ⟨_, rfl, ?_⟩; have n0_ := Aside0.mk (below_step (by with_reducible repeat first | exact HB.out | apply below_alloc | apply pw_below_drewN | apply below_drew1) hb); clear HB; have HB := n0_; clear n0_; (try clear hb); (try clear hb2); (try clear hk); (try clear hi)) | (go_at_call 156; (with_reducible refine (strings_HasPrefix.calls a1 (⟨#[10]⟩ : ByteArray) true _ A9.out).mono ?_); rintro e w' ⟨rfl, ⟨nd, rfl⟩⟩))
              go_ret
              exact ⟨by first | rfl | (simp [*] <;> rfl), by with_reducible repeat first | exact HB.out | apply below_alloc | apply pw_below_drewN | apply below_drew1⟩
            · rw [if_neg c11] at H
              exact absurd H (by simp)
          · replace c10 := Bool.eq_false_iff.mpr c10
            subst c10
            rw [if_neg (show ¬ (false = true) by decide)] at H
            obtain rfl := Option.some.inj H
            go_wp2_with (first | ((with_reducible refine gate_callee (f := 155) rfl ?_); refine goesL_ (some 17) rfl rfl Tryz.func155 (by kernel_rfl) rfl #[.string a1] rfl (by simp only [List.map_toArray, List.map_cons, List.map_nil] <;> rfl) ?_; (with_reducible refine (escape_marked.calls a1 t266 _ A7.out).mono ?_); rintro e w13 ⟨rfl, hb⟩; refine ⟨_, rfl, ?_⟩; have n0_ := Aside0.mk (below_step (by with_reducible repeat first | exact HB.out | apply below_alloc | apply pw_below_drewN | apply below_drew1) hb); clear HB; have HB := n0_; clear n0_; (try clear hb); (try clear hb2); (try clear hk); (try clear hi)) | (go_at_call 156; (with_reducible refine (strings_HasPrefix.calls a1 (⟨#[10]⟩ : ByteArray) false _ A9.out).mono ?_); rintro e w' ⟨rfl, ⟨nd, rfl⟩⟩))
            go_ret
            exact ⟨by first | rfl | (simp [*] <;> rfl), by with_reducible repeat first | exact HB.out | apply below_alloc | apply pw_below_drewN | apply below_drew1⟩
        · rw [if_neg c8] at H
          have c8b0 : (a0 == 2) = false := beq_eq_false_iff_ne.mpr c8
          have c8b1 : (a0 != 2) = true := bne_iff_ne.mpr c8
          obtain rfl := Option.some.inj H
          go_wp2_with (first | ((with_reducible refine gate_callee (f := 155) rfl ?_); refine goesL_ (some 17) rfl rfl Tryz.func155 (by kernel_rfl) rfl #[.string a1] rfl (by simp only [List.map_toArray, List.map_cons, List.map_nil] <;> rfl) ?_; (with_reducible refine (escape_marked.calls a1 t266 _ A7.out).mono ?_); rintro e w14 ⟨rfl, hb⟩; refine ⟨_, rfl, ?_⟩; have n0_ := Aside0.mk (below_step (by with_reducible repeat first | exact HB.out | apply below_alloc | apply pw_below_drewN | apply below_drew1) hb); clear HB; have HB := n0_; clear n0_; (try clear hb); (try clear hb2); (try clear hk); (try clear hi)))
          go_ret
          exact ⟨by first | rfl | (simp [*] <;> rfl), by with_reducible repeat first | exact HB.out | apply below_alloc | apply pw_below_drewN | apply below_drew1⟩
end Go.Proofs.YteccaekalcjihaaGreatDoor.PTn
set_option linter.unusedVariables false
set_option linter.unusedSimpArgs false
namespace Go.Proofs.YteccaekalcjihaaGreatDoor.PTn
open Go.RowKit Go.Lib Go.Proofs.YteccaekalcjihaaGreatDoorW.PrintWords Go.Proofs.YteccaekalcjihaaGreatDoorW.PrintLast Go.Proofs.YteccaekalcjihaaGreatDoorW.PrintMore
def saF (p : Nat) : Value := .func (.func 109) #[] #[exP p]
set_option maxHeartbeats 1000000 in
theorem safe_at (d : Int) (w : World) : Calls Tryz.prog 53 #[.int .i64 d] w fun e w' => e = .returned (saF w.heap.size) ∧ w' = w.alloc (.cells #[.int .i64 d] 3) := by
  have hmf := run_mkf
  go_enter Tryz.func53, Tryz.ntmps53
  go_wp2
  go_ret
  exact ⟨rfl, rfl⟩
set_option maxHeartbeats 2000000 in
set_option maxRecDepth 100000 in
theorem safe1_at (d : Int) (A0 : Option Addr) (c0 : Nat) (l0 : List Int) (r1 r2 : ByteArray) (w : World) (hG : GW w) (p : Nat) (hp : Cap w p (.int .i64 d)) (hr0 : Kd.C (Kd.int .u8) w A0 l0.length l0) (hc0 : l0.length ≤ c0) (h1 : extract_Extract.f l0 = some r1) (h2 : escape_Encode.f 1000 d r1 = some r2) :
    Calls Tryz.prog 109 #[.slice A0 l0.length c0, exP p] w fun e w' => e = .returned (.string r2) ∧ Below w.heap.size w w' := by
  have H1 := Aside0.mk h1
  have H2 := Aside0.mk h2
  have HR := Aside0.mk hr0
  have HP := Aside0.mk hp
  have HG := Aside0.mk hG
  have k1 := hp.cell
  unfold exP
  clear h1 h2 hr0 hp hG
  go_enter Tryz.func109, Tryz.ntmps109
  go_wp2
  go_region_with (first | (go_at_call 16; refine (extract_Extract.calls A0 c0 l0 r1 _ (HG.out.at (by first | exact Below.refl _ _ | exact below_drew (Below.refl _ _))) (Kd.C_below HR.out (by first | exact Below.refl _ _ | exact below_drew (Below.refl _ _))) hc0 H1.out).mono ?_; rintro e w1 ⟨rfl, hb⟩; have HB1 : Aside0 (Below w.heap.size w w1) := ⟨below_step (by first | exact Below.refl _ _ | exact below_drew (Below.refl _ _)) hb⟩; have k3 := (HP.out.then HB1.out).cell; clear hb) | (go_at_call 110; refine (escape_Encode.calls 1000 d r1 r2 _ H2.out).mono ?_; rintro e w2 ⟨rfl, hb⟩; have HB2 : Aside0 (Below w.heap.size w w2) := ⟨below_step (by first | exact HB1.out | exact below_drew HB1.out) hb⟩; clear hb))
  all_goals (
    go_wp2
    go_ret
    exact ⟨rfl, HB2.out⟩)
set_option maxHeartbeats 2000000 in
set_option maxRecDepth 100000 in
theorem times_at (d : Int) (A0 : Option Addr) (c0 : Nat) (l0 : List Int) (r1 r2 : ByteArray) (w : World) (hG : GW w) (p : Nat) (hp : Cap w p (.int .i64 d)) (hr0 : Kd.C (Kd.int .u8) w A0 l0.length l0) (hc0 : l0.length ≤ c0) (h1 : extract_Extract.f l0 = some r1) (h2 : escape_Encode.f 1000 d r1 = some r2) :
    Calls Tryz.prog 52 #[.int .i64 1, .slice A0 l0.length c0, saF p] w fun e w' => e = .returned (.string r2) ∧ Below w.heap.size w w' := by
  have HS := Aside0.mk (safe1_at d A0 c0 l0 r1 r2 w hG p hp hr0 hc0 h1 h2)
  unfold saF exP
  unfold exP at HS
  clear hG hp hr0 h1 h2
  go_enter Tryz.func52, Tryz.ntmps52
  go_wp2
  refine wp_loop_rounds 1 ?_
  rw [rounds_succ]
  go_wp2_with (go_at_call 109; refine HS.out.mono ?_; rintro e w2 ⟨rfl, hb⟩; have HB := Aside0.mk hb; clear hb)
  go_ret
  exact ⟨rfl, HB.out⟩
noncomputable def sanitize_Sanitize.f (d : Int) (l0 : List Int) : Option ByteArray := (extract_Extract.f l0).bind fun r1 => escape_Encode.f 1000 d r1
set_option maxHeartbeats 2000000 in
set_option maxRecDepth 100000 in
theorem sanitize_Sanitize.calls (d : Int) (A0 : Option Addr) (c0 : Nat) (l0 : List Int) (r : ByteArray) (w : World) (hG : GW w) (hr0 : Kd.C (Kd.int .u8) w A0 l0.length l0) (hc0 : l0.length ≤ c0) (h : sanitize_Sanitize.f d l0 = some r) :
    Calls Tryz.prog 17 #[.int .i64 d, .slice A0 l0.length c0] w fun e w' => e = .returned (.string r) ∧ Below w.heap.size w w' := by
  unfold sanitize_Sanitize.f at h
  obtain ⟨r1, h1, h2⟩ := Option.bind_eq_some_iff.1 h
  have hb0 := (Below.refl w.heap.size w).alloc (Nat.le_refl _) (.cells #[.int .i64 d] 3)
  have HT := Aside0.mk (times_at d A0 c0 l0 r1 r (w.alloc (.cells #[.int .i64 d] 3)) (hG.at hb0) w.heap.size (cap_new w _ _) (Kd.C_below hr0 hb0) hc0 h1 h2)
  have HB0 := Aside0.mk hb0
  clear h h1 h2 hG hr0 hb0
  unfold saF exP at HT
  go_enter Tryz.func17, Tryz.ntmps17
  go_wp2_with (first | (go_at_call 53; refine (safe_at d _).mono ?_; rintro e w1 ⟨rfl, rfl⟩; unfold saF exP) | (go_at_call 52; refine HT.out.mono ?_; rintro e w2 ⟨rfl, hb⟩; have HB := Aside0.mk (below_step HB0.out hb); clear hb))
  go_ret
  exact ⟨rfl, HB.out⟩
end Go.Proofs.YteccaekalcjihaaGreatDoor.PTn
set_option linter.unusedVariables false
set_option linter.unusedSimpArgs false
namespace Go.Proofs.YteccaekalcjihaaGreatDoor.PTn
open Go.RowKit Go.Lib Go.Proofs.YteccaekalcjihaaGreatDoorW.PrintWords Go.Proofs.YteccaekalcjihaaGreatDoorW.PrintLast Go.Proofs.YteccaekalcjihaaGreatDoorW.PrintMore
def awL : List Int := [60, 104, 49, 62, 97, 32, 38, 108, 116, 59, 98, 62, 60, 47, 104, 49, 62, 60, 115, 99, 114, 105, 112, 116, 62, 105, 102, 32, 40, 97, 60, 98, 41, 32, 99, 60, 47, 115, 99, 114, 105, 112, 116, 62, 60, 112, 62, 34, 100, 255]
def awT : List UInt8 := [97, 32, 60, 98, 62, 10, 10, 34, 100, 239, 191, 189]
def awS : List UInt8 := [97, 32, 38, 108, 116, 59, 98, 38, 103, 116, 59, 10, 10, 38, 113, 117, 111, 116, 59, 100, 239, 191, 189]
theorem row_reads (w : World) (l : List Int) (hl : l.length ≤ 1000000) (t : Nat) (fr : Nat × Nat) : Kd.C (Kd.int .u8) (w.alloc (.cells (l.map fun x => Value.int .u8 x).toArray t fr)) (some ⟨w.heap.size, 0, none⟩) l.length l := by
  refine Kd.C_of_reads (h1 := fun _ => rfl) (d := 0) ⟨rfl, by omega, fun _ => ⟨_, rfl, fun j hj => ?_⟩⟩
  have hadd : (⟨w.heap.size, 0, none⟩ : Addr).add j = ⟨w.heap.size, j, none⟩ := by unfold Addr.add; split <;> simp_all
  rw [hadd, Lib.cell_of_heap (heap_alloc_new w _)]
  simp [hj]
noncomputable def flailtop_awake.f : Option Bool := (extract_Extract.f awL).bind fun t => if t.toList = awT then (sanitize_Sanitize.f 1 awL).bind fun s => some (s.toList == awS) else none
set_option maxHeartbeats 8000000 in
set_option maxRecDepth 100000 in
theorem flailtop_awake.calls (r : Bool) (w : World) (hG : GW w) (h : flailtop_awake.f = some r) :
    Calls Tryz.prog 5 #[] w fun e w' => e = .returned (.bool r) ∧ Below w.heap.size w w' := by
  unfold flailtop_awake.f at h
  obtain ⟨t, h1, h⟩ := Option.bind_eq_some_iff.1 h
  split at h
  · rename_i ht
    obtain ⟨s, h2, h⟩ := Option.bind_eq_some_iff.1 h
    obtain rfl := Option.some.inj h
    have kc := fun (w : World) (C : Array Value) (n c : Nat) => Lib.run_convert_bytes_const (P := Tryz.prog) w 22 5 C n c Tryz.underlying22 Tryz.underlying5
    have hr := row_reads w awL (by decide) 5 (50, 51)
    have hb0 := (Below.refl w.heap.size w).alloc (Nat.le_refl _) (.cells (awL.map fun x => Value.int .u8 x).toArray 5 (50, 51))
    have HR := Aside0.mk hr
    have HB0 := Aside0.mk hb0
    have HX := Aside0.mk (extract_Extract.calls _ 50 awL t _ (hG.at hb0) hr (by decide) h1)
    have HG := Aside0.mk hG
    have H2 := Aside0.mk h2
    have ht1 : (t.toList == awT) = true := beq_iff_eq.mpr ht
    unfold awT at ht1
    have hs : (s.toList == awS) = (s.toList == awS) := rfl
    unfold awS
    clear hr hb0 h1 h2 ht h hs hG
    go_enter Tryz.func5, Tryz.ntmps5
    go_wp2_with (first | (go_at_call 16; refine HX.out.mono ?_; rintro e w1 ⟨rfl, hb⟩; have HB1 := Aside0.mk (below_step HB0.out hb); have HR1 := Aside0.mk (Kd.C_below HR.out hb); clear hb) | (go_at_call 17; refine (sanitize_Sanitize.calls 1 _ 50 awL s _ (HG.out.at HB1.out) HR1.out (by decide) H2.out).mono ?_; rintro e w2 ⟨rfl, hb⟩; have HB2 := Aside0.mk (below_step HB1.out hb); clear hb))
    go_ret
    exact ⟨rfl, HB2.out⟩
  · cases h
end Go.Proofs.YteccaekalcjihaaGreatDoor.PTn
set_option linter.unusedVariables false
namespace Go.Proofs.YteccaekalcjihaaGreatDoor.PTn
open Go.RowKit Go.Lib Go.Proofs.YteccaekalcjihaaGreatDoorW.PrintWords Go.Proofs.YteccaekalcjihaaGreatDoorW.PrintLast Go.Proofs.YteccaekalcjihaaGreatDoorW.PrintMore
def akL : List Int := [60, 104, 49, 62, 97, 32, 38, 108, 116, 59, 98, 62, 60, 47, 104, 49, 62, 60, 115, 99, 114, 105, 112, 116, 62, 105, 102, 32, 40, 97, 60, 98, 41, 32, 99, 60, 47, 115, 99, 114, 105, 112, 116, 62, 60, 112, 62, 34, 100, 255]
def akS : ByteArray := ⟨#[60, 104, 49, 62, 97, 32, 38, 108, 116, 59, 98, 62, 60, 47, 104, 49, 62, 60, 115, 99, 114, 105, 112, 116, 62, 105, 102, 32, 40, 97, 60, 98, 41, 32, 99, 60, 47, 115, 99, 114, 105, 112, 116, 62, 60, 112, 62, 34, 100, 239, 191, 189]⟩
set_option maxRecDepth 100000 in
theorem ak_decode : utf_Decode.f akL = some akS := by kernel_rfl
set_option maxRecDepth 100000 in
theorem ak_norm : lines_Norm.f akS = some akS := by kernel_rfl
def akT : List S40 := [⟨1, ⟨#[104, 49]⟩, ⟨#[]⟩, [], false⟩, ⟨0, ⟨#[]⟩, ⟨#[97, 32, 60, 98, 62]⟩, [], false⟩, ⟨2, ⟨#[104, 49]⟩, ⟨#[]⟩, [], false⟩, ⟨1, ⟨#[115, 99, 114, 105, 112, 116]⟩, ⟨#[]⟩, [], false⟩, ⟨0, ⟨#[]⟩, ⟨#[105, 102, 32, 40, 97, 60, 98, 41, 32, 99]⟩, [], false⟩, ⟨2, ⟨#[115, 99, 114, 105, 112, 116]⟩, ⟨#[]⟩, [], false⟩, ⟨1, ⟨#[112]⟩, ⟨#[]⟩, [], false⟩, ⟨0, ⟨#[]⟩, ⟨#[34, 100, 239, 191, 189]⟩, [], false⟩]
set_option maxRecDepth 100000 in
theorem ak_drive : drive_Drive.f 1000 akS = some akT := by kernel_rfl
set_option maxRecDepth 100000 in
theorem ak_render : render_Render.f akT = some Repl.sIn := by kernel_rfl
set_option maxRecDepth 100000 in
theorem ak_encode : escape_Encode.f 1000 1 Repl.sIn = some mkOut := by kernel_rfl
theorem ak_extract : extract_Extract.f akL = some Repl.sIn := by
  unfold extract_Extract.f exK
  rw [ak_decode, Option.bind_some, ak_norm, Option.bind_some, ak_drive, Option.bind_some, ak_render]
theorem awake_true : flailtop_awake.f = some true := by
  unfold flailtop_awake.f sanitize_Sanitize.f
  rw [show awL = akL from rfl, ak_extract, Option.bind_some, if_pos (by rw [ByteArray.toList_eq]; rfl), Option.bind_some, ak_encode, Option.bind_some, ByteArray.toList_eq]
  rfl
end Go.Proofs.YteccaekalcjihaaGreatDoor.PTn
namespace Go.Proofs.YteccaekalcjihaaGreatDoor.PTn
open Go.RowKit Go.Proofs.YteccaekalcjihaaGreatDoorW.PrintWords Go.Proofs.YteccaekalcjihaaGreatDoorW.PrintLast Go.Proofs.YteccaekalcjihaaGreatDoorW.PrintMore
attribute [local go_sem] max2_int min2_int max_two min_two max_three min_three max_four min_four
set_option linter.unusedVariables false
set_option linter.unusedSimpArgs false
def flailref01_Sign.j0 : Nat → Int → Bool → Option (ByteArray)
  | 0, _, _ => none
  | k + 1, x0, x3 => if x3 = true then (some (⟨#[239, 191, 189]⟩ : ByteArray)) else (if x0 < 128 then (some (strOfNums (([(x0) % 256] : List Int)))) else (if x0 < 2048 then (some (strOfNums (([(wrap64 (192 + (wrap64 (Int.tdiv x0 64)))) % 256, (wrap64 (128 + (Int.tmod x0 64))) % 256] : List Int)))) else (if x0 < 65536 then (some (strOfNums (([(wrap64 (224 + (wrap64 (Int.tdiv x0 4096)))) % 256, (wrap64 (128 + (Int.tmod (wrap64 (Int.tdiv x0 64)) 64))) % 256, (wrap64 (128 + (Int.tmod x0 64))) % 256] : List Int)))) else (some (strOfNums (([(wrap64 (240 + (wrap64 (Int.tdiv x0 262144)))) % 256, (wrap64 (128 + (Int.tmod (wrap64 (Int.tdiv x0 4096)) 64))) % 256, (wrap64 (128 + (Int.tmod (wrap64 (Int.tdiv x0 64)) 64))) % 256, (wrap64 (128 + (Int.tmod x0 64))) % 256] : List Int)))))))
def flailref01_Sign.f (k : Nat) (a0 : Int) : Option (ByteArray) := if a0 < 0 then (flailref01_Sign.j0 k a0 true) else (if a0 > 1114111 then (flailref01_Sign.j0 k a0 true) else (if a0 ≥ 55296 then (flailref01_Sign.j0 k a0 (decide (a0 ≤ 57343))) else (flailref01_Sign.j0 k a0 false)))
set_option maxHeartbeats 8000000 in
set_option maxRecDepth 100000 in
theorem flailref01_Sign.calls (k : Nat) (a0 : Int) (r : ByteArray) (w : World) (h : flailref01_Sign.f k a0 = some r) :
    Calls Tryz.prog 55 #[.int .i64 a0] w fun e w' => e = .returned (.string r) ∧ Below w.heap.size w w' := by
  have HB := Aside0.mk (Below.refl w.heap.size w)
  have H : (if a0 < 0 then (flailref01_Sign.j0 k a0 true) else (if a0 > 1114111 then (flailref01_Sign.j0 k a0 true) else (if a0 ≥ 55296 then (flailref01_Sign.j0 k a0 (decide (a0 ≤ 57343))) else (flailref01_Sign.j0 k a0 false)))) = some r := h
  clear h
  have HC2 := Aside0.mk H
  clear H
  go_enter Tryz.func55, Tryz.ntmps55
  go_upto_region 1 with (fail)
  go_cut [3] (fun v3 wc => ∃ (kq : Nat) (x3_1 : Bool), v3 = .bool x3_1 ∧ Aside0 (flailref01_Sign.j0 kq a0 x3_1 = some r) ∧ Aside0 (kq ≤ k) ∧ Aside0 (Below w.heap.size w wc))
  case first =>
    have H := HC2.out
    clear HC2
    by_cases c3 : a0 < 0
    · rw [if_pos c3] at H
      have c3b0 : decide (a0 < 0) = true := decide_eq_true c3
      clear c3
      (first | rw [c3b0] | (simp only [i64_w, i32_w]; rw [c3b0]) | skip)
      have H' := Aside0.mk H
      clear H
      go_wp2
      go_meet
      case rel => exact ⟨_, (true), (by first | rfl | (simp; done) | (simp [*]; done)), H', ⟨by first | omega | exact Nat.le_refl _⟩, ⟨by with_reducible repeat first | exact HB.out | apply below_alloc | apply pw_below_drewN | apply below_drew1⟩⟩
    · rw [if_neg c3] at H
      have c3b0 : decide (a0 < 0) = false := decide_eq_false c3
      clear c3
      (first | rw [c3b0] | (simp only [i64_w, i32_w]; rw [c3b0]) | skip)
      by_cases c4 : a0 > 1114111
      · rw [if_pos c4] at H
        have c4b0 : decide (1114111 < a0) = true := decide_eq_true c4
        clear c4
        have H' := Aside0.mk H
        clear H
        go_wp2
        go_meet
        case rel => exact ⟨_, (true), (by first | rfl | (simp; done) | (simp [*]; done)), H', ⟨by first | omega | exact Nat.le_refl _⟩, ⟨by with_reducible repeat first | exact HB.out | apply below_alloc | apply pw_below_drewN | apply below_drew1⟩⟩
      · rw [if_neg c4] at H
        have c4b0 : decide (1114111 < a0) = false := decide_eq_false c4
        clear c4
        by_cases c5 : a0 ≥ 55296
        · rw [if_pos c5] at H
          have c5b0 : decide (55296 ≤ a0) = true := decide_eq_true c5
          clear c5
          have H' := Aside0.mk H
          clear H
          go_wp2
          go_meet
          case rel => exact ⟨_, (decide (a0 ≤ 57343)), (by first | rfl | (simp; done) | (simp [*]; done)), H', ⟨by first | omega | exact Nat.le_refl _⟩, ⟨by with_reducible repeat first | exact HB.out | apply below_alloc | apply pw_below_drewN | apply below_drew1⟩⟩
        · rw [if_neg c5] at H
          have c5b0 : decide (55296 ≤ a0) = false := decide_eq_false c5
          clear c5
          have H' := Aside0.mk H
          clear H
          go_wp2
          go_meet
          case rel => exact ⟨_, (false), (by first | rfl | (simp; done) | (simp [*]; done)), H', ⟨by first | omega | exact Nat.le_refl _⟩, ⟨by with_reducible repeat first | exact HB.out | apply below_alloc | apply pw_below_drewN | apply below_drew1⟩⟩
  case rest =>
    clear HC2
    try clear p2
    try clear c3
    try clear c3b0
    try clear c4
    try clear c4b0
    try clear c5
    try clear c5b0
    obtain ⟨kq, x3_1, rfl, HA, HJ1, HB⟩ := hcut
    cases kq with
    | zero => exact absurd HA.out (by simp [flailref01_Sign.j0])
    | succ kj1 =>
      have H := HA.out
      clear HA
      simp only [flailref01_Sign.j0] at H
      by_cases c6 : x3_1 = true
      · subst c6
        rw [if_pos rfl] at H
        obtain rfl := Option.some.inj H
        go_wp2
        go_ret
        exact ⟨by first | rfl | (simp [*] <;> rfl), by with_reducible repeat first | exact HB.out | apply below_alloc | apply pw_below_drewN | apply below_drew1⟩
      · replace c6 := Bool.eq_false_iff.mpr c6
        subst c6
        rw [if_neg (show ¬ (false = true) by decide)] at H
        by_cases c7 : a0 < 128
        · rw [if_pos c7] at H
          have c7b0 : decide (a0 < 128) = true := decide_eq_true c7
          clear c7
          obtain ⟨y274, hy274⟩ : ∃ y_ : List Int, y_ = (([(a0) % 256] : List Int)) := ⟨_, rfl⟩
          replace H : (some (strOfNums y274)) = some r := by first | (rw [hy274]; with_reducible exact H) | (have H2_ := (Option.bind_some _ _).symm.trans H; rw [hy274]; with_reducible exact H2_) | (have H2_ := (Option.bind_some _ _).symm.trans H; with_reducible exact H2_) | with_reducible exact H | (rw [hy274]; exact H) | exact H
          have Ny274 := Aside0.mk hy274
          clear hy274
          obtain rfl := Option.some.inj H
          go_wp2_with (first | ((with_reducible refine gate_dst (N := 23) rfl ?_); refine Kd.R_lit (Kd.int .u8) _ 5 ?hg (N := 23) ?hd (xs := ([(a0) % 256] : List Int)) (inner := [.int .u8 ((a0) % 256)]) (ok := fun _ => True) (okp := fun _ => True) ?hr ?hp (fun _ hk => hk) trivial (Below.refl _ _) (Nat.le_refl _) (by simp) ?_; (case hd => rfl); (case hg => rfl); (case hr => first | (go_simp; done) | (go_simp; rfl)); (case hp => exact (Reps.one (show Kd.M (Kd.int .u8) _ _ _ ((a0) % 256) [.int .u8 ((a0) % 256)] from rfl) (Reps.none _ _))); intro v275 w8 ho9 hb hg_ hnew_; clear hg_ hnew_; (first | rw [← Ny274.out] at ho9 | (simp only [Int.reduceToNat] at ho9; rw [← Ny274.out] at ho9)); have n0_ := Aside0.mk (Kd.R_lower ho9 (below_size (by with_reducible repeat first | exact HB.out | apply below_alloc | apply pw_below_drewN | apply below_drew1))); have n1_ := Aside0.mk (below_step (by with_reducible repeat first | exact HB.out | apply below_alloc | apply pw_below_drewN | apply below_drew1) hb); clear HB; have HO276 := n0_; have HB := n1_; clear n0_ n1_; clear hb ho9; have hcv10 := own_string (P := Tryz.prog) Tryz.underlying22 Tryz.underlying5 Tryz.underlying9 (Kd.own_of_R HO276.out)))
          go_ret
          exact ⟨by first | rfl | (simp [*] <;> rfl), by with_reducible repeat first | exact HB.out | apply below_alloc | apply pw_below_drewN | apply below_drew1⟩
        · rw [if_neg c7] at H
          have c7b0 : decide (a0 < 128) = false := decide_eq_false c7
          clear c7
          by_cases c11 : a0 < 2048
          · rw [if_pos c11] at H
            have c11b0 : decide (a0 < 2048) = true := decide_eq_true c11
            clear c11
            obtain ⟨y277, hy277⟩ : ∃ y_ : List Int, y_ = (([(wrap64 (192 + (wrap64 (Int.tdiv a0 64)))) % 256, (wrap64 (128 + (Int.tmod a0 64))) % 256] : List Int)) := ⟨_, rfl⟩
            replace H : (some (strOfNums y277)) = some r := by first | (rw [hy277]; with_reducible exact H) | (have H2_ := (Option.bind_some _ _).symm.trans H; rw [hy277]; with_reducible exact H2_) | (have H2_ := (Option.bind_some _ _).symm.trans H; with_reducible exact H2_) | with_reducible exact H | (rw [hy277]; exact H) | exact H
            have Ny277 := Aside0.mk hy277
            clear hy277
            obtain rfl := Option.some.inj H
            go_wp2_with (first | ((with_reducible refine gate_dst (N := 36) rfl ?_); refine Kd.R_lit (Kd.int .u8) _ 5 ?hg (N := 36) ?hd (xs := ([(wrap64 (192 + (wrap64 (Int.tdiv a0 64)))) % 256, (wrap64 (128 + (Int.tmod a0 64))) % 256] : List Int)) (inner := [.int .u8 ((wrap64 (192 + (wrap64 (Int.tdiv a0 64)))) % 256), .int .u8 ((wrap64 (128 + (Int.tmod a0 64))) % 256)]) (ok := fun _ => True) (okp := fun _ => True) ?hr ?hp (fun _ hk => hk) trivial (Below.refl _ _) (Nat.le_refl _) (by simp) ?_; (case hd => rfl); (case hg => rfl); (case hr => first | (go_simp; done) | (go_simp; rfl)); (case hp => exact (Reps.one (show Kd.M (Kd.int .u8) _ _ _ ((wrap64 (192 + (wrap64 (Int.tdiv a0 64)))) % 256) [.int .u8 ((wrap64 (192 + (wrap64 (Int.tdiv a0 64)))) % 256)] from rfl) (Reps.one (show Kd.M (Kd.int .u8) _ _ _ ((wrap64 (128 + (Int.tmod a0 64))) % 256) [.int .u8 ((wrap64 (128 + (Int.tmod a0 64))) % 256)] from rfl) (Reps.none _ _)))); intro v278 w12 ho13 hb hg_ hnew_; clear hg_ hnew_; (first | rw [← Ny277.out] at ho13 | (simp only [Int.reduceToNat] at ho13; rw [← Ny277.out] at ho13)); have n0_ := Aside0.mk (Kd.R_lower ho13 (below_size (by with_reducible repeat first | exact HB.out | apply below_alloc | apply pw_below_drewN | apply below_drew1))); have n1_ := Aside0.mk (below_step (by with_reducible repeat first | exact HB.out | apply below_alloc | apply pw_below_drewN | apply below_drew1) hb); clear HB; have HO279 := n0_; have HB := n1_; clear n0_ n1_; clear hb ho13; have hcv14 := own_string (P := Tryz.prog) Tryz.underlying22 Tryz.underlying5 Tryz.underlying9 (Kd.own_of_R HO279.out)))
            go_ret
            exact ⟨by first | rfl | (simp [*] <;> rfl), by with_reducible repeat first | exact HB.out | apply below_alloc | apply pw_below_drewN | apply below_drew1⟩
          · rw [if_neg c11] at H
            have c11b0 : decide (a0 < 2048) = false := decide_eq_false c11
            clear c11
            by_cases c15 : a0 < 65536
            · rw [if_pos c15] at H
              have c15b0 : decide (a0 < 65536) = true := decide_eq_true c15
              clear c15
              obtain ⟨y280, hy280⟩ : ∃ y_ : List Int, y_ = (([(wrap64 (224 + (wrap64 (Int.tdiv a0 4096)))) % 256, (wrap64 (128 + (Int.tmod (wrap64 (Int.tdiv a0 64)) 64))) % 256, (wrap64 (128 + (Int.tmod a0 64))) % 256] : List Int)) := ⟨_, rfl⟩
              replace H : (some (strOfNums y280)) = some r := by first | (rw [hy280]; with_reducible exact H) | (have H2_ := (Option.bind_some _ _).symm.trans H; rw [hy280]; with_reducible exact H2_) | (have H2_ := (Option.bind_some _ _).symm.trans H; with_reducible exact H2_) | with_reducible exact H | (rw [hy280]; exact H) | exact H
              have Ny280 := Aside0.mk hy280
              clear hy280
              obtain rfl := Option.some.inj H
              go_wp2_with (first | ((with_reducible refine gate_dst (N := 54) rfl ?_); refine Kd.R_lit (Kd.int .u8) _ 5 ?hg (N := 54) ?hd (xs := ([(wrap64 (224 + (wrap64 (Int.tdiv a0 4096)))) % 256, (wrap64 (128 + (Int.tmod (wrap64 (Int.tdiv a0 64)) 64))) % 256, (wrap64 (128 + (Int.tmod a0 64))) % 256] : List Int)) (inner := [.int .u8 ((wrap64 (224 + (wrap64 (Int.tdiv a0 4096)))) % 256), .int .u8 ((wrap64 (128 + (Int.tmod (wrap64 (Int.tdiv a0 64)) 64))) % 256), .int .u8 ((wrap64 (128 + (Int.tmod a0 64))) % 256)]) (ok := fun _ => True) (okp := fun _ => True) ?hr ?hp (fun _ hk => hk) trivial (Below.refl _ _) (Nat.le_refl _) (by simp) ?_; (case hd => rfl); (case hg => rfl); (case hr => first | (go_simp; done) | (go_simp; rfl)); (case hp => exact (Reps.one (show Kd.M (Kd.int .u8) _ _ _ ((wrap64 (224 + (wrap64 (Int.tdiv a0 4096)))) % 256) [.int .u8 ((wrap64 (224 + (wrap64 (Int.tdiv a0 4096)))) % 256)] from rfl) (Reps.one (show Kd.M (Kd.int .u8) _ _ _ ((wrap64 (128 + (Int.tmod (wrap64 (Int.tdiv a0 64)) 64))) % 256) [.int .u8 ((wrap64 (128 + (Int.tmod (wrap64 (Int.tdiv a0 64)) 64))) % 256)] from rfl) (Reps.one (show Kd.M (Kd.int .u8) _ _ _ ((wrap64 (128 + (Int.tmod a0 64))) % 256) [.int .u8 ((wrap64 (128 + (Int.tmod a0 64))) % 256)] from rfl) (Reps.none _ _))))); intro v281 w16 ho17 hb hg_ hnew_; clear hg_ hnew_; (first | rw [← Ny280.out] at ho17 | (simp only [Int.reduceToNat] at ho17; rw [← Ny280.out] at ho17)); have n0_ := Aside0.mk (Kd.R_lower ho17 (below_size (by with_reducible repeat first | exact HB.out | apply below_alloc | apply pw_below_drewN | apply below_drew1))); have n1_ := Aside0.mk (below_step (by with_reducible repeat first | exact HB.out | apply below_alloc | apply pw_below_drewN | apply below_drew1) hb); clear HB; have HO282 := n0_; have HB := n1_; clear n0_ n1_; clear hb ho17; have hcv18 := own_string (P := Tryz.prog) Tryz.underlying22 Tryz.underlying5 Tryz.underlying9 (Kd.own_of_R HO282.out)))
              go_ret
              exact ⟨by first | rfl | (simp [*] <;> rfl), by with_reducible repeat first | exact HB.out | apply below_alloc | apply pw_below_drewN | apply below_drew1⟩
            · rw [if_neg c15] at H
              have c15b0 : decide (a0 < 65536) = false := decide_eq_false c15
              clear c15
              obtain ⟨y283, hy283⟩ : ∃ y_ : List Int, y_ = (([(wrap64 (240 + (wrap64 (Int.tdiv a0 262144)))) % 256, (wrap64 (128 + (Int.tmod (wrap64 (Int.tdiv a0 4096)) 64))) % 256, (wrap64 (128 + (Int.tmod (wrap64 (Int.tdiv a0 64)) 64))) % 256, (wrap64 (128 + (Int.tmod a0 64))) % 256] : List Int)) := ⟨_, rfl⟩
              replace H : (some (strOfNums y283)) = some r := by first | (rw [hy283]; with_reducible exact H) | (have H2_ := (Option.bind_some _ _).symm.trans H; rw [hy283]; with_reducible exact H2_) | (have H2_ := (Option.bind_some _ _).symm.trans H; with_reducible exact H2_) | with_reducible exact H | (rw [hy283]; exact H) | exact H
              have Ny283 := Aside0.mk hy283
              clear hy283
              obtain rfl := Option.some.inj H
              go_wp2_with (first | ((with_reducible refine gate_dst (N := 74) rfl ?_); refine Kd.R_lit (Kd.int .u8) _ 5 ?hg (N := 74) ?hd (xs := ([(wrap64 (240 + (wrap64 (Int.tdiv a0 262144)))) % 256, (wrap64 (128 + (Int.tmod (wrap64 (Int.tdiv a0 4096)) 64))) % 256, (wrap64 (128 + (Int.tmod (wrap64 (Int.tdiv a0 64)) 64))) % 256, (wrap64 (128 + (Int.tmod a0 64))) % 256] : List Int)) (inner := [.int .u8 ((wrap64 (240 + (wrap64 (Int.tdiv a0 262144)))) % 256), .int .u8 ((wrap64 (128 + (Int.tmod (wrap64 (Int.tdiv a0 4096)) 64))) % 256), .int .u8 ((wrap64 (128 + (Int.tmod (wrap64 (Int.tdiv a0 64)) 64))) % 256), .int .u8 ((wrap64 (128 + (Int.tmod a0 64))) % 256)]) (ok := fun _ => True) (okp := fun _ => True) ?hr ?hp (fun _ hk => hk) trivial (Below.refl _ _) (Nat.le_refl _) (by simp) ?_; (case hd => rfl); (case hg => rfl); (case hr => first | (go_simp; done) | (go_simp; rfl)); (case hp => exact (Reps.one (show Kd.M (Kd.int .u8) _ _ _ ((wrap64 (240 + (wrap64 (Int.tdiv a0 262144)))) % 256) [.int .u8 ((wrap64 (240 + (wrap64 (Int.tdiv a0 262144)))) % 256)] from rfl) (Reps.one (show Kd.M (Kd.int .u8) _ _ _ ((wrap64 (128 + (Int.tmod (wrap64 (Int.tdiv a0 4096)) 64))) % 256) [.int .u8 ((wrap64 (128 + (Int.tmod (wrap64 (Int.tdiv a0 4096)) 64))) % 256)] from rfl) (Reps.one (show Kd.M (Kd.int .u8) _ _ _ ((wrap64 (128 + (Int.tmod (wrap64 (Int.tdiv a0 64)) 64))) % 256) [.int .u8 ((wrap64 (128 + (Int.tmod (wrap64 (Int.tdiv a0 64)) 64))) % 256)] from rfl) (Reps.one (show Kd.M (Kd.int .u8) _ _ _ ((wrap64 (128 + (Int.tmod a0 64))) % 256) [.int .u8 ((wrap64 (128 + (Int.tmod a0 64))) % 256)] from rfl) (Reps.none _ _)))))); intro v284 w19 ho20 hb hg_ hnew_; clear hg_ hnew_; (first | rw [← Ny283.out] at ho20 | (simp only [Int.reduceToNat] at ho20; rw [← Ny283.out] at ho20)); have n0_ := Aside0.mk (Kd.R_lower ho20 (below_size (by with_reducible repeat first | exact HB.out | apply below_alloc | apply pw_below_drewN | apply below_drew1))); have n1_ := Aside0.mk (below_step (by with_reducible repeat first | exact HB.out | apply below_alloc | apply pw_below_drewN | apply below_drew1) hb); clear HB; have HO285 := n0_; have HB := n1_; clear n0_ n1_; clear hb ho20; have hcv21 := own_string (P := Tryz.prog) Tryz.underlying22 Tryz.underlying5 Tryz.underlying9 (Kd.own_of_R HO285.out)))
              go_ret
              exact ⟨by first | rfl | (simp [*] <;> rfl), by with_reducible repeat first | exact HB.out | apply below_alloc | apply pw_below_drewN | apply below_drew1⟩
end Go.Proofs.YteccaekalcjihaaGreatDoor.PTn
namespace Go.Proofs.YteccaekalcjihaaGreatDoor.PTn
open Go.RowKit Go.Proofs.YteccaekalcjihaaGreatDoorW.PrintWords Go.Proofs.YteccaekalcjihaaGreatDoorW.PrintLast Go.Proofs.YteccaekalcjihaaGreatDoorW.PrintMore
attribute [local go_sem] max2_int min2_int max_two min_two max_three min_three max_four min_four
set_option linter.unusedVariables false
set_option linter.unusedSimpArgs false
mutual
def flailref04_Fix.j0 : Nat → Int → Bool → Option (ByteArray)
  | 0, _, _ => none
  | k + 1, x0, x9 => if x9 = true then (some (⟨#[239, 191, 189]⟩ : ByteArray)) else ((some (([8364, 129, 8218, 402, 8222, 8230, 8224, 8225, 710, 8240, 352, 8249, 338, 141, 381, 143, 144, 8216, 8217, 8220, 8221, 8226, 8211, 8212, 732, 8482, 353, 8250, 339, 157, 382, 376] : List Int) : List Int)).bind fun y286 => (if x0 ≥ 128 then (flailref04_Fix.j1 k x0 y286 (decide (x0 ≤ 159))) else (flailref04_Fix.j1 k x0 y286 false)))
def flailref04_Fix.j1 : Nat → Int → List Int → Bool → Option (ByteArray)
  | 0, _, _, _ => none
  | k + 1, x0, x3, x16 => if x16 = true then (if 0 ≤ (wrap64 (x0 - 128)) then (if (wrap64 (x0 - 128)) < (x3.length : Int) then ((flailref01_Sign.f k (rd x3 (wrap64 (x0 - 128)))).bind fun t290 => (some t290)) else (none)) else (none)) else ((flailref01_Sign.f k x0).bind fun t291 => (some t291))
end
def flailref04_Fix.f (k : Nat) (a0 : Int) : Option (ByteArray) := if a0 < 1 then (flailref04_Fix.j0 k a0 true) else (flailref04_Fix.j0 k a0 (decide (a0 > 1114111)))
set_option maxHeartbeats 8000000 in
set_option maxRecDepth 100000 in
theorem flailref04_Fix.calls (k : Nat) (a0 : Int) (r : ByteArray) (w : World) (h : flailref04_Fix.f k a0 = some r) :
    Calls Tryz.prog 19 #[.int .i64 a0] w fun e w' => e = .returned (.string r) ∧ Below w.heap.size w w' := by
  have HB := Aside0.mk (Below.refl w.heap.size w)
  have H : (if a0 < 1 then (flailref04_Fix.j0 k a0 true) else (flailref04_Fix.j0 k a0 (decide (a0 > 1114111)))) = some r := h
  clear h
  have HC2 := Aside0.mk H
  clear H
  go_enter Tryz.func19, Tryz.ntmps19
  go_upto_region 1 with (fail)
  go_cut [9] (fun v9 wc => ∃ (kq : Nat) (x9_1 : Bool), v9 = .bool x9_1 ∧ Aside0 (flailref04_Fix.j0 kq a0 x9_1 = some r) ∧ Aside0 (kq ≤ k) ∧ Aside0 (Below w.heap.size w wc))
  case first =>
    have H := HC2.out
    clear HC2
    by_cases c3 : a0 < 1
    · rw [if_pos c3] at H
      have c3b0 : decide (a0 < 1) = true := decide_eq_true c3
      clear c3
      (first | rw [c3b0] | (simp only [i64_w, i32_w]; rw [c3b0]) | skip)
      have H' := Aside0.mk H
      clear H
      go_wp2
      go_meet
      case rel => exact ⟨_, (true), (by first | rfl | (simp; done) | (simp [*]; done)), H', ⟨by first | omega | exact Nat.le_refl _⟩, ⟨by with_reducible repeat first | exact HB.out | apply below_alloc | apply pw_below_drewN | apply below_drew1⟩⟩
    · rw [if_neg c3] at H
      have c3b0 : decide (a0 < 1) = false := decide_eq_false c3
      clear c3
      (first | rw [c3b0] | (simp only [i64_w, i32_w]; rw [c3b0]) | skip)
      have H' := Aside0.mk H
      clear H
      go_wp2
      go_meet
      case rel => exact ⟨_, (decide (a0 > 1114111)), (by first | rfl | (simp; done) | (simp [*]; done)), H', ⟨by first | omega | exact Nat.le_refl _⟩, ⟨by with_reducible repeat first | exact HB.out | apply below_alloc | apply pw_below_drewN | apply below_drew1⟩⟩
  case rest =>
    clear HC2
    try clear c1
    try clear p2
    try clear c3
    try clear c3b0
    obtain ⟨kq, x9_1, rfl, HA, HJ1, HB⟩ := hcut
    cases kq with
    | zero => exact absurd HA.out (by simp [flailref04_Fix.j0])
    | succ kj1 =>
      have H := HA.out
      clear HA
      simp only [flailref04_Fix.j0] at H
      by_cases c4 : x9_1 = true
      · subst c4
        rw [if_pos rfl] at H
        obtain rfl := Option.some.inj H
        go_wp2
        go_ret
        exact ⟨by first | rfl | (simp [*] <;> rfl), by with_reducible repeat first | exact HB.out | apply below_alloc | apply pw_below_drewN | apply below_drew1⟩
      · replace c4 := Bool.eq_false_iff.mpr c4
        subst c4
        rw [if_neg (show ¬ (false = true) by decide)] at H
        obtain ⟨y286, hy286⟩ : ∃ y_ : List Int, y_ = (([8364, 129, 8218, 402, 8222, 8230, 8224, 8225, 710, 8240, 352, 8249, 338, 141, 381, 143, 144, 8216, 8217, 8220, 8221, 8226, 8211, 8212, 732, 8482, 353, 8250, 339, 157, 382, 376] : List Int)) := ⟨_, rfl⟩
        replace H : (if a0 ≥ 128 then (flailref04_Fix.j1 kj1 a0 y286 (decide (a0 ≤ 159))) else (flailref04_Fix.j1 kj1 a0 y286 false)) = some r := by first | (rw [hy286]; with_reducible exact H) | (have H2_ := (Option.bind_some _ _).symm.trans H; rw [hy286]; with_reducible exact H2_) | (have H2_ := (Option.bind_some _ _).symm.trans H; with_reducible exact H2_) | with_reducible exact H | (rw [hy286]; exact H) | exact H
        have Ny286 := Aside0.mk hy286
        clear hy286
        have HC5 := Aside0.mk H
        clear H
        go_upto_region 4 with (first | ((with_reducible refine gate_dst (N := 10) rfl ?_); refine Kd.R_lit (Kd.int .i64) _ 3 ?hg (N := 10) ?hd (xs := ([8364, 129, 8218, 402, 8222, 8230, 8224, 8225, 710, 8240, 352, 8249, 338, 141, 381, 143, 144, 8216, 8217, 8220, 8221, 8226, 8211, 8212, 732, 8482, 353, 8250, 339, 157, 382, 376] : List Int)) (inner := [.int .i64 8364, .int .i64 129, .int .i64 8218, .int .i64 402, .int .i64 8222, .int .i64 8230, .int .i64 8224, .int .i64 8225, .int .i64 710, .int .i64 8240, .int .i64 352, .int .i64 8249, .int .i64 338, .int .i64 141, .int .i64 381, .int .i64 143, .int .i64 144, .int .i64 8216, .int .i64 8217, .int .i64 8220, .int .i64 8221, .int .i64 8226, .int .i64 8211, .int .i64 8212, .int .i64 732, .int .i64 8482, .int .i64 353, .int .i64 8250, .int .i64 339, .int .i64 157, .int .i64 382, .int .i64 376]) (ok := fun _ => True) (okp := fun _ => True) ?hr ?hp (fun _ hk => hk) trivial (Below.refl _ _) (Nat.le_refl _) (by simp) ?_; (case hd => rfl); (case hg => rfl); (case hr => first | (go_simp; done) | (go_simp; rfl)); (case hp => exact (Reps.one (show Kd.M (Kd.int .i64) _ _ _ 8364 [.int .i64 8364] from rfl) (Reps.one (show Kd.M (Kd.int .i64) _ _ _ 129 [.int .i64 129] from rfl) (Reps.one (show Kd.M (Kd.int .i64) _ _ _ 8218 [.int .i64 8218] from rfl) (Reps.one (show Kd.M (Kd.int .i64) _ _ _ 402 [.int .i64 402] from rfl) (Reps.one (show Kd.M (Kd.int .i64) _ _ _ 8222 [.int .i64 8222] from rfl) (Reps.one (show Kd.M (Kd.int .i64) _ _ _ 8230 [.int .i64 8230] from rfl) (Reps.one (show Kd.M (Kd.int .i64) _ _ _ 8224 [.int .i64 8224] from rfl) (Reps.one (show Kd.M (Kd.int .i64) _ _ _ 8225 [.int .i64 8225] from rfl) (Reps.one (show Kd.M (Kd.int .i64) _ _ _ 710 [.int .i64 710] from rfl) (Reps.one (show Kd.M (Kd.int .i64) _ _ _ 8240 [.int .i64 8240] from rfl) (Reps.one (show Kd.M (Kd.int .i64) _ _ _ 352 [.int .i64 352] from rfl) (Reps.one (show Kd.M (Kd.int .i64) _ _ _ 8249 [.int .i64 8249] from rfl) (Reps.one (show Kd.M (Kd.int .i64) _ _ _ 338 [.int .i64 338] from rfl) (Reps.one (show Kd.M (Kd.int .i64) _ _ _ 141 [.int .i64 141] from rfl) (Reps.one (show Kd.M (Kd.int .i64) _ _ _ 381 [.int .i64 381] from rfl) (Reps.one (show Kd.M (Kd.int .i64) _ _ _ 143 [.int .i64 143] from rfl) (Reps.one (show Kd.M (Kd.int .i64) _ _ _ 144 [.int .i64 144] from rfl) (Reps.one (show Kd.M (Kd.int .i64) _ _ _ 8216 [.int .i64 8216] from rfl) (Reps.one (show Kd.M (Kd.int .i64) _ _ _ 8217 [.int .i64 8217] from rfl) (Reps.one (show Kd.M (Kd.int .i64) _ _ _ 8220 [.int .i64 8220] from rfl) (Reps.one (show Kd.M (Kd.int .i64) _ _ _ 8221 [.int .i64 8221] from rfl) (Reps.one (show Kd.M (Kd.int .i64) _ _ _ 8226 [.int .i64 8226] from rfl) (Reps.one (show Kd.M (Kd.int .i64) _ _ _ 8211 [.int .i64 8211] from rfl) (Reps.one (show Kd.M (Kd.int .i64) _ _ _ 8212 [.int .i64 8212] from rfl) (Reps.one (show Kd.M (Kd.int .i64) _ _ _ 732 [.int .i64 732] from rfl) (Reps.one (show Kd.M (Kd.int .i64) _ _ _ 8482 [.int .i64 8482] from rfl) (Reps.one (show Kd.M (Kd.int .i64) _ _ _ 353 [.int .i64 353] from rfl) (Reps.one (show Kd.M (Kd.int .i64) _ _ _ 8250 [.int .i64 8250] from rfl) (Reps.one (show Kd.M (Kd.int .i64) _ _ _ 339 [.int .i64 339] from rfl) (Reps.one (show Kd.M (Kd.int .i64) _ _ _ 157 [.int .i64 157] from rfl) (Reps.one (show Kd.M (Kd.int .i64) _ _ _ 382 [.int .i64 382] from rfl) (Reps.one (show Kd.M (Kd.int .i64) _ _ _ 376 [.int .i64 376] from rfl) (Reps.none _ _)))))))))))))))))))))))))))))))))); intro v287 w6 ho7 hb hg_ hnew_; clear hg_ hnew_; (first | rw [← Ny286.out] at ho7 | (simp only [Int.reduceToNat] at ho7; rw [← Ny286.out] at ho7)); have n0_ := Aside0.mk (Kd.R_lower ho7 (below_size (by with_reducible repeat first | exact HB.out | apply below_alloc | apply pw_below_drewN | apply below_drew1))); have n1_ := Aside0.mk (below_step (by with_reducible repeat first | exact HB.out | apply below_alloc | apply pw_below_drewN | apply below_drew1) hb); clear HB; have HO288 := n0_; have HB := n1_; clear n0_ n1_; clear hb ho7))
        (try simp only [Act.put, List.setIfInBounds_toArray, List.set_cons_zero, List.set_cons_succ])
        go_cut [16] (fun v16 wc => ∃ (kq : Nat) (x16_4 : Bool), v16 = .bool x16_4 ∧ Aside0 (flailref04_Fix.j1 kq a0 y286 x16_4 = some r) ∧ Aside0 (kq ≤ kj1) ∧ Aside0 (Kd.R (Kd.int .i64) 3 wc w.heap.size (fun _ => True) v287 y286) ∧ Aside0 (Below w.heap.size w wc))
        case first =>
          have H := HC5.out
          clear HC5
          by_cases c8 : a0 ≥ 128
          · rw [if_pos c8] at H
            have c8b0 : decide (128 ≤ a0) = true := decide_eq_true c8
            clear c8
            (first | rw [c8b0] | (simp only [i64_w, i32_w]; rw [c8b0]) | skip)
            have H' := Aside0.mk H
            clear H
            go_wp2
            go_meet
            case rel => exact ⟨_, (decide (a0 ≤ 159)), (by first | rfl | (simp; done) | (simp [*]; done)), H', ⟨by have := HJ1.out; first | omega | exact Nat.le_refl _⟩, ⟨by (with_reducible repeat (first | apply Kd.R_alloc | apply Kd.R_drewN | apply Kd.R_drew)); exact HO288.out⟩, ⟨by with_reducible repeat first | exact HB.out | apply below_alloc | apply pw_below_drewN | apply below_drew1⟩⟩
          · rw [if_neg c8] at H
            have c8b0 : decide (128 ≤ a0) = false := decide_eq_false c8
            clear c8
            (first | rw [c8b0] | (simp only [i64_w, i32_w]; rw [c8b0]) | skip)
            have H' := Aside0.mk H
            clear H
            go_wp2
            go_meet
            case rel => exact ⟨_, (false), (by first | rfl | (simp; done) | (simp [*]; done)), H', ⟨by have := HJ1.out; first | omega | exact Nat.le_refl _⟩, ⟨by (with_reducible repeat (first | apply Kd.R_alloc | apply Kd.R_drewN | apply Kd.R_drew)); exact HO288.out⟩, ⟨by with_reducible repeat first | exact HB.out | apply below_alloc | apply pw_below_drewN | apply below_drew1⟩⟩
        case rest =>
          clear HC5
          try clear c1
          try clear p2
          try clear c3
          try clear c3b0
          try clear c4
          try clear c8
          try clear c8b0
          try clear p2
          obtain ⟨kq, x16_4, rfl, HA, HJ4, HO_3, HB⟩ := hcut
          cases kq with
          | zero => exact absurd HA.out (by simp [flailref04_Fix.j1])
          | succ kj4 =>
            have H := HA.out
            clear HA
            simp only [flailref04_Fix.j1] at H
            by_cases c9 : x16_4 = true
            · subst c9
              rw [if_pos rfl] at H
              obtain ⟨ji10, hji10⟩ : ∃ j_ : Int, (wrap64 (a0 - 128)) = j_ := ⟨_, rfl⟩
              replace H : (if 0 ≤ (ji10) then (if (ji10) < (y286.length : Int) then ((flailref01_Sign.f kj4 (rd y286 (ji10))).bind fun t290 => (some t290)) else (none)) else (none)) = some r := by first | (rw [hji10] at H; exact H) | (simp only [hji10] at H ⊢; exact H)
              have hji10w : (IntKind.i64.wrap (a0 - 128)) = ji10 := (i64_w _).trans hji10
              by_cases c11 : 0 ≤ (ji10)
              · rw [if_pos c11] at H
                have c11b0 : decide (0 ≤ (ji10)) = true := decide_eq_true c11
                clear c11
                by_cases c12 : (ji10) < (y286.length : Int)
                · rw [if_pos c12] at H
                  have c12b0 : decide ((ji10) < (y286.length : Int)) = true := decide_eq_true c12
                  clear c12
                  replace H := Option.bind_eq_some_iff.mp H
                  obtain ⟨t290, A130, H⟩ := H
                  (try dsimp only at H)
                  have A13 := Aside0.mk A130
                  clear A130
                  obtain rfl := Option.some.inj H
                  obtain ⟨Ao14, co14, eo14⟩ := Kd.R_slice HO_3.out
                  subst eo14
                  have p289 : 0 ≤ ((ji10) : Int) := of_decide_eq_true (by first | (with_reducible assumption) | assumption)
                  have q289 : (ji10) < (y286.length : Int) := of_decide_eq_true (by first | (with_reducible assumption) | assumption)
                  obtain ⟨ad289, e289, hx289_0⟩ := Kd.at_int (Kd.R_reads' HO_3.out).2.2 (ji10) p289 q289
                  cases e289
                  replace p289 := eq_true p289
                  replace q289 := eq_true q289
                  go_wp2_with (first | ((with_reducible refine gate_callee (f := 55) rfl ?_); refine goesL_ (some 22) rfl rfl Tryz.func55 (by kernel_rfl) rfl #[.int .i64 (rd y286 (ji10))] rfl (by (try simp only [List.map_toArray, List.map_cons, List.map_nil]); first | done | (simp only [hji10]; rfl) | rfl | (simp only [List.length_drop, List.length_take]; rfl)) ?_; (with_reducible refine (flailref01_Sign.calls kj4 (rd y286 (ji10)) t290 _ A13.out).mono ?_); rintro e w15 ⟨rfl, hb⟩; refine ⟨_, rfl, ?_⟩; have n0_ := Aside0.mk (Kd.R_below (by (with_reducible repeat (first | apply Kd.R_alloc | apply Kd.R_drewN | apply Kd.R_drew)); exact HO_3.out) hb); have n1_ := Aside0.mk (below_step (by with_reducible repeat first | exact HB.out | apply below_alloc | apply pw_below_drewN | apply below_drew1) hb); clear HO_3; clear HB; have HO_3 := n0_; have HB := n1_; clear n0_ n1_; (try clear hb); (try clear hb2); (try clear hk); (try clear hi)))
                  go_ret
                  exact ⟨by first | rfl | (simp [errW_none, errW_some] <;> rfl) | (simp only [← hji10]; first | rfl | (simp [errW_none, errW_some] <;> rfl)) | (simp [*, errW_none, errW_some] <;> rfl), by with_reducible repeat first | exact HB.out | apply below_alloc | apply pw_below_drewN | apply below_drew1⟩
                · rw [if_neg c12] at H
                  exact absurd H (by simp)
              · rw [if_neg c11] at H
                exact absurd H (by simp)
            · replace c9 := Bool.eq_false_iff.mpr c9
              subst c9
              rw [if_neg (show ¬ (false = true) by decide)] at H
              replace H := Option.bind_eq_some_iff.mp H
              obtain ⟨t291, A160, H⟩ := H
              (try dsimp only at H)
              have A16 := Aside0.mk A160
              clear A160
              obtain rfl := Option.some.inj H
              go_wp2_with (first | ((with_reducible refine gate_callee (f := 55) rfl ?_); refine goesL_ (some 24) rfl rfl Tryz.func55 (by kernel_rfl) rfl #[.int .i64 a0] rfl (by simp only [List.map_toArray, List.map_cons, List.map_nil] <;> rfl) ?_; (with_reducible refine (flailref01_Sign.calls kj4 a0 t291 _ A16.out).mono ?_); rintro e w17 ⟨rfl, hb⟩; refine ⟨_, rfl, ?_⟩; have n0_ := Aside0.mk (Kd.R_below (by (with_reducible repeat (first | apply Kd.R_alloc | apply Kd.R_drewN | apply Kd.R_drew)); exact HO_3.out) hb); have n1_ := Aside0.mk (below_step (by with_reducible repeat first | exact HB.out | apply below_alloc | apply pw_below_drewN | apply below_drew1) hb); clear HO_3; clear HB; have HO_3 := n0_; have HB := n1_; clear n0_ n1_; (try clear hb); (try clear hb2); (try clear hk); (try clear hi)))
              go_ret
              exact ⟨by first | rfl | (simp [*] <;> rfl), by with_reducible repeat first | exact HB.out | apply below_alloc | apply pw_below_drewN | apply below_drew1⟩
end Go.Proofs.YteccaekalcjihaaGreatDoor.PTn
