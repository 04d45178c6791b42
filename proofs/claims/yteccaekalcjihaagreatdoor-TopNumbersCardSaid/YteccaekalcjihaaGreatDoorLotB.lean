/- Several texts of this claim, laid together into one file. -/
import Derived.Test.YteccaekalcjihaaGreatDoorLotA
import Derived.Test.YteccaekalcjihaaGreatDoorProg
import Derived.Below
import Derived.Deep.Draws
import Derived.Deep.AppendLies
import Derived.Maps.AppendAt
import Derived.OwnWalk
import Derived.Laws.BytesArg
import Derived.Laws.MakeOwn
import Derived.Laws.OwnMore
import Derived.Deep.OwnRows
import Derived.Tactics
import Derived.Lib.ConvBytes
import Derived.Laws.Slices
import Derived.WalkKit
import Derived.KernelRfl
import Derived.RowKit3
import Derived.Deep.LoopGhost
import Derived.Deep.QuietTactic
import Derived.BigQuiet
import Derived.WideLaws
import Derived.Deep.DeepCutAuto
import Derived.Deep.CutBlock
import Derived.Deep.RegionHeld3
import Derived.Laws.Rows
import Derived.Lib.AppendStr
import Derived.ArgAppend
import Derived.Laws.IdiomCopy
import Derived.OrdersHeld
import Derived.Laws.BitsLemmas
import Derived.RowKit
import Derived.ScopeJumps
import Derived.Lib.Builder
import Derived.Lib.UnsafeStr
import Derived.Lib.FrozenHead
import Derived.Lib.FrozenHead2
import Derived.Lib.BufferWrite
import Derived.Lib.Hide
import Derived.RegionTactic
import Derived.ChangeAlike
import Derived.Laws.Externs
set_option linter.unusedSimpArgs false
set_option linter.unusedVariables false
namespace Go.Proofs.YteccaekalcjihaaGreatDoorW.PrintWords
open Go.RowKit
namespace Kd
section
variable {α : Type} {d : Kd α} {e base n cap g : Nat} {ok ok' okp : Nat → Prop} {w w1 W : World} {v v1 : Value} {xs ys : List α}
theorem N_appended {rows news : List (List Value)} (h0 : ∀ k, v.ownBlock = some k → ok k) (hl : rows.length = xs.length) (hf : ∀ (j : Nat) (x : α) (c : List Value), xs[j]? = some x → rows[j]? = some c → FK d W (fun k => ok k ∧ some k ≠ v.ownBlock) x c)
    (hl2 : news.length = ys.length) (hf2 : ∀ (j : Nat) (x : α) (c : List Value), ys[j]? = some x → news[j]? = some c → FK d W okp x c) (hokp : ∀ k, okp k → ok k ∧ some k ≠ v.ownBlock) (hfresh : ∀ k, W.heap.size ≤ k → ok k)
    (hR : (raw d.sz).R e w1 base (fun _ => True) v1 (rows ++ news)) (hg : W.grownBy w1 v.ownBlock) (hat : v1.ownBlock = v.ownBlock ∨ ∃ b, v1.ownBlock = some b ∧ W.heap.size ≤ b) : N d e w1 base ok v1 (xs ++ ys) := by
  have hne : ∀ k, some k ≠ v.ownBlock → k < W.heap.size → some k ≠ v1.ownBlock := by
    intro k hk hlt
    rcases hat with hat | ⟨b, hb, hle⟩
    · rw [hat]; exact hk
    · rw [hb]
      intro he
      injection he with he
      omega
  have step : ∀ {x : α} {c : List Value} {o : Nat → Prop}, FK d W o x c → (∀ k, o k → ok k ∧ some k ≠ v.ownBlock) → FK d w1 (fun k => ok k ∧ some k ≠ v1.ownBlock) x c := by
    intro x c o hq ho
    exact FK_mono (FK_step (FK_bound hq) (fun k hk hlt => hg.block k hlt (ho k hk.1).2)) (fun k hk => ⟨(ho k hk.1).1, hne k (ho k hk.1).2 hk.2⟩)
  refine ⟨fun k hk => ?_, rows ++ news, by rw [List.length_append, List.length_append, hl, hl2], raw_tight hR, fun j x c hx hc => ?_⟩
  · rcases hat with hat | ⟨b, hb, hle⟩
    · exact h0 k (hat ▸ hk)
    · rw [hb] at hk
      injection hk with hk
      exact hfresh k (by omega)
  · rcases Nat.lt_or_ge j xs.length with hlt | hge
    · rw [List.getElem?_append_left hlt] at hx
      rw [List.getElem?_append_left (by omega)] at hc
      exact step (hf j x c hx hc) (fun _ hk => hk)
    · rw [List.getElem?_append_right hge] at hx
      rw [List.getElem?_append_right (by omega), hl] at hc
      exact step (hf2 _ x c hx hc) hokp
theorem FK_raw {x : α} {c : List Value} (h : FK d W ok x c) : c = c ∧ c.length = d.sz ∧ ∀ u ∈ c, u.oneCell' = true := ⟨rfl, d.K_len (FK_now h), d.K_one (FK_now h)⟩
theorem reads_raw {Rr : α → List Value → Prop} {sz m : Nat} {A : Option Addr} (h : ReadsRow Rr sz W A m ys) (hR : ∀ x c, Rr x c → c.length = sz ∧ ∀ u ∈ c, u.oneCell' = true) :
    ∃ news : List (List Value), news.length = ys.length ∧ ReadsRow (fun x cs => cs = x ∧ cs.length = sz ∧ ∀ u ∈ cs, u.oneCell' = true) sz W A m news ∧ ∀ (j : Nat) (x : α) (c : List Value), ys[j]? = some x → news[j]? = some c → Rr x c := by
  rcases Nat.eq_zero_or_pos m with h0 | hp
  · have hy : ys = [] := List.eq_nil_of_length_eq_zero (h.1.trans h0)
    subst hy
    exact ⟨[], rfl, ⟨h0 ▸ rfl, h.2.1, fun hp => by omega⟩, fun j x c hx => by simp at hx⟩
  · obtain ⟨ad, rfl, _⟩ := h.2.2 hp
    obtain ⟨inner, hr, hc⟩ := ReadsRow.inner_ h
    refine ⟨chunks sz ys.length inner, chunks_length _ _ _, ⟨by rw [chunks_length]; exact h.1, h.2.1, fun _ => ⟨ad, rfl, fun j p hj => ?_⟩⟩, fun j x c hx hcc => ?_⟩
    · have hjl : j < ys.length := by have := (List.getElem?_eq_some_iff.1 hj).1; rwa [chunks_length] at this
      have hpe := chunks_get hj
      have hq := hR _ _ (hr.2 j _ (List.getElem?_eq_getElem hjl))
      rw [← hpe] at hq
      refine ⟨p, hq.1, ⟨rfl, hq⟩, fun i u hu => ?_⟩
      have hu2 : inner[j * sz + i]? = some u := by
        rw [hpe, List.getElem?_take] at hu
        split at hu
        · rw [List.getElem?_drop] at hu
          exact hu
        · cases hu
      exact hc _ u hu2
    · rw [chunks_get hcc]
      exact hr.2 j x hx
end
section
variable {P : Program} {ops : Array Oper} {rest : List Oper} {o : Oper} {a : Act} {Q : Exit → Act → World → Prop} {Kc : Act → World → Prop} {α : Type}
theorem N_append (d : Kd α) {w0 W : World} (base : Nat) (hgd : o.guard = none) (s x : Operand) (t e : TypeId) (z : Value) (bytes : Nat)
    (ho : o.op = .call { callee := .builtin .append, args := #[s, x], argTypes := #[t, t] })
    (ht : P.underlying t = some (.slice e)) (hinfo : (P.info? e).map (fun i => (i.zero, i.size, i.bytes)) = some (some z, d.sz, bytes)) (hz : z.cells.size = d.sz) (hs0 : 0 < d.sz) (hb0 : 0 < bytes)
    (v : Value) (xs : List α) (p : α) (cs : List Value) (ok okp : Nat → Prop) (hs : a.eval s = v) (hx : a.eval x = .slice (some ⟨W.heap.size, 0, none⟩) 1 1) (hp : FK d W okp p cs) (hokp : ∀ k, okp k → ok k ∧ some k ≠ v.ownBlock) (hfresh : ∀ k, W.heap.size ≤ k → ok k)
    (HO : N d e W base ok v xs) (HB : Below base w0 W) (hbase : base ≤ W.heap.size) (hl : (xs.length + 1) * bytes ≤ 140737488355328)
    (h : ∀ v1 w1, N d e w1 base ok v1 (xs ++ [p]) → Below base w0 w1 → W.grownBy w1 v.ownBlock → (v1.ownBlock = v.ownBlock ∨ ∃ b, v1.ownBlock = some b ∧ W.heap.size ≤ b) → wpList P ops Q rest (a.put o.dst v1) w1) :
    wpList P ops Q (o :: rest) a (W.alloc (.cells cs.toArray e)) := by
  obtain ⟨h0, rows, hlr, hR, hf⟩ := HO
  refine R_append (raw d.sz) base hgd s x t e z bytes ho ht hinfo hz hs0 hb0 v rows cs cs (fun _ => True) (fun _ => False) hs hx (FK_raw hp) (fun _ hk => hk.elim) (fun _ _ => trivial) (raw_any hR) HB hbase (by rw [hlr]; exact hl) ?_
  intro v1 w1 hr hb hg hat
  exact h v1 w1 (N_appended h0 hlr hf (ys := [p]) (news := [cs]) rfl (fun j y c hy hc => by
    rcases j with _ | j
    · simp only [List.getElem?_cons_zero, Option.some.injEq] at hy hc
      rw [← hy, ← hc]; exact hp
    · simp at hy) hokp hfresh hr hg hat) hb hg hat
theorem N_append_rows (d : Kd α) {w0 W : World} (base : Nat) (hgd : o.guard = none) (s x : Operand) (t e : TypeId) (z : Value) (bytes : Nat)
    (ho : o.op = .call { callee := .builtin .append, args := #[s, x], argTypes := #[t, t] })
    (ht : P.underlying t = some (.slice e)) (hinfo : (P.info? e).map (fun i => (i.zero, i.size, i.bytes)) = some (some z, d.sz, bytes)) (hz : z.cells.size = d.sz) (hs0 : 0 < d.sz) (hb0 : 0 < bytes)
    (v : Value) (xs ys : List α) (A : Option Addr) (m c : Nat) (ok okp : Nat → Prop) (hs : a.eval s = v) (hx : a.eval x = .slice A m c)
    (HO : N d e W base ok v xs) (HR : F d W okp A m ys) (hokp : ∀ k, okp k → ok k ∧ some k ≠ v.ownBlock) (hfresh : ∀ k, W.heap.size ≤ k → ok k)
    (HB : Below base w0 W) (hbase : base ≤ W.heap.size) (hl : (xs.length + m) * bytes ≤ 140737488355328)
    (h : ∀ v1 w1, N d e w1 base ok v1 (xs ++ ys) → Below base w0 w1 → W.grownBy w1 v.ownBlock → (v1.ownBlock = v.ownBlock ∨ ∃ b, v1.ownBlock = some b ∧ W.heap.size ≤ b) → wpList P ops Q rest (a.put o.dst v1) w1) :
    wpList P ops Q (o :: rest) a W := by
  obtain ⟨h0, rows, hlr, hR, hf⟩ := HO
  obtain ⟨news, hnl, hnr, hnf⟩ := reads_raw (F_rows HR) (fun y c hk => ⟨d.K_len (FK_now hk), d.K_one (FK_now hk)⟩)
  refine R_append_rows (raw d.sz) base hgd s x t e z bytes ho ht hinfo hz hs0 hb0 v rows news A m c (fun _ => True) (fun _ => False) hs hx (raw_any hR) hnr (fun _ _ hk => hk) (fun _ hk => hk.elim) (fun _ _ => trivial) HB hbase (by rw [hlr]; exact hl) ?_
  intro v1 w1 hr hb hg hat
  exact h v1 w1 (N_appended h0 hlr hf hnl hnf hokp hfresh hr hg hat) hb hg hat
end
end Kd
end Go.Proofs.YteccaekalcjihaaGreatDoorW.PrintWords
namespace Go.Proofs.YteccaekalcjihaaGreatDoorW.PrintMore
open Go.RowKit Go.Proofs.YteccaekalcjihaaGreatDoorW.PrintWords
namespace Kd
open Go.Proofs.YteccaekalcjihaaGreatDoorW.PrintWords.Kd
end Kd
namespace Kd
open Go.Proofs.YteccaekalcjihaaGreatDoorW.PrintWords.Kd
section
variable {α : Type} {d : Kd α} {e base g N : Nat} {ok : Nat → Prop} {W w1 : World} {u v : Value} {xs : List α}
end
end Kd
theorem max2_int (k k' : IntKind) (x y : Int) : Builtin.max2 (.int k x) (.int k' y) = pure (.int k (if x < y then y else x)) := by simp only [Builtin.max2, gt_iff_lt]
theorem min2_int (k k' : IntKind) (x y : Int) : Builtin.min2 (.int k x) (.int k' y) = pure (.int k (if y < x then y else x)) := by simp only [Builtin.min2]
theorem max_two (ats : Array TypeId) (ty : TypeId) (a b : Value) : Builtin.max_ ats ty #[a, b] = (Builtin.max2 a b >>= fun s => pure s) := by simp only [Builtin.max_, List.foldlM_cons, List.foldlM_nil]
theorem min_two (ats : Array TypeId) (ty : TypeId) (a b : Value) : Builtin.min_ ats ty #[a, b] = (Builtin.min2 a b >>= fun s => pure s) := by simp only [Builtin.min_, List.foldlM_cons, List.foldlM_nil]
theorem max_three (ats : Array TypeId) (ty : TypeId) (a b c : Value) : Builtin.max_ ats ty #[a, b, c] = (Builtin.max2 a b >>= fun s => Builtin.max2 s c >>= fun s => pure s) := by simp only [Builtin.max_, List.foldlM_cons, List.foldlM_nil]
theorem min_three (ats : Array TypeId) (ty : TypeId) (a b c : Value) : Builtin.min_ ats ty #[a, b, c] = (Builtin.min2 a b >>= fun s => Builtin.min2 s c >>= fun s => pure s) := by simp only [Builtin.min_, List.foldlM_cons, List.foldlM_nil]
theorem max_four (ats : Array TypeId) (ty : TypeId) (a b c d : Value) : Builtin.max_ ats ty #[a, b, c, d] = (Builtin.max2 a b >>= fun s => Builtin.max2 s c >>= fun s => Builtin.max2 s d >>= fun s => pure s) := by simp only [Builtin.max_, List.foldlM_cons, List.foldlM_nil]
theorem min_four (ats : Array TypeId) (ty : TypeId) (a b c d : Value) : Builtin.min_ ats ty #[a, b, c, d] = (Builtin.min2 a b >>= fun s => Builtin.min2 s c >>= fun s => Builtin.min2 s d >>= fun s => pure s) := by simp only [Builtin.min_, List.foldlM_cons, List.foldlM_nil]
end Go.Proofs.YteccaekalcjihaaGreatDoorW.PrintMore
namespace Go.Proofs.YteccaekalcjihaaGreatDoorW.PrintWords
open Go.RowKit
section
variable {P : Program} {ops : Array Oper} {rest : List Oper} {o : Oper} {a : Act} {Q : Exit → Act → World → Prop} {W : World}
theorem gate_callee {f : FuncId} {as0 : Array Operand} {ts : Array TypeId} (_ho : o.op = .call { callee := .value (.func f), args := as0, argTypes := ts }) (h : wpList P ops Q (o :: rest) a W) : wpList P ops Q (o :: rest) a W := h
theorem gate_builtin {b : Builtin} {xs : Array Operand} {ts : Array TypeId} (_ho : o.op = .call { callee := .builtin b, args := xs, argTypes := ts }) (h : wpList P ops Q (o :: rest) a W) : wpList P ops Q (o :: rest) a W := h
end
def mx (a b : Int) : Int := if a < b then b else a
def mn (a b : Int) : Int := if b < a then b else a
namespace Kd
section
variable {α : Type} {d : Kd α} {e base : Nat} {ok : Nat → Prop} {W w1 : World} {v : Value} {xs : List α}
end
section
variable {α : Type} {d : Kd α} {e base g n cap : Nat} {ok oki okp : Nat → Prop} {W : World} {xs : List α} {i : Int} {c : List Value}
end
section
variable {α : Type} {d : Kd α} {e base b b' g N : Nat} {ok ok1 : Nat → Prop} {W W2 w1 : World} {u v : Value} {xs ys : List α} {S : Nat → Prop}
end
end Kd
end Go.Proofs.YteccaekalcjihaaGreatDoorW.PrintWords
namespace Go.Proofs.YteccaekalcjihaaGreatDoorW.PrintWords
open Go.RowKit
namespace Kd
section
variable {α β : Type} {d : Kd α} {e base base' n m c g N' lo hi : Nat} {ok ok' S : Nat → Prop} {w W w1 : World} {A : Option Addr} {ad : Addr} {u v v1 : Value} {xs : List α}
theorem N_afterv (h : N d e W base (fun k => ok k ∧ some k ≠ v.ownBlock) u xs) (hg : W.grownBy w1 v.ownBlock) (hat : v1.ownBlock = v.ownBlock ∨ ∃ b, v1.ownBlock = some b ∧ W.heap.size ≤ b) : N d e w1 base (fun k => ok k ∧ some k ≠ v1.ownBlock) u xs := N_after h hg hat
theorem R_newM {M : Nat → Prop} (h : d.R e w1 W.heap.size ok v xs) (hle : w.heap.size ≤ W.heap.size) (hM : ∀ k, w.heap.size ≤ k → M k) : d.R e w1 W.heap.size (fun k => M k ∧ ok k) v xs := R_mono (R_bound h) (fun k hk => ⟨hM k (Nat.le_trans hle hk.2.1), hk.1⟩)
end
end Kd
end Go.Proofs.YteccaekalcjihaaGreatDoorW.PrintWords
namespace Go.Proofs.YteccaekalcjihaaGreatDoor.PTn
open Go.RowKit Go.Proofs.YteccaekalcjihaaGreatDoorW.PrintWords Go.Proofs.YteccaekalcjihaaGreatDoorW.PrintLast Go.Proofs.YteccaekalcjihaaGreatDoorW.PrintMore
attribute [local go_sem] max2_int min2_int max_two min_two max_three min_three max_four min_four
set_option linter.unusedVariables false
set_option linter.unusedSimpArgs false
theorem info40 : (Tryz.prog.info? 40).map (fun i => (i.zero, i.size, i.bytes)) = some (some (.agg #[(.int .i64 0), (.string ⟨#[]⟩), (.string ⟨#[]⟩), (.slice none 0 0), (.bool false)]), 5, 72) := by kernel_rfl
structure S38 where
  f0 : ByteArray
  f1 : ByteArray
def k38 : Kd S38 := Kd.iso (Kd.pair Kd.string Kd.string) (fun x : S38 => (x.f0, x.f1))
structure S40 where
  f0 : Int
  f1 : ByteArray
  f2 : ByteArray
  f3 : (List S38)
  f4 : Bool
def z40 : S40 := ⟨(0 : Int), (⟨#[]⟩ : ByteArray), (⟨#[]⟩ : ByteArray), ([] : List S38), false⟩
def k40 : Kd S40 := Kd.iso (Kd.pair (Kd.int .i64) (Kd.pair Kd.string (Kd.pair Kd.string (Kd.pair (Kd.slice 38 k38) Kd.bool)))) (fun x : S40 => (x.f0, x.f1, x.f2, x.f3, x.f4))
theorem k40_open {w : World} {x : S40} {cs : List Value} (h : k40.K w x cs) : ∃ A3 c3, cs = [.int .i64 x.f0, .string x.f1, .string x.f2, .slice A3 x.f3.length c3, .bool x.f4] ∧ x.f3.length ≤ c3 ∧ k38.C w A3 x.f3.length x.f3 := by
  obtain ⟨_, _, rfl, rfl, ⟨_, _, rfl, rfl, ⟨_, _, rfl, rfl, ⟨_, _, rfl, ⟨A3, c3, rfl, l3, g3⟩, rfl⟩⟩⟩⟩ := h
  exact ⟨A3, c3, rfl, l3, g3⟩
theorem k40_mk (w : World) (x : S40) {A3 : Option Addr} {c3 : Nat} (l3 : x.f3.length ≤ c3) (g3 : k38.C w A3 x.f3.length x.f3) : k40.K w x [.int .i64 x.f0, .string x.f1, .string x.f2, .slice A3 x.f3.length c3, .bool x.f4] := ⟨[.int .i64 x.f0], [.string x.f1, .string x.f2, .slice A3 x.f3.length c3, .bool x.f4], rfl, rfl, ⟨[.string x.f1], [.string x.f2, .slice A3 x.f3.length c3, .bool x.f4], rfl, rfl, ⟨[.string x.f2], [.slice A3 x.f3.length c3, .bool x.f4], rfl, rfl, ⟨[.slice A3 x.f3.length c3], [.bool x.f4], rfl, ⟨A3, c3, rfl, l3, g3⟩, rfl⟩⟩⟩⟩
theorem k40_mkM (w : World) (base : Nat) (ok : Nat → Prop) (x : S40) {v3 : Value} (g3 : k38.R 38 w base ok v3 x.f3) : k40.M w base ok x [.int .i64 x.f0, .string x.f1, .string x.f2, v3, .bool x.f4] := ⟨[.int .i64 x.f0], [.string x.f1, .string x.f2, v3, .bool x.f4], rfl, rfl, ⟨[.string x.f1], [.string x.f2, v3, .bool x.f4], rfl, rfl, ⟨[.string x.f2], [v3, .bool x.f4], rfl, rfl, ⟨[v3], [.bool x.f4], rfl, ⟨v3, rfl, g3⟩, rfl⟩⟩⟩⟩
theorem k40_mkF (W : World) (ok : Nat → Prop) (x : S40) {A3 : Option Addr} {c3 : Nat} (l3 : x.f3.length ≤ c3) (g3 : Kd.F k38 W ok A3 x.f3.length x.f3) : Kd.FK k40 W ok x [.int .i64 x.f0, .string x.f1, .string x.f2, .slice A3 x.f3.length c3, .bool x.f4] := fun W2 hW => k40_mk W2 x l3 (g3 W2 hW)
def rd_T40 (xs : List S40) (i : Int) : S40 := xs.getD i.toNat z40
theorem at_T40 {w : World} {A : Option Addr} {n : Nat} {xs : List S40} (h : Kd.C k40 w A n xs) (i : Int) (h0 : 0 ≤ i) (h1 : i < n) : ∃ ad A3 c3, A = some ad ∧ w.cell? (ad.add (i.toNat * 5)) = some (.int .i64 (rd_T40 xs i).f0) ∧ w.cell? ⟨(ad.add (i.toNat * 5)).block, (ad.add (i.toNat * 5)).off + 1, none⟩ = some (.string (rd_T40 xs i).f1) ∧ w.cell? ⟨(ad.add (i.toNat * 5)).block, (ad.add (i.toNat * 5)).off + 2, none⟩ = some (.string (rd_T40 xs i).f2) ∧ w.cell? ⟨(ad.add (i.toNat * 5)).block, (ad.add (i.toNat * 5)).off + 3, none⟩ = some (.slice A3 (rd_T40 xs i).f3.length c3) ∧ w.cell? ⟨(ad.add (i.toNat * 5)).block, (ad.add (i.toNat * 5)).off + 4, none⟩ = some (.bool (rd_T40 xs i).f4) ∧ (rd_T40 xs i).f3.length ≤ c3 ∧ k38.C w A3 (rd_T40 xs i).f3.length (rd_T40 xs i).f3 := by
  obtain ⟨ad, c, e, _, hK, hc0⟩ := Kd.C_get h z40 i h0 h1
  have hc : ∀ j u, c[j]? = some u → w.cell? (ad.add (i.toNat * 5 + j)) = some u := hc0
  obtain ⟨A3, c3, rfl, l3, g3⟩ := k40_open hK
  exact ⟨ad, A3, c3, e, hc 0 _ rfl, by rw [← add_field _ _ 1 (by omega)]; exact hc 1 _ rfl, by rw [← add_field _ _ 2 (by omega)]; exact hc 2 _ rfl, by rw [← add_field _ _ 3 (by omega)]; exact hc 3 _ rfl, by rw [← add_field _ _ 4 (by omega)]; exact hc 4 _ rfl, l3, g3⟩
end Go.Proofs.YteccaekalcjihaaGreatDoor.PTn
namespace Go.Proofs.YteccaekalcjihaaGreatDoor.PTn
open Go.RowKit Go.Proofs.YteccaekalcjihaaGreatDoorW.PrintWords Go.Proofs.YteccaekalcjihaaGreatDoorW.PrintLast Go.Proofs.YteccaekalcjihaaGreatDoorW.PrintMore
attribute [local go_sem] max2_int min2_int max_two min_two max_three min_three max_four min_four
set_option linter.unusedVariables false
set_option linter.unusedSimpArgs false
def sign_Space.f (a0 : Int) : Option (Bool) := if a0 = 32 then (some true) else (if a0 = 9 then (some true) else (if a0 = 10 then (some true) else (some (a0 == 12))))
set_option maxHeartbeats 8000000 in
set_option maxRecDepth 100000 in
theorem sign_Space.calls (a0 : Int) (r : Bool) (w : World) (h : sign_Space.f a0 = some r) :
    Calls Tryz.prog 112 #[.int .u8 a0] w fun e w' => e = .returned (.bool r) ∧ Drawn0 w w' := by
  have H : (if a0 = 32 then (some true) else (if a0 = 9 then (some true) else (if a0 = 10 then (some true) else (some (a0 == 12))))) = some r := h
  clear h
  by_cases c2 : a0 = 32
  · rw [if_pos c2] at H
    have c2b0 : (a0 == 32) = true := beq_iff_eq.mpr c2
    have c2b1 : (a0 != 32) = false := bne_eq_false_iff_eq.mpr c2
    clear c2
    obtain rfl := Option.some.inj H
    go_enter Tryz.func112, Tryz.ntmps112
    go_wp2
    go_ret
    exact ⟨by first | rfl | (simp; done) | (simp [*]; done), by repeat (first | exact Drawn0.refl _ | apply Drawn0.step)⟩
  · rw [if_neg c2] at H
    have c2b0 : (a0 == 32) = false := beq_eq_false_iff_ne.mpr c2
    have c2b1 : (a0 != 32) = true := bne_iff_ne.mpr c2
    by_cases c3 : a0 = 9
    · rw [if_pos c3] at H
      have c3b0 : (a0 == 9) = true := beq_iff_eq.mpr c3
      have c3b1 : (a0 != 9) = false := bne_eq_false_iff_eq.mpr c3
      clear c3
      obtain rfl := Option.some.inj H
      go_enter Tryz.func112, Tryz.ntmps112
      go_wp2
      go_ret
      exact ⟨by first | rfl | (simp; done) | (simp [*]; done), by repeat (first | exact Drawn0.refl _ | apply Drawn0.step)⟩
    · rw [if_neg c3] at H
      have c3b0 : (a0 == 9) = false := beq_eq_false_iff_ne.mpr c3
      have c3b1 : (a0 != 9) = true := bne_iff_ne.mpr c3
      by_cases c4 : a0 = 10
      · rw [if_pos c4] at H
        have c4b0 : (a0 == 10) = true := beq_iff_eq.mpr c4
        have c4b1 : (a0 != 10) = false := bne_eq_false_iff_eq.mpr c4
        clear c4
        obtain rfl := Option.some.inj H
        go_enter Tryz.func112, Tryz.ntmps112
        go_wp2
        go_ret
        exact ⟨by first | rfl | (simp; done) | (simp [*]; done), by repeat (first | exact Drawn0.refl _ | apply Drawn0.step)⟩
      · rw [if_neg c4] at H
        have c4b0 : (a0 == 10) = false := beq_eq_false_iff_ne.mpr c4
        have c4b1 : (a0 != 10) = true := bne_iff_ne.mpr c4
        obtain rfl := Option.some.inj H
        go_enter Tryz.func112, Tryz.ntmps112
        go_wp2
        go_ret
        exact ⟨by first | rfl | (simp; done) | (simp [*]; done), by repeat (first | exact Drawn0.refl _ | apply Drawn0.step)⟩
end Go.Proofs.YteccaekalcjihaaGreatDoor.PTn
namespace Go.Proofs.YteccaekalcjihaaGreatDoor.PTn
open Go.RowKit Go.Proofs.YteccaekalcjihaaGreatDoorW.PrintWords Go.Proofs.YteccaekalcjihaaGreatDoorW.PrintLast Go.Proofs.YteccaekalcjihaaGreatDoorW.PrintMore
attribute [local go_sem] max2_int min2_int max_two min_two max_three min_three max_four min_four
set_option linter.unusedVariables false
set_option linter.unusedSimpArgs false
def IsS92 (w0 W : World) (g : Nat) (f0 : ByteArray) (f1 : Int) : Prop := W.heap[g]? = some (.cells #[.string f0, .int .i64 f1] 92 (0, 0)) ∧ w0.heap.size ≤ g
theorem IsS92.drewN {w0 W : World} {g : Nat} {f0 : ByteArray} {f1 : Int} (h : IsS92 w0 W g f0 f1) (m : Nat) : IsS92 w0 (W.drewN m) g f0 f1 := h
theorem IsS92.ge {w0 W : World} {g : Nat} {f0 : ByteArray} {f1 : Int} (h : IsS92 w0 W g f0 f1) : w0.heap.size ≤ g := by
  obtain ⟨hb, hg⟩ := h
  exact hg
theorem cellS92_0 {W : World} {g : Nat} {f0 : ByteArray} {f1 : Int} (h : W.heap[g]? = some (.cells #[.string f0, .int .i64 f1] 92 (0, 0))) : W.cell? ⟨g, 0, none⟩ = some (.string f0) := (blk_cell h 0).trans rfl
theorem cellS92_1 {W : World} {g : Nat} {f0 : ByteArray} {f1 : Int} (h : W.heap[g]? = some (.cells #[.string f0, .int .i64 f1] 92 (0, 0))) : W.cell? ⟨g, 1, none⟩ = some (.int .i64 f1) := (blk_cell h 1).trans rfl
theorem IsS92.set_1 {w0 W : World} {g : Nat} {f0 : ByteArray} {f1 : Int} (h : IsS92 w0 W g f0 f1) (x : Int) : IsS92 w0 (W.setCell ⟨g, 1, none⟩ (.int .i64 x)) g f0 x := by
  obtain ⟨hb, hg⟩ := h
  exact ⟨by simpa using blk_set hb 1 (.int .i64 x), hg⟩
def attrs_reader_spaces.l0 : Nat → ByteArray → Int → Option (ByteArray × Int)
  | 0, _, _ => none
  | k + 1, x1000, x1001 => if x1001 < (x1000.size : Int) then (if 0 ≤ x1001 then ((sign_Space.f (bt x1000 x1001)).bind fun t292 => (if t292 = true then (attrs_reader_spaces.l0 k x1000 (wrap64 (x1001 + 1))) else (some (x1000, x1001)))) else (none)) else (some (x1000, x1001))
def attrs_reader_spaces.f (k : Nat) (s0_0 : ByteArray) (s0_1 : Int) : Option (ByteArray × Int) := attrs_reader_spaces.l0 k s0_0 s0_1
set_option maxHeartbeats 8000000 in
set_option maxRecDepth 100000 in
theorem attrs_reader_spaces.calls (k : Nat) (g : Nat) (s0_0 : ByteArray) (s0_1 : Int) (r1 : ByteArray) (r2 : Int) (w0 w : World) (hI : IsS92 w0 w g s0_0 s0_1) (hB : Below w0.heap.size w0 w) (h : attrs_reader_spaces.f k s0_0 s0_1 = some (r1, r2)) :
    Calls Tryz.prog 56 #[.pointer (some ⟨g, 0, none⟩)] w fun e w' => e = .returned (.tuple #[]) ∧ IsS92 w0 w' g r1 r2 ∧ Below w0.heap.size w0 w' ∧ KeepBut w w' g none := by
  have HI0 := Aside0.mk hI
  have HK := Aside0.mk (KeepBut.refl w g none)
  have HL := Aside0.mk hB.size
  clear hI
  have HW0 := Aside0.mk hB.size
  have HB := Aside0.mk hB
  clear hB
  have H : (attrs_reader_spaces.l0 k s0_0 s0_1) = some (r1, r2) := h
  clear h
  have H' := Aside0.mk H
  clear H
  go_enter Tryz.func56, Tryz.ntmps56
  go_wp2
  repeat (go_quiet (fail); try go_wp2)
  go_loopg [] k (fun kq w' => ∃ (x1001_1 : Int), Aside0 (attrs_reader_spaces.l0 kq s0_0 x1001_1 = some (r1, r2)) ∧ Aside0 (kq ≤ k) ∧ Aside0 (IsS92 w0 w' g s0_0 x1001_1) ∧ Aside0 (KeepBut w w' g none) ∧ Aside0 (Below w0.heap.size w0 w'))
  case atStart => exact ⟨(s0_1), H', ⟨Nat.le_refl _⟩, ⟨by repeat (first | (with_reducible first | exact HI0.out | apply IsS92.alloc | apply IsS92.drewN | apply IsS92.drew | apply IsS92.set_0 | apply IsS92.set_1) | exact HI0.out)⟩, ⟨by repeat (first | (with_reducible first | exact HK.out | apply KeepBut.set_ | apply keep_drewN | apply keep_drew | apply keep_alloc) | exact HK.out)⟩, ⟨by repeat (first | (with_reducible first | exact HB.out | apply below_alloc | apply pw_below_drewN | apply below_drew1 | refine below_set ?_ (IsS92.ge HI0.out)) | exact HB.out)⟩⟩
  case round =>
    clear H'
    obtain ⟨x1001_1, HA, HK1, HI0, HK, HB⟩ := hrel
    cases gk with
    | zero => exact absurd HA.out (by simp [attrs_reader_spaces.l0])
    | succ k1 =>
      have H := HA.out
      clear HA
      simp only [attrs_reader_spaces.l0] at H
      by_cases c2 : x1001_1 < (s0_0.size : Int)
      · rw [if_pos c2] at H
        have c2b0 : decide (x1001_1 < (s0_0.size : Int)) = true := decide_eq_true c2
        clear c2
        by_cases c3 : 0 ≤ x1001_1
        · rw [if_pos c3] at H
          have c3b0 : decide (0 ≤ x1001_1) = true := decide_eq_true c3
          clear c3
          replace H := Option.bind_eq_some_iff.mp H
          obtain ⟨t292, A50, H⟩ := H
          (try dsimp only at H)
          have A5 := Aside0.mk A50
          clear A50
          by_cases c6 : t292 = true
          · subst c6
            rw [if_pos rfl] at H
            have H' := Aside0.mk H
            clear H
            obtain ⟨HGz7, hgz7⟩ := HI0.out
            have hcz7_0 := cellS92_0 HGz7
            have hcz7_1 := cellS92_1 HGz7
            have hfz7_0 := blk_frozen HGz7 0
            have hfz7_1 := blk_frozen HGz7 1
            clear HGz7 hgz7
            have p4 : 0 ≤ (x1001_1 : Int) := of_decide_eq_true (by first | (with_reducible assumption) | assumption)
            have q4 : x1001_1 < (s0_0.size : Int) := of_decide_eq_true (by first | (with_reducible assumption) | assumption)
            have hx4 := bt_at s0_0 x1001_1
            replace p4 := eq_true p4
            replace q4 := eq_true q4
            go_wp2_with (first | (go_at_call 112; (with_reducible refine (sign_Space.calls (bt s0_0 x1001_1) true _ A5.out).mono ?_); rintro e w' ⟨rfl, ⟨nd, rfl⟩⟩; (try first | exact ⟨rfl, _, World.drewN_drewN _ _ _⟩ | exact ⟨rfl, _, Eq.trans (World.drewN_drewN _ _ _) (congrArg (World.drewN _) (Nat.add_assoc _ _ _))⟩)))
            repeat (go_quiet (first | (go_at_call 112; (with_reducible refine (sign_Space.calls (bt s0_0 x1001_1) true _ A5.out).mono ?_); rintro e w' ⟨rfl, ⟨nd, rfl⟩⟩; (try first | exact ⟨rfl, _, World.drewN_drewN _ _ _⟩ | exact ⟨rfl, _, Eq.trans (World.drewN_drewN _ _ _) (congrArg (World.drewN _) (Nat.add_assoc _ _ _))⟩))); try go_wp2_with (first | (go_at_call 112; (with_reducible refine (sign_Space.calls (bt s0_0 x1001_1) true _ A5.out).mono ?_); rintro e w' ⟨rfl, ⟨nd, rfl⟩⟩; (try first | exact ⟨rfl, _, World.drewN_drewN _ _ _⟩ | exact ⟨rfl, _, Eq.trans (World.drewN_drewN _ _ _) (congrArg (World.drewN _) (Nat.add_assoc _ _ _))⟩))))
            go_roundg k1
            case measure => have := HK1.out; omega
            case rel => exact ⟨(wrap64 (x1001_1 + 1)), H', ⟨by have := HK1.out; omega⟩, ⟨by repeat (first | (with_reducible first | exact HI0.out | apply IsS92.alloc | apply IsS92.drewN | apply IsS92.drew | apply IsS92.set_0 | apply IsS92.set_1) | exact HI0.out)⟩, ⟨by repeat (first | (with_reducible first | exact HK.out | apply KeepBut.set_ | apply keep_drewN | apply keep_drew | apply keep_alloc) | exact HK.out)⟩, ⟨by repeat (first | (with_reducible first | exact HB.out | apply below_alloc | apply pw_below_drewN | apply below_drew1 | refine below_set ?_ (IsS92.ge HI0.out)) | exact HB.out)⟩⟩
          · replace c6 := Bool.eq_false_iff.mpr c6
            subst c6
            rw [if_neg (show ¬ (false = true) by decide)] at H
            simp only [Option.some.injEq, Prod.mk.injEq] at H
            obtain ⟨rfl, rfl⟩ := H
            obtain ⟨HGz8, hgz8⟩ := HI0.out
            have hcz8_0 := cellS92_0 HGz8
            have hcz8_1 := cellS92_1 HGz8
            have hfz8_0 := blk_frozen HGz8 0
            have hfz8_1 := blk_frozen HGz8 1
            clear HGz8 hgz8
            have p4 : 0 ≤ (x1001_1 : Int) := of_decide_eq_true (by first | (with_reducible assumption) | assumption)
            have q4 : x1001_1 < (s0_0.size : Int) := of_decide_eq_true (by first | (with_reducible assumption) | assumption)
            have hx4 := bt_at s0_0 x1001_1
            replace p4 := eq_true p4
            replace q4 := eq_true q4
            go_wp2_with (first | (go_at_call 112; (with_reducible refine (sign_Space.calls (bt s0_0 x1001_1) false _ A5.out).mono ?_); rintro e w' ⟨rfl, ⟨nd, rfl⟩⟩; (try first | exact ⟨rfl, _, World.drewN_drewN _ _ _⟩ | exact ⟨rfl, _, Eq.trans (World.drewN_drewN _ _ _) (congrArg (World.drewN _) (Nat.add_assoc _ _ _))⟩)))
            repeat (go_quiet (first | (go_at_call 112; (with_reducible refine (sign_Space.calls (bt s0_0 x1001_1) false _ A5.out).mono ?_); rintro e w' ⟨rfl, ⟨nd, rfl⟩⟩; (try first | exact ⟨rfl, _, World.drewN_drewN _ _ _⟩ | exact ⟨rfl, _, Eq.trans (World.drewN_drewN _ _ _) (congrArg (World.drewN _) (Nat.add_assoc _ _ _))⟩))); try go_wp2_with (first | (go_at_call 112; (with_reducible refine (sign_Space.calls (bt s0_0 x1001_1) false _ A5.out).mono ?_); rintro e w' ⟨rfl, ⟨nd, rfl⟩⟩; (try first | exact ⟨rfl, _, World.drewN_drewN _ _ _⟩ | exact ⟨rfl, _, Eq.trans (World.drewN_drewN _ _ _) (congrArg (World.drewN _) (Nat.add_assoc _ _ _))⟩))))
            first | go_end0 | ((try simp only [Exit.inBlock, Exit.then]); refine bodyPost_ret (results_none rfl _ _ _) rfl ?_)
            exact ⟨by first | rfl | (simp [*] <;> rfl), by repeat (first | (with_reducible first | exact HI0.out | apply IsS92.alloc | apply IsS92.drewN | apply IsS92.drew | apply IsS92.set_0 | apply IsS92.set_1) | exact HI0.out), by repeat (first | (with_reducible first | exact HB.out | apply below_alloc | apply pw_below_drewN | apply below_drew1 | refine below_set ?_ (IsS92.ge HI0.out)) | exact HB.out), by repeat (first | (with_reducible first | exact HK.out | apply KeepBut.set_ | apply keep_drewN | apply keep_drew | apply keep_alloc) | exact HK.out)⟩
        · rw [if_neg c3] at H
          exact absurd H (by simp)
      · rw [if_neg c2] at H
        have c2b0 : decide (x1001_1 < (s0_0.size : Int)) = false := decide_eq_false c2
        clear c2
        simp only [Option.some.injEq, Prod.mk.injEq] at H
        obtain ⟨rfl, rfl⟩ := H
        obtain ⟨HGz9, hgz9⟩ := HI0.out
        have hcz9_0 := cellS92_0 HGz9
        have hcz9_1 := cellS92_1 HGz9
        have hfz9_0 := blk_frozen HGz9 0
        have hfz9_1 := blk_frozen HGz9 1
        clear HGz9 hgz9
        go_wp2
        repeat (go_quiet (fail); try go_wp2)
        first | go_end0 | ((try simp only [Exit.inBlock, Exit.then]); refine bodyPost_ret (results_none rfl _ _ _) rfl ?_)
        exact ⟨by first | rfl | (simp [*] <;> rfl), by repeat (first | (with_reducible first | exact HI0.out | apply IsS92.alloc | apply IsS92.drewN | apply IsS92.drew | apply IsS92.set_0 | apply IsS92.set_1) | exact HI0.out), by repeat (first | (with_reducible first | exact HB.out | apply below_alloc | apply pw_below_drewN | apply below_drew1 | refine below_set ?_ (IsS92.ge HI0.out)) | exact HB.out), by repeat (first | (with_reducible first | exact HK.out | apply KeepBut.set_ | apply keep_drewN | apply keep_drew | apply keep_alloc) | exact HK.out)⟩
end Go.Proofs.YteccaekalcjihaaGreatDoor.PTn
namespace Go.Proofs.YteccaekalcjihaaGreatDoor.PTn
open Go.RowKit Go.Proofs.YteccaekalcjihaaGreatDoorW.PrintWords Go.Proofs.YteccaekalcjihaaGreatDoorW.PrintLast Go.Proofs.YteccaekalcjihaaGreatDoorW.PrintMore
attribute [local go_sem] max2_int min2_int max_two min_two max_three min_three max_four min_four
set_option linter.unusedVariables false
set_option linter.unusedSimpArgs false
def attrs_reader_is.f (s0_0 : ByteArray) (s0_1 : Int) (a1 : Int) : Option (Bool × ByteArray × Int) := if s0_1 < (s0_0.size : Int) then (if 0 ≤ s0_1 then (some (((bt s0_0 s0_1) == a1), s0_0, s0_1)) else (none)) else (some (false, s0_0, s0_1))
set_option maxHeartbeats 8000000 in
set_option maxRecDepth 100000 in
theorem attrs_reader_is.calls (g : Nat) (s0_0 : ByteArray) (s0_1 : Int) (a1 : Int) (r1 : Bool) (r2 : ByteArray) (r3 : Int) (w0 w : World) (hI : IsS92 w0 w g s0_0 s0_1) (hB : Below w0.heap.size w0 w) (h : attrs_reader_is.f s0_0 s0_1 a1 = some (r1, r2, r3)) :
    Calls Tryz.prog 57 #[.pointer (some ⟨g, 0, none⟩), .int .u8 a1] w fun e w' => e = .returned (.bool r1) ∧ IsS92 w0 w' g r2 r3 ∧ Below w0.heap.size w0 w' ∧ KeepBut w w' g none := by
  have HI0 := Aside0.mk hI
  have HK := Aside0.mk (KeepBut.refl w g none)
  have HL := Aside0.mk hB.size
  clear hI
  have HW0 := Aside0.mk hB.size
  have HB := Aside0.mk hB
  clear hB
  have H : (if s0_1 < (s0_0.size : Int) then (if 0 ≤ s0_1 then (some (((bt s0_0 s0_1) == a1), s0_0, s0_1)) else (none)) else (some (false, s0_0, s0_1))) = some (r1, r2, r3) := h
  clear h
  by_cases c3 : s0_1 < (s0_0.size : Int)
  · rw [if_pos c3] at H
    have c3b0 : decide (s0_1 < (s0_0.size : Int)) = true := decide_eq_true c3
    clear c3
    by_cases c4 : 0 ≤ s0_1
    · rw [if_pos c4] at H
      have c4b0 : decide (0 ≤ s0_1) = true := decide_eq_true c4
      clear c4
      simp only [Option.some.injEq, Prod.mk.injEq] at H
      obtain ⟨rfl, rfl, rfl⟩ := H
      obtain ⟨HGz6, hgz6⟩ := HI0.out
      have hcz6_0 := cellS92_0 HGz6
      have hcz6_1 := cellS92_1 HGz6
      have hfz6_0 := blk_frozen HGz6 0
      have hfz6_1 := blk_frozen HGz6 1
      clear HGz6 hgz6
      have p5 : 0 ≤ (s0_1 : Int) := of_decide_eq_true (by first | (with_reducible assumption) | assumption)
      have q5 : s0_1 < (s0_0.size : Int) := of_decide_eq_true (by first | (with_reducible assumption) | assumption)
      have hx5 := bt_at s0_0 s0_1
      replace p5 := eq_true p5
      replace q5 := eq_true q5
      go_enter Tryz.func57, Tryz.ntmps57
      go_wp2
      repeat (go_quiet (fail); try go_wp2)
      go_ret
      exact ⟨by first | rfl | (simp [*] <;> rfl), by repeat (first | (with_reducible first | exact HI0.out | apply IsS92.alloc | apply IsS92.drewN | apply IsS92.drew | apply IsS92.set_0 | apply IsS92.set_1) | exact HI0.out), by repeat (first | (with_reducible first | exact HB.out | apply below_alloc | apply pw_below_drewN | apply below_drew1 | refine below_set ?_ (IsS92.ge HI0.out)) | exact HB.out), by repeat (first | (with_reducible first | exact HK.out | apply KeepBut.set_ | apply keep_drewN | apply keep_drew | apply keep_alloc) | exact HK.out)⟩
    · rw [if_neg c4] at H
      exact absurd H (by simp)
  · rw [if_neg c3] at H
    have c3b0 : decide (s0_1 < (s0_0.size : Int)) = false := decide_eq_false c3
    clear c3
    simp only [Option.some.injEq, Prod.mk.injEq] at H
    obtain ⟨rfl, rfl, rfl⟩ := H
    obtain ⟨HGz7, hgz7⟩ := HI0.out
    have hcz7_0 := cellS92_0 HGz7
    have hcz7_1 := cellS92_1 HGz7
    have hfz7_0 := blk_frozen HGz7 0
    have hfz7_1 := blk_frozen HGz7 1
    clear HGz7 hgz7
    go_enter Tryz.func57, Tryz.ntmps57
    go_wp2
    repeat (go_quiet (fail); try go_wp2)
    go_ret
    exact ⟨by first | rfl | (simp [*] <;> rfl), by repeat (first | (with_reducible first | exact HI0.out | apply IsS92.alloc | apply IsS92.drewN | apply IsS92.drew | apply IsS92.set_0 | apply IsS92.set_1) | exact HI0.out), by repeat (first | (with_reducible first | exact HB.out | apply below_alloc | apply pw_below_drewN | apply below_drew1 | refine below_set ?_ (IsS92.ge HI0.out)) | exact HB.out), by repeat (first | (with_reducible first | exact HK.out | apply KeepBut.set_ | apply keep_drewN | apply keep_drew | apply keep_alloc) | exact HK.out)⟩
end Go.Proofs.YteccaekalcjihaaGreatDoor.PTn
namespace Go
structure AtLabel (P : Program) (l : Nat) (I : Nat → Act → World → Prop) (Q : Exit → Act → World → Prop) (rest : Code) : Prop where
  go : ∀ n a w, I n a w → rest.wp P (Exit.jump l (fun a' w' => ∃ n, I n a' w') Q) a w
theorem Exit.jump_ret (l : Nat) (J : Act → World → Prop) (Q : Exit → Act → World → Prop) (a : Act) (w : World) : Exit.jump l J Q .ret a w = Q .ret a w := rfl
theorem wp_scope_ghost {P : Program} {Q : Exit → Act → World → Prop} {a : Act} {w : World} {c rest : Code} (l : Nat) (I : Nat → Act → World → Prop) (hf : findLabel c l = some (Code.skip.seq rest))
    (round : ∀ n a w, I n a w → ∀ (J : Nat → Act → World → Prop) (K : Act → World → Prop), (∀ k a' w', I k a' w' → J k a' w') → (∀ a' w', Handed J n a' w' → K a' w') → rest.wp P (Exit.jump l K Q) a w)
    (first : AtLabel P l I Q rest → c.wp P (Exit.jump l (fun a' w' => ∃ n, I n a' w') Q) a w) : (Code.scope c).wp P Q a w := by
  have mono : ∀ {J J' : Act → World → Prop}, (∀ a w, J a w → J' a w) → ∀ e a w, Exit.jump l J Q e a w → Exit.jump l J' Q e a w := by
    intro J J' hj e a w h
    cases e with
    | goto l' => exact ⟨h.1, hj _ _ h.2⟩
    | _ => exact h
  refine wp_scope_jumps l (fun a w => ∃ n, I n a w) (fun a w => leastOf (fun n => I n a w)) hf (first ⟨fun n a w hI => ?_⟩) ?_
  · exact wp_mono (round n a w hI I (fun a' w' => ∃ k, I k a' w') (fun _ _ _ h => h) (fun a' w' h => ⟨_, h.choose_spec.2⟩)) (mono (fun _ _ h => h))
  · intro a w hI
    refine wp_seq (wp_skip ?_)
    refine wp_mono (round _ a w (leastOf_spec hI).1 I _ (fun _ _ _ q => q) (fun _ _ q => q)) (mono ?_)
    rintro a' w' ⟨n', hlt, hI'⟩
    exact ⟨⟨n', hI'⟩, Nat.lt_of_le_of_lt ((leastOf_spec ⟨n', hI'⟩).2 n' hI') hlt⟩
end Go
set_option linter.unusedVariables false
namespace Go.Proofs.YteccaekalcjihaaGreatDoor.Buf
open Go.RowKit Go.Lib
structure Kp (F : Nat → Prop) (w w' : World) : Prop where
  os : w'.os = w.os
  tape : w'.tape = w.tape
  output : w'.output = w.output
  size : w.heap.size ≤ w'.heap.size
  block : ∀ k, k < w.heap.size → ¬ F k → w'.heap[k]? = w.heap[k]?
theorem Kp.refl (F : Nat → Prop) (w : World) : Kp F w w := ⟨rfl, rfl, rfl, Nat.le_refl _, fun _ _ _ => rfl⟩
theorem Kp.mono {F G : Nat → Prop} {w w' : World} (h : Kp F w w') (hi : ∀ k, k < w.heap.size → F k → G k) : Kp G w w' := ⟨h.os, h.tape, h.output, h.size, fun k hk hn => h.block k hk (fun hf => hn (hi k hk hf))⟩
theorem Kp.trans {F G : Nat → Prop} {w w1 w2 : World} (h : Kp F w w1) (k : Kp G w1 w2) (hi : ∀ b, b < w.heap.size → G b → F b) : Kp F w w2 :=
  ⟨k.os.trans h.os, k.tape.trans h.tape, k.output.trans h.output, Nat.le_trans h.size k.size, fun b hb hn => (k.block b (Nat.lt_of_lt_of_le hb h.size) (fun hg => hn (hi b hb hg))).trans (h.block b hb hn)⟩
theorem Kp.setCell {F : Nat → Prop} {w w' : World} (h : Kp F w w') {p : Addr} (hp : F p.block) (v : Value) : Kp F w (w'.setCell p v) :=
  ⟨h.os, h.tape, h.output, by simpa [World.setCell] using h.size, fun k hk hn => (Below.heap_setCell _ _ _ _ (fun e => hn (by first | (rw [e]; exact hp) | (rw [← e]; exact hp)))).trans (h.block k hk hn)⟩
theorem Kp.grown {F : Nat → Prop} {w w1 w2 : World} {row : Option Nat} (h : Kp F w w1) (hg : w1.grownBy w2 row) (hr : ∀ k, row = some k → F k ∨ w.heap.size ≤ k) : Kp F w w2 :=
  ⟨hg.os.trans h.os, hg.tape.trans h.tape, hg.output.trans h.output, Nat.le_trans h.size hg.size, fun k hk hn => (hg.block k (Nat.lt_of_lt_of_le hk h.size) (fun e => (hr k e.symm).elim hn (fun hle => absurd hk (by omega)))).trans (h.block k hk hn)⟩
theorem Kp.alloc {F : Nat → Prop} {w w' : World} (h : Kp F w w') (o : Obj) : Kp F w (w'.alloc o) :=
  ⟨h.os, h.tape, h.output, by simp; have := h.size; omega, fun k hk hn => (Lib.alloc_old w' o k (Nat.lt_of_lt_of_le hk h.size)).trans (h.block k hk hn)⟩
theorem Kp.drew {F : Nat → Prop} {w w' : World} (h : Kp F w w') : Kp F w w'.drew := ⟨h.os, h.tape, h.output, h.size, h.block⟩
theorem Kp.below {F : Nat → Prop} {w w' : World} (h : Kp F w w') {B : Nat} (hB : B ≤ w.heap.size) (hf : ∀ k, k < B → ¬ F k) : Below B w w' :=
  ⟨h.os, h.tape, h.output, h.size, fun k hk => h.block k (Nat.lt_of_lt_of_le hk hB) (hf k hk)⟩
theorem Kp.of_below {w w' : World} (h : Below w.heap.size w w') (F : Nat → Prop) : Kp F w w' := ⟨h.os, h.tape, h.output, h.size, fun k hk _ => h.block k hk⟩
theorem ownsF_kp {F : Nat → Prop} {w w' : World} {base : Nat} {e : TypeId} {v : Value} {n : Nat} {xs : List Value} (h : w.ownsRowF base e 1 v n xs) (hk : Kp F w w') (hv : ∀ k, v.ownBlock = some k → ¬ F k) : w'.ownsRowF base e 1 v n xs := by
  refine ⟨h.1, ?_⟩
  rcases h.2 with hn | ⟨g, cap, cur, fz, rfl, hb, hgg, rest⟩
  · exact .inl hn
  · refine .inr ⟨g, cap, cur, fz, rfl, hb, ?_, rest⟩
    rw [hk.block g (Array.getElem?_eq_some_iff.1 hgg).1 (hv g rfl)]
    exact hgg
theorem lt_of_heap {w : World} {b : Nat} {o : Obj} (h : w.heap[b]? = some o) : b < w.heap.size := (Array.getElem?_eq_some_iff.1 h).1
theorem set_same {cs : Array Value} {i : Nat} {v : Value} (h : cs[i]? = some v) : cs.setIfInBounds i v = cs := by
  apply Array.ext_getElem?
  intro j
  rw [Array.getElem?_setIfInBounds]
  split
  · rename_i e
    subst e
    have hl := (Array.getElem?_eq_some_iff.1 h).1
    rw [if_pos (by simpa using hl)]
    exact h.symm
  · rfl
theorem heap_setCell_self {w : World} {b j : Nat} {cs : Array Value} {T : TypeId} {fr : Nat × Nat} (hb : w.heap[b]? = some (.cells cs T fr)) (v : Value) : (w.setCell ⟨b, j, none⟩ v).heap[b]? = some (.cells (cs.setIfInBounds j v) T fr) := by
  simp [World.setCell, Array.getElem?_modify, hb]
section
variable {P : Program} (w : World)
theorem run_append_str (t u ty e : TypeId) (i : TypeInfo) (ht : P.underlying t = some (.slice e)) (hu : P.underlying u = some .string) (hi : P.info? e = some i) (hz : i.zero = some (.int .u8 0)) (hsize : i.size = 1) (hby : i.bytes = 1)
    (v : Value) (n : Nat) (xs : List Value) (hown : w.ownsRowF 0 e 1 v n xs) (s : ByteArray) (hbytes : n + s.size ≤ 140737488355328) :
    ∃ v' w', (Builtin.append_ #[t, u] ty #[v, .string s]).run P w = .ok v' w' ∧ w'.ownsRowF 0 e 1 v' (n + s.size) (xs ++ strCells s) ∧ w.grownBy w' v.ownBlock ∧ (∀ k, v'.ownBlock = some k → v.ownBlock = some k ∨ w.heap.size ≤ k) := by
  have h63 : n + s.size ≤ maxLen := by unfold maxLen; omega
  rcases hown.2 with ⟨rfl, rfl⟩ | ⟨g, cap, cur, fz, rfl, hbg, hg, hfz, hnc, hcm, hcs, htake⟩
  · obtain ⟨v', w', h1, h2, h3, h4⟩ := run_append_own_string (P := P) w w.heap.size t u ty e i ht hu hi hz hsize hby (.slice none 0 0) 0 xs ⟨hown.1, .inl ⟨rfl, rfl⟩⟩ s h63 hbytes (Nat.le_refl _)
    refine ⟨v', w', h1, ?_, h3, fun k hk => Or.inr (h2.lt k hk).1⟩
    have h2' := World.ownsRowF_of h2
    refine ⟨h2'.1, ?_⟩
    rcases h2'.2 with hn | ⟨g, cap, cur, fz, hv, hb, rest⟩
    · exact .inl hn
    · exact .inr ⟨g, cap, cur, fz, hv, Nat.zero_le _, rest⟩
  · have hsmall : n + s.size ≤ 9223372036854775807 := by omega
    have hxl : xs.length = n := by simpa using hown.1
    have hlen : (xs ++ strCells s).length = (n + s.size) * 1 := by rw [List.length_append, hxl, strCells_length, Nat.mul_one]
    by_cases hroom : n + s.size ≤ cap
    · have hcs' : cur.size = cap := by simpa using hcs
      have hr := run_append_room_stringF (P := P) w t u ty e i ht hu hi hsize g n cap cur fz hg (by simpa using hfz) s hroom (by omega)
      refine ⟨_, _, hr, ⟨hlen, .inr ⟨g, cap, _, fz, rfl, hbg, setRow_heap w g cur _ e _ hg, by omega, hroom, hcm, ?_, ?_⟩⟩, ⟨rfl, rfl, rfl, by simp, fun k _ hk => setRow_other w g k _ (fun e => hk (by simp [Value.ownBlock, e]))⟩, fun k hk => Or.inl hk⟩
      · simp only [List.size_toArray, List.length_append, List.length_take, List.length_drop, Array.length_toList, strCells_length]
        omega
      · have ht' : cur.toList.take n = xs := by simpa using htake
        rw [ht', ← hlen]
        exact List.take_left
    · have holds : ∀ j u, xs[j]? = some u → w.cell? ((⟨g, 0, none⟩ : Addr).add j) = some u := hown.cells (g := g) rfl
      have hr := run_append_grow_string (P := P) w t u ty e i (.int .u8 0) ht hu hi hz ⟨g, 0, none⟩ n cap xs (by rw [hsize]; simpa using hxl) holds s (by omega) (by omega) (by rw [hby]; exact growslice_fits (by omega) (by omega))
      have hge := grownCap_ge w (n + s.size) cap e
      have hcm2 : grownCap w (n + s.size) cap e ≤ maxLen := grownCap_le_maxLen w (n + s.size) cap e h63
      refine ⟨_, _, hr, ⟨hlen, .inr ⟨w.heap.size, _, _, (0, 0), rfl, Nat.zero_le _, heap_alloc_new w.drew _, Nat.zero_le _, hge, hcm2, ?_, ?_⟩⟩, ⟨rfl, rfl, rfl, by simp, fun k hk _ => heap_alloc_old w.drew _ hk⟩, fun k hk => Or.inr ?_⟩
      · have hz1 : (Value.int IntKind.u8 0).cells.size = 1 := rfl
        simp only [Array.size_append, List.size_toArray, size_zeroCells, hz1, hxl, strCells_length]
        omega
      · simp only [Array.toList_append, List.append_assoc]
        rw [← List.append_assoc, ← hlen]
        exact List.take_left
      · simp [Value.ownBlock] at hk
        omega
theorem wp_append_str {ops : Array Oper} {rest : List Oper} {o : Oper} {a : Act} {Q : Exit → Act → World → Prop} (hgd : o.guard = none) (sl x : Operand) (t u : TypeId)
    (ho : o.op = .call { callee := .builtin .append, args := #[sl, x], argTypes := #[t, u] })
    (e : TypeId) (i : TypeInfo) (ht : P.underlying t = some (.slice e)) (hu : P.underlying u = some .string) (hi : P.info? e = some i) (hz : i.zero = some (.int .u8 0)) (hsize : i.size = 1) (hby : i.bytes = 1)
    (v : Value) (n : Nat) (xs : List Value) (hs : a.eval sl = v) (hown : w.ownsRowF 0 e 1 v n xs) (s : ByteArray) (hx : a.eval x = .string s) (hbytes : n + s.size ≤ 140737488355328)
    (h : ∀ v' w', w'.ownsRowF 0 e 1 v' (n + s.size) (xs ++ strCells s) → w.grownBy w' v.ownBlock → (∀ k, v'.ownBlock = some k → v.ownBlock = some k ∨ w.heap.size ≤ k) → wpList P ops Q rest (a.put o.dst v') w') : wpList P ops Q (o :: rest) a w := by
  refine wpList_plain hgd fun K hK => ?_
  obtain ⟨v', w', hr, h2, h3, h4⟩ := run_append_str (P := P) w t u o.type e i ht hu hi hz hsize hby v n xs hown s hbytes
  unfold Oper.wp execOp
  simp only [ho, resolve, invoke, builtin, Sem.run_bind, Sem.run_pure, Result.andThen_ok, List.map_toArray, List.map_cons, List.map_nil, hs, hx, hr]
  exact hK _ _ (h v' w' h2 h3 h4)
end
theorem infoByte : (Tryz.prog.info? 5).map (fun i => (i.zero, i.size, i.bytes)) = some (some (.int .u8 0), 1, 1) := by kernel_rfl
theorem sizeBuilder : (Tryz.prog.info? 44).map (·.size) = some 2 := by kernel_rfl
section
variable {T : TypeId} {b : Nat} {cs : Array Value} {w : World}
set_option maxHeartbeats 1000000 in
set_option maxRecDepth 100000 in
theorem copyCheck_used (h0 : w.cell? ⟨b, 0, none⟩ = some (.pointer (some ⟨b, 0, none⟩))) :
    Calls Tryz.prog 67 #[.pointer (some ⟨b, 0, none⟩)] w fun e w' => e = .returned (.tuple #[]) ∧ w' = w := by
  obtain ⟨j, hj, _⟩ := Option.map_eq_some_iff.1 sizeBuilder
  go_enter Tryz.func67, Tryz.ntmps67
  go_wp2
  rw [Lib.run_neq_ptr_same w _ Tryz.underlying42 hj]
  go_wp2
  go_end0
  exact ⟨rfl, rfl⟩
set_option maxHeartbeats 1000000 in
set_option maxRecDepth 100000 in
theorem copyCheck_fresh {n : Nat} (h0 : w.cell? ⟨b, 0, none⟩ = some (.pointer none)) (hsh : w.shape? b = some (T, n)) (hn : 0 < n) (hl : liesAt Tryz.prog Tryz.prog.depth T (n / Tryz.prog.cellsOf T) 0 44 1 = true) (hfz : w.frozen? ⟨b, 0, none⟩ = false) :
    Calls Tryz.prog 67 #[.pointer (some ⟨b, 0, none⟩)] w fun e w' => e = .returned (.tuple #[]) ∧ w' = w.setCell ⟨b, 0, none⟩ (.pointer (some ⟨b, 0, none⟩)) := by
  obtain ⟨j, hj, hjs⟩ := Option.map_eq_some_iff.1 sizeBuilder
  have HL := Lib.hid hl
  clear hl
  go_enter Tryz.func67, Tryz.ntmps67
  go_wp2
  rw [Lib.run_to_unsafe w ⟨b, 0, none⟩ Tryz.underlying42 Tryz.underlying137 hj (by rw [hjs]; decide) hsh hn]
  simp only [Result.andThen]
  rw [Oper.upon_value]
  go_wp2
  rw [run_callFunc_extern Tryz.func124 (by kernel_rfl) (by kernel_rfl) (by kernel_rfl) (e := Extern.AbiNoEscape.same) (by kernel_rfl)]
  rw [Lib.run_noEscape]
  simp only [Result.andThen]
  rw [Oper.upon_value]
  go_wp2
  rw [Lib.run_from_unsafe w ⟨b, 0, none⟩ Tryz.underlying137 Tryz.underlying42 hj hsh HL.out]
  simp only [Result.andThen]
  rw [Oper.upon_value]
  go_wp2
  go_end0
  exact ⟨rfl, rfl⟩
structure At (w : World) (T : TypeId) (b : Nat) (cs : Array Value) (v : Value) : Prop where
  heap : w.heap[b]? = some (.cells cs T (0, 0))
  addr : cs[0]? = some (.pointer none) ∨ cs[0]? = some (.pointer (some ⟨b, 0, none⟩))
  buf : cs[1]? = some v
  lies : liesAt Tryz.prog Tryz.prog.depth T (cs.size / Tryz.prog.cellsOf T) 0 44 1 = true
theorem copyCheck_at {v : Value} (h : At w T b cs v) :
    Calls Tryz.prog 67 #[.pointer (some ⟨b, 0, none⟩)] w fun e w' => e = .returned (.tuple #[]) ∧ w'.heap[b]? = some (.cells (cs.setIfInBounds 0 (.pointer (some ⟨b, 0, none⟩))) T (0, 0)) ∧ Kp (fun k => k = b) w w' := by
  have hsz : 0 < cs.size := by
    have := (Array.getElem?_eq_some_iff.1 h.buf).1
    omega
  rcases h.addr with h0 | h0
  · refine (copyCheck_fresh (T := T) (n := cs.size) (by rw [Lib.cell_of_heap h.heap]; exact h0) (by simp [World.shape?, h.heap]) hsz h.lies (Lib.frozen_of_heap h.heap 0)).mono ?_
    rintro e w' ⟨rfl, rfl⟩
    exact ⟨rfl, heap_setCell_self h.heap _, Kp.setCell (F := fun k => k = b) (p := ⟨b, 0, none⟩) (Kp.refl _ w) rfl _⟩
  · refine (copyCheck_used (by rw [Lib.cell_of_heap h.heap]; exact h0)).mono ?_
    rintro e w' ⟨rfl, rfl⟩
    refine ⟨rfl, ?_, Kp.refl _ _⟩
    rw [set_same h0]
    exact h.heap
set_option maxHeartbeats 2000000 in
set_option maxRecDepth 100000 in
theorem writeString_at {v : Value} {bs : List Value} (h : At w T b cs v) (hown : w.ownsRowF 0 5 1 v bs.length bs) (hne : v.ownBlock ≠ some b) (hT : T ≠ 5) (s : ByteArray) (hlen : bs.length + s.size ≤ 140737488355328) :
    Calls Tryz.prog 26 #[.pointer (some ⟨b, 0, none⟩), .string s] w fun e w' => e = .returned (.tuple #[.int .i64 s.size, .nilIface]) ∧
      ∃ v', w'.heap[b]? = some (.cells ((cs.setIfInBounds 0 (.pointer (some ⟨b, 0, none⟩))).setIfInBounds 1 v') T (0, 0)) ∧ w'.ownsRowF 0 5 1 v' (bs.length + s.size) (bs ++ strCells s) ∧ (∀ k, v'.ownBlock = some k → v.ownBlock = some k ∨ w.heap.size ≤ k) ∧ v'.ownBlock ≠ some b ∧ Kp (fun k => k = b ∨ v.ownBlock = some k) w w' := by
  obtain ⟨i0, hi, hz0, hz1, hz2⟩ := info_parts infoByte
  have HA := Lib.hid h
  clear h
  have HT := Lib.hid hT
  clear hT
  go_enter Tryz.func26, Tryz.ntmps26
  go_wp2_with (go_at_call 67; refine (copyCheck_at HA.out).mono ?_)
  rintro e w1 ⟨rfl, hb1, hk1⟩
  have hbuf : (cs.setIfInBounds 0 (.pointer (some ⟨b, 0, none⟩)))[1]? = some v := by
    rw [Array.getElem?_setIfInBounds]
    simpa using HA.out.buf
  have hown1 : w1.ownsRowF 0 5 1 v bs.length bs := ownsF_kp hown hk1 (fun k hk e => hne (e ▸ hk))
  have c1 : w1.cell? ⟨b, 1, none⟩ = some v := by rw [Lib.cell_of_heap hb1]; exact hbuf
  have HB1 := Lib.hid hb1
  have HBUF := Lib.hid hbuf
  clear hb1 hbuf
  go_wp2_with (at_builtin; refine wp_append_str _ rfl _ _ 22 9 rfl 5 i0 Tryz.underlying22 Tryz.underlying9 hi hz0 hz1 hz2 _ _ _ rfl hown1 s rfl hlen ?_)
  intro v' w2 hown' hgrow hat
  have hb2 : w2.heap[b]? = some (.cells (cs.setIfInBounds 0 (.pointer (some ⟨b, 0, none⟩))) T (0, 0)) := by
    rw [hgrow.block b (lt_of_heap HB1.out) (fun e => hne e.symm)]
    exact HB1.out
  have d1 : w2.cell? ⟨b, 1, none⟩ = some v := by rw [Lib.cell_of_heap hb2]; exact HBUF.out
  have f1 : w2.frozen? ⟨b, 1, none⟩ = false := Lib.frozen_of_heap hb2 1
  have hne' : v'.ownBlock ≠ some b := Lib.ownBlock_neF hown' hb2 HT.out
  have HB2 := Lib.hid hb2
  clear hb2
  obtain ⟨ao, n', cap, rfl⟩ : ∃ ao n' cap, v' = .slice ao n' cap := by
    rcases hown'.2 with ⟨hv, _⟩ | ⟨g, cap, cur, fz, hv, _⟩
    · exact ⟨_, _, _, hv⟩
    · exact ⟨_, _, _, hv⟩
  have hkk : Kp (fun k => k = b ∨ v.ownBlock = some k) w w2 := (hk1.mono (fun k _ e => Or.inl e)).grown hgrow (fun k hk => Or.inl (Or.inr hk))
  have hnew : ∀ k, (Value.slice ao n' cap).ownBlock = some k → v.ownBlock = some k ∨ w.heap.size ≤ k := by
    intro k hk
    rcases hat k hk with h | h
    · exact Or.inl h
    · exact Or.inr (Nat.le_trans hk1.size h)
  go_wp2
  go_ret2
  refine ⟨rfl, Value.slice ao n' cap, heap_setCell_self HB2.out _, ?_, hnew, hne', hkk.setCell (p := ⟨b, 1, none⟩) (Or.inl rfl) _⟩
  exact ownsF_kp hown' (Kp.setCell (F := fun k => k = b) (p := ⟨b, 1, none⟩) (Kp.refl _ w2) rfl _) (fun k hk e => hne' (e ▸ hk))
theorem froze_own {g cap : Nat} {l : List UInt8} {e : TypeId} (h : w.ownsRowF 0 e 1 (.slice (some ⟨g, 0, none⟩) l.length cap) l.length (byteCells l)) : (w.freeze ⟨g, 0, none⟩ l.length).ownsRowF 0 e 1 (.slice (some ⟨g, 0, none⟩) l.length cap) l.length (byteCells l) := by
  unfold World.freeze
  split
  · exact h
  · rename_i hn0
    refine ⟨h.1, ?_⟩
    rcases h.2 with ⟨hv, _⟩ | ⟨g', cap', cur, fz, hv, hbg, hg, hfz, rest⟩
    · cases hv
    · injection hv with ha _ hcap
      injection ha with ha
      injection ha with hgg _ _
      subst hgg
      subst hcap
      obtain ⟨lo, hi⟩ := fz
      refine .inr ⟨g, _, cur, (if lo == hi then (0, 0 + l.length) else (min lo 0, max hi (0 + l.length))), rfl, hbg, ?_, ?_, rest⟩
      · simp [Array.getElem?_modify, hg]
      · simp only at hfz
        split <;> simp <;> omega
theorem Kp.freeze {F : Nat → Prop} {w w' : World} (h : Kp F w w') {p : Addr} (hp : F p.block) (n : Nat) : Kp F w (w'.freeze p n) := by
  unfold World.freeze
  split
  · exact h
  · exact ⟨h.os, h.tape, h.output, by simpa using h.size, fun k hk hn => by
      simp only [Array.getElem?_modify]
      rw [if_neg (fun e => hn (by first | (rw [e]; exact hp) | (rw [← e]; exact hp)))]
      exact h.block k hk hn⟩
set_option maxHeartbeats 1000000 in
set_option maxRecDepth 100000 in
theorem string_some {v : Value} {l : List UInt8} (hb : w.heap[b]? = some (.cells cs T (0, 0))) (hv : cs[1]? = some v) (hown : w.ownsRowF 0 5 1 v l.length (byteCells l)) (hne : v.ownBlock ≠ some b) (h0 : l ≠ []) :
    Calls Tryz.prog 22 #[.pointer (some ⟨b, 0, none⟩)] w fun e w' => e = .returned (.string ⟨l.toArray⟩) ∧ w'.heap[b]? = some (.cells cs T (0, 0)) ∧ w'.ownsRowF 0 5 1 v l.length (byteCells l) ∧ Kp (fun k => v.ownBlock = some k) w w' := by
  have hl0 : l.length ≠ 0 := by simpa using h0
  obtain ⟨g, cap, cur, fz, rfl, hbg, hg, hfz, hnc, hcm, hcs, htake⟩ : ∃ g cap cur fz, v = .slice (some ⟨g, 0, none⟩) l.length cap ∧ 0 ≤ g ∧ w.heap[g]? = some (.cells cur 5 fz) ∧ fz.2 ≤ l.length * 1 ∧ l.length ≤ cap ∧ cap ≤ maxLen ∧ cur.size = cap * 1 ∧ cur.toList.take (l.length * 1) = byteCells l := by
    rcases hown.2 with ⟨_, hz⟩ | ⟨g, cap, cur, fz, hv, r⟩
    · exact absurd hz hl0
    · exact ⟨g, cap, cur, fz, hv, r⟩
  have c1 : w.drew.cell? ⟨b, 1, none⟩ = some (.slice (some ⟨g, 0, none⟩) l.length cap) := by
    have : w.drew.heap[b]? = some (.cells cs T (0, 0)) := hb
    rw [Lib.cell_of_heap this]; exact hv
  have hSD : (Builtin.unsafeSliceData_ #[22] 102 #[.slice (some ⟨g, 0, none⟩) l.length cap]).run Tryz.prog w.drew = .ok (.pointer (some ⟨g, 0, none⟩)) w.drew :=
    Lib.run_unsafeSliceData_row _ _ _ _ _ _ (by omega)
  have hUS : (Builtin.unsafeString_ #[102, 3] 9 #[.pointer (some ⟨g, 0, none⟩), .int .i64 l.length]).run Tryz.prog w.drew = .ok (.string ⟨l.toArray⟩) (w.drew.freeze ⟨g, 0, none⟩ l.length) := by
    refine Lib.run_unsafeString_row w.drew 102 3 9 5 Tryz.underlying102 (by kernel_rfl) g cur.size (by have hg' : w.drew.heap[g]? = some (.cells cur 5 fz) := hg; simp [World.shape?, hg']) l h0 (by omega) (by unfold maxLen at hcm; omega) ?_
    intro j x hx
    have := hown.cells (g := g) rfl j (.int .u8 x.toNat) (by simp [Lib.byteCells, hx])
    exact this
  have hgb : g ≠ b := fun e => hne (by simp [Value.ownBlock, e])
  have hk : Kp (fun k => (Value.slice (some ⟨g, 0, none⟩) l.length cap).ownBlock = some k) w (w.drew.freeze ⟨g, 0, none⟩ l.length) := Kp.freeze (F := fun k => (Value.slice (some ⟨g, 0, none⟩) l.length cap).ownBlock = some k) (p := ⟨g, 0, none⟩) (Kp.drew (Kp.refl _ w)) rfl _
  have hb' : (w.drew.freeze ⟨g, 0, none⟩ l.length).heap[b]? = some (.cells cs T (0, 0)) := by
    rw [hk.block b (lt_of_heap hb) (fun e => hne e)]
    exact hb
  have ho' := froze_own (w := w.drew) (g := g) (cap := cap) (l := l) (e := 5) hown
  have HB' := Lib.hid hb'
  have HO' := Lib.hid ho'
  have HK' := Lib.hid hk
  clear hb' ho' hk hown hg htake hcs hb hv hnc hcm
  go_enter Tryz.func22, Tryz.ntmps22
  go_wp2
  go_region
  all_goals (go_wp2; go_ret; exact ⟨rfl, HB'.out, HO'.out, HK'.out⟩)
set_option maxHeartbeats 1000000 in
set_option maxRecDepth 100000 in
theorem string_none (hb : w.heap[b]? = some (.cells cs T (0, 0))) (hv : cs[1]? = some (.slice none 0 0)) :
    Calls Tryz.prog 22 #[.pointer (some ⟨b, 0, none⟩)] w fun e w' => e = .returned (.string ⟨#[]⟩) ∧ w' = w.drew := by
  have c1 : w.drew.cell? ⟨b, 1, none⟩ = some (.slice none 0 0) := by
    have : w.drew.heap[b]? = some (.cells cs T (0, 0)) := hb
    rw [Lib.cell_of_heap this]; exact hv
  have hSD : (Builtin.unsafeSliceData_ #[22] 102 #[.slice none 0 0]).run Tryz.prog w.drew = .ok (.pointer none) w.drew := rfl
  have hUS : ∀ (W : World) (q : Option Addr), (Builtin.unsafeString_ #[102, 3] 9 #[.pointer q, .int .i64 0]).run Tryz.prog W = .ok (.string .empty) W := fun W q => Lib.run_unsafeString_none W _ _ _ q
  clear hb hv
  go_enter Tryz.func22, Tryz.ntmps22
  go_wp2
  go_region
  all_goals (go_wp2; go_ret; exact ⟨rfl, rfl⟩)
set_option maxHeartbeats 1000000 in
set_option maxRecDepth 100000 in
theorem string_room {g cap : Nat} (hc0 : cap ≠ 0) (hb : w.heap[b]? = some (.cells cs T (0, 0))) (hv : cs[1]? = some (.slice (some ⟨g, 0, none⟩) 0 cap)) :
    Calls Tryz.prog 22 #[.pointer (some ⟨b, 0, none⟩)] w fun e w' => e = .returned (.string ⟨#[]⟩) ∧ w' = w.drew := by
  have c1 : w.drew.cell? ⟨b, 1, none⟩ = some (.slice (some ⟨g, 0, none⟩) 0 cap) := by
    have : w.drew.heap[b]? = some (.cells cs T (0, 0)) := hb
    rw [Lib.cell_of_heap this]; exact hv
  have hSD : (Builtin.unsafeSliceData_ #[22] 102 #[.slice (some ⟨g, 0, none⟩) 0 cap]).run Tryz.prog w.drew = .ok (.pointer (some ⟨g, 0, none⟩)) w.drew := Lib.run_unsafeSliceData_row _ _ _ _ _ _ hc0
  have hUS : ∀ (W : World) (q : Option Addr), (Builtin.unsafeString_ #[102, 3] 9 #[.pointer q, .int .i64 0]).run Tryz.prog W = .ok (.string .empty) W := fun W q => Lib.run_unsafeString_none W _ _ _ q
  clear hb hv hc0
  go_enter Tryz.func22, Tryz.ntmps22
  go_wp2
  go_region
  all_goals (go_wp2; go_ret; exact ⟨rfl, rfl⟩)
set_option maxHeartbeats 1000000 in
set_option maxRecDepth 100000 in
theorem string_noroom {g : Nat} {cur : Array Value} {fz : Nat × Nat} (hb : w.heap[b]? = some (.cells cs T (0, 0))) (hv : cs[1]? = some (.slice (some ⟨g, 0, none⟩) 0 0)) (hg : w.heap[g]? = some (.cells cur 5 fz)) :
    Calls Tryz.prog 22 #[.pointer (some ⟨b, 0, none⟩)] w fun e w' => e = .returned (.string ⟨#[]⟩) ∧ Kp (fun _ => False) w w' := by
  have hlt : b < w.heap.size := lt_of_heap hb
  have c1 : w.drew.cell? ⟨b, 1, none⟩ = some (.slice (some ⟨g, 0, none⟩) 0 0) := by
    have : w.drew.heap[b]? = some (.cells cs T (0, 0)) := hb
    rw [Lib.cell_of_heap this]; exact hv
  have hSD : (Builtin.unsafeSliceData_ #[22] 102 #[.slice (some ⟨g, 0, none⟩) 0 0]).run Tryz.prog w.drew = .ok (.pointer (some ⟨w.drew.heap.size, 0, none⟩)) (w.drew.alloc (.view ⟨g, 0, none⟩ 5)) :=
    Lib.run_unsafeSliceData_zero w.drew _ _ 5 Tryz.underlying102 ⟨g, 0, none⟩ 0 (5, cur.size) (by have hg' : w.drew.heap[g]? = some (.cells cur 5 fz) := hg; simp [World.shape?, hg'])
  have c2 : (w.drew.alloc (.view ⟨g, 0, none⟩ 5)).cell? ⟨b, 1, none⟩ = some (.slice (some ⟨g, 0, none⟩) 0 0) := by
    have : (w.drew.alloc (.view ⟨g, 0, none⟩ 5)).heap[b]? = _ := (Lib.alloc_old w.drew _ b hlt).trans hb
    rw [Lib.cell_of_heap this]; exact hv
  have c3 : (w.alloc (.view ⟨g, 0, none⟩ 5)).drew.cell? ⟨b, 1, none⟩ = some (.slice (some ⟨g, 0, none⟩) 0 0) := c2
  have c0 : w.cell? ⟨b, 1, none⟩ = some (.slice (some ⟨g, 0, none⟩) 0 0) := c1
  have hUS : ∀ (W : World) (q : Option Addr), (Builtin.unsafeString_ #[102, 3] 9 #[.pointer q, .int .i64 0]).run Tryz.prog W = .ok (.string .empty) W := fun W q => Lib.run_unsafeString_none W _ _ _ q
  clear hb hv hg
  go_enter Tryz.func22, Tryz.ntmps22
  go_wp2
  go_region
  all_goals (go_wp2; go_ret; exact ⟨rfl, (Kp.drew (Kp.refl _ w)).alloc _⟩)
theorem string_at {v : Value} {l : List UInt8} (hb : w.heap[b]? = some (.cells cs T (0, 0))) (hv : cs[1]? = some v) (hown : w.ownsRowF 0 5 1 v l.length (byteCells l)) (hne : v.ownBlock ≠ some b) :
    Calls Tryz.prog 22 #[.pointer (some ⟨b, 0, none⟩)] w fun e w' => e = .returned (.string ⟨l.toArray⟩) ∧ w'.heap[b]? = some (.cells cs T (0, 0)) ∧ w'.ownsRowF 0 5 1 v l.length (byteCells l) ∧ Kp (fun k => v.ownBlock = some k) w w' := by
  cases l with
  | cons x r => exact string_some hb hv hown hne (by simp)
  | nil =>
    have hown' := hown
    rcases hown.2 with ⟨rfl, _⟩ | ⟨g, cap, cur, fz, rfl, hbg, hg, _, _, _, _, _⟩
    · refine (string_none hb hv).mono ?_
      rintro e w' ⟨rfl, rfl⟩
      exact ⟨rfl, hb, hown', (Kp.refl _ w).drew⟩
    · by_cases hc0 : cap = 0
      · subst hc0
        refine (string_noroom hb hv hg).mono ?_
        rintro e w' ⟨rfl, hk⟩
        exact ⟨rfl, (hk.block b (lt_of_heap hb) (fun h => h)).trans hb, ownsF_kp hown' hk (fun _ _ h => h), hk.mono (fun _ _ h => h.elim)⟩
      · refine (string_room hc0 hb hv).mono ?_
        rintro e w' ⟨rfl, rfl⟩
        exact ⟨rfl, hb, hown', (Kp.refl _ w).drew⟩
end
end Go.Proofs.YteccaekalcjihaaGreatDoor.Buf
set_option linter.unusedVariables false
namespace Go.Proofs.YteccaekalcjihaaGreatDoor.Buf
open Go.RowKit Go.Lib
structure Stop (p : Prop) : Prop where
  out : p
section
variable {P : Program} (w : World)
theorem run_append_cells (t ty e : TypeId) (i : TypeInfo) (ht : P.underlying t = some (.slice e)) (hi : P.info? e = some i) (hz : i.zero = some (.int .u8 0)) (hsize : i.size = 1) (hby : i.bytes = 1)
    (v : Value) (n : Nat) (xs : List Value) (hown : w.ownsRowF 0 e 1 v n xs) (a : Addr) (m c : Nat) (news : List Value) (hl : news.length = m) (hnews : ∀ j u, news[j]? = some u → w.cell? (a.add j) = some u) (h1 : ∀ u ∈ news, u.oneCell' = true) (hbytes : n + m ≤ 140737488355328) :
    ∃ v' w', (Builtin.append_ #[t, t] ty #[v, .slice (some a) m c]).run P w = .ok v' w' ∧ w'.ownsRowF 0 e 1 v' (n + m) (xs ++ news) ∧ w.grownBy w' v.ownBlock ∧ (∀ k, v'.ownBlock = some k → v.ownBlock = some k ∨ w.heap.size ≤ k) := by
  have h63 : n + m ≤ maxLen := by unfold maxLen; omega
  rcases hown.2 with ⟨rfl, rfl⟩ | ⟨g, cap, cur, fz, rfl, hbg, hg, hfz, hnc, hcm, hcs, htake⟩
  · obtain ⟨v', w', r1, r2, r3, r4⟩ := run_append_own (P := P) w w.heap.size t ty e i (.int .u8 0) 1 1 ht hi hz hsize hby rfl (by omega) (.slice none 0 0) 0 xs ⟨hown.1, .inl ⟨rfl, rfl⟩⟩ a m c news (by simpa using hl) hnews h1 h63 (by omega) (Nat.le_refl _)
    refine ⟨v', w', r1, ?_, r3, fun k hk => Or.inr (r2.lt k hk).1⟩
    have h2' := World.ownsRowF_of r2
    refine ⟨h2'.1, ?_⟩
    rcases h2'.2 with hn | ⟨g, cap, cur, fz, hv, hb, rest⟩
    · exact .inl hn
    · exact .inr ⟨g, cap, cur, fz, hv, Nat.zero_le _, rest⟩
  · have hxl : xs.length = n := by simpa using hown.1
    have hlen : (xs ++ news).length = (n + m) * 1 := by rw [List.length_append, hxl, hl, Nat.mul_one]
    by_cases hroom : n + m ≤ cap
    · have hcs' : cur.size = cap := by simpa using hcs
      have hr := run_append_roomF (P := P) w t ty e i ht hi g n cap cur fz hg (by rw [hsize]; exact hfz) a m c news (by rw [hsize]; simpa using hl) hnews h1 hroom (by rw [hsize]; omega)
      refine ⟨_, _, hr, ⟨hlen, .inr ⟨g, cap, _, fz, rfl, hbg, setRow_heap w g cur _ e _ hg, by omega, hroom, hcm, ?_, ?_⟩⟩, ⟨rfl, rfl, rfl, by simp, fun k _ hk => setRow_other w g k _ (fun e => hk (by simp [Value.ownBlock, e]))⟩, fun k hk => Or.inl hk⟩
      · simp only [List.size_toArray, List.length_append, List.length_take, List.length_drop, Array.length_toList, hsize]
        omega
      · rw [hsize, htake, ← hlen]
        exact List.take_left
    · have holds : ∀ j u, xs[j]? = some u → w.cell? ((⟨g, 0, none⟩ : Addr).add j) = some u := hown.cells (g := g) rfl
      have hr := run_append_grow (P := P) w t ty e i (.int .u8 0) ht hi hz ⟨g, 0, none⟩ n cap xs (by rw [hsize]; simpa using hxl) holds a m c news (by rw [hsize]; simpa using hl) hnews (by omega) (by omega) (growslice_fits (by omega) (by rw [hby]; omega))
      have hge := grownCap_ge w (n + m) cap e
      have hcm2 : grownCap w (n + m) cap e ≤ maxLen := grownCap_le_maxLen w (n + m) cap e h63
      refine ⟨_, _, hr, ⟨hlen, .inr ⟨w.heap.size, _, _, (0, 0), rfl, Nat.zero_le _, heap_alloc_new w.drew _, Nat.zero_le _, hge, hcm2, ?_, ?_⟩⟩, ⟨rfl, rfl, rfl, by simp, fun k hk _ => heap_alloc_old w.drew _ hk⟩, fun k hk => Or.inr ?_⟩
      · have hz1 : (Value.int IntKind.u8 0).cells.size = 1 := rfl
        simp only [Array.size_append, List.size_toArray, size_zeroCells, hz1, hxl, hl]
        omega
      · simp only [Array.toList_append, List.append_assoc]
        rw [← List.append_assoc, ← hlen]
        exact List.take_left
      · simp [Value.ownBlock] at hk
        omega
theorem wp_append_cells {ops : Array Oper} {rest : List Oper} {o : Oper} {a : Act} {Q : Exit → Act → World → Prop} (hgd : o.guard = none) (sl x : Operand) (t : TypeId)
    (ho : o.op = .call { callee := .builtin .append, args := #[sl, x], argTypes := #[t, t] })
    (e : TypeId) (i : TypeInfo) (ht : P.underlying t = some (.slice e)) (hi : P.info? e = some i) (hz : i.zero = some (.int .u8 0)) (hsize : i.size = 1) (hby : i.bytes = 1)
    (v : Value) (n : Nat) (xs : List Value) (hs : a.eval sl = v) (hown : w.ownsRowF 0 e 1 v n xs) (ad : Addr) (m c : Nat) (news : List Value) (hx : a.eval x = .slice (some ad) m c) (hl : news.length = m) (hnews : ∀ j u, news[j]? = some u → w.cell? (ad.add j) = some u) (h1 : ∀ u ∈ news, u.oneCell' = true) (hbytes : n + m ≤ 140737488355328)
    (h : ∀ v' w', w'.ownsRowF 0 e 1 v' (n + m) (xs ++ news) → w.grownBy w' v.ownBlock → (∀ k, v'.ownBlock = some k → v.ownBlock = some k ∨ w.heap.size ≤ k) → wpList P ops Q rest (a.put o.dst v') w') : wpList P ops Q (o :: rest) a w := by
  refine wpList_plain hgd fun K hK => ?_
  obtain ⟨v', w', hr, h2, h3, h4⟩ := run_append_cells (P := P) w t o.type e i ht hi hz hsize hby v n xs hown ad m c news hl hnews h1 hbytes
  unfold Oper.wp execOp
  simp only [ho, resolve, invoke, builtin, Sem.run_bind, Sem.run_pure, Result.andThen_ok, List.map_toArray, List.map_cons, List.map_nil, hs, hx, hr]
  exact hK _ _ (h v' w' h2 h3 h4)
theorem own_slice {v : Value} {n : Nat} {xs : List Value} {e : TypeId} (h : w.ownsRowF 0 e 1 v n xs) : ∃ ao cap, v = .slice ao n cap := by
  rcases h.2 with ⟨hv, hn⟩ | ⟨g, cap, cur, fz, hv, _⟩
  · subst hn
    exact ⟨_, _, hv⟩
  · exact ⟨_, _, hv⟩
end
section
variable {T : TypeId} {b : Nat} {cs : Array Value} {w : World}
set_option maxHeartbeats 1000000 in
set_option maxRecDepth 100000 in
theorem len_at {v : Value} {bs : List Value} (hb : w.heap[b]? = some (.cells cs T (0, 0))) (hv : cs[1]? = some v) (hown : w.ownsRowF 0 5 1 v bs.length bs) :
    Calls Tryz.prog 152 #[.pointer (some ⟨b, 0, none⟩)] w fun e w' => e = .returned (.int .i64 bs.length) ∧ w' = w := by
  obtain ⟨ao, cap, rfl⟩ := own_slice w hown
  have c1 : w.cell? ⟨b, 1, none⟩ = some (.slice ao bs.length cap) := by rw [Lib.cell_of_heap hb]; exact hv
  clear hb hv hown
  go_enter Tryz.func152, Tryz.ntmps152
  go_wp2
  go_ret
  exact ⟨rfl, rfl⟩
theorem news_one {W : World} {a : Nat} {u : Value} {T : TypeId} (h : W.heap[a]? = some (.cells #[u] T (0, 0))) : ∀ j x, ([u] : List Value)[j]? = some x → W.cell? ((⟨a, 0, none⟩ : Addr).add j) = some x := by
  intro j x hx
  have hj : j = 0 := by
    rcases j with _ | j
    · rfl
    · simp at hx
  subst hj
  have hadd : (⟨a, 0, none⟩ : Addr).add 0 = ⟨a, 0, none⟩ := by unfold Addr.add; split <;> simp_all
  rw [hadd, Lib.cell_of_heap h]
  simpa using hx
theorem one_cell (c : Int) : ∀ u ∈ ([.int .u8 c] : List Value), u.oneCell' = true := by
  intro u hu
  simp only [List.mem_singleton] at hu
  subst hu
  rfl
set_option maxHeartbeats 2000000 in
set_option maxRecDepth 100000 in
theorem writeByte_at {v : Value} {bs : List Value} (h : At w T b cs v) (hown : w.ownsRowF 0 5 1 v bs.length bs) (hne : v.ownBlock ≠ some b) (hT : T ≠ 5) (c : Int) (hlen : bs.length + 1 ≤ 140737488355328) :
    Calls Tryz.prog 23 #[.pointer (some ⟨b, 0, none⟩), .int .u8 c] w fun e w' => e = .returned .nilIface ∧
      ∃ v', w'.heap[b]? = some (.cells ((cs.setIfInBounds 0 (.pointer (some ⟨b, 0, none⟩))).setIfInBounds 1 v') T (0, 0)) ∧ w'.ownsRowF 0 5 1 v' (bs.length + 1) (bs ++ [.int .u8 c]) ∧ (∀ k, v'.ownBlock = some k → v.ownBlock = some k ∨ w.heap.size ≤ k) ∧ v'.ownBlock ≠ some b ∧ Kp (fun k => k = b ∨ v.ownBlock = some k) w w' := by
  obtain ⟨i0, hi, hz0, hz1, hz2⟩ := info_parts infoByte
  have HA := Lib.hid h
  clear h
  have HT := Lib.hid hT
  clear hT
  go_enter Tryz.func23, Tryz.ntmps23
  go_wp2_with (go_at_call 67; refine (copyCheck_at HA.out).mono ?_)
  rintro e w1 ⟨rfl, hb1, hk1⟩
  have hbuf : (cs.setIfInBounds 0 (.pointer (some ⟨b, 0, none⟩)))[1]? = some v := by
    rw [Array.getElem?_setIfInBounds]
    simpa using HA.out.buf
  have hown1 : (w1.alloc (.cells #[.int .u8 c] 5)).ownsRowF 0 5 1 v bs.length bs := (ownsF_kp hown hk1 (fun k hk e => hne (e ▸ hk))).alloc _
  have c1 : w1.cell? ⟨b, 1, none⟩ = some v := by rw [Lib.cell_of_heap hb1]; exact hbuf
  have HB1 := Lib.hid hb1
  have HBUF := Lib.hid hbuf
  have HO1 := Lib.hid hown1
  have HN := Lib.hid (news_one (heap_alloc_new w1 (.cells #[.int .u8 c] 5)))
  have hone := one_cell c
  clear hb1 hbuf hown1
  go_wp2_with (at_builtin; refine Stop.out (?_ : Stop _))
  refine Stop.mk ?_
  refine wp_append_cells _ rfl _ _ 22 rfl 5 i0 Tryz.underlying22 hi hz0 hz1 hz2 _ _ _ ?hv HO1.out _ 1 1 [.int .u8 c] ?hx rfl HN.out hone hlen ?_
  case hv => rfl
  case hx => rfl
  intro v' w2 hown' hgrow hat
  have hb2 : w2.heap[b]? = some (.cells (cs.setIfInBounds 0 (.pointer (some ⟨b, 0, none⟩))) T (0, 0)) := by
    rw [hgrow.block b (by have := lt_of_heap HB1.out; simp; omega) (fun e => hne e.symm), Lib.alloc_old _ _ _ (lt_of_heap HB1.out)]
    exact HB1.out
  have d1 : w2.cell? ⟨b, 1, none⟩ = some v := by rw [Lib.cell_of_heap hb2]; exact HBUF.out
  have f1 : w2.frozen? ⟨b, 1, none⟩ = false := Lib.frozen_of_heap hb2 1
  have hne' : v'.ownBlock ≠ some b := Lib.ownBlock_neF hown' hb2 HT.out
  have HB2 := Lib.hid hb2
  clear hb2
  obtain ⟨ao, cap, rfl⟩ := own_slice w2 hown'
  have hk1a : Kp (fun k => k = b) w (w1.alloc (.cells #[.int .u8 c] 5)) := hk1.alloc _
  have hkk : Kp (fun k => k = b ∨ v.ownBlock = some k) w w2 := (hk1a.mono (fun k _ e => Or.inl e)).grown hgrow (fun k hk => Or.inl (Or.inr hk))
  have hnew : ∀ k, (Value.slice ao (bs.length + 1) cap).ownBlock = some k → v.ownBlock = some k ∨ w.heap.size ≤ k := by
    intro k hk
    rcases hat k hk with h | h
    · exact Or.inl h
    · exact Or.inr (Nat.le_trans hk1a.size h)
  clear hat
  go_wp2
  go_ret
  refine ⟨rfl, Value.slice ao (bs.length + 1) cap, heap_setCell_self HB2.out _, ?_, hnew, hne', hkk.setCell (p := ⟨b, 1, none⟩) (Or.inl rfl) _⟩
  exact ownsF_kp hown' (Kp.setCell (F := fun k => k = b) (p := ⟨b, 1, none⟩) (Kp.refl _ w2) rfl _) (fun k hk e => hne' (e ▸ hk))
set_option maxHeartbeats 2000000 in
set_option maxRecDepth 100000 in
theorem write_at {v : Value} {bs : List Value} (h : At w T b cs v) (hown : w.ownsRowF 0 5 1 v bs.length bs) (hne : v.ownBlock ≠ some b) (hT : T ≠ 5) {g n cap : Nat} {xs : List Value} (hp : ∀ j u, xs[j]? = some u → w.cell? ((⟨g, 0, none⟩ : Addr).add j) = some u) (hl : xs.length = n) (h1 : ∀ u ∈ xs, u.oneCell' = true) (hg : g < w.heap.size) (hgb : g ≠ b) (hlen : bs.length + n ≤ 140737488355328) :
    Calls Tryz.prog 154 #[.pointer (some ⟨b, 0, none⟩), .slice (some ⟨g, 0, none⟩) n cap] w fun e w' => e = .returned (.tuple #[.int .i64 n, .nilIface]) ∧
      ∃ v', w'.heap[b]? = some (.cells ((cs.setIfInBounds 0 (.pointer (some ⟨b, 0, none⟩))).setIfInBounds 1 v') T (0, 0)) ∧ w'.ownsRowF 0 5 1 v' (bs.length + n) (bs ++ xs) ∧ (∀ k, v'.ownBlock = some k → v.ownBlock = some k ∨ w.heap.size ≤ k) ∧ v'.ownBlock ≠ some b ∧ Kp (fun k => k = b ∨ v.ownBlock = some k) w w' := by
  obtain ⟨i0, hi, hz0, hz1, hz2⟩ := info_parts infoByte
  have HA := Lib.hid h
  clear h
  have HT := Lib.hid hT
  clear hT
  have HP := Lib.hid hp
  clear hp
  go_enter Tryz.func154, Tryz.ntmps154
  go_wp2_with (go_at_call 67; refine (copyCheck_at HA.out).mono ?_)
  rintro e w1 ⟨rfl, hb1, hk1⟩
  have hbuf : (cs.setIfInBounds 0 (.pointer (some ⟨b, 0, none⟩)))[1]? = some v := by
    rw [Array.getElem?_setIfInBounds]
    simpa using HA.out.buf
  have hown1 : w1.ownsRowF 0 5 1 v bs.length bs := ownsF_kp hown hk1 (fun k hk e => hne (e ▸ hk))
  have c1 : w1.cell? ⟨b, 1, none⟩ = some v := by rw [Lib.cell_of_heap hb1]; exact hbuf
  have hp1 : ∀ j u, xs[j]? = some u → w1.cell? ((⟨g, 0, none⟩ : Addr).add j) = some u := by
    intro j u hu
    have hadd : ∀ j, (⟨g, 0, none⟩ : Addr).add j = ⟨g, j, none⟩ := by intro j; unfold Addr.add; split <;> simp_all
    have := HP.out j u hu
    rw [hadd] at this ⊢
    simp only [World.cell?] at this ⊢
    rw [hk1.block g hg hgb]
    exact this
  have HB1 := Lib.hid hb1
  have HBUF := Lib.hid hbuf
  have HO1 := Lib.hid hown1
  have HP1 := Lib.hid hp1
  clear hb1 hbuf hown1 hp1
  go_wp2_with (at_builtin; refine Stop.out (?_ : Stop _))
  refine Stop.mk ?_
  refine wp_append_cells _ rfl _ _ 22 rfl 5 i0 Tryz.underlying22 hi hz0 hz1 hz2 _ _ _ ?hv HO1.out _ n cap xs ?hx hl HP1.out h1 hlen ?_
  case hv => rfl
  case hx => rfl
  intro v' w2 hown' hgrow hat
  have hb2 : w2.heap[b]? = some (.cells (cs.setIfInBounds 0 (.pointer (some ⟨b, 0, none⟩))) T (0, 0)) := by
    rw [hgrow.block b (lt_of_heap HB1.out) (fun e => hne e.symm)]
    exact HB1.out
  have d1 : w2.cell? ⟨b, 1, none⟩ = some v := by rw [Lib.cell_of_heap hb2]; exact HBUF.out
  have f1 : w2.frozen? ⟨b, 1, none⟩ = false := Lib.frozen_of_heap hb2 1
  have hne' : v'.ownBlock ≠ some b := Lib.ownBlock_neF hown' hb2 HT.out
  have HB2 := Lib.hid hb2
  clear hb2
  obtain ⟨ao, cap', rfl⟩ := own_slice w2 hown'
  have hkk : Kp (fun k => k = b ∨ v.ownBlock = some k) w w2 := (hk1.mono (fun k _ e => Or.inl e)).grown hgrow (fun k hk => Or.inl (Or.inr hk))
  have hnew : ∀ k, (Value.slice ao (bs.length + n) cap').ownBlock = some k → v.ownBlock = some k ∨ w.heap.size ≤ k := by
    intro k hk
    rcases hat k hk with h | h
    · exact Or.inl h
    · exact Or.inr (Nat.le_trans hk1.size h)
  clear hat
  go_wp2
  go_ret2
  refine ⟨rfl, Value.slice ao (bs.length + n) cap', heap_setCell_self HB2.out _, ?_, hnew, hne', hkk.setCell (p := ⟨b, 1, none⟩) (Or.inl rfl) _⟩
  exact ownsF_kp hown' (Kp.setCell (F := fun k => k = b) (p := ⟨b, 1, none⟩) (Kp.refl _ w2) rfl _) (fun k hk e => hne' (e ▸ hk))
theorem run_append_none {P : Program} (w : World) (t ty e : TypeId) (i : TypeInfo) (ht : P.underlying t = some (.slice e)) (hi : P.info? e = some i) (ao : Option Addr) (n cap : Nat) (hc : n ≤ cap) :
    (Builtin.append_ #[t, t] ty #[.slice ao n cap, .slice none 0 0]).run P w = .ok (.slice ao n cap) w := by
  cases ao <;> simp [Builtin.append_, run_underlying ht, sizeOf, typeInfo, hi, Builtin.lenOf, hc, Builtin.firstCells, storeCells]
theorem wp_append_none {P : Program} (w : World) {ops : Array Oper} {rest : List Oper} {o : Oper} {a : Act} {Q : Exit → Act → World → Prop} (hgd : o.guard = none) (sl x : Operand) (t : TypeId)
    (ho : o.op = .call { callee := .builtin .append, args := #[sl, x], argTypes := #[t, t] })
    (e : TypeId) (i : TypeInfo) (ht : P.underlying t = some (.slice e)) (hi : P.info? e = some i) (ao : Option Addr) (n cap : Nat) (hs : a.eval sl = .slice ao n cap) (hx : a.eval x = .slice none 0 0) (hc : n ≤ cap)
    (h : wpList P ops Q rest (a.put o.dst (.slice ao n cap)) w) : wpList P ops Q (o :: rest) a w := by
  refine wpList_plain hgd fun K hK => ?_
  have hr := run_append_none (P := P) w t o.type e i ht hi ao n cap hc
  unfold Oper.wp execOp
  simp only [ho, resolve, invoke, builtin, Sem.run_bind, Sem.run_pure, Result.andThen_ok, List.map_toArray, List.map_cons, List.map_nil, hs, hx, hr]
  exact hK _ _ h
theorem own_slice' {w : World} {v : Value} {n : Nat} {xs : List Value} {e : TypeId} (h : w.ownsRowF 0 e 1 v n xs) : ∃ ao cap, v = .slice ao n cap ∧ n ≤ cap := by
  rcases h.2 with ⟨hv, hn⟩ | ⟨g, cap, cur, fz, hv, _, _, _, hc, _⟩
  · subst hn
    exact ⟨_, _, hv, Nat.le_refl _⟩
  · exact ⟨_, _, hv, hc⟩
set_option maxHeartbeats 2000000 in
set_option maxRecDepth 100000 in
theorem write_none_at {v : Value} {bs : List Value} (h : At w T b cs v) (hown : w.ownsRowF 0 5 1 v bs.length bs) (hne : v.ownBlock ≠ some b) (hT : T ≠ 5) :
    Calls Tryz.prog 154 #[.pointer (some ⟨b, 0, none⟩), .slice none 0 0] w fun e w' => e = .returned (.tuple #[.int .i64 0, .nilIface]) ∧
      ∃ v', w'.heap[b]? = some (.cells ((cs.setIfInBounds 0 (.pointer (some ⟨b, 0, none⟩))).setIfInBounds 1 v') T (0, 0)) ∧ w'.ownsRowF 0 5 1 v' bs.length bs ∧ (∀ k, v'.ownBlock = some k → v.ownBlock = some k ∨ w.heap.size ≤ k) ∧ v'.ownBlock ≠ some b ∧ Kp (fun k => k = b ∨ v.ownBlock = some k) w w' := by
  obtain ⟨i0, hi, hz0, hz1, hz2⟩ := info_parts infoByte
  obtain ⟨ao, cap, rfl, hcap⟩ := own_slice' hown
  have HA := Lib.hid h
  clear h
  have HT := Lib.hid hT
  clear hT
  go_enter Tryz.func154, Tryz.ntmps154
  go_wp2_with (go_at_call 67; refine (copyCheck_at HA.out).mono ?_)
  rintro e w1 ⟨rfl, hb1, hk1⟩
  have hbuf : (cs.setIfInBounds 0 (.pointer (some ⟨b, 0, none⟩)))[1]? = some (.slice ao bs.length cap) := by
    rw [Array.getElem?_setIfInBounds]
    simpa using HA.out.buf
  have hown1 : w1.ownsRowF 0 5 1 (.slice ao bs.length cap) bs.length bs := ownsF_kp hown hk1 (fun k hk e => hne (e ▸ hk))
  have c1 : w1.cell? ⟨b, 1, none⟩ = some (.slice ao bs.length cap) := by rw [Lib.cell_of_heap hb1]; exact hbuf
  have f1 : w1.frozen? ⟨b, 1, none⟩ = false := Lib.frozen_of_heap hb1 1
  have HB1 := Lib.hid hb1
  have HO1 := Lib.hid hown1
  clear hb1 hown1
  go_wp2_with (at_builtin; refine Stop.out (?_ : Stop _))
  refine Stop.mk ?_
  refine wp_append_none _ rfl _ _ 22 rfl 5 i0 Tryz.underlying22 hi ao bs.length cap ?hv ?hx hcap ?_
  case hv => rfl
  case hx => rfl
  go_wp2
  go_ret2
  refine ⟨rfl, .slice ao bs.length cap, heap_setCell_self HB1.out _, ?_, fun k hk => Or.inl hk, hne, (hk1.mono (fun k _ e => Or.inl e)).setCell (p := ⟨b, 1, none⟩) (Or.inl rfl) _⟩
  exact ownsF_kp HO1.out (Kp.setCell (F := fun k => k = b) (p := ⟨b, 1, none⟩) (Kp.refl _ w1) rfl _) (fun k hk e => hne (e ▸ hk))
end
end Go.Proofs.YteccaekalcjihaaGreatDoor.Buf
set_option linter.unusedVariables false
set_option linter.unusedSimpArgs false
namespace Go.Proofs.YteccaekalcjihaaGreatDoor.PTn
open Go.RowKit Go.Lib Go.Proofs.YteccaekalcjihaaGreatDoor.Buf Go.Proofs.YteccaekalcjihaaGreatDoorW.PrintWords Go.Proofs.YteccaekalcjihaaGreatDoorW.PrintLast Go.Proofs.YteccaekalcjihaaGreatDoorW.PrintMore
theorem results_tmp4 {fn : Func} {a b c d : Tmp} (h : fn.results = #[.tmp a, .tmp b, .tmp c, .tmp d]) (tmps : Array Value) (P : Program) (w : World) :
    (results fn tmps).run P w = .ok (.tuple #[tmps.getD a undef, tmps.getD b undef, tmps.getD c undef, tmps.getD d undef]) w := by
  simp only [results, h]
  simp [Sem.run_bind, Result.andThen]
theorem s92_cells {w0 W : World} {g : Nat} {f0 : ByteArray} {f1 : Int} (h : IsS92 w0 W g f0 f1) : W.cell? ⟨g, 0, none⟩ = some (.string f0) ∧ W.cell? ⟨g, 1, none⟩ = some (.int .i64 f1) ∧ W.frozen? ⟨g, 1, none⟩ = false := by
  refine ⟨?_, ?_, Lib.frozen_of_heap h.1 1⟩ <;> (rw [Lib.cell_of_heap h.1]; rfl)
theorem s92_drew {w0 W : World} {g : Nat} {f0 : ByteArray} {f1 : Int} (h : IsS92 w0 W g f0 f1) : W.drew.cell? ⟨g, 1, none⟩ = some (.int .i64 f1) := (s92_cells h).2.1
theorem an_start (w : World) (s : ByteArray) (i : Int) : IsS92 w ((w.alloc (.cells #[.string s, .int .i64 i] 92)).alloc (.cells #[.string ⟨#[]⟩, .string ⟨#[]⟩] 38)) w.heap.size s i ∧ Below w.heap.size w ((w.alloc (.cells #[.string s, .int .i64 i] 92)).alloc (.cells #[.string ⟨#[]⟩, .string ⟨#[]⟩] 38)) :=
  ⟨⟨(Lib.alloc_old _ _ _ (by simp)).trans (heap_alloc_new w _), Nat.le_refl _⟩, ((Below.refl _ _).alloc (Nat.le_refl _) _).alloc (by simp) _⟩
set_option maxHeartbeats 4000000 in
set_option maxRecDepth 100000 in
theorem attrs_none (s : ByteArray) (i j : Int) (w : World) (h0 : 0 ≤ i) (h1 : i ≤ (s.size : Int)) (hs : Aside0 (attrs_reader_spaces.f (s.size + 2) s i = some (s, j))) (hj : 0 ≤ j) (hj1 : j < (s.size : Int)) (hl : (s.size : Int) ≤ 1000000000) (hb : Aside0 (bt s j = 62)) :
    Calls Tryz.prog 20 #[.string s, .int .i64 i] w fun e w' => e = .returned (.tuple #[.slice none 0 0, .bool false, .int .i64 (j + 1), .bool true]) ∧ Below w.heap.size w w' := by
  obtain ⟨hI0, hB0⟩ := an_start w s i
  have HI := Aside0.mk hI0
  have HB := Aside0.mk hB0
  have hi := Aside0.mk (show attrs_reader_is.f s j 62 = some (true, s, j) by unfold attrs_reader_is.f; rw [if_pos hj1, if_pos hj, hb.out]; rfl)
  have c1 : decide (i < 0) = false := decide_eq_false (by omega)
  have c2 : decide ((s.size : Int) < i) = false := decide_eq_false (by omega)
  have c3 : (j == (s.size : Int)) = false := beq_eq_false_iff_ne.2 (by omega)
  clear hI0 hB0
  go_enter Tryz.func20, Tryz.ntmps20
  go_wp2
  go_step3
  go_wp2
  go_step3
  go_wp2_with (first | (go_at_call 56; (with_reducible refine (attrs_reader_spaces.calls (s.size + 2) _ s i s j w _ HI.out HB.out hs.out).mono ?_); rintro e w1 ⟨rfl, hI1, hB1, _⟩; have HI1 := Aside0.mk hI1; have HB1 := Aside0.mk hB1; obtain ⟨cc0, cc1, _⟩ := s92_cells hI1; clear hI1 hB1) | (go_at_call 57; (with_reducible refine (attrs_reader_is.calls _ s j 62 true s j w _ HI1.out HB1.out hi.out).mono ?_); rintro e w2 ⟨rfl, hI2, hB2, _⟩; have HI2 := Aside0.mk hI2; have HB2 := Aside0.mk hB2; obtain ⟨dd0, dd1, _⟩ := s92_cells hI2; have dd2 := s92_drew hI2; clear hI2 hB2))
  go_region
  all_goals (go_wp2; rw [Exit.noGoto_ret]; refine bodyPost_ret (results_tmp4 rfl _ _ _) rfl ?_; exact ⟨rfl, below_drew1 HB2.out⟩)
end Go.Proofs.YteccaekalcjihaaGreatDoor.PTn
namespace Go.Proofs.YteccaekalcjihaaGreatDoor.PTn
open Go.RowKit Go.Proofs.YteccaekalcjihaaGreatDoorW.PrintWords Go.Proofs.YteccaekalcjihaaGreatDoorW.PrintLast Go.Proofs.YteccaekalcjihaaGreatDoorW.PrintMore
attribute [local go_sem] max2_int min2_int max_two min_two max_three min_three max_four min_four
set_option linter.unusedVariables false
set_option linter.unusedSimpArgs false
def stringslite_HasPrefix.f (a0 : ByteArray) (a1 : ByteArray) : Option (Bool) := if (a0.size : Int) ≥ (a1.size : Int) then (if 0 ≤ (a1.size : Int) then (if (a1.size : Int) ≤ (a0.size : Int) then (some ((a0.extract 0 ((a1.size : Int) : Int).toNat).toList == a1.toList)) else (none)) else (none)) else (some false)
set_option maxHeartbeats 8000000 in
set_option maxRecDepth 100000 in
theorem stringslite_HasPrefix.calls (a0 : ByteArray) (a1 : ByteArray) (r : Bool) (w : World) (h : stringslite_HasPrefix.f a0 a1 = some r) :
    Calls Tryz.prog 125 #[.string a0, .string a1] w fun e w' => e = .returned (.bool r) ∧ Drawn0 w w' := by
  have H : (if (a0.size : Int) ≥ (a1.size : Int) then (if 0 ≤ (a1.size : Int) then (if (a1.size : Int) ≤ (a0.size : Int) then (some ((a0.extract 0 ((a1.size : Int) : Int).toNat).toList == a1.toList)) else (none)) else (none)) else (some false)) = some r := h
  clear h
  by_cases c3 : (a0.size : Int) ≥ (a1.size : Int)
  · rw [if_pos c3] at H
    have c3b0 : decide ((a1.size : Int) ≤ (a0.size : Int)) = true := decide_eq_true c3
    have c3b1 : decide (a1.size ≤ a0.size) = true := decide_eq_true (Int.ofNat_le.mp c3)
    clear c3
    by_cases c4 : 0 ≤ (a1.size : Int)
    · rw [if_pos c4] at H
      have c4b0 := eq_true c4
      have c4b1 : decide (0 ≤ (a1.size : Int)) = true := decide_eq_true c4
      clear c4
      by_cases c5 : (a1.size : Int) ≤ (a0.size : Int)
      · rw [if_pos c5] at H
        have c5b0 := eq_true c5
        have c5b1 : decide ((a1.size : Int) ≤ (a0.size : Int)) = true := decide_eq_true c5
        clear c5
        obtain rfl := Option.some.inj H
        go_enter Tryz.func125, Tryz.ntmps125
        go_wp2
        go_ret
        exact ⟨by first | rfl | (simp; done) | (simp [*]; done), by repeat (first | exact Drawn0.refl _ | apply Drawn0.step)⟩
      · rw [if_neg c5] at H
        exact absurd H (by simp)
    · rw [if_neg c4] at H
      exact absurd H (by simp)
  · rw [if_neg c3] at H
    have c3b0 : decide ((a1.size : Int) ≤ (a0.size : Int)) = false := decide_eq_false c3
    have c3b1 : decide (a1.size ≤ a0.size) = false := decide_eq_false (fun h => c3 (Int.ofNat_le.mpr h))
    clear c3
    obtain rfl := Option.some.inj H
    go_enter Tryz.func125, Tryz.ntmps125
    go_wp2
    go_ret
    exact ⟨by first | rfl | (simp; done) | (simp [*]; done), by repeat (first | exact Drawn0.refl _ | apply Drawn0.step)⟩
end Go.Proofs.YteccaekalcjihaaGreatDoor.PTn
namespace Go.Proofs.YteccaekalcjihaaGreatDoor.PTn
open Go.RowKit Go.Proofs.YteccaekalcjihaaGreatDoorW.PrintWords Go.Proofs.YteccaekalcjihaaGreatDoorW.PrintLast Go.Proofs.YteccaekalcjihaaGreatDoorW.PrintMore
attribute [local go_sem] max2_int min2_int max_two min_two max_three min_three max_four min_four
set_option linter.unusedVariables false
set_option linter.unusedSimpArgs false
def stringslite_TrimPrefix.f (a0 : ByteArray) (a1 : ByteArray) : Option (ByteArray) := (stringslite_HasPrefix.f a0 a1).bind fun t101 => (if t101 = true then (if 0 ≤ (a1.size : Int) then (if (a1.size : Int) ≤ (a0.size : Int) then (some (a0.extract ((a1.size : Int) : Int).toNat a0.size)) else (none)) else (none)) else (some a0))
set_option maxHeartbeats 8000000 in
set_option maxRecDepth 100000 in
theorem stringslite_TrimPrefix.calls (a0 : ByteArray) (a1 : ByteArray) (r : ByteArray) (w : World) (h : stringslite_TrimPrefix.f a0 a1 = some r) :
    Calls Tryz.prog 68 #[.string a0, .string a1] w fun e w' => e = .returned (.string r) ∧ Drawn0 w w' := by
  have H : ((stringslite_HasPrefix.f a0 a1).bind fun t101 => (if t101 = true then (if 0 ≤ (a1.size : Int) then (if (a1.size : Int) ≤ (a0.size : Int) then (some (a0.extract ((a1.size : Int) : Int).toNat a0.size)) else (none)) else (none)) else (some a0))) = some r := h
  clear h
  replace H := Option.bind_eq_some_iff.mp H
  obtain ⟨t101, A30, H⟩ := H
  (try dsimp only at H)
  have A3 := Aside0.mk A30
  clear A30
  by_cases c4 : t101 = true
  · subst c4
    rw [if_pos rfl] at H
    by_cases c5 : 0 ≤ (a1.size : Int)
    · rw [if_pos c5] at H
      have c5b0 := eq_true c5
      have c5b1 : decide (0 ≤ (a1.size : Int)) = true := decide_eq_true c5
      clear c5
      by_cases c6 : (a1.size : Int) ≤ (a0.size : Int)
      · rw [if_pos c6] at H
        have c6b0 := eq_true c6
        have c6b1 : decide ((a1.size : Int) ≤ (a0.size : Int)) = true := decide_eq_true c6
        clear c6
        obtain rfl := Option.some.inj H
        go_enter Tryz.func68, Tryz.ntmps68
        go_wp2_with (first | ((with_reducible refine gate_callee (f := 125) rfl ?_); refine goesL_ (some 7) rfl rfl Tryz.func125 (by kernel_rfl) rfl #[.string a0, .string a1] rfl (by simp only [List.map_toArray, List.map_cons, List.map_nil] <;> rfl) ?_; (with_reducible refine (stringslite_HasPrefix.calls a0 a1 true _ A3.out).mono ?_); rintro e w' ⟨rfl, ⟨nd, rfl⟩⟩; refine ⟨_, rfl, ?_⟩))
        go_ret
        exact ⟨by first | rfl | (simp; done) | (simp [*]; done), by repeat (first | exact Drawn0.refl _ | apply Drawn0.step)⟩
      · rw [if_neg c6] at H
        exact absurd H (by simp)
    · rw [if_neg c5] at H
      exact absurd H (by simp)
  · replace c4 := Bool.eq_false_iff.mpr c4
    subst c4
    rw [if_neg (show ¬ (false = true) by decide)] at H
    obtain rfl := Option.some.inj H
    go_enter Tryz.func68, Tryz.ntmps68
    go_wp2_with (first | ((with_reducible refine gate_callee (f := 125) rfl ?_); refine goesL_ (some 7) rfl rfl Tryz.func125 (by kernel_rfl) rfl #[.string a0, .string a1] rfl (by simp only [List.map_toArray, List.map_cons, List.map_nil] <;> rfl) ?_; (with_reducible refine (stringslite_HasPrefix.calls a0 a1 false _ A3.out).mono ?_); rintro e w' ⟨rfl, ⟨nd, rfl⟩⟩; refine ⟨_, rfl, ?_⟩))
    go_ret
    exact ⟨by first | rfl | (simp; done) | (simp [*]; done), by repeat (first | exact Drawn0.refl _ | apply Drawn0.step)⟩
end Go.Proofs.YteccaekalcjihaaGreatDoor.PTn
namespace Go.Proofs.YteccaekalcjihaaGreatDoor.PTn
open Go.RowKit Go.Proofs.YteccaekalcjihaaGreatDoorW.PrintWords Go.Proofs.YteccaekalcjihaaGreatDoorW.PrintLast Go.Proofs.YteccaekalcjihaaGreatDoorW.PrintMore
attribute [local go_sem] max2_int min2_int max_two min_two max_three min_three max_four min_four
set_option linter.unusedVariables false
set_option linter.unusedSimpArgs false
def strings_TrimPrefix.f (a0 : ByteArray) (a1 : ByteArray) : Option (ByteArray) := (stringslite_TrimPrefix.f a0 a1).bind fun t102 => (some t102)
set_option maxHeartbeats 8000000 in
set_option maxRecDepth 100000 in
theorem strings_TrimPrefix.calls (a0 : ByteArray) (a1 : ByteArray) (r : ByteArray) (w : World) (h : strings_TrimPrefix.f a0 a1 = some r) :
    Calls Tryz.prog 24 #[.string a0, .string a1] w fun e w' => e = .returned (.string r) ∧ Drawn0 w w' := by
  have H : ((stringslite_TrimPrefix.f a0 a1).bind fun t102 => (some t102)) = some r := h
  clear h
  replace H := Option.bind_eq_some_iff.mp H
  obtain ⟨t102, A30, H⟩ := H
  (try dsimp only at H)
  have A3 := Aside0.mk A30
  clear A30
  obtain rfl := Option.some.inj H
  go_enter Tryz.func24, Tryz.ntmps24
  go_wp2_with (first | ((with_reducible refine gate_callee (f := 68) rfl ?_); refine goesL_ (some 7) rfl rfl Tryz.func68 (by kernel_rfl) rfl #[.string a0, .string a1] rfl (by simp only [List.map_toArray, List.map_cons, List.map_nil] <;> rfl) ?_; (with_reducible refine (stringslite_TrimPrefix.calls a0 a1 t102 _ A3.out).mono ?_); rintro e w' ⟨rfl, ⟨nd, rfl⟩⟩; refine ⟨_, rfl, ?_⟩))
  go_ret
  exact ⟨by first | rfl | (simp; done) | (simp [*]; done), by repeat (first | exact Drawn0.refl _ | apply Drawn0.step)⟩
end Go.Proofs.YteccaekalcjihaaGreatDoor.PTn
