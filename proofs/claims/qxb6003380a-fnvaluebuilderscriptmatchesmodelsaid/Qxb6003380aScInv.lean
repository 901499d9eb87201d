/- The states of the script loop, and small laws that the walk takes. -/
import Derived.Test.Qxb6003380aScObj
import Derived.Test.Qxb6003380aScClone
import Derived.Deep.DeepCutAuto
import Derived.Deep.CutBlock
import Derived.ShutString
import Derived.ChangeOld
namespace Go.Proofs.Qxb6003380a.fnValueBuilderScriptMatchesModel
open Go Go.ChangeShapes Go.WideShapes Go.ChangeAt Go.RowKit
open Go.ChangeMaps (open_string shut_string)
set_option linter.unusedVariables false
open Vb Sc

theorem bytes_any (s p : ByteArray) (i : Int) (a : Option Addr) (n cap : Nat) (w : World) (hs : s.size + n + p.size ≤ 1048576) :
    Calls Try.prog 33 #[.string s, .int .i64 i, .slice a n cap, .string p] w fun r w' => r = .returned (.bool true) ∧ w' = w := by
  go_enter Try.func33, Try.ntmps33
  go_wp2
  go_ret
  exact ⟨rfl, rfl⟩

theorem info3 : (Try.prog.info? 3).map (fun i => (i.zero, i.size, i.bytes)) = some (some (.int .i64 0), 1, 8) := by kernel_rfl
theorem at_of3 {a : Option Addr} {n m cap cap' gg H : Nat} (h : (Value.slice a n cap).ownBlock = some gg ∨ gg = H) : (Value.slice (some ⟨gg, 0, none⟩) m cap').ownBlock = (Value.slice a n cap).ownBlock ∨ (Value.slice (some ⟨gg, 0, none⟩) m cap').ownBlock = some H := by
  rcases h with h | h
  · exact .inl h.symm
  · exact .inr (by rw [h]; rfl)
theorem one_u8 (b : Int) : ∀ u ∈ [Value.int .u8 b], u.oneCell' = true := by
  intro u hu
  simp at hu
  subst hu
  rfl
theorem one_i64 (b : Int) : ∀ u ∈ [Value.int .i64 b], u.oneCell' = true := by
  intro u hu
  simp at hu
  subst hu
  rfl
theorem row_cell {f : Nat → Nat} {j : Nat} {w : World} {e : TypeId} {n cap g : Nat} {xs : List Value} (h : Row f j w e 1 (.slice (some ⟨g, 0, none⟩) n cap) n xs) (k : Nat) (hk : k < n) : w.cell? ⟨g, k, none⟩ = xs[k]? :=
  h.1.cellAt k (by omega)

/-- the state of the script's loop: everything but the counters -/
def Fin (w0 : World) (text : ByteArray) (start : Nat) (ops : List UInt8) (ov : Value) (B1 B2 mb : Nat) (v12 v13 v14 v15 : Value) (wr : World) : Prop :=
  ∃ f k i c want src aA aF ms cp nx, k ≤ ops.length ∧ Sc.Good text start k i c want src aA aF ms cp nx ∧ All w0 f wr B1 B2 mb text start ov ops cp want nx ms cp want nx ms want src aA aF v12 v13 v14 v15
/-- at the head of the loop -/
def MInv (w0 : World) (text : ByteArray) (start : Nat) (ops : List UInt8) (ov : Value) (B1 B2 mb : Nat) (v12 v13 v14 v15 v16 v17 v18 : Value) (wr : World) : Prop :=
  ∃ f k i c want src aA aF ms cp nx, k ≤ ops.length ∧ Sc.Good text start k i c want src aA aF ms cp nx ∧ v16 = .int .i64 (i : Int) ∧ v17 = .int .i64 (c : Int) ∧ v18 = .int .i64 (k : Int) ∧ All w0 f wr B1 B2 mb text start ov ops cp want nx ms cp want nx ms want src aA aF v12 v13 v14 v15


theorem ival {a b : Int} (h : a = b) : Value.int .i64 a = .int .i64 b := by rw [h]
/-- while the replacement is laid -/
def RInv (w0 : World) (text : ByteArray) (start : Nat) (ops : List UInt8) (ov : Value) (B1 B2 mb c M R : Nat) (cp : Bool) (want : List UInt8) (nx : Int) (ms : List (Int × Int)) (src aA aF : List Int) (v12 v13 v14 v15 v17 v23 : Value) (wq : World) : Prop :=
  ∃ (f : Nat → Nat) (q : Nat) (rl : List UInt8), q ≤ M ∧ rl.length = q ∧ v17 = .int .i64 ((c : Int) + (q : Int)) ∧ v23 = .int .i64 (q : Int) ∧ All w0 f wq B1 B2 mb text start ov ops cp want nx ms cp want nx ms want src aA aF v12 v13 v14 v15 ∧
    Row f 34 wq 5 1 (.slice (some ⟨R, 0, none⟩) M M) M (bcells rl ++ List.replicate (M - q) (.int .u8 0))

theorem RInv.store {w0 : World} {text : ByteArray} {start : Nat} {ops : List UInt8} {ov : Value} {B1 B2 mb c M R : Nat} {cp : Bool} {want : List UInt8} {nx : Int} {ms : List (Int × Int)} {src aA aF : List Int} {v12 v13 v14 v15 : Value} {wq : World} {f : Nat → Nat} {q : Nat} {rl : List UInt8}
    (hq : q < M) (hrl : rl.length = q) (hA : All w0 f wq B1 B2 mb text start ov ops cp want nx ms cp want nx ms want src aA aF v12 v13 v14 v15) (hr : Row f 34 wq 5 1 (.slice (some ⟨R, 0, none⟩) M M) M (bcells rl ++ List.replicate (M - q) (.int .u8 0))) (b : UInt8) :
    RInv w0 text start ops ov B1 B2 mb c M R cp want nx ms src aA aF v12 v13 v14 v15 (.int .i64 ((c : Int) + (q : Int) + 1)) (.int .i64 ((q : Int) + 1)) (wq.setCell ⟨R, q, none⟩ (.int .u8 (b.toNat : Int))) := by
  have hst := hr.1.stored q (.int .u8 (b.toNat : Int))
  have e1 : (bcells rl ++ List.replicate (M - q) (Value.int .u8 0)).set q (.int .u8 (b.toNat : Int)) = bcells (rl ++ [b]) ++ List.replicate (M - (q + 1)) (.int .u8 0) := by
    have hk1 : (bcells rl).length = q := by rw [bcells_length, hrl]
    have hn1 : M - q = (M - (q + 1)) + 1 := by omega
    rw [hn1]
    have := set_fill (bcells rl) (Value.int .u8 0) (.int .u8 (b.toNat : Int)) (M - (q + 1))
    rw [hk1] at this
    rw [this, bcells_append]
    rfl
  rw [e1] at hst
  have hs : Step f (fun i => i = 34) wq (wq.setCell ⟨R, q, none⟩ (.int .u8 (b.toNat : Int))) f := (Step.refl _ _ _).setCell (p := ⟨R, q, none⟩) (hr.2 R rfl) _
  exact ⟨f, q + 1, rl ++ [b], by omega, by simp [hrl], ival (by omega), ival (by omega), hA.quiet hs (fun i hi => hi.symm), hst.1, hr.2⟩


/-- while the replacement is added to the value -/
def WInv (w0 : World) (text : ByteArray) (start : Nat) (ops : List UInt8) (ov : Value) (B1 B2 mb M R : Nat) (wb : List UInt8) (mkb : List (Int × Int)) (rl want : List UInt8) (src aA aF : List Int) (v12 v13 v14 v15 v24 : Value) (wq : World) : Prop :=
  ∃ (f : Nat → Nat) (q : Nat), q ≤ M ∧ v24 = .int .i64 (q : Int) ∧ All w0 f wq B1 B2 mb text start ov ops true wb (-1) mkb true wb (-1) mkb (want ++ rl.take q) (src ++ List.replicate q (-1)) aA aF v12 v13 v14 v15 ∧
    Row f 34 wq 5 1 (.slice (some ⟨R, 0, none⟩) M M) M (bcells rl)


theorem mcells_at : ∀ (ms : List (Int × Int)) (m : Nat), m < ms.length → (mcells ms)[m * 2]? = some (.int .i64 (at' ms m)) ∧ (mcells ms)[m * 2 + 1]? = some (.int .i64 (fr' ms m))
  | [], m, h => absurd h (by simp)
  | p :: r, 0, h => by simp [mcells, at', fr']
  | p :: r, m + 1, h => by
    have ih := mcells_at r m (by simpa using h)
    have e1 : (m + 1) * 2 = m * 2 + 2 := by omega
    simp only [mcells, List.flatMap_cons] at ih ⊢
    rw [e1]
    simpa [at', fr'] using ih

/-- the marks as they lie in memory -/
structure MK (wx : World) (mb g cap : Nat) (ms : List (Int × Int)) : Prop where
  v : wx.cell? ⟨mb, 0, none⟩ = some (.slice (some ⟨g, 0, none⟩) ms.length cap)
  a : ∀ m, m < ms.length → wx.cell? ⟨g, m * 2, none⟩ = some (.int .i64 (at' ms m))
  r : ∀ m, m < ms.length → wx.cell? ⟨g, m * 2 + 1, none⟩ = some (.int .i64 (fr' ms m))
theorem MK.later {w wx : World} {mb g cap : Nat} {ms : List (Int × Int)} (h : MK w mb g cap ms) (hb : Below w.heap.size w wx) : MK wx mb g cap ms :=
  ⟨(hb.cell (World.block_lt_of_cell? _ _ h.v)).trans h.v, fun m hm => (hb.cell (World.block_lt_of_cell? _ _ (h.a m hm))).trans (h.a m hm), fun m hm => (hb.cell (World.block_lt_of_cell? _ _ (h.r m hm))).trans (h.r m hm)⟩
theorem MK.of {f : Nat → Nat} {j : Nat} {w : World} {mb : Nat} {ms : List (Int × Int)} {vm : Value} (h : Marks f j w mb vm ms) (hp : 0 < ms.length) : ∃ g cap, MK w mb g cap ms := by
  obtain ⟨g, cap, rfl, _, hg⟩ := h.row.1.form hp
  have hcell : ∀ k, k < ms.length * 2 → w.cell? ⟨g, k, none⟩ = (mcells ms)[k]? := fun k hk => h.row.1.cellAt k hk
  exact ⟨g, cap, by rw [cell_blk h.blk]; rfl, fun m hm => by rw [hcell _ (by omega)]; exact (mcells_at ms m hm).1, fun m hm => by rw [hcell _ (by omega)]; exact (mcells_at ms m hm).2⟩


theorem ka {w : World} {a : Addr} {o : Obj} {v : Value} (h : w.cell? a = some v) : (w.alloc o).cell? a = some v := (World.cell?_alloc_some w a o (by rw [h]; rfl)).trans h
theorem kd {w : World} {a : Addr} {v : Value} (h : w.cell? a = some v) : w.drew.cell? a = some v := h


theorem bela {w wx : World} (h : Below w.heap.size w wx) (o : Obj) : Below w.heap.size w (wx.alloc o) := h.alloc h.size o


theorem later {w w' : World} {a : Addr} {v : Value} (hb : Below w.heap.size w w') (h : w.cell? a = some v) : w'.cell? a = some v :=
  (hb.cell (World.block_lt_of_cell? w a h)).trans h

/-- the body of the first loop of a code -/
def firstLoop : Code → Option Code
  | .loop c => some c
  | .seq a b => match firstLoop a with
    | some c => some c
    | none => firstLoop b
  | .block _ c => firstLoop c
  | .scope c => firstLoop c
  | .cond _ a b => match firstLoop a with
    | some c => some c
    | none => firstLoop b
  | _ => none
/-- what stands behind block 0 of a code -/
def after0 : Code → Option Code
  | .seq (.seq _ (.block 0 _)) b => some b
  | .seq a b => match after0 a with
    | some c => some c
    | none => after0 b
  | .block _ c => after0 c
  | .scope c => after0 c
  | .cond _ a b => match after0 a with
    | some c => some c
    | none => after0 b
  | _ => none

end Go.Proofs.Qxb6003380a.fnValueBuilderScriptMatchesModel
