/- The middle snake's memory, and what its walks hold. -/
import Derived.Test.Qxb6602567aRows
import Derived.Test.Qxb6602567aMsRows
import Derived.WalkKit
import Derived.ProofKit
import Derived.OpenShut
import Derived.ShutString
import Derived.WalkLawsBesides
import Derived.BigGuardPart
import Derived.Below
import Derived.WalkSpells
import Derived.Deep.QuietTactic
import Derived.Deep.RegionHeld3
import Derived.Deep.DeepCutAuto
import Derived.Deep.CutBlock
import Derived.Deep.Draws
namespace Go.Proofs.Qxb6602567a.Ms
open Go Go.RowKit
set_option linter.unusedVariables false

def lineAt (l : List ByteArray) (i : Nat) : ByteArray := l.getD i ByteArray.empty
/-- the lines of the two windows, from their starts -/
def eqA (A T : List ByteArray) (fl tl n m : Nat) (x y : Nat) : Bool := decide (x < n) && (decide (y < m) && decide (lineAt A (fl + x) = lineAt T (tl + y)))
/-- and from their ends -/
def eqB (A T : List ByteArray) (fh th n m : Nat) (x y : Nat) : Bool := decide (x < n) && (decide (y < m) && decide (lineAt A (fh - 1 - x) = lineAt T (th - 1 - y)))
theorem eqA_box (A T : List ByteArray) (fl tl n m : Nat) : Box (eqA A T fl tl n m) n m := fun x y h => by
  simp [eqA] at h
  exact ⟨h.1, h.2.1⟩
theorem eqB_box (A T : List ByteArray) (fh th n m : Nat) : Box (eqB A T fh th n m) n m := fun x y h => by
  simp [eqB] at h
  exact ⟨h.1, h.2.1⟩
theorem eq_rev (A T : List ByteArray) (fl tl n m : Nat) : Rev (eqA A T fl tl n m) (eqB A T (fl + n) (tl + m) n m) n m := by
  refine ⟨eqA_box A T fl tl n m, eqB_box A T (fl + n) (tl + m) n m, fun x y x' y' hx hy => ?_⟩
  have e1 : fl + n - 1 - x' = fl + x := by omega
  have e2 : tl + m - 1 - y' = tl + y := by omega
  have b1 : (decide (x' < n)) = decide (x < n) := by
    have h1 : x' < n := by omega
    have h2 : x < n := by omega
    simp [h1, h2]
  have b2 : (decide (y' < m)) = decide (y < m) := by
    have h1 : y' < m := by omega
    have h2 : y < m := by omega
    simp [h1, h2]
  unfold eqA eqB
  rw [e1, e2, b1, b2]

def icells (l : List Int) : List Value := l.map fun z => .int .i64 z
theorem icells_at {l : List Int} {i : Nat} (h : i < l.length) : (icells l)[i]? = some (.int .i64 (ig l i)) := by
  simp [icells, ig, List.getD_eq_getElem?_getD, List.getElem?_eq_getElem h]
theorem icells_set (l : List Int) (i : Nat) (v : Int) : (icells l).set i (.int .i64 v) = icells (l.set i v) := by simp [icells, List.map_set]

/-- the searcher: its fields, the two texts, the two rows -/
structure Mem (w0 wr : World) (B gA gT gf gb cA cT R cf cb : Nat) (A T : List ByteArray) (F G : List Int) : Prop where
  s0 : wr.cell? ⟨B, 0, none⟩ = some (.slice (some ⟨gA, 0, none⟩) A.length cA)
  s1 : wr.cell? ⟨B, 1, none⟩ = some (.slice (some ⟨gT, 0, none⟩) T.length cT)
  s3 : wr.cell? ⟨B, 3, none⟩ = some (.slice (some ⟨gf, 0, none⟩) R cf)
  s4 : wr.cell? ⟨B, 4, none⟩ = some (.slice (some ⟨gb, 0, none⟩) R cb)
  a : ∀ i, i < A.length → wr.cell? ⟨gA, i, none⟩ = some (.string (lineAt A i))
  t : ∀ i, i < T.length → wr.cell? ⟨gT, i, none⟩ = some (.string (lineAt T i))
  f : wr.ownsRow 0 3 1 (.slice (some ⟨gf, 0, none⟩) R cf) R (icells F)
  g : wr.ownsRow 0 3 1 (.slice (some ⟨gb, 0, none⟩) R cb) R (icells G)
  nf : gf ≠ B ∧ gf ≠ gA ∧ gf ≠ gT ∧ gf ≠ gb
  ng : gb ≠ B ∧ gb ≠ gA ∧ gb ≠ gT ∧ gb ≠ gf
  bel : Below w0.heap.size w0 wr
  bf : w0.heap.size ≤ gf
  bg : w0.heap.size ≤ gb
section
variable {w0 wr : World} {B gA gT gf gb cA cT R cf cb : Nat} {A T : List ByteArray} {F G : List Int}
theorem Mem.lenF (h : Mem w0 wr B gA gT gf gb cA cT R cf cb A T F G) : F.length = R := by
  have := h.f.1
  simpa [icells] using this
theorem Mem.lenG (h : Mem w0 wr B gA gT gf gb cA cT R cf cb A T F G) : G.length = R := by
  have := h.g.1
  simpa [icells] using this
theorem Mem.cellF (h : Mem w0 wr B gA gT gf gb cA cT R cf cb A T F G) {i : Nat} (hi : i < R) : wr.cell? ⟨gf, i, none⟩ = some (.int .i64 (ig F i)) := by
  rw [h.f.cellAt i (by omega)]
  exact icells_at (by rw [h.lenF]; exact hi)
theorem Mem.cellG (h : Mem w0 wr B gA gT gf gb cA cT R cf cb A T F G) {i : Nat} (hi : i < R) : wr.cell? ⟨gb, i, none⟩ = some (.int .i64 (ig G i)) := by
  rw [h.g.cellAt i (by omega)]
  exact icells_at (by rw [h.lenG]; exact hi)
theorem cell_other {w : World} {p q : Addr} {v : Value} (u : Value) (h : w.cell? p = some v) (hne : q.block ≠ p.block) : (w.setCell q u).cell? p = some v :=
  (World.cell?_of_block (Below.heap_setCell w q u p.block (fun e => hne e.symm))).trans h
theorem Mem.drewN (h : Mem w0 wr B gA gT gf gb cA cT R cf cb A T F G) (k : Nat) : Mem w0 (wr.drewN k) B gA gT gf gb cA cT R cf cb A T F G :=
  ⟨h.s0, h.s1, h.s3, h.s4, h.a, h.t, h.f, h.g, h.nf, h.ng, ⟨h.bel.os, h.bel.tape, h.bel.output, h.bel.size, h.bel.block⟩, h.bf, h.bg⟩
theorem Mem.drew (h : Mem w0 wr B gA gT gf gb cA cT R cf cb A T F G) : Mem w0 wr.drew B gA gT gf gb cA cT R cf cb A T F G :=
  ⟨h.s0, h.s1, h.s3, h.s4, h.a, h.t, h.f, h.g, h.nf, h.ng, h.bel.drew, h.bf, h.bg⟩
theorem Mem.setF (h : Mem w0 wr B gA gT gf gb cA cT R cf cb A T F G) (i : Nat) (v : Int) : Mem w0 (wr.setCell ⟨gf, i, none⟩ (.int .i64 v)) B gA gT gf gb cA cT R cf cb A T (F.set i v) G := by
  have hst := h.f.stored i (.int .i64 v)
  rw [icells_set] at hst
  exact ⟨cell_other _ h.s0 h.nf.1, cell_other _ h.s1 h.nf.1, cell_other _ h.s3 h.nf.1, cell_other _ h.s4 h.nf.1, fun i hi => cell_other _ (h.a i hi) h.nf.2.1, fun i hi => cell_other _ (h.t i hi) h.nf.2.2.1,
    hst.1, ownsRow_setCell_other h.g (by simp [Value.ownBlock]; exact h.ng.2.2.2) _, h.nf, h.ng, h.bel.setCell h.bf _, h.bf, h.bg⟩
theorem Mem.setG (h : Mem w0 wr B gA gT gf gb cA cT R cf cb A T F G) (i : Nat) (v : Int) : Mem w0 (wr.setCell ⟨gb, i, none⟩ (.int .i64 v)) B gA gT gf gb cA cT R cf cb A T F (G.set i v) := by
  have hst := h.g.stored i (.int .i64 v)
  rw [icells_set] at hst
  exact ⟨cell_other _ h.s0 h.ng.1, cell_other _ h.s1 h.ng.1, cell_other _ h.s3 h.ng.1, cell_other _ h.s4 h.ng.1, fun i hi => cell_other _ (h.a i hi) h.ng.2.1, fun i hi => cell_other _ (h.t i hi) h.ng.2.2.1,
    ownsRow_setCell_other h.f (by simp [Value.ownBlock]; exact h.nf.2.2.2) _, hst.1, h.nf, h.ng, h.bel.setCell h.bg _, h.bf, h.bg⟩
theorem Mem.frF (h : Mem w0 wr B gA gT gf gb cA cT R cf cb A T F G) (i : Nat) : wr.frozen? ⟨gf, i, none⟩ = false := h.f.frozenAt i
theorem Mem.frG (h : Mem w0 wr B gA gT gf gb cA cT R cf cb A T F G) (i : Nat) : wr.frozen? ⟨gb, i, none⟩ = false := h.g.frozenAt i
end
/-- the code of a spine, found by a path -/
def fromR (n : Nat) : Code → Option Code
  | .seq (.region m o d) b => bif m == n then some (.seq (.region m o d) b) else fromR n b
  | .seq _ b => fromR n b
  | _ => none
def hdR (n : Nat) (c : Code) : Option Code := match fromR n c with | some (.seq a _) => some a | _ => none
def tlR (n : Nat) (c : Code) : Option Code := match fromR n c with | some (.seq _ b) => some b | _ => none
/-- the body of block n, wherever it lies -/
def inB (n : Nat) : Code → Option Code
  | .block m b => bif m == n then some b else inB n b
  | .seq a b => (inB n a).orElse fun _ => inB n b
  | .loop b => inB n b
  | .cond _ a b => (inB n a).orElse fun _ => inB n b
  | _ => none
end Go.Proofs.Qxb6602567a.Ms
