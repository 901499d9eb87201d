/- The proof of the statement named at the end: the frame. -/
import Derived.Test.Qxb6003380aRows
import Derived.WalkKit
import Derived.ProofKit
import Derived.OpenShut
import Derived.ShutString
import Derived.ChangeOld
import Derived.Below
import Derived.SliceStrings
import Derived.Test.Qxb6003380aKbHead
namespace Go.Proofs.Qxb6003380a.fnValueBuilderBuildsKeptAndAddedText
open Go.ChangeShapes Go.WideShapes Go.ChangeAt Go.RowKit
open Go.ChangeMaps (open_string shut_string)
open Kb Sc
set_option linter.unusedVariables false

theorem own : ownKnob Try.prog.godebug = none := by kernel_rfl
theorem laidOut : laidOutB Try.prog = true := by kernel_rfl

/-- a slice of integers that came in -/
def IsInts (w : World) (a : Option Addr) (len cap : Nat) : Prop := len ≤ maxLen ∧ ∃ l : List Int, l.length = len ∧ (a = none → l.length = 0) ∧ IntsIn w a l
/-- a slice of strings that came in -/
def IsStrs (w : World) (a : Option Addr) (len cap : Nat) : Prop := len ≤ maxLen ∧ ∃ l : List ByteArray, l.length = len ∧ (a = none → l.length = 0) ∧ StrsIn w a l ∧ ∀ j, j < l.length → (strAt l j).size ≤ maxLen

theorem ints_in {w : World} {x : Addr} {len cap : Nat} {zs : List Int} (hl : len ≤ cap) (hm : cap ≤ maxLen) (hz : zs.length = cap) (h : ∀ i, i < zs.length → w.cell? (x.add i) = some (.int .i64 (zs.getD i 0))) : IsInts w (some x) len cap := by
  refine ⟨Nat.le_trans hl hm, zs.take len, by simp; omega, fun e => absurd e (by simp), fun j hj => ?_⟩
  have hj' : j < len := by simp at hj; omega
  obtain ⟨b, off, spot⟩ := x
  have hspot : spot = none := by simpa [Addr.add] using World.cell?_spot (h 0 (by omega))
  subst hspot
  refine ⟨b, off, rfl, ?_⟩
  have := h j (by omega)
  rw [Go.WideShapes.add_plain] at this
  rw [this]
  simp [ig, List.getD_eq_getElem?_getD, hj']
theorem strs_in {w : World} {x : Addr} {len cap : Nat} {ss : List ByteArray} (hl : len ≤ cap) (hm : cap ≤ maxLen) (hz : ss.length = cap) (h : ∀ i, i < ss.length → w.cell? (x.add i) = some (.string (ss.getD i ByteArray.empty))) (hs : ∀ s ∈ ss, s.size ≤ maxLen) : IsStrs w (some x) len cap := by
  refine ⟨Nat.le_trans hl hm, ss.take len, by simp; omega, fun e => absurd e (by simp), fun j hj => ?_, fun j hj => ?_⟩
  · have hj' : j < len := by simp at hj; omega
    obtain ⟨b, off, spot⟩ := x
    have hspot : spot = none := by simpa [Addr.add] using World.cell?_spot (h 0 (by omega))
    subst hspot
    refine ⟨b, off, rfl, ?_⟩
    have := h j (by omega)
    rw [Go.WideShapes.add_plain] at this
    rw [this]
    simp [strAt, List.getD_eq_getElem?_getD, hj']
  · have hj' : j < len := by simp at hj; omega
    have hjs : j < ss.length := by omega
    have e : strAt (ss.take len) j = ss[j] := by simp [strAt, List.getD_eq_getElem?_getD, hj', List.getElem?_eq_getElem hjs]
    rw [e]
    exact hs _ (List.getElem_mem hjs)

set_option maxRecDepth 100000 in
theorem lifted (os : Os) (started : os.Started) (H : Type) (enc : TypeId × Value → H) :
    ReturnsInHanded {} Try.checked os 4 .any (Rows.fnValueBuilderBuildsKeptAndAddedTextSpec.pre6 enc Try.prog Try.f4 Rows.fnValueBuilderBuildsKeptAndAddedTextRow.domain false) (Rows.fnValueBuilderBuildsKeptAndAddedTextSpec.post enc Try.prog Try.f4 false true false false) := by
  refine returnsInHanded_of_change (C := Try.checked) own started (by kernel_rfl) Try.func4
    (ChangeSpec.witness6 (enc := enc) (C := Try.checked) false ⟨#[], #[.string ByteArray.empty, .int .i64 0, .int .i64 0, .slice none 0 0, .slice none 0 0], []⟩ 8 (by kernel_rfl) (by kernel_rfl) (by kernel_rfl) (by kernel_rfl)) ?_
  intro W base args ds gs before hval0 hW hcnd _
  have hval : ∀ (j : Nat) t v, Try.f4.params[j]? = some t → args[j]? = some v → Value.okWide Try.prog W .any base t v := hval0
  have hW' := hW
  obtain ⟨p, q, hA0, hV, rfl, hfz, hnd⟩ := hW
  have hA : DataW.TrodAll enc Try.prog W 0 (fun _ => true) true Try.f4.params.toList args.toList ds p := hA0
  rw [Try.params4] at hA hval
  obtain ⟨v0, vs0, d0, ds0, p0, q0, hargs, rfl, rfl, h0, r0⟩ := trodAll_cons hA
  obtain ⟨v1, vs1, d1, ds1, p1, q1, rfl, rfl, rfl, h1, r1⟩ := trodAll_cons r0
  obtain ⟨v2, vs2, d2, ds2, p2, q2, rfl, rfl, rfl, h2, r2⟩ := trodAll_cons r1
  obtain ⟨v3, vs3, d3, ds3, p3, q3, rfl, rfl, rfl, h3, r3⟩ := trodAll_cons r2
  obtain ⟨v4, vs4, d4, ds4, p4, q4, rfl, rfl, rfl, h4, r4⟩ := trodAll_cons r3
  obtain ⟨rfl, rfl, rfl⟩ := trodAll_nil r4
  obtain rfl : args = #[v0, v1, v2, v3, v4] := by cases args; simp_all
  obtain ⟨rfl, rfl⟩ := trodVars_none hV
  obtain ⟨a0, rfl, rfl, rfl, w0⟩ := open_string Try.underlying9 (hval 0 9 v0 rfl rfl) h0
  obtain ⟨a1, rfl, rfl, rfl, w1⟩ := open_int Try.underlying3 (hval 1 3 v1 rfl rfl) h1
  obtain ⟨a2, rfl, rfl, rfl, w2⟩ := open_int Try.underlying3 (hval 2 3 v2 rfl rfl) h2
  obtain ⟨a3, len3, cap3, rfl⟩ := okWide_slice Try.underlying26 (hval 3 26 v3 rfl rfl)
  have k3 := h3
  have lt3 : ∀ x ∈ p3, x.block < W.heap.size := by obtain ⟨m, hm⟩ := k3; exact DataW.trod_lt m _ _ _ hm
  obtain ⟨a4, len4, cap4, rfl⟩ := okWide_slice Try.underlying27 (hval 4 27 v4 rfl rfl)
  have k4 := h4
  have lt4 : ∀ x ∈ p4, x.block < W.heap.size := by obtain ⟨m, hm⟩ := k4; exact DataW.trod_lt m _ _ _ hm
  have w3 : IsStrs W a3 len3 cap3 := by
    obtain ⟨fuel, hf⟩ := h3
    rcases open_strings Try.underlying26 Try.underlying9 (by kernel_rfl) hf with ⟨hcs, _⟩ | ⟨x, l, c, ss, hcs, _, hl, hm, hz, _, hcell, hwz⟩
    · simp [Value.cells] at hcs
      obtain ⟨rfl, rfl, rfl⟩ := hcs
      exact ⟨Nat.zero_le _, [], rfl, fun _ => rfl, fun j hj => absurd hj (by simp), fun j hj => absurd hj (by simp)⟩
    · simp [Value.cells] at hcs
      obtain ⟨rfl, rfl, rfl⟩ := hcs
      exact strs_in hl hm (by simpa using hz) hcell hwz
  have w4 : IsInts W a4 len4 cap4 := by
    obtain ⟨fuel, hf⟩ := h4
    rcases open_ints Try.underlying27 Try.underlying3 (by kernel_rfl) hf with ⟨hcs, _⟩ | ⟨x, l, c, zs, hcs, _, hl, hm, hz, _, hcell, hwz⟩
    · simp [Value.cells] at hcs
      obtain ⟨rfl, rfl, rfl⟩ := hcs
      exact ⟨Nat.zero_le _, [], rfl, fun _ => rfl, fun j hj => absurd hj (by simp)⟩
    · simp [Value.cells] at hcs
      obtain ⟨rfl, rfl, rfl⟩ := hcs
      exact ints_in hl hm (by simpa using hz) hcell
  clear hA0 hval0
  obtain ⟨hm3, l3, rfl, n3, i3, z3⟩ := w3
  obtain ⟨hm4, l4, rfl, n4, i4⟩ := w4
  refine (headT a0 a1 a2 a3 a4 l3 l4 cap3 cap4 W n3 i3 n4 i4 w0 hm3 hm4 z3 w1 w2).mono fun e W' ⟨he, bel⟩ => ?_
  subst he
  exact ⟨_, rfl, _, _, _, [], _, [], hW', trodAll_mk1 (shut_bool Try.underlying4 _), (trodAll_cons_mk (shut_string Try.underlying9 w0) (trodAll_cons_mk (shut_int Try.underlying3 w1) (trodAll_cons_mk (shut_int Try.underlying3 w2) (trodAll_cons_mk (Below.trod laidOut (by kernel_rfl) (of_decide_eq_true (by kernel_rfl)) k3 bel lt3) (trodAll_cons_mk (Below.trod laidOut (by kernel_rfl) (of_decide_eq_true (by kernel_rfl)) k4 bel lt4) trodAll_mk0))))), rfl, bel.frame _, fun h => by cases h⟩

theorem over : Rows.fnValueBuilderBuildsKeptAndAddedTextRow.holds Try.pinned (OpenSpec.ofChange Rows.fnValueBuilderBuildsKeptAndAddedTextSpec) :=
  OpenClaim.holds_of_wide 4 Try.f4 rfl rfl rfl rfl rfl rfl rfl ⟨rfl, rfl, rfl, rfl, rfl⟩ rfl rfl rfl rfl rfl (by kernel_rfl) Try.func4 (by kernel_rfl)
    (of_decide_eq_true (by kernel_rfl)) (by unfold Func.isWrapper; first | (rw [if_pos (by decide +kernel)]; kernel_rfl) | (rw [if_neg (by decide +kernel)]; exact ⟨rfl, rfl⟩))
    (fun os started H enc _ => lifted os started H enc)

/-- ████ THE STATEMENT ████ -/
theorem proved : Rows.FnValueBuilderBuildsKeptAndAddedTextSaid := over
end Go.Proofs.Qxb6003380a.fnValueBuilderBuildsKeptAndAddedText
