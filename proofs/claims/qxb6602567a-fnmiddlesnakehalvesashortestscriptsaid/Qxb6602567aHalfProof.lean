/- The proof of the statement named at the end: the frame. -/
import Derived.Test.Qxb6602567aRows
import Derived.WalkKit
import Derived.ProofKit
import Derived.OpenShut
import Derived.ShutString
import Derived.ChangeOld
import Derived.Below
import Derived.SliceStrings
import Derived.Test.Qxb6602567aMsHalf
namespace Go.Proofs.Qxb6602567a.fnMiddleSnakeHalvesAShortestScript
open Go.ChangeShapes Go.WideShapes Go.ChangeAt Go.RowKit
open Go.ChangeMaps (open_string shut_string)
open Ms
set_option linter.unusedVariables false

theorem own : ownKnob Try.prog.godebug = none := by kernel_rfl
theorem laidOut : laidOutB Try.prog = true := by kernel_rfl

/-- a slice of strings that came in -/
def IsStrs (w : World) (a : Option Addr) (len cap : Nat) : Prop := (len ≤ maxLen ∧ len ≤ cap ∧ cap ≤ maxLen) ∧ ∃ l : List ByteArray, l.length = len ∧ (a = none → l.length = 0) ∧ StrsIn w a l ∧ Sized l
theorem strs_in {w : World} {x : Addr} {len cap : Nat} {ss : List ByteArray} (hl : len ≤ cap) (hm : cap ≤ maxLen) (hz : ss.length = cap) (h : ∀ i, i < ss.length → w.cell? (x.add i) = some (.string (ss.getD i ByteArray.empty))) (hs : ∀ s ∈ ss, s.size ≤ maxLen) : IsStrs w (some x) len cap := by
  refine ⟨⟨Nat.le_trans hl hm, hl, hm⟩, ss.take len, by simp; omega, fun e => absurd e (by simp), fun j hj => ?_, fun j hj => ?_⟩
  · have hj' : j < len := by simp at hj; omega
    obtain ⟨b, off, spot⟩ := x
    have hspot : spot = none := by simpa [Addr.add] using World.cell?_spot (h 0 (by omega))
    subst hspot
    refine ⟨b, off, rfl, ?_⟩
    have := h j (by omega)
    rw [Go.WideShapes.add_plain] at this
    rw [this]
    simp [lineAt, List.getD_eq_getElem?_getD, hj']
  · have hj' : j < len := by simp at hj; omega
    have hjs : j < ss.length := by omega
    have e : lineAt (ss.take len) j = ss[j] := by simp [lineAt, List.getD_eq_getElem?_getD, hj', List.getElem?_eq_getElem hjs]
    rw [e]
    exact hs _ (List.getElem_mem hjs)

set_option maxRecDepth 100000 in
theorem lifted (os : Os) (started : os.Started) (H : Type) (enc : TypeId × Value → H) :
    ReturnsInHanded {} Try.checked os 3 .any (Rows.fnMiddleSnakeHalvesAShortestScriptSpec.pre6 enc Try.prog Try.f3 Rows.fnMiddleSnakeHalvesAShortestScriptRow.domain false) (Rows.fnMiddleSnakeHalvesAShortestScriptSpec.post enc Try.prog Try.f3 false true false false) := by
  refine returnsInHanded_of_change (C := Try.checked) own started (by kernel_rfl) Try.func3
    (ChangeSpec.witness6 (enc := enc) (C := Try.checked) false ⟨#[], #[.slice none 0 0, .slice none 0 0, .int .i64 0, .int .i64 0, .int .i64 0, .int .i64 0], []⟩ 8 (by kernel_rfl) (by kernel_rfl) (by kernel_rfl) (by kernel_rfl)) ?_
  intro W base args ds gs before hval0 hW hcnd _
  have hval : ∀ (j : Nat) t v, Try.f3.params[j]? = some t → args[j]? = some v → Value.okWide Try.prog W .any base t v := hval0
  have hW' := hW
  obtain ⟨p, q, hA0, hV, rfl, hfz, hnd⟩ := hW
  have hA : DataW.TrodAll enc Try.prog W 0 (fun _ => true) true Try.f3.params.toList args.toList ds p := hA0
  rw [Try.params3] at hA hval
  obtain ⟨v0, vs0, d0, ds0, p0, q0, hargs, rfl, rfl, h0, r0⟩ := trodAll_cons hA
  obtain ⟨v1, vs1, d1, ds1, p1, q1, rfl, rfl, rfl, h1, r1⟩ := trodAll_cons r0
  obtain ⟨v2, vs2, d2, ds2, p2, q2, rfl, rfl, rfl, h2, r2⟩ := trodAll_cons r1
  obtain ⟨v3, vs3, d3, ds3, p3, q3, rfl, rfl, rfl, h3, r3⟩ := trodAll_cons r2
  obtain ⟨v4, vs4, d4, ds4, p4, q4, rfl, rfl, rfl, h4, r4⟩ := trodAll_cons r3
  obtain ⟨v5, vs5, d5, ds5, p5, q5, rfl, rfl, rfl, h5, r5⟩ := trodAll_cons r4
  obtain ⟨rfl, rfl, rfl⟩ := trodAll_nil r5
  obtain rfl : args = #[v0, v1, v2, v3, v4, v5] := by cases args; simp_all
  obtain ⟨rfl, rfl⟩ := trodVars_none hV
  obtain ⟨a2, rfl, rfl, rfl, w2⟩ := open_int Try.underlying3 (hval 2 3 v2 rfl rfl) h2
  obtain ⟨a3, rfl, rfl, rfl, w3⟩ := open_int Try.underlying3 (hval 3 3 v3 rfl rfl) h3
  obtain ⟨a4, rfl, rfl, rfl, w4⟩ := open_int Try.underlying3 (hval 4 3 v4 rfl rfl) h4
  obtain ⟨a5, rfl, rfl, rfl, w5⟩ := open_int Try.underlying3 (hval 5 3 v5 rfl rfl) h5
  obtain ⟨a0, len0, cap0, rfl⟩ := okWide_slice Try.underlying22 (hval 0 22 v0 rfl rfl)
  have k0 := h0
  have lt0 : ∀ x ∈ p0, x.block < W.heap.size := by obtain ⟨m, hm⟩ := k0; exact DataW.trod_lt m _ _ _ hm
  obtain ⟨a1, len1, cap1, rfl⟩ := okWide_slice Try.underlying22 (hval 1 22 v1 rfl rfl)
  have k1 := h1
  have lt1 : ∀ x ∈ p1, x.block < W.heap.size := by obtain ⟨m, hm⟩ := k1; exact DataW.trod_lt m _ _ _ hm
  have w0 : IsStrs W a0 len0 cap0 := by
    obtain ⟨fuel, hf⟩ := h0
    rcases open_strings Try.underlying22 Try.underlying9 (by kernel_rfl) hf with ⟨hcs, _⟩ | ⟨x, l, c, ss, hcs, _, hl, hm, hz, _, hcell, hwz⟩
    · simp [Value.cells] at hcs
      obtain ⟨rfl, rfl, rfl⟩ := hcs
      exact ⟨⟨Nat.zero_le _, Nat.le_refl _, Nat.zero_le _⟩, [], rfl, fun _ => rfl, fun j hj => absurd hj (by simp), fun j hj => absurd hj (by simp)⟩
    · simp [Value.cells] at hcs
      obtain ⟨rfl, rfl, rfl⟩ := hcs
      exact strs_in hl hm (by simpa using hz) hcell hwz
  have w1 : IsStrs W a1 len1 cap1 := by
    obtain ⟨fuel, hf⟩ := h1
    rcases open_strings Try.underlying22 Try.underlying9 (by kernel_rfl) hf with ⟨hcs, _⟩ | ⟨x, l, c, ss, hcs, _, hl, hm, hz, _, hcell, hwz⟩
    · simp [Value.cells] at hcs
      obtain ⟨rfl, rfl, rfl⟩ := hcs
      exact ⟨⟨Nat.zero_le _, Nat.le_refl _, Nat.zero_le _⟩, [], rfl, fun _ => rfl, fun j hj => absurd hj (by simp), fun j hj => absurd hj (by simp)⟩
    · simp [Value.cells] at hcs
      obtain ⟨rfl, rfl, rfl⟩ := hcs
      exact strs_in hl hm (by simpa using hz) hcell hwz
  clear hA0 hval0
  obtain ⟨⟨hm0, hc0, hd0⟩, l0, rfl, n0, i0, z0⟩ := w0
  obtain ⟨⟨hm1, hc1, hd1⟩, l1, rfl, n1, i1, z1⟩ := w1
  refine (halfT a0 a1 l0 l1 cap0 cap1 a2 a3 a4 a5 W n0 n1 i0 i1 hm0 hm1 z0 z1 hc0 hc1 hd0 hd1).mono fun e W' ⟨he, bel⟩ => ?_
  subst he
  exact ⟨_, rfl, _, _, _, [], _, [], hW', trodAll_mk1 (shut_bool Try.underlying4 _), (trodAll_cons_mk (Below.trod laidOut (by kernel_rfl) (of_decide_eq_true (by kernel_rfl)) k0 bel lt0) (trodAll_cons_mk (Below.trod laidOut (by kernel_rfl) (of_decide_eq_true (by kernel_rfl)) k1 bel lt1) (trodAll_cons_mk (shut_int Try.underlying3 w2) (trodAll_cons_mk (shut_int Try.underlying3 w3) (trodAll_cons_mk (shut_int Try.underlying3 w4) (trodAll_cons_mk (shut_int Try.underlying3 w5) trodAll_mk0)))))), rfl, bel.frame _, fun h => by cases h⟩

theorem over : Rows.fnMiddleSnakeHalvesAShortestScriptRow.holds Try.pinned (OpenSpec.ofChange Rows.fnMiddleSnakeHalvesAShortestScriptSpec) :=
  OpenClaim.holds_of_wide 3 Try.f3 rfl rfl rfl rfl rfl rfl rfl ⟨rfl, rfl, rfl, rfl, rfl⟩ rfl rfl rfl rfl rfl (by kernel_rfl) Try.func3 (by kernel_rfl)
    (of_decide_eq_true (by kernel_rfl)) (by unfold Func.isWrapper; first | (rw [if_pos (by decide +kernel)]; kernel_rfl) | (rw [if_neg (by decide +kernel)]; exact ⟨rfl, rfl⟩))
    (fun os started H enc _ => lifted os started H enc)

/-- ████ THE STATEMENT ████ -/
theorem proved : Rows.FnMiddleSnakeHalvesAShortestScriptSaid := over
end Go.Proofs.Qxb6602567a.fnMiddleSnakeHalvesAShortestScript
