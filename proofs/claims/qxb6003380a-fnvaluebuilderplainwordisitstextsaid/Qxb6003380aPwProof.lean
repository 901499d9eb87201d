/- The proof of the statement named at the end; the frame is the kit's shell, the walk is typed by hand. -/
import Derived.Test.Qxb6003380aRows
import Derived.WalkKit
import Derived.ProofKit
import Derived.OpenShut
import Derived.ShutString
import Derived.WalkLawsBesides
import Derived.Test.Qxb6003380aVbWalks
namespace Go.Proofs.Qxb6003380a.fnValueBuilderPlainWordIsItsText
open Go.ChangeShapes Go.WideShapes Go.ChangeAt Go.RowKit
open Go.ChangeMaps (open_string shut_string)
set_option linter.unusedVariables false      -- a walk need not use every 'w<i>' (that an integer argument fits its kind)

theorem own : ownKnob Try.prog.godebug = none := by kernel_rfl

/-! ### STEP 1: the walk -/
open Vb
/-- the two builders and all that was there before -/
def PW (w0 : World) (f0 : Nat → Nat) (wr : World) (B1 B2 mb : Nat) (text : ByteArray) (start : Nat) (i : Int) : Prop :=
  ∃ f, VB f 10 wr B1 (some mb) text start false [] i [(0, (start : Int))] (.slice none 0 0) ∧ VB f 20 wr B2 none text start false [] i [] (.slice none 0 0) ∧ Step f0 (fun k => 10 ≤ k) w0 wr f

theorem later {w w' : World} {a : Addr} {v : Value} (hb : Below w.heap.size w w') (h : w.cell? a = some v) : w'.cell? a = some v :=
  (hb.cell (World.block_lt_of_cell? w a h)).trans h

theorem bytes_any (s : ByteArray) (i e : Int) (w : World) (hs : s.size ≤ 65536) :
    Calls Try.prog 28 #[.string s, .int .i64 i, .int .i64 e] w fun r w' => r = .returned (.bool true) ∧ w' = w := by
  go_enter Try.func28, Try.ntmps28
  go_wp2
  go_ret
  exact ⟨rfl, rfl⟩

theorem PW.keep1 {w0 : World} {f0 : Nat → Nat} {wr : World} {B1 B2 mb : Nat} {text : ByteArray} {start : Nat} {i : Int} (h : PW w0 f0 wr B1 B2 mb text start i) (h0 : 0 ≤ i) (hi : i ≤ 2097152) :
    Calls Try.prog 30 #[.pointer (some ⟨B1, 0, none⟩), .int .i64 i] wr fun r w' => r = .returned (.tuple #[]) ∧ ∃ f, VB f 10 w' B1 (some mb) text start false [] (i + 1) [(0, (start : Int))] (.slice none 0 0) ∧ VB f 20 w' B2 none text start false [] i [] (.slice none 0 0) ∧ Step f0 (fun k => 10 ≤ k) w0 w' f := by
  obtain ⟨f, h1, h2, h3⟩ := h
  refine (zzkeep_vb wr B1 _ _ _ _ i _ _ h1 h0 hi).mono ?_
  rintro r w' ⟨rfl, hv, hst⟩
  exact ⟨rfl, f, hv, h2.step hst (fun k h => by unfold Of at *; omega), h3.trans (hst.mono (fun k h => by unfold Of at h; omega))⟩
theorem PW.keep2 {w0 : World} {f0 : Nat → Nat} {wr : World} {B1 B2 mb : Nat} {text : ByteArray} {start : Nat} {i : Int} (h : ∃ f, VB f 10 wr B1 (some mb) text start false [] (i + 1) [(0, (start : Int))] (.slice none 0 0) ∧ VB f 20 wr B2 none text start false [] i [] (.slice none 0 0) ∧ Step f0 (fun k => 10 ≤ k) w0 wr f) (h0 : 0 ≤ i) (hi : i ≤ 2097152) :
    Calls Try.prog 30 #[.pointer (some ⟨B2, 0, none⟩), .int .i64 i] wr fun r w' => r = .returned (.tuple #[]) ∧ PW w0 f0 w' B1 B2 mb text start (i + 1) := by
  obtain ⟨f, h1, h2, h3⟩ := h
  refine (zzkeep_vb wr B2 _ _ _ _ i _ _ h2 h0 hi).mono ?_
  rintro r w' ⟨rfl, hv, hst⟩
  exact ⟨rfl, f, h1.step hst (fun k h => by unfold Of at *; omega), hv, h3.trans (hst.mono (fun k h => by unfold Of at h; omega))⟩

set_option maxHeartbeats 2000000 in
theorem inner (text : ByteArray) (start k : Nat) (w : World) (ht : text.size ≤ 65536) (hs : start ≤ text.size) (hk : k ≤ text.size - start) :
    Calls Try.prog 8 #[.string text, .int .i64 (start : Int), .int .i64 (k : Int)] w fun r w' => r = .returned (.bool true) ∧ Below w.heap.size w w' := by
  have b1 : decide ((start : Int) < 0) = false := by simp
  have b2 : decide ((text.size : Int) < start) = false := by simp; omega
  have b3 : decide ((k : Int) < 0) = false := by simp
  have b4 : decide ((text.size : Int) - start < k) = false := by simp; omega
  have hM : Marks (ext (fun _ => 0) w.heap.size 12) 12 (w.alloc (.cells #[.slice none 0 0] 32)) w.heap.size (.slice none 0 0) [] :=
    ⟨Go.heap_alloc_new w _, ext_new (Nat.le_refl _), Row.nil _ _ _ _ _⟩
  have hS : Step (fun _ => 0) (fun k => 10 ≤ k) w (w.alloc (.cells #[.slice none 0 0] 32)) (ext (fun _ => 0) w.heap.size 12) :=
    ((Step.refl (fun _ => 0) (fun k => 10 ≤ k) w).alloc _).extend 12
  go_enter Try.func8, Try.ntmps8
  go_wp2_with fail
  refine (bytes_any text _ _ _ ht).mono ?_
  rintro r w' ⟨rfl, rfl⟩
  go_wp2_with fail
  refine (zznew_marks (j := 10) _ _ text start (by omega) hM).mono ?_
  rintro r w1 ⟨B1, f1, rfl, hv1, hs1⟩
  go_wp2_with fail
  refine (zznew_plain text start w1 (by omega)).mono ?_
  rintro r w2 ⟨rfl, hw2⟩
  obtain ⟨hv2, hs2⟩ := VB.made (f0 := f1) (f := f1) (j := 20) (w := w1) (W := w1) (mp := none) (text := text) (start := start) (ms := []) rfl (Step.refl _ _ _) w1.heap.size rfl
  rw [← hw2] at hv2 hs2
  have hPW : PW w' (fun _ => 0) w2 B1 w1.heap.size w'.heap.size text start (start : Int) :=
    ⟨_, hv1.step hs2 (fun k h => by unfold Of at *; omega), hv2, (hS.trans (hs1.mono (fun k h => by unfold Of at h; omega))).trans (hs2.mono (fun k h => by unfold Of at h; omega))⟩
  obtain ⟨B2, hB2⟩ : ∃ B2, B2 = w1.heap.size := ⟨_, rfl⟩
  rw [← hB2] at hPW ⊢
  clear hv1 hs1 hv2 hs2 hw2 hM hS hB2
  go_wp2_with fail
  go_loopw [10] (fun t wr => ∃ c : Nat, c ≤ k ∧ t = .int .i64 c ∧ PW w' (fun _ => 0) wr B1 B2 w'.heap.size text start ((start : Int) + c)) (fun t _ => k - (intOf t).toNat)
  case atStart => exact ⟨0, by omega, rfl, by simpa using hPW⟩
  case round =>
    obtain ⟨c, hc, rfl, hp⟩ := hrel
    by_cases hlt : c < k
    · go_wp2_with fail
      refine (PW.keep1 hp (by omega) (by omega)).mono ?_
      rintro r w3 ⟨rfl, hp3⟩
      go_wp2_with fail
      refine (PW.keep2 hp3 (by omega) (by omega)).mono ?_
      rintro r w4 ⟨rfl, hp4⟩
      go_wp2
      go_roundw
      case rel => exact ⟨c + 1, by omega, by go_num, by rw [show ((start : Int) + ((c + 1 : Nat) : Int)) = (start : Int) + c + 1 by omega]; exact hp4⟩
      case measure => simp [intOf]; omega
    · have hck : c = k := by omega
      rw [hck] at hp
      obtain ⟨f, h1, h2, h3⟩ := hp
      have hb := h3.below (fun _ _ => rfl) (by omega)
      obtain ⟨vm, hm⟩ := h1.mks
      have e1 : ((start : Int) + (k : Int)) = ((start + k : Nat) : Int) := by omega
      have f1 := h1.fld
      have f2 := h2.fld
      rw [e1] at f1 f2
      have q1 : (start : Int) ≤ (start : Int) + k := by omega
      have q2 : (start : Int) + k ≤ text.size := by omega
      have hsl : ∀ wx : World, (Instr.slice 9 (.string text) (some (.int .i64 (start : Int))) (some (.int .i64 ((start : Int) + k))) none).run Try.prog wx = .ok (.string (text.extract start (start + k))) wx := fun wx => by
        rw [run_slice_string (w := wx) 9 text .i64 .i64 (start : Int) ((start : Int) + k) Try.underlying9 (by omega) (by omega) q2]
        congr
      obtain ⟨hcm, hc0, hc1, hvm⟩ : wr.cell? ⟨w'.heap.size, 0, none⟩ = some vm ∧ True ∧ True ∧ True := ⟨by rw [cell_blk hm.blk]; rfl, trivial, trivial, trivial⟩
      clear hc0 hc1 hvm
      obtain ⟨g, cap, hvm, _, hg⟩ := hm.row.1.form (by simp)
      have hg0 := hm.row.1.cells (g := g) (by rw [hvm]; rfl) 0 _ rfl
      have hg1 := hm.row.1.cells (g := g) (by rw [hvm]; rfl) 1 _ rfl
      rw [hvm] at hcm
      have hml := lt_of_blk hm.blk
      simp [Addr.add] at hg0 hg1
      clear h1 h2 h3 hm hvm hck e1 hPW
      go_wp2_with fail
      refine (zzstr_plain _ B1 _ text start _ (start + k) f1 (by omega) (by omega) (by omega)).mono ?_
      rintro r w3 ⟨rfl, n1, rfl⟩
      go_wp2_with fail
      refine (zzstr_plain (wr.drewN n1) B2 _ text start _ (start + k) (f := f) (j := 20) ⟨f2.blk, f2.own⟩ (by omega) (by omega) (by omega)).mono ?_
      rintro r w3 ⟨rfl, n2, rfl⟩
      go_wp2_with fail
      refine (zzlen_plain (wr.drewN (n1 + n2)) B1 _ text start _ _ (f := f) (j := 10) ⟨f1.blk, f1.own⟩ (by omega) (by omega) (by omega)).mono ?_
      rintro r w3 ⟨rfl, n3, rfl⟩
      have e2 : (((start + k : Nat) : Int) - (start : Int)) = (k : Int) := by omega
      rw [e2]
      go_wp2_with fail
      refine (zzlen_plain (wr.drewN (n1 + n2 + n3)) B2 _ text start _ _ (f := f) (j := 20) ⟨f2.blk, f2.own⟩ (by omega) (by omega) (by omega)).mono ?_
      rintro r w3 ⟨rfl, n4, rfl⟩
      rw [e2]
      clear e2
      go_wp2_with fail
      refine (at_any _ _ _).mono ?_
      rintro r w3 ⟨rfl, hw3⟩
      have hA : Below wr.heap.size wr w3 := by rw [hw3]; exact (below_drewN (Below.refl _ _) _).alloc (Nat.le_refl _) _
      have k1 := later hA hcm
      have k2 := later hA hg0
      have k3 := later hA hg1
      have hA' : Below w'.heap.size w' w3 := hb.trans (hA.mono hb.size)
      clear hw3 hA
      go_wp2_with fail
      refine (from_any _ _ _).mono ?_
      rintro r w3 ⟨rfl, rfl⟩
      go_wp2_with fail
      go_ret
      exact ⟨rfl, hA'.alloc hA'.size _⟩

set_option maxHeartbeats 2000000 in
theorem walk (a0 : ByteArray) (a1 : Int) (a2 : Int) (w0 : a0.size ≤ maxLen) (w1 : (Lit.int .i64 a1).wf = true) (w2 : (Lit.int .i64 a2).wf = true) (w : World) :
    Calls Try.prog 8 #[.string a0, .int .i64 a1, .int .i64 a2] w fun e w' => e = .returned (.bool true) ∧ Below w.heap.size w w' := by
  unfold maxLen at w0
  by_cases h1 : (a0.size : Int) ≤ 1048576
  · by_cases h2 : (a0.size : Int) ≤ 65536
    · by_cases c1 : a1 < 0
      · have b1 : decide (a1 < 0) = true := by simpa using c1
        go_enter Try.func8, Try.ntmps8
        go_wp2
        go_ret
        exact ⟨rfl, Below.refl _ _⟩
      · have b1 : decide (a1 < 0) = false := by simpa using c1
        by_cases c2 : (a0.size : Int) < a1
        · have b2 : decide ((a0.size : Int) < a1) = true := by simpa using c2
          go_enter Try.func8, Try.ntmps8
          go_wp2
          go_ret
          exact ⟨rfl, Below.refl _ _⟩
        · have b2 : decide ((a0.size : Int) < a1) = false := by simpa using c2
          by_cases c3 : a2 < 0
          · have b3 : decide (a2 < 0) = true := by simpa using c3
            go_enter Try.func8, Try.ntmps8
            go_wp2
            go_ret
            exact ⟨rfl, Below.refl _ _⟩
          · have b3 : decide (a2 < 0) = false := by simpa using c3
            by_cases c4 : (a0.size : Int) - a1 < a2
            · have b4 : decide ((a0.size : Int) - a1 < a2) = true := by simpa using c4
              go_enter Try.func8, Try.ntmps8
              go_wp2
              go_ret
              exact ⟨rfl, Below.refl _ _⟩
            · obtain ⟨i, rfl⟩ := Int.eq_ofNat_of_zero_le (show 0 ≤ a1 by omega)
              obtain ⟨e, rfl⟩ := Int.eq_ofNat_of_zero_le (show 0 ≤ a2 by omega)
              exact inner a0 i e w (by omega) (by omega) (by omega)
    · go_enter Try.func8, Try.ntmps8
      go_wp2
      go_ret
      exact ⟨rfl, Below.refl _ _⟩
  · go_enter Try.func8, Try.ntmps8
    go_wp2
    go_ret
    exact ⟨rfl, Below.refl _ _⟩

/-! ### THE ROW's STEP: WRITTEN OUT: LEAVE IT -/
set_option maxRecDepth 100000 in
theorem lifted (os : Os) (started : os.Started) (H : Type) (enc : TypeId × Value → H) :
    ReturnsInHanded {} Try.checked os 8 .any (Rows.fnValueBuilderPlainWordIsItsTextSpec.pre6 enc Try.prog Try.f8 Rows.fnValueBuilderPlainWordIsItsTextRow.domain false) (Rows.fnValueBuilderPlainWordIsItsTextSpec.post enc Try.prog Try.f8 false true false false) := by
  refine returnsInHanded_of_change (C := Try.checked) own started (by kernel_rfl) Try.func8
    (ChangeSpec.witness6 (enc := enc) (C := Try.checked) false ⟨#[], #[.string ByteArray.empty, .int .i64 0, .int .i64 0], []⟩ 8 (by kernel_rfl) (by kernel_rfl) (by kernel_rfl) (by kernel_rfl)) ?_
  intro W base args ds gs before hval0 hW hcnd _
  have hval : ∀ (j : Nat) t v, Try.f8.params[j]? = some t → args[j]? = some v → Value.okWide Try.prog W .any base t v := hval0
  have hW' := hW
  obtain ⟨p, q, hA0, hV, rfl, hfz, hnd⟩ := hW
  have hA : DataW.TrodAll enc Try.prog W 0 (fun _ => true) true Try.f8.params.toList args.toList ds p := hA0
  rw [Try.params8] at hA hval
  obtain ⟨v0, vs0, d0, ds0, p0, q0, hargs, rfl, rfl, h0, r0⟩ := trodAll_cons hA
  obtain ⟨v1, vs1, d1, ds1, p1, q1, rfl, rfl, rfl, h1, r1⟩ := trodAll_cons r0
  obtain ⟨v2, vs2, d2, ds2, p2, q2, rfl, rfl, rfl, h2, r2⟩ := trodAll_cons r1
  obtain ⟨rfl, rfl, rfl⟩ := trodAll_nil r2
  obtain rfl : args = #[v0, v1, v2] := by cases args; simp_all
  obtain ⟨rfl, rfl⟩ := trodVars_none hV
  obtain ⟨a0, rfl, rfl, rfl, w0⟩ := open_string Try.underlying9 (hval 0 9 v0 rfl rfl) h0
  obtain ⟨a1, rfl, rfl, rfl, w1⟩ := open_int Try.underlying3 (hval 1 3 v1 rfl rfl) h1
  obtain ⟨a2, rfl, rfl, rfl, w2⟩ := open_int Try.underlying3 (hval 2 3 v2 rfl rfl) h2
  clear hA0 hval0
  simp only [List.append_nil] at hW'
  refine (walk a0 a1 a2 w0 w1 w2 W).mono fun e W' ⟨he, hg⟩ => ?_
  subst he
  exact ⟨_, rfl, _, _, _, [], [], [], hW', trodAll_mk1 (shut_bool Try.underlying4 _), (trodAll_cons_mk (shut_string Try.underlying9 w0) (trodAll_cons_mk (shut_int Try.underlying3 w1) (trodAll_cons_mk (shut_int Try.underlying3 w2) trodAll_mk0))), rfl, hg.frame _, fun h => by cases h⟩

theorem over : Rows.fnValueBuilderPlainWordIsItsTextRow.holds Try.pinned (OpenSpec.ofChange Rows.fnValueBuilderPlainWordIsItsTextSpec) :=
  OpenClaim.holds_of_wide 8 Try.f8 rfl rfl rfl rfl rfl rfl rfl ⟨rfl, rfl, rfl, rfl, rfl⟩ rfl rfl rfl rfl rfl (by kernel_rfl) Try.func8 (by kernel_rfl)
    (of_decide_eq_true (by kernel_rfl)) (by unfold Func.isWrapper; first | (rw [if_pos (by decide +kernel)]; kernel_rfl) | (rw [if_neg (by decide +kernel)]; exact ⟨rfl, rfl⟩))
    (fun os started H enc _ => lifted os started H enc)

/-- ████ THE STATEMENT ████ -/
theorem proved : Rows.FnValueBuilderPlainWordIsItsTextSaid :=
  over
end Go.Proofs.Qxb6003380a.fnValueBuilderPlainWordIsItsText
