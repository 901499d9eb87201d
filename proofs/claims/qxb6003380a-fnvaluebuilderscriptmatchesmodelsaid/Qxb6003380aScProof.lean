/- The proof of the statement named at the end; the frame is the kit's shell, the walk is typed by hand. -/
import Derived.Test.Qxb6003380aRows
import Derived.WalkKit
import Derived.ProofKit
import Derived.OpenShut
import Derived.ShutString
import Derived.ChangeOld
import Derived.Below
import Derived.Test.Qxb6003380aScWalk
namespace Go.Proofs.Qxb6003380a.fnValueBuilderScriptMatchesModel
open Go.ChangeShapes Go.WideShapes Go.ChangeAt Go.RowKit
open Go.ChangeMaps (open_string shut_string)
set_option linter.unusedVariables false

theorem own : ownKnob Try.prog.godebug = none := by kernel_rfl
theorem laidOut : laidOutB Try.prog = true := by kernel_rfl

/-- WHAT THE WALK IS TOLD OF A SLICE OF INTEGERS THAT CAME IN: it is nil; or it leads to a row of 'cap' cells, the numbers 'zs' (the first 'len' are its elements, the rest its spare room), each fitting its kind. -/
def IsRow (k : IntKind) (w : World) (a : Option Addr) (len cap : Nat) (zs : List Int) : Prop :=
  (a = none ∧ len = 0 ∧ cap = 0 ∧ zs = []) ∨
  ∃ x, a = some x ∧ len ≤ cap ∧ cap ≤ maxLen ∧ zs.length = cap ∧ (∀ i, i < zs.length → w.cell? (x.add i) = some (.int k (zs.getD i 0))) ∧ ∀ n ∈ zs, (Lit.int k n).wf = true

/-! ### STEP 1: the walk -/
/-- the bytes that the slice that came in holds -/
theorem ops_of {w : World} {a : Option Addr} {len cap : Nat} {zs : List Int} (h : IsRow .u8 w a len cap zs) :
    ∃ ops : List UInt8, ops.length = len ∧ (a = none → ops.length = 0) ∧ ∀ k (h : k < ops.length), ∃ b off, a = some ⟨b, off, none⟩ ∧ w.cell? ⟨b, off + k, none⟩ = some (.int .u8 ((ops[k]'h).toNat : Int)) := by
  rcases h with ⟨rfl, rfl, rfl, rfl⟩ | ⟨x, rfl, hl, _, hz, hcell, hwf⟩
  · exact ⟨[], rfl, fun _ => rfl, fun k hk => absurd hk (by simp)⟩
  · refine ⟨(zs.take len).map (fun (n : Int) => UInt8.ofNat n.toNat), by simp; omega, fun h => absurd h (by simp), fun k hk => ?_⟩
    have hk' : k < len := by simp at hk; omega
    have hkz : k < zs.length := by omega
    have hb : 0 ≤ zs[k] ∧ zs[k] ≤ 255 := bounds_u8 (hwf zs[k] (List.getElem_mem hkz))
    obtain ⟨b, off, rfl, hc⟩ := ints_at hcell (by omega)
    refine ⟨b, off, rfl, ?_⟩
    rw [hc k hkz]
    have e1 : zs.getD k 0 = zs[k] := by rw [List.getD_eq_getElem?_getD, List.getElem?_eq_getElem hkz]; rfl
    have e2 : (((((zs.take len).map (fun (n : Int) => UInt8.ofNat n.toNat))[k]'hk).toNat : Nat) : Int) = zs[k] := by
      simp
      omega
    rw [e1, e2]

set_option maxHeartbeats 1000000 in
set_option maxRecDepth 100000 in
theorem walk (a0 : ByteArray) (a1 : Int) (a2 : Option Addr) (len2 cap2 : Nat) (z2 : List Int) (a3 : ByteArray) (w : World) (w0 : a0.size ≤ maxLen) (w1 : (Lit.int .i64 a1).wf = true) (w2 : IsRow .u8 w a2 len2 cap2 z2) (w3 : a3.size ≤ maxLen) :
    Calls Try.prog 9 #[.string a0, .int .i64 a1, .slice a2 len2 cap2, .string a3] w fun e w' => e = .returned (.bool true) ∧ Below w.heap.size w w' := by
  have hl2 : len2 ≤ maxLen := by
    rcases w2 with ⟨_, rfl, _⟩ | ⟨_, _, h1, h2, _⟩
    · exact Nat.zero_le _
    · exact Nat.le_trans h1 h2
  obtain ⟨ops, rfl, hn, hc⟩ := ops_of w2
  unfold maxLen at w0 w3 hl2
  by_cases t1 : (a0.size : Int) ≤ 1048576
  · by_cases t2 : (ops.length : Int) ≤ 1048576
    · by_cases t3 : (a0.size : Int) + (ops.length : Int) ≤ 1048576
      · by_cases t4 : (a3.size : Int) ≤ 1048576
        · by_cases t5 : (a0.size : Int) + (ops.length : Int) + (a3.size : Int) ≤ 1048576
          · by_cases t6 : (ops.length : Int) ≤ 4096
            · by_cases t7 : a1 < 0
              · have b1 : decide (a1 < 0) = true := by simpa using t7
                clear w2 hc
                go_enter Try.func9, Try.ntmps9
                go_wp2
                go_ret
                exact ⟨rfl, Below.refl _ _⟩
              · have b1 : decide (a1 < 0) = false := by simpa using t7
                by_cases t8 : (a0.size : Int) < a1
                · have b2 : decide ((a0.size : Int) < a1) = true := by simpa using t8
                  clear w2 hc
                  go_enter Try.func9, Try.ntmps9
                  go_wp2
                  go_ret
                  exact ⟨rfl, Below.refl _ _⟩
                · obtain ⟨i, rfl⟩ := Int.eq_ofNat_of_zero_le (show 0 ≤ a1 by omega)
                  exact inner a0 a3 i a2 cap2 ops w hn hc (by omega) (by omega) (by omega)
            · clear w2 hc
              go_enter Try.func9, Try.ntmps9
              go_wp2
              go_ret
              exact ⟨rfl, Below.refl _ _⟩
          · clear w2 hc
            go_enter Try.func9, Try.ntmps9
            go_wp2
            go_ret
            exact ⟨rfl, Below.refl _ _⟩
        · clear w2 hc
          go_enter Try.func9, Try.ntmps9
          go_wp2
          go_ret
          exact ⟨rfl, Below.refl _ _⟩
      · clear w2 hc
        go_enter Try.func9, Try.ntmps9
        go_wp2
        go_ret
        exact ⟨rfl, Below.refl _ _⟩
    · clear w2 hc
      go_enter Try.func9, Try.ntmps9
      go_wp2
      go_ret
      exact ⟨rfl, Below.refl _ _⟩
  · clear w2 hc
    go_enter Try.func9, Try.ntmps9
    go_wp2
    go_ret
    exact ⟨rfl, Below.refl _ _⟩

/-! ### THE ROW's STEP: WRITTEN OUT: LEAVE IT -/
set_option maxRecDepth 100000 in
theorem lifted (os : Os) (started : os.Started) (H : Type) (enc : TypeId × Value → H) :
    ReturnsInHanded {} Try.checked os 9 .any (Rows.fnValueBuilderScriptMatchesModelSpec.pre6 enc Try.prog Try.f9 Rows.fnValueBuilderScriptMatchesModelRow.domain false) (Rows.fnValueBuilderScriptMatchesModelSpec.post enc Try.prog Try.f9 false true false false) := by
  refine returnsInHanded_of_change (C := Try.checked) own started (by kernel_rfl) Try.func9
    (ChangeSpec.witness6 (enc := enc) (C := Try.checked) false ⟨#[], #[.string ByteArray.empty, .int .i64 0, .slice none 0 0, .string ByteArray.empty], []⟩ 8 (by kernel_rfl) (by kernel_rfl) (by kernel_rfl) (by kernel_rfl)) ?_
  intro W base args ds gs before hval0 hW hcnd _
  have hval : ∀ (j : Nat) t v, Try.f9.params[j]? = some t → args[j]? = some v → Value.okWide Try.prog W .any base t v := hval0
  have hW' := hW
  obtain ⟨p, q, hA0, hV, rfl, hfz, hnd⟩ := hW
  have hA : DataW.TrodAll enc Try.prog W 0 (fun _ => true) true Try.f9.params.toList args.toList ds p := hA0
  rw [Try.params9] at hA hval
  obtain ⟨v0, vs0, d0, ds0, p0, q0, hargs, rfl, rfl, h0, r0⟩ := trodAll_cons hA
  obtain ⟨v1, vs1, d1, ds1, p1, q1, rfl, rfl, rfl, h1, r1⟩ := trodAll_cons r0
  obtain ⟨v2, vs2, d2, ds2, p2, q2, rfl, rfl, rfl, h2, r2⟩ := trodAll_cons r1
  obtain ⟨v3, vs3, d3, ds3, p3, q3, rfl, rfl, rfl, h3, r3⟩ := trodAll_cons r2
  obtain ⟨rfl, rfl, rfl⟩ := trodAll_nil r3
  obtain rfl : args = #[v0, v1, v2, v3] := by cases args; simp_all
  obtain ⟨rfl, rfl⟩ := trodVars_none hV
  obtain ⟨a0, rfl, rfl, rfl, w0⟩ := open_string Try.underlying9 (hval 0 9 v0 rfl rfl) h0
  obtain ⟨a1, rfl, rfl, rfl, w1⟩ := open_int Try.underlying3 (hval 1 3 v1 rfl rfl) h1
  obtain ⟨a2, len2, cap2, rfl⟩ := okWide_slice Try.underlying31 (hval 2 31 v2 rfl rfl)
  have k2 := h2
  have lt2 : ∀ x ∈ p2, x.block < W.heap.size := by obtain ⟨m, hm⟩ := k2; exact DataW.trod_lt m _ _ _ hm
  obtain ⟨z2, w2⟩ : ∃ zs, IsRow .u8 W a2 len2 cap2 zs := by
    obtain ⟨fuel, hf⟩ := h2
    rcases open_ints Try.underlying31 Try.underlying5 (by kernel_rfl) hf with ⟨hcs, _⟩ | ⟨x, l, c, zs, hcs, _, hl, hm, hz, _, hcell, hwz⟩
    · simp [Value.cells] at hcs
      obtain ⟨rfl, rfl, rfl⟩ := hcs
      exact ⟨[], .inl ⟨rfl, rfl, rfl, rfl⟩⟩
    · simp [Value.cells] at hcs
      obtain ⟨rfl, rfl, rfl⟩ := hcs
      exact ⟨zs, .inr ⟨_, rfl, hl, hm, by simpa using hz, hcell, hwz⟩⟩
  obtain ⟨a3, rfl, rfl, rfl, w3⟩ := open_string Try.underlying9 (hval 3 9 v3 rfl rfl) h3
  clear hA0 hval0
  refine (walk a0 a1 a2 len2 cap2 z2 a3 W w0 w1 w2 w3).mono fun e W' ⟨he, bel⟩ => ?_
  subst he
  exact ⟨_, rfl, _, _, _, [], _, [], hW', trodAll_mk1 (shut_bool Try.underlying4 _), (trodAll_cons_mk (shut_string Try.underlying9 w0) (trodAll_cons_mk (shut_int Try.underlying3 w1) (trodAll_cons_mk (Below.trod laidOut (by kernel_rfl) (of_decide_eq_true (by kernel_rfl)) k2 bel lt2) (trodAll_cons_mk (shut_string Try.underlying9 w3) trodAll_mk0)))), rfl, bel.frame _, fun h => by cases h⟩

theorem over : Rows.fnValueBuilderScriptMatchesModelRow.holds Try.pinned (OpenSpec.ofChange Rows.fnValueBuilderScriptMatchesModelSpec) :=
  OpenClaim.holds_of_wide 9 Try.f9 rfl rfl rfl rfl rfl rfl rfl ⟨rfl, rfl, rfl, rfl, rfl⟩ rfl rfl rfl rfl rfl (by kernel_rfl) Try.func9 (by kernel_rfl)
    (of_decide_eq_true (by kernel_rfl)) (by unfold Func.isWrapper; first | (rw [if_pos (by decide +kernel)]; kernel_rfl) | (rw [if_neg (by decide +kernel)]; exact ⟨rfl, rfl⟩))
    (fun os started H enc _ => lifted os started H enc)

/-- ████ THE STATEMENT ████ -/
theorem proved : Rows.FnValueBuilderScriptMatchesModelSaid := over
end Go.Proofs.Qxb6003380a.fnValueBuilderScriptMatchesModel
