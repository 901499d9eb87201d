/- The proof of the statement named at the end; the frame is the kit's shell, the walk is typed by hand. -/
import Derived.Test.Qxb6003380aRows
import Derived.WalkKit
import Derived.ProofKit
import Derived.OpenShut
import Derived.ShutString
import Derived.WalkLawsBesides
import Derived.Test.Qxb6003380aElWalks
namespace Go.Proofs.Qxb6003380a.fnElementNameIsLocalAndWrittenBare
open Go.ChangeShapes Go.WideShapes Go.ChangeAt Go.RowKit
open Go.ChangeMaps (open_string shut_string)
set_option linter.unusedVariables false      -- a walk need not use every 'w<i>' (that an integer argument fits its kind)

theorem own : ownKnob Try.prog.godebug = none := by kernel_rfl

/-! ### STEP 1: the walk -/
open El (ns nc bt Name Upto)

theorem ans_is_yes {r : Ending} {p : Prop} (h : Ans r p) (hp : p) : r = .returned (.bool true) := by
  obtain ⟨b, rfl, hb⟩ := h
  rw [hb.2 hp]
theorem ans_is_no {r : Ending} {p : Prop} (h : Ans r p) (hp : ¬ p) : r = .returned (.bool false) := by
  obtain ⟨b, rfl, hb⟩ := h
  cases b
  · rfl
  · exact absurd (hb.1 rfl) hp

/-- the call answers true -/
theorem yes_any (s : ByteArray) (w : World) (hs : s.size ≤ 70000) (h : Hid (Name s)) :
    Calls Try.prog 21 #[.string s] w fun r w' => r = .returned (.bool true) ∧ w' = w :=
  (zzel_any s w hs).mono fun _ _ h2 => ⟨ans_is_yes h2.1 h.out, h2.2⟩
theorem no_any (s : ByteArray) (w : World) (hs : s.size ≤ 70000) (h : Hid (¬ Name s)) :
    Calls Try.prog 21 #[.string s] w fun r w' => r = .returned (.bool false) ∧ w' = w :=
  (zzel_any s w hs).mono fun _ _ h2 => ⟨ans_is_no h2.1 h.out, h2.2⟩

theorem bytes_any (s : ByteArray) (w : World) (hs : s.size ≤ 65536) :
    Calls Try.prog 20 #[.string s] w fun r w' => r = .returned (.bool true) ∧ w' = w := by
  go_enter Try.func20, Try.ntmps20
  go_wp2
  go_ret
  exact ⟨rfl, rfl⟩

set_option maxHeartbeats 2000000 in
set_option maxRecDepth 100000 in
theorem walk_name (s : ByteArray) (w : World) (hs : s.size ≤ 65536) (hn : Name s) :
    Calls Try.prog 5 #[.string s] w fun r w' => r = .returned (.bool true) ∧ Below w.heap.size w w' := by
  have h0b : 0 < s.size := hn.1
  have h0a := nonempty_of (show ¬ s.size = 0 by omega)
  have n1 : Hid (Name s) := hn
  have n2 : Hid (Name (s.extract 0 1)) := (El.one h0b).2 hn.2.1
  have z2 : (s.extract 0 1).size ≤ 70000 := by simp; omega
  clear hn
  go_enter Try.func5, Try.ntmps5
  go_wp2_with fail
  refine (bytes_any s _ hs).mono ?_
  rintro r w' ⟨rfl, rfl⟩
  go_wp2_with fail
  refine (yes_any s _ (by omega) n1).mono ?_
  rintro r w' ⟨rfl, rfl⟩
  go_wp2_with fail
  refine (yes_any (s.extract 0 1) _ z2 n2).mono ?_
  rintro r w' ⟨rfl, rfl⟩
  go_wp2_with fail
  go_loop [4, 5] (fun l t => l = .bool true ∧ ∃ k : Nat, 1 ≤ k ∧ k ≤ s.size ∧ t = .int .i64 k) (fun _ t => s.size - (intOf t).toNat)
  case atStart => exact ⟨rfl, 1, by omega, by omega, rfl⟩
  case round =>
    obtain ⟨rfl, k, hk1, hk, rfl⟩ := hrel
    by_cases hlt : k < s.size
    · have hlt' : decide ((k : Int) < s.size) = true := by simp; omega
      have q1 : (k : Int) + 1 ≤ s.size := by omega
      have n3 : Hid (Name (ByteArray.mk #[97] ++ s.extract k (k + 1))) := (El.two hlt).2 (El.name_at n1.out hlt)
      have z3 : (ByteArray.mk #[97] ++ s.extract k (k + 1)).size ≤ 70000 := by
        have h97 : (ByteArray.mk #[97]).size = 1 := rfl
        simp [h97]; omega
      have hsl : ∀ wx : World, (Instr.slice 9 (.string s) (some (.int .i64 (k : Int))) (some (.int .i64 ((k : Int) + 1))) none).run Try.prog wx = .ok (.string (s.extract k (k + 1))) wx := fun wx => by
        rw [run_slice_string (w := wx) 9 s .i64 .i64 (k : Int) ((k : Int) + 1) Try.underlying9 (by omega) (by omega) q1]
        congr
      go_wp2_with fail
      refine (yes_any _ _ z3 n3).mono ?_
      rintro r w' ⟨rfl, rfl⟩
      go_wp2
      go_round
      case rel => exact ⟨rfl, k + 1, by omega, by omega, by go_num⟩
      case measure => simp [intOf]; omega
    · have hlt' : decide ((k : Int) < s.size) = false := by simp; omega
      have nd : Hid (Name (s ++ ByteArray.mk #[45])) := El.grown_dash n1.out
      have ne : Hid (Name (s ++ ByteArray.mk #[57])) := El.grown_nine n1.out
      have nf : Hid (¬ Name (s ++ ByteArray.mk #[32])) := El.grown_space n1.out
      have zd : (s ++ ByteArray.mk #[45]).size ≤ 70000 := by
        have h1 : (ByteArray.mk #[45]).size = 1 := rfl
        simp [h1]; omega
      have ze : (s ++ ByteArray.mk #[57]).size ≤ 70000 := by
        have h1 : (ByteArray.mk #[57]).size = 1 := rfl
        simp [h1]; omega
      have zf : (s ++ ByteArray.mk #[32]).size ≤ 70000 := by
        have h1 : (ByteArray.mk #[32]).size = 1 := rfl
        simp [h1]; omega
      by_cases h2 : (2 : Int) ≤ s.size
      · have n4 : Hid (Name (s.extract 0 (s.size - 1))) := El.shorter n1.out (by omega)
        go_wp2_with fail
        refine (yes_any (s.extract 0 (s.size - 1)) _ (by simp; omega) n4).mono ?_
        rintro r w' ⟨rfl, rfl⟩
        go_wp2_with fail
        refine (yes_any (s ++ ByteArray.mk #[45]) _ zd nd).mono ?_
        rintro r w' ⟨rfl, rfl⟩
        go_wp2_with fail
        refine (yes_any (s ++ ByteArray.mk #[57]) _ ze ne).mono ?_
        rintro r w' ⟨rfl, rfl⟩
        go_wp2_with fail
        refine (no_any (s ++ ByteArray.mk #[32]) _ zf nf).mono ?_
        rintro r w' ⟨rfl, rfl⟩
        go_wp2_with fail
        refine (zzapp_any s true _ (by omega) n1.out).mono ?_
        rintro r w1 ⟨⟨v1, rfl, hv1⟩, hb1⟩
        go_wp2_with fail
        refine (same_any s v1 _ w1 (by omega) hv1).mono ?_
        rintro r w2 ⟨rfl, m1, rfl⟩
        have hb1' := below_drewN hb1 m1
        go_wp2_with fail
        refine (zzapp_any s false _ (by omega) n1.out).mono ?_
        rintro r w3 ⟨⟨v2, rfl, hv2⟩, hb2⟩
        go_wp2_with fail
        refine (same_any s v2 _ w3 (by omega) hv2).mono ?_
        rintro r w4 ⟨rfl, m2, rfl⟩
        have hb3 := hb1'.trans ((below_drewN hb2 m2).mono hb1'.size)
        clear hb1 hb1' hb2 hv1 hv2
        go_wp2_with fail
        go_ret
        exact ⟨rfl, hb3⟩
      · have h2' : decide ((2 : Int) ≤ s.size) = false := by simpa using h2
        go_wp2_with fail
        refine (yes_any (s ++ ByteArray.mk #[45]) _ zd nd).mono ?_
        rintro r w' ⟨rfl, rfl⟩
        go_wp2_with fail
        refine (yes_any (s ++ ByteArray.mk #[57]) _ ze ne).mono ?_
        rintro r w' ⟨rfl, rfl⟩
        go_wp2_with fail
        refine (no_any (s ++ ByteArray.mk #[32]) _ zf nf).mono ?_
        rintro r w' ⟨rfl, rfl⟩
        go_wp2_with fail
        refine (zzapp_any s true _ (by omega) n1.out).mono ?_
        rintro r w1 ⟨⟨v1, rfl, hv1⟩, hb1⟩
        go_wp2_with fail
        refine (same_any s v1 _ w1 (by omega) hv1).mono ?_
        rintro r w2 ⟨rfl, m1, rfl⟩
        have hb1' := below_drewN hb1 m1
        go_wp2_with fail
        refine (zzapp_any s false _ (by omega) n1.out).mono ?_
        rintro r w3 ⟨⟨v2, rfl, hv2⟩, hb2⟩
        go_wp2_with fail
        refine (same_any s v2 _ w3 (by omega) hv2).mono ?_
        rintro r w4 ⟨rfl, m2, rfl⟩
        have hb3 := hb1'.trans ((below_drewN hb2 m2).mono hb1'.size)
        clear hb1 hb1' hb2 hv1 hv2
        go_wp2_with fail
        go_ret
        exact ⟨rfl, hb3⟩

def Imp (b : Bool) (p : Prop) : Prop := b = true → p

set_option maxHeartbeats 2000000 in
set_option maxRecDepth 100000 in
theorem walk_other (s : ByteArray) (w : World) (hs : s.size ≤ 65536) (hn : ¬ Name s) :
    Calls Try.prog 5 #[.string s] w fun r w' => r = .returned (.bool true) ∧ Below w.heap.size w w' := by
  have n1 : Hid (¬ Name s) := hn
  have z2 : (s.extract 0 1).size ≤ 70000 := by simp; omega
  clear hn
  by_cases h0 : s.size = 0
  · have h0a := empty_of h0
    have h0c : s.size ≤ 0 := by omega
    clear h0
    go_enter Try.func5, Try.ntmps5
    go_wp2_with fail
    refine (bytes_any s _ hs).mono ?_
    rintro r w' ⟨rfl, rfl⟩
    go_wp2_with fail
    refine (no_any s _ (by omega) n1).mono ?_
    rintro r w' ⟨rfl, rfl⟩
    go_wp2_with fail
    go_loop [4, 5] (fun l t => l = .bool false ∧ t = .int .i64 1) (fun _ _ => 0)
    case atStart => exact ⟨rfl, rfl⟩
    case round =>
      obtain ⟨rfl, rfl⟩ := hrel
      go_wp2
      go_ret
      exact ⟨rfl, Below.refl _ _⟩
  · have h0a := nonempty_of h0
    have h0b : 0 < s.size := by omega
    by_cases h1 : ns (bt s 0) = true
    · have n2 : Hid (Name (s.extract 0 1)) := (El.one h0b).2 h1
      have hu0 : Imp true (Upto s 1) := fun _ => El.upto1 h0b h1
      clear h0 h1
      go_enter Try.func5, Try.ntmps5
      go_wp2_with fail
      refine (bytes_any s _ hs).mono ?_
      rintro r w' ⟨rfl, rfl⟩
      go_wp2_with fail
      refine (no_any s _ (by omega) n1).mono ?_
      rintro r w' ⟨rfl, rfl⟩
      go_wp2_with fail
      refine (yes_any (s.extract 0 1) _ z2 n2).mono ?_
      rintro r w' ⟨rfl, rfl⟩
      go_wp2_with fail
      go_loop [4, 5] (fun l t => ∃ (b : Bool) (k : Nat), l = .bool b ∧ t = .int .i64 k ∧ 1 ≤ k ∧ k ≤ s.size + 1 ∧ Imp b (Upto s k)) (fun _ t => s.size + 1 - (intOf t).toNat)
      case atStart => exact ⟨true, 1, rfl, rfl, by omega, by omega, hu0⟩
      case round =>
        obtain ⟨b, k, rfl, rfl, hk1, hk, hu⟩ := hrel
        cases b with
        | false =>
          go_wp2
          go_ret
          exact ⟨rfl, Below.refl _ _⟩
        | true =>
          by_cases hlt : k < s.size
          · have hlt' : decide ((k : Int) < s.size) = true := by simp; omega
            have q1 : (k : Int) + 1 ≤ s.size := by omega
            have z3 : (ByteArray.mk #[97] ++ s.extract k (k + 1)).size ≤ 70000 := by
              have h97 : (ByteArray.mk #[97]).size = 1 := rfl
              simp [h97]; omega
            have hsl : ∀ wx : World, (Instr.slice 9 (.string s) (some (.int .i64 (k : Int))) (some (.int .i64 ((k : Int) + 1))) none).run Try.prog wx = .ok (.string (s.extract k (k + 1))) wx := fun wx => by
              rw [run_slice_string (w := wx) 9 s .i64 .i64 (k : Int) ((k : Int) + 1) Try.underlying9 (by omega) (by omega) q1]
              congr
            by_cases hc : nc (bt s k) = true
            · have n3 : Hid (Name (ByteArray.mk #[97] ++ s.extract k (k + 1))) := (El.two hlt).2 hc
              have hu' : Imp true (Upto s (k + 1)) := fun _ => El.upto_step (hu rfl) hc
              clear hc
              go_wp2_with fail
              refine (yes_any _ _ z3 n3).mono ?_
              rintro r w' ⟨rfl, rfl⟩
              go_wp2
              go_round
              case rel => exact ⟨true, k + 1, rfl, by go_num, by omega, by omega, hu'⟩
              case measure => simp [intOf]; omega
            · have n3 : Hid (¬ Name (ByteArray.mk #[97] ++ s.extract k (k + 1))) := fun h => hc ((El.two hlt).1 h)
              have hu' : Imp false (Upto s (k + 1)) := fun h => by cases h
              clear hc
              go_wp2_with fail
              refine (no_any _ _ z3 n3).mono ?_
              rintro r w' ⟨rfl, rfl⟩
              go_wp2
              go_round
              case rel => exact ⟨false, k + 1, rfl, by go_num, by omega, by omega, hu'⟩
              case measure => simp [intOf]; omega
          · exact absurd (El.upto_end (hu rfl) (by omega)) n1.out
    · have n2 : Hid (¬ Name (s.extract 0 1)) := fun h => h1 ((El.one h0b).1 h)
      clear h0 h1
      go_enter Try.func5, Try.ntmps5
      go_wp2_with fail
      refine (bytes_any s _ hs).mono ?_
      rintro r w' ⟨rfl, rfl⟩
      go_wp2_with fail
      refine (no_any s _ (by omega) n1).mono ?_
      rintro r w' ⟨rfl, rfl⟩
      go_wp2_with fail
      refine (no_any (s.extract 0 1) _ z2 n2).mono ?_
      rintro r w' ⟨rfl, rfl⟩
      go_wp2_with fail
      go_loop [4, 5] (fun l t => l = .bool false ∧ t = .int .i64 1) (fun _ _ => 0)
      case atStart => exact ⟨rfl, rfl⟩
      case round =>
        obtain ⟨rfl, rfl⟩ := hrel
        go_wp2
        go_ret
        exact ⟨rfl, Below.refl _ _⟩

theorem walk (a0 : ByteArray) (w0 : a0.size ≤ maxLen) (w : World) :
    Calls Try.prog 5 #[.string a0] w fun e w' => e = .returned (.bool true) ∧ Below w.heap.size w w' := by
  unfold maxLen at w0
  by_cases h1 : (a0.size : Int) ≤ 1048576
  · by_cases h2 : (a0.size : Int) ≤ 65536
    · by_cases hn : Name a0
      · exact walk_name a0 w (by omega) hn
      · exact walk_other a0 w (by omega) hn
    · go_enter Try.func5, Try.ntmps5
      go_wp2
      go_ret
      exact ⟨rfl, Below.refl _ _⟩
  · go_enter Try.func5, Try.ntmps5
    go_wp2
    go_ret
    exact ⟨rfl, Below.refl _ _⟩

/-! ### THE ROW's STEP: WRITTEN OUT: LEAVE IT -/
set_option maxRecDepth 100000 in
theorem lifted (os : Os) (started : os.Started) (H : Type) (enc : TypeId × Value → H) :
    ReturnsInHanded {} Try.checked os 5 .any (Rows.fnElementNameIsLocalAndWrittenBareSpec.pre6 enc Try.prog Try.f5 Rows.fnElementNameIsLocalAndWrittenBareRow.domain false) (Rows.fnElementNameIsLocalAndWrittenBareSpec.post enc Try.prog Try.f5 false true false false) := by
  refine returnsInHanded_of_change (C := Try.checked) own started (by kernel_rfl) Try.func5
    (ChangeSpec.witness6 (enc := enc) (C := Try.checked) false ⟨#[], #[.string ByteArray.empty], []⟩ 8 (by kernel_rfl) (by kernel_rfl) (by kernel_rfl) (by kernel_rfl)) ?_
  intro W base args ds gs before hval0 hW hcnd _
  have hval : ∀ (j : Nat) t v, Try.f5.params[j]? = some t → args[j]? = some v → Value.okWide Try.prog W .any base t v := hval0
  have hW' := hW
  obtain ⟨p, q, hA0, hV, rfl, hfz, hnd⟩ := hW
  have hA : DataW.TrodAll enc Try.prog W 0 (fun _ => true) true Try.f5.params.toList args.toList ds p := hA0
  rw [Try.params5] at hA hval
  obtain ⟨v0, vs0, d0, ds0, p0, q0, hargs, rfl, rfl, h0, r0⟩ := trodAll_cons hA
  obtain ⟨rfl, rfl, rfl⟩ := trodAll_nil r0
  obtain rfl : args = #[v0] := by cases args; simp_all
  obtain ⟨rfl, rfl⟩ := trodVars_none hV
  obtain ⟨a0, rfl, rfl, rfl, w0⟩ := open_string Try.underlying9 (hval 0 9 v0 rfl rfl) h0
  clear hA0 hval0
  simp only [List.append_nil] at hW'
  refine (walk a0 w0 W).mono fun e W' ⟨he, hg⟩ => ?_
  subst he
  exact ⟨_, rfl, _, _, _, [], [], [], hW', trodAll_mk1 (shut_bool Try.underlying4 _), (trodAll_cons_mk (shut_string Try.underlying9 w0) trodAll_mk0), rfl, hg.frame _, fun h => by cases h⟩

theorem over : Rows.fnElementNameIsLocalAndWrittenBareRow.holds Try.pinned (OpenSpec.ofChange Rows.fnElementNameIsLocalAndWrittenBareSpec) :=
  OpenClaim.holds_of_wide 5 Try.f5 rfl rfl rfl rfl rfl rfl rfl ⟨rfl, rfl, rfl, rfl, rfl⟩ rfl rfl rfl rfl rfl (by kernel_rfl) Try.func5 (by kernel_rfl)
    (of_decide_eq_true (by kernel_rfl)) (by unfold Func.isWrapper; first | (rw [if_pos (by decide +kernel)]; kernel_rfl) | (rw [if_neg (by decide +kernel)]; exact ⟨rfl, rfl⟩))
    (fun os started H enc _ => lifted os started H enc)

/-- ████ THE STATEMENT ████ -/
theorem proved : Rows.FnElementNameIsLocalAndWrittenBareSaid :=
  over
end Go.Proofs.Qxb6003380a.fnElementNameIsLocalAndWrittenBare
