/- The proof of the statement named at the end; the frame is the kit's shell, the walk is typed by hand. -/
import Derived.Test.Qxb6003380aRows
import Derived.WalkKit
import Derived.ProofKit
import Derived.OpenShut
import Derived.ShutString
import Derived.WalkLawsBesides
import Derived.Test.Qxb6003380aContPlain
namespace Go.Proofs.Qxb6003380a.fnContinuationIsMaximalAndLocal
open Go.ChangeShapes Go.WideShapes Go.ChangeAt Go.RowKit
open Go.ChangeMaps (open_string shut_string)
set_option linter.unusedVariables false      -- a walk need not use every 'w<i>' (that an integer argument fits its kind)

theorem own : ownKnob Try.prog.godebug = none := by kernel_rfl

/-! ### STEP 1: the walk -/
set_option maxHeartbeats 1000000 in
theorem cont_any (s : ByteArray) (i e : Nat) (w : World) (hs : s.size ≤ 65536) (hi : i ≤ 65536) (he : e ≤ s.size) :
    Calls Try.prog 40 #[.string s, .int .i64 i, .int .i64 e] w fun r w' => (∃ v : Nat, r = .returned (.int .i64 v) ∧ Cont.Is s i e v) ∧ w' = w := by
  by_cases c1 : i + 1 < e
  · have hi1 : i < s.size := by omega
    have hi2 : i + 1 < s.size := by omega
    have c1a : (i : Int) + 1 < e := by omega
    have c1b : (i : Int) + 1 < s.size := by omega
    have c1c : decide ((e : Int) ≤ (i : Int) + 1) = false := by simp; omega
    by_cases c2 : (s[i].toNat : Int) = 92
    · have c2a : ((s[i].toNat : Int) != 92) = false := by simpa using c2
      by_cases c3 : (s[i + 1].toNat : Int) = 10
      · have ho : Cont.Opens s i e := Cont.yes hi2 c1 c2 c3
        have c3a : ((s[i + 1].toNat : Int) != 10) = false := by simpa using c3
        clear c2 c3
        go_enter Try.func40, Try.ntmps40
        go_wp2
        go_loop [1] (fun t => ∃ k : Nat, k ≤ e ∧ t = .int .i64 k ∧ Cont.Gone s i k) (fun t => e - (intOf t).toNat)
        case atStart => exact ⟨i + 2, by omega, by go_num, Cont.gone0 s i⟩
        case round =>
          obtain ⟨k, hk, rfl, hg⟩ := hrel
          by_cases hlt : k < e
          · have hks : k < s.size := by omega
            by_cases d1 : (s[k].toNat : Int) = 32
            · have d1a : ((s[k].toNat : Int) == 32) = true := by simpa using d1
              have hg' := Cont.gone_step hks hg (.inl d1)
              clear d1
              go_wp2
              go_round
              case rel => exact ⟨k + 1, by omega, by go_num, hg'⟩
              case measure => simp [intOf]; omega
            · have d1a : ((s[k].toNat : Int) == 32) = false := by simpa using d1
              by_cases d2 : (s[k].toNat : Int) = 9
              · have d2a : ((s[k].toNat : Int) == 9) = true := by simpa using d2
                have hg' := Cont.gone_step hks hg (.inr d2)
                clear d1 d2
                go_wp2
                go_round
                case rel => exact ⟨k + 1, by omega, by go_num, hg'⟩
                case measure => simp [intOf]; omega
              · have d2a : ((s[k].toNat : Int) == 9) = false := by simpa using d2
                have hI := Cont.gone_stop hks hk ho hg d1 d2
                clear d1 d2
                go_wp2
                go_ret
                exact ⟨⟨k, rfl, hI⟩, rfl⟩
          · have hI := Cont.gone_end hk hlt ho hg
            go_wp2
            go_ret
            exact ⟨⟨k, rfl, hI⟩, rfl⟩
      · have ho : ¬ Cont.Opens s i e := Cont.not3 hi2 c3
        have c3a : ((s[i + 1].toNat : Int) != 10) = true := by simpa using c3
        clear c2 c3
        go_enter Try.func40, Try.ntmps40
        go_wp2
        go_ret
        exact ⟨⟨i, rfl, .inl ⟨ho, rfl⟩⟩, rfl⟩
    · have ho : ¬ Cont.Opens s i e := Cont.not2 hi1 c2
      have c2a : ((s[i].toNat : Int) != 92) = true := by simpa using c2
      clear c2
      go_enter Try.func40, Try.ntmps40
      go_wp2
      go_ret
      exact ⟨⟨i, rfl, .inl ⟨ho, rfl⟩⟩, rfl⟩
  · have ho : ¬ Cont.Opens s i e := Cont.not1 c1
    go_enter Try.func40, Try.ntmps40
    go_wp2
    go_ret
    exact ⟨⟨i, rfl, .inl ⟨ho, rfl⟩⟩, rfl⟩

theorem zz_any (s : ByteArray) (i e : Nat) (w : World) (hs : s.size ≤ 65536) (hi : i ≤ 65536) (he : e ≤ s.size) :
    Calls Try.prog 26 #[.string s, .int .i64 i, .int .i64 e] w fun r w' => (∃ v : Nat, r = .returned (.int .i64 v) ∧ Cont.Is s i e v) ∧ w' = w := by
  go_enter Try.func26, Try.ntmps26
  go_wp2_with (go_at_call 40; refine (cont_any _ _ _ _ hs hi he).mono ?_; rintro e w' ⟨⟨v, rfl, hv⟩, rfl⟩)
  go_ret
  exact ⟨⟨_, rfl, hv⟩, rfl⟩

theorem bytes_any (s : ByteArray) (i e : Int) (w : World) (hs : s.size ≤ 65536) :
    Calls Try.prog 25 #[.string s, .int .i64 i, .int .i64 e] w fun r w' => r = .returned (.bool true) ∧ w' = w := by
  go_enter Try.func25, Try.ntmps25
  go_wp2
  go_ret
  exact ⟨rfl, rfl⟩

set_option maxHeartbeats 2000000 in
theorem inner (s : ByteArray) (i e : Nat) (w : World) (hs : s.size ≤ 65536) (hi : i ≤ s.size) (he : e ≤ s.size) :
    Calls Try.prog 7 #[.string s, .int .i64 i, .int .i64 e] w fun r w' => r = .returned (.bool true) ∧ Grown w w' := by
  have hz1 : (s.extract 0 e).size ≤ 65536 := by simp; omega
  have hz2 : e ≤ (s.extract 0 e).size := by simp; omega
  have b1 : decide ((i : Int) < 0) = false := by simp
  have b2 : decide ((e : Int) < 0) = false := by simp
  have b3 : decide ((s.size : Int) < e) = false := by simp; omega
  have b4 : decide ((s.size : Int) < i) = false := by simp; omega
  go_enter Try.func7, Try.ntmps7
  go_wp2_with (go_at_call 25; refine (bytes_any _ _ _ _ hs).mono ?_; rintro r w' ⟨rfl, rfl⟩)
  refine (zz_any s i e _ hs (by omega) he).mono ?_
  rintro r w' ⟨⟨v, rfl, hv⟩, rfl⟩
  go_wp2_with fail
  refine (zz_any (s.extract 0 e) i e _ hz1 (by omega) hz2).mono ?_
  rintro r w' ⟨⟨v2, rfl, hv2⟩, rfl⟩
  have hvv : v2 = v := (hv2.cut he).unique hv
  clear hv2
  rw [hvv]
  clear hvv
  by_cases c1 : i + 1 < e
  · have hi1 : i < s.size := by omega
    have hi2 : i + 1 < s.size := by omega
    have c1c : decide ((i : Int) + 1 < (e : Int)) = true := by simp; omega
    have c1b : (i : Int) + 1 < s.size := by omega
    by_cases c2 : (s[i].toNat : Int) = 92
    · have c2a : ((s[i].toNat : Int) == 92) = true := by simpa using c2
      by_cases c3 : (s[i + 1].toNat : Int) = 10
      · have ho : Cont.Opens s i e := Cont.yes hi2 c1 c2 c3
        have c3a : ((s[i + 1].toNat : Int) == 10) = true := by simpa using c3
        clear c2 c3
        obtain ⟨p1, p2, p3, p4⟩ := Cont.is_yes hv ho
        have q1 : decide ((v : Int) < (i : Int) + 2) = false := by simp; omega
        have q2 : decide ((e : Int) < (v : Int)) = false := by simp; omega
        go_wp2
        go_loop [9] (fun t => ∃ k : Nat, i + 2 ≤ k ∧ k ≤ v ∧ t = .int .i64 k) (fun t => v - (intOf t).toNat)
        case atStart => exact ⟨i + 2, by omega, by omega, by go_num⟩
        case round =>
          obtain ⟨k, hk1, hk, rfl⟩ := hrel
          by_cases hlt : k < v
          · have hks : k < s.size := by omega
            have hsp := Cont.sp_at hks (p3 k hk1 hlt)
            by_cases d1 : (s[k].toNat : Int) = 32
            · have d1a : ((s[k].toNat : Int) == 32) = true := by simpa using d1
              clear d1 hsp
              go_wp2
              go_round
              case rel => exact ⟨k + 1, by omega, by omega, by go_num⟩
              case measure => simp [intOf]; omega
            · have d1a : ((s[k].toNat : Int) == 32) = false := by simpa using d1
              have d2a : ((s[k].toNat : Int) == 9) = true := by simp; omega
              clear d1 hsp
              go_wp2
              go_round
              case rel => exact ⟨k + 1, by omega, by omega, by go_num⟩
              case measure => simp [intOf]; omega
          · by_cases hve : v = e
            · have d0 : ((v : Int) == (e : Int)) = true := by simp; omega
              clear hve
              go_wp2
              go_ret
              exact ⟨rfl, Grown.refl _⟩
            · have d0 : ((v : Int) == (e : Int)) = false := by simp; omega
              have hvs : v < s.size := by omega
              have hn := Cont.nsp_at hvs (p4.resolve_left hve)
              have d1a : ((s[v].toNat : Int) == 32) = false := by simp; omega
              have d2a : ((s[v].toNat : Int) == 9) = false := by simp; omega
              clear hve hn p4
              go_wp2
              go_ret
              exact ⟨rfl, Grown.refl _⟩
      · have ho : ¬ Cont.Opens s i e := Cont.not3 hi2 c3
        have c3a : ((s[i + 1].toNat : Int) == 10) = false := by simpa using c3
        clear c2 c3
        rw [Cont.is_not hv ho]
        go_wp2
        go_ret
        exact ⟨rfl, Grown.refl _⟩
    · have ho : ¬ Cont.Opens s i e := Cont.not2 hi1 c2
      have c2a : ((s[i].toNat : Int) == 92) = false := by simpa using c2
      clear c2
      rw [Cont.is_not hv ho]
      go_wp2
      go_ret
      exact ⟨rfl, Grown.refl _⟩
  · have ho : ¬ Cont.Opens s i e := Cont.not1 c1
    have c1c : decide ((i : Int) + 1 < (e : Int)) = false := by simp; omega
    rw [Cont.is_not hv ho]
    go_wp2
    go_ret
    exact ⟨rfl, Grown.refl _⟩

set_option maxHeartbeats 2000000 in
theorem walk (a0 : ByteArray) (a1 : Int) (a2 : Int) (w0 : a0.size ≤ maxLen) (w1 : (Lit.int .i64 a1).wf = true) (w2 : (Lit.int .i64 a2).wf = true) (w : World) :
    Calls Try.prog 7 #[.string a0, .int .i64 a1, .int .i64 a2] w fun e w' => e = .returned (.bool true) ∧ Grown w w' := by
  unfold maxLen at w0
  by_cases h1 : (a0.size : Int) ≤ 1048576
  · by_cases h2 : (a0.size : Int) ≤ 65536
    · by_cases c1 : a1 < 0
      · have b1 : decide (a1 < 0) = true := by simpa using c1
        go_enter Try.func7, Try.ntmps7
        go_wp2
        go_ret
        exact ⟨rfl, Grown.refl _⟩
      · have b1 : decide (a1 < 0) = false := by simpa using c1
        by_cases c2 : a2 < 0
        · have b2 : decide (a2 < 0) = true := by simpa using c2
          go_enter Try.func7, Try.ntmps7
          go_wp2
          go_ret
          exact ⟨rfl, Grown.refl _⟩
        · have b2 : decide (a2 < 0) = false := by simpa using c2
          by_cases c3 : (a0.size : Int) < a2
          · have b3 : decide ((a0.size : Int) < a2) = true := by simpa using c3
            go_enter Try.func7, Try.ntmps7
            go_wp2
            go_ret
            exact ⟨rfl, Grown.refl _⟩
          · have b3 : decide ((a0.size : Int) < a2) = false := by simpa using c3
            by_cases c4 : (a0.size : Int) < a1
            · have b4 : decide ((a0.size : Int) < a1) = true := by simpa using c4
              go_enter Try.func7, Try.ntmps7
              go_wp2
              go_ret
              exact ⟨rfl, Grown.refl _⟩
            · obtain ⟨i, rfl⟩ := Int.eq_ofNat_of_zero_le (show 0 ≤ a1 by omega)
              obtain ⟨e, rfl⟩ := Int.eq_ofNat_of_zero_le (show 0 ≤ a2 by omega)
              exact inner a0 i e w (by omega) (by omega) (by omega)
    · go_enter Try.func7, Try.ntmps7
      go_wp2
      go_ret
      exact ⟨rfl, Grown.refl _⟩
  · go_enter Try.func7, Try.ntmps7
    go_wp2
    go_ret
    exact ⟨rfl, Grown.refl _⟩

/-! ### THE ROW's STEP: WRITTEN OUT: LEAVE IT -/
set_option maxRecDepth 100000 in
theorem lifted (os : Os) (started : os.Started) (H : Type) (enc : TypeId × Value → H) :
    ReturnsInHanded {} Try.checked os 7 .any (Rows.fnContinuationIsMaximalAndLocalSpec.pre6 enc Try.prog Try.f7 Rows.fnContinuationIsMaximalAndLocalRow.domain false) (Rows.fnContinuationIsMaximalAndLocalSpec.post enc Try.prog Try.f7 false true false false) := by
  refine returnsInHanded_of_change (C := Try.checked) own started (by kernel_rfl) Try.func7
    (ChangeSpec.witness6 (enc := enc) (C := Try.checked) false ⟨#[], #[.string ByteArray.empty, .int .i64 0, .int .i64 0], []⟩ 8 (by kernel_rfl) (by kernel_rfl) (by kernel_rfl) (by kernel_rfl)) ?_
  intro W base args ds gs before hval0 hW hcnd _
  have hval : ∀ (j : Nat) t v, Try.f7.params[j]? = some t → args[j]? = some v → Value.okWide Try.prog W .any base t v := hval0
  have hW' := hW
  obtain ⟨p, q, hA0, hV, rfl, hfz, hnd⟩ := hW
  have hA : DataW.TrodAll enc Try.prog W 0 (fun _ => true) true Try.f7.params.toList args.toList ds p := hA0
  rw [Try.params7] at hA hval
  obtain ⟨v0, vs0, d0, ds0, p0, q0, hargs, rfl, rfl, h0, r0⟩ := trodAll_cons hA
  obtain ⟨v1, vs1, d1, ds1, p1, q1, rfl, rfl, rfl, h1, r1⟩ := trodAll_cons r0
  obtain ⟨v2, vs2, d2, ds2, p2, q2, rfl, rfl, rfl, h2, r2⟩ := trodAll_cons r1
  obtain ⟨rfl, rfl, rfl⟩ := trodAll_nil r2
  obtain rfl : args = #[v0, v1, v2] := by cases args; simp_all
  obtain ⟨rfl, rfl⟩ := trodVars_none hV
  obtain ⟨a0, rfl, rfl, rfl, w0⟩ := open_string Try.underlying9 (hval 0 9 v0 rfl rfl) h0
  obtain ⟨a1, rfl, rfl, rfl, w1⟩ := open_int Try.underlying3 (hval 1 3 v1 rfl rfl) h1
  obtain ⟨a2, rfl, rfl, rfl, w2⟩ := open_int Try.underlying3 (hval 2 3 v2 rfl rfl) h2
  clear hA0 hval0
  simp only [List.append_nil] at hW'
  refine (walk a0 a1 a2 w0 w1 w2 W).mono fun e W' ⟨he, hg⟩ => ?_
  subst he
  exact ⟨_, rfl, post_of_same (pa := []) (pv := []) hW' (fun _ _ _ => (trodAll_cons_mk (shut_bool Try.underlying4 _) trodAll_mk0)) (fun sp _ => (trodAll_cons_mk (shut_string Try.underlying9 w0) (trodAll_cons_mk (shut_int Try.underlying3 w1) (trodAll_cons_mk (shut_int Try.underlying3 w2) trodAll_mk0)))) (fun _ _ => rfl) rfl
    (hg.frame _) hg.2.1 (ok_one (by kernel_rfl) rfl (okWide_bool_mk Try.underlying4 _))⟩

theorem over : Rows.fnContinuationIsMaximalAndLocalRow.holds Try.pinned (OpenSpec.ofChange Rows.fnContinuationIsMaximalAndLocalSpec) :=
  OpenClaim.holds_of_wide 7 Try.f7 rfl rfl rfl rfl rfl rfl rfl ⟨rfl, rfl, rfl, rfl, rfl⟩ rfl rfl rfl rfl rfl (by kernel_rfl) Try.func7 (by kernel_rfl)
    (of_decide_eq_true (by kernel_rfl)) (by unfold Func.isWrapper; first | (rw [if_pos (by decide +kernel)]; kernel_rfl) | (rw [if_neg (by decide +kernel)]; exact ⟨rfl, rfl⟩))
    (fun os started H enc _ => lifted os started H enc)

/-- ████ THE STATEMENT ████ -/
theorem proved : Rows.FnContinuationIsMaximalAndLocalSaid :=
  over
end Go.Proofs.Qxb6003380a.fnContinuationIsMaximalAndLocal
