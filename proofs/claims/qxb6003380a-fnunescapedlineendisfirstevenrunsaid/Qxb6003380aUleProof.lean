/- The proof of the statement named at the end; the frame is the kit's shell, the walk is typed by hand. -/
import Derived.Test.Qxb6003380aRows
import Derived.WalkKit
import Derived.ProofKit
import Derived.OpenShut
import Derived.ShutString
import Derived.WalkLawsBesides
import Derived.Test.Qxb6003380aUlePlain
namespace Go.Proofs.Qxb6003380a.fnUnescapedLineEndIsFirstEvenRun
open Go.ChangeShapes Go.WideShapes Go.ChangeAt Go.RowKit
open Go.ChangeMaps (open_string shut_string)
set_option linter.unusedVariables false      -- a walk need not use every 'w<i>' (that an integer argument fits its kind)

theorem own : ownKnob Try.prog.godebug = none := by kernel_rfl

/-! ### STEP 1: the walk -/
set_option maxHeartbeats 400000 in
theorem ule_any (s : ByteArray) (w : World) (hs : s.size ≤ 65536) :
    Calls Try.prog 39 #[.string s] w fun e w' => (∃ v : Int, e = .returned (.int .i64 v) ∧ Ule.Is s v) ∧ w' = w := by
  go_enter Try.func39, Try.ntmps39
  go_wp2
  go_loop [3] (fun i => ∃ k : Nat, k ≤ s.size + 1 ∧ i = .int .i64 k ∧ Ule.Scan s k) (fun i => s.size + 1 - (intOf i).toNat)
  case atStart => exact ⟨0, Nat.zero_le _, rfl, Ule.scan0 s⟩
  case round =>
    obtain ⟨k, hk, rfl, hsc⟩ := hrel
    by_cases hlt : k < s.size
    · go_wp2
      · go_round
        case rel => exact ⟨k + 1 + 1, by omega, by go_num, Ule.scan_bs hlt hsc ‹_›⟩
        case measure => simp [intOf]; omega
      · go_ret
        exact ⟨⟨_, rfl, Ule.scan_hit hlt hsc ‹_›⟩, rfl⟩
      · go_round
        case rel => exact ⟨k + 1, by omega, by go_num, Ule.scan_other hlt hsc ‹_› ‹_›⟩
        case measure => simp [intOf]; omega
    · go_wp2
      go_ret
      exact ⟨⟨_, rfl, Ule.scan_end hlt hsc⟩, rfl⟩

theorem zz_any (s : ByteArray) (w : World) (hs : s.size ≤ 65536) :
    Calls Try.prog 24 #[.string s] w fun e w' => (∃ v : Int, e = .returned (.int .i64 v) ∧ Ule.Is s v) ∧ w' = w := by
  go_enter Try.func24, Try.ntmps24
  go_wp2_with (go_at_call 39; refine (ule_any _ _ hs).mono ?_; rintro e w' ⟨⟨v, rfl, hv⟩, rfl⟩)
  go_ret
  exact ⟨⟨_, rfl, hv⟩, rfl⟩
 
set_option maxHeartbeats 1000000 in
theorem walk (a0 : ByteArray) (w0 : a0.size ≤ maxLen) (w : World) :
    Calls Try.prog 6 #[.string a0] w fun e w' => e = .returned (.bool true) ∧ Grown w w' := by
  unfold maxLen at w0
  by_cases h1 : (a0.size : Int) ≤ 1048576
  · by_cases h2 : (a0.size : Int) ≤ 65536
    · have h2' : a0.size ≤ 65536 := by omega
      go_enter Try.func6, Try.ntmps6
      go_wp2
      go_loop [3, 4] (fun q i => ∃ k : Nat, k ≤ a0.size ∧ i = .int .i64 k ∧ q = .int .i64 (-1) ∧ Ule.Below a0 k) (fun _ i => a0.size - (intOf i).toNat)
      case atStart => exact ⟨0, Nat.zero_le _, rfl, rfl, Ule.below0 _⟩
      case round =>
        obtain ⟨k, hk, rfl, rfl, hb⟩ := hrel
        by_cases hlt : k < a0.size
        · go_wp2
          · go_round
            case rel => exact ⟨k + 1, by omega, by go_num, rfl, Ule.below_skip hlt hb ‹_›⟩
            case measure => simp [intOf]; omega
          · have hnl : ((a0[k].toNat : Int) != 10) = false := by assumption
            go_loop [5, 6] (fun r i => ∃ n : Nat, n ≤ k ∧ r = .int .i64 n ∧ i = .int .i64 (k - 1 - n) ∧ Ule.run a0 k = n + Ule.run a0 (k - n)) (fun r _ => k - (intOf r).toNat)
            case atStart => exact ⟨0, Nat.zero_le _, rfl, by simp, by simp⟩
            case round =>
              obtain ⟨n, hn, rfl, rfl, hrun⟩ := hrel
              have HR : Hid (Ule.run a0 k = n + Ule.run a0 (k - n)) := hrun
              clear hrun
              by_cases hnk : n < k
              · have hm : k - 1 - n < a0.size := by omega
                by_cases hbs : ((a0[k - 1 - n].toNat : Int) == 92) = true
                · go_wp2
                  go_round
                  case rel => exact ⟨n + 1, by omega, by go_num, by go_num, Ule.back_step hm hnk (by omega) HR.out hbs⟩
                  case measure => simp [intOf]; omega
                · have hbs' : ((a0[k - 1 - n].toNat : Int) == 92) = false := by simpa using hbs
                  clear hbs
                  have HE : Hid (Ule.run a0 k = n) := Ule.back_stop hm (by omega) HR.out hbs'
                  clear HR
                  by_cases he : ((n : Int) % 2 == 0) = true
                  · have hI := Ule.below_hit hlt hb hnl HE.out he
                    go_wp2_with (go_at_call 24; refine (zz_any _ _ h2').mono ?_; rintro e w' ⟨⟨v, rfl, hv⟩, rfl⟩; obtain rfl := hv.unique hI)
                    go_ret
                    exact ⟨rfl, Grown.refl _⟩
                  · have he' : ((n : Int) % 2 == 0) = false := by simpa using he
                    clear he
                    have hB := Ule.below_odd hb HE.out he'
                    go_wp2
                    go_round
                    case rel => exact ⟨trivial, by (repeat apply Exists.intro); exact ⟨⟨k + 1, by omega, by go_num, rfl, hB⟩, rfl⟩⟩
                    case measure => simp [intOf]; omega
              · have HE : Hid (Ule.run a0 k = n) := Ule.back_end hn HR.out hnk
                clear HR
                by_cases he : ((n : Int) % 2 == 0) = true
                · have hI := Ule.below_hit hlt hb hnl HE.out he
                  go_wp2_with (go_at_call 24; refine (zz_any _ _ h2').mono ?_; rintro e w' ⟨⟨v, rfl, hv⟩, rfl⟩; obtain rfl := hv.unique hI)
                  go_ret
                  exact ⟨rfl, Grown.refl _⟩
                · have he' : ((n : Int) % 2 == 0) = false := by simpa using he
                  clear he
                  have hB := Ule.below_odd hb HE.out he'
                  go_wp2
                  go_round
                  case rel => exact ⟨k + 1, by omega, by omega, hB⟩
                  case measure => simp [intOf]; omega
        · have hI := Ule.below_end hlt hb
          go_wp2_with (go_at_call 24; refine (zz_any _ _ h2').mono ?_; rintro e w' ⟨⟨v, rfl, hv⟩, rfl⟩; obtain rfl := hv.unique hI)
          go_ret
          exact ⟨rfl, Grown.refl _⟩
    · go_enter Try.func6, Try.ntmps6
      go_wp2
      go_ret
      exact ⟨rfl, Grown.refl _⟩
  · go_enter Try.func6, Try.ntmps6
    go_wp2
    go_ret
    exact ⟨rfl, Grown.refl _⟩

/-! ### THE ROW's STEP: WRITTEN OUT: LEAVE IT -/
set_option maxRecDepth 100000 in
theorem lifted (os : Os) (started : os.Started) (H : Type) (enc : TypeId × Value → H) :
    ReturnsInHanded {} Try.checked os 6 .any (Rows.fnUnescapedLineEndIsFirstEvenRunSpec.pre6 enc Try.prog Try.f6 Rows.fnUnescapedLineEndIsFirstEvenRunRow.domain false) (Rows.fnUnescapedLineEndIsFirstEvenRunSpec.post enc Try.prog Try.f6 false true false false) := by
  refine returnsInHanded_of_change (C := Try.checked) own started (by kernel_rfl) Try.func6
    (ChangeSpec.witness6 (enc := enc) (C := Try.checked) false ⟨#[], #[.string ByteArray.empty], []⟩ 8 (by kernel_rfl) (by kernel_rfl) (by kernel_rfl) (by kernel_rfl)) ?_
  intro W base args ds gs before hval0 hW hcnd _
  have hval : ∀ (j : Nat) t v, Try.f6.params[j]? = some t → args[j]? = some v → Value.okWide Try.prog W .any base t v := hval0
  have hW' := hW
  obtain ⟨p, q, hA0, hV, rfl, hfz, hnd⟩ := hW
  have hA : DataW.TrodAll enc Try.prog W 0 (fun _ => true) true Try.f6.params.toList args.toList ds p := hA0
  rw [Try.params6] at hA hval
  obtain ⟨v0, vs0, d0, ds0, p0, q0, hargs, rfl, rfl, h0, r0⟩ := trodAll_cons hA
  obtain ⟨rfl, rfl, rfl⟩ := trodAll_nil r0
  obtain rfl : args = #[v0] := by cases args; simp_all
  obtain ⟨rfl, rfl⟩ := trodVars_none hV
  obtain ⟨a0, rfl, rfl, rfl, w0⟩ := open_string Try.underlying9 (hval 0 9 v0 rfl rfl) h0
  clear hA0 hval0
  simp only [List.append_nil] at hW'
  refine (walk a0 w0 W).mono fun e W' ⟨he, hg⟩ => ?_
  subst he
  exact ⟨_, rfl, post_of_same (pa := []) (pv := []) hW' (fun _ _ _ => (trodAll_cons_mk (shut_bool Try.underlying4 _) trodAll_mk0)) (fun sp _ => (trodAll_cons_mk (shut_string Try.underlying9 w0) trodAll_mk0)) (fun _ _ => rfl) rfl
    (hg.frame _) hg.2.1 (ok_one (by kernel_rfl) rfl (okWide_bool_mk Try.underlying4 _))⟩

theorem over : Rows.fnUnescapedLineEndIsFirstEvenRunRow.holds Try.pinned (OpenSpec.ofChange Rows.fnUnescapedLineEndIsFirstEvenRunSpec) :=
  OpenClaim.holds_of_wide 6 Try.f6 rfl rfl rfl rfl rfl rfl rfl ⟨rfl, rfl, rfl, rfl, rfl⟩ rfl rfl rfl rfl rfl (by kernel_rfl) Try.func6 (by kernel_rfl)
    (of_decide_eq_true (by kernel_rfl)) (by unfold Func.isWrapper; first | (rw [if_pos (by decide +kernel)]; kernel_rfl) | (rw [if_neg (by decide +kernel)]; exact ⟨rfl, rfl⟩))
    (fun os started H enc _ => lifted os started H enc)

/-- ████ THE STATEMENT ████ -/
theorem proved : Rows.FnUnescapedLineEndIsFirstEvenRunSaid :=
  over
end Go.Proofs.Qxb6003380a.fnUnescapedLineEndIsFirstEvenRun
