/- Contracts of the functions on the road of the law on element names. -/
import Derived.Test.Qxb6003380aRows
import Derived.Test.Qxb6003380aElPlain
import Derived.WalkKit
import Derived.ProofKit
import Derived.OpenShut
import Derived.ShutString
import Derived.WalkLawsBesides
import Derived.BigGuardPart
import Derived.Lib.AppendStr
import Derived.Below
import Derived.Deep.QuietTactic
import Derived.BigQuiet
namespace Go.Proofs.Qxb6003380a.fnElementNameIsLocalAndWrittenBare
open Go.ChangeShapes Go.WideShapes Go.ChangeAt Go.RowKit
open Go.ChangeMaps (open_string shut_string)
set_option linter.unusedVariables false
open El (ns nc bt Name Upto)
theorem ret_bool {a b : Bool} (h : a = b) : Ending.returned (.bool a) = .returned (.bool b) := by rw [h]

set_option maxHeartbeats 1000000 in
theorem ns_any (c : Int) (w : World) :
    Calls Try.prog 46 #[.int .u8 c] w fun r w' => (r = .returned (.bool (ns c))) ∧ w' = w := by
  go_enter Try.func46, Try.ntmps46
  go_wp2
  all_goals (go_ret; refine ⟨ret_bool ?_, rfl⟩; rw [Bool.eq_iff_iff, El.ns_iff]; simp; try omega)

def Ans (r : Ending) (p : Prop) : Prop := ∃ b : Bool, r = .returned (.bool b) ∧ (b = true ↔ p)
theorem ans_yes {p : Prop} (h : p) : Ans (.returned (.bool true)) p := ⟨true, rfl, by simp [h]⟩
theorem ans_no {p : Prop} (h : ¬ p) : Ans (.returned (.bool false)) p := ⟨false, rfl, by simp [h]⟩
theorem empty_of {s : ByteArray} (h : s.size = 0) : s.toList.isEmpty = true := by
  rw [ByteArray.toList_eq, List.isEmpty_iff]
  exact List.eq_nil_of_length_eq_zero (by simpa using h)
theorem nonempty_of {s : ByteArray} (h : ¬ s.size = 0) : s.toList.isEmpty = false := by
  rw [ByteArray.toList_eq]
  cases e : s.data.toList with
  | nil => exact absurd (by have : s.data.toList.length = 0 := by rw [e]; rfl
                            simpa using this) h
  | cons => rfl

set_option maxHeartbeats 1000000 in
theorem el_any (s : ByteArray) (w : World) (hs : s.size ≤ 70000) :
    Calls Try.prog 37 #[.string s] w fun r w' => Ans r (Name s) ∧ w' = w := by
  by_cases h0 : s.size = 0
  · have h0a := empty_of h0
    go_enter Try.func37, Try.ntmps37
    go_wp2
    go_ret
    exact ⟨ans_no (El.not_empty h0), rfl⟩
  · have h0a := nonempty_of h0
    have h0b : 0 < s.size := by omega
    by_cases h1 : ns (s[0].toNat : Int) = true
    · go_enter Try.func37, Try.ntmps37
      go_wp2_with (go_at_call 46; refine (ns_any _ _).mono ?_; rintro r w' ⟨rfl, rfl⟩)
      go_loop [3] (fun t => ∃ k : Nat, k ≤ s.size ∧ 1 ≤ k ∧ t = .int .i64 k ∧ Upto s k) (fun t => s.size - (intOf t).toNat)
      case atStart => exact ⟨1, by omega, by omega, rfl, El.upto1 h0b (by rw [El.bt_eq h0b]; exact h1)⟩
      case round =>
        obtain ⟨k, hk, hk1, rfl, hu⟩ := hrel
        by_cases hlt : k < s.size
        · have hb := El.bt_eq hlt
          have HB : Hid (bt s k = (s[k].toNat : Int)) := hb
          clear hb
          by_cases hn : ns (s[k].toNat : Int) = true
          · go_wp2_with (go_at_call 46; refine (ns_any _ _).mono ?_; rintro r w' ⟨rfl, rfl⟩)
            go_round
            case rel => exact ⟨k + 1, by omega, by omega, by go_num, El.upto_step hu (by rw [HB.out]; exact El.nc_ns hn)⟩
            case measure => simp [intOf]; omega
          · have hn' : ns (s[k].toNat : Int) = false := by simpa using hn
            clear hn
            by_cases d1 : nc (s[k].toNat : Int) = true
            · have d2 := (El.nc_iff _).1 d1
              simp only [hn', Bool.false_eq_true, false_or] at d2
              have hu' := El.upto_step hu (show nc (bt s k) = true by rw [HB.out]; exact d1)
              rcases d2 with d2 | d2 | d2
              · go_wp2_with (go_at_call 46; refine (ns_any _ _).mono ?_; rintro r w' ⟨rfl, rfl⟩)
                go_round
                case rel => exact ⟨k + 1, by omega, by omega, by go_num, hu'⟩
                case measure => simp [intOf]; omega
              · have d3 : ¬ (48 ≤ (s[k].toNat : Int)) := by omega
                have d4 : ((s[k].toNat : Int) != 46) = false := by simpa using d2
                clear d2
                go_wp2_with (go_at_call 46; refine (ns_any _ _).mono ?_; rintro r w' ⟨rfl, rfl⟩)
                go_round
                case rel => exact ⟨k + 1, by omega, by omega, by go_num, hu'⟩
                case measure => simp [intOf]; omega
              · have d3 : ¬ (48 ≤ (s[k].toNat : Int)) := by omega
                have d4 : ((s[k].toNat : Int) != 46) = true := by simp; omega
                have d5 : ((s[k].toNat : Int) != 45) = false := by simpa using d2
                clear d2
                go_wp2_with (go_at_call 46; refine (ns_any _ _).mono ?_; rintro r w' ⟨rfl, rfl⟩)
                go_round
                case rel => exact ⟨k + 1, by omega, by omega, by go_num, hu'⟩
                case measure => simp [intOf]; omega
            · have d1' : nc (s[k].toNat : Int) = false := by simpa using d1
              have hN : Hid (¬ Name s) := El.not_at hk1 hlt (by rw [HB.out]; exact d1')
              have d2 : ¬ ((48 ≤ (s[k].toNat : Int) ∧ (s[k].toNat : Int) ≤ 57) ∨ (s[k].toNat : Int) = 46 ∨ (s[k].toNat : Int) = 45) := fun h => d1 ((El.nc_iff _).2 (.inr h))
              have d4 : ((s[k].toNat : Int) != 46) = true := by simp; omega
              have d5 : ((s[k].toNat : Int) != 45) = true := by simp; omega
              have d6 : ¬ (48 ≤ (s[k].toNat : Int) ∧ (s[k].toNat : Int) ≤ 57) := by omega
              clear d1 d2
              go_wp2_with (go_at_call 46; refine (ns_any _ _).mono ?_; rintro r w' ⟨rfl, rfl⟩)
              all_goals first | (go_ret; exact ⟨ans_no hN.out, rfl⟩) | (exfalso; omega)
        · have hN : Hid (Name s) := El.upto_end hu (by omega)
          go_wp2
          go_ret
          exact ⟨ans_yes hN.out, rfl⟩
    · have h1' : ns (s[0].toNat : Int) = false := by simpa using h1
      have hN : Hid (¬ Name s) := El.not_first (by rw [El.bt_eq h0b]; exact h1')
      clear h1
      go_enter Try.func37, Try.ntmps37
      go_wp2_with (go_at_call 46; refine (ns_any _ _).mono ?_; rintro r w' ⟨rfl, rfl⟩)
      go_ret
      exact ⟨ans_no hN.out, rfl⟩

theorem zzel_any (s : ByteArray) (w : World) (hs : s.size ≤ 70000) :
    Calls Try.prog 21 #[.string s] w fun r w' => Ans r (Name s) ∧ w' = w := by
  go_enter Try.func21, Try.ntmps21
  go_wp2_with (go_at_call 37; refine (el_any _ _ hs).mono ?_; rintro r w' ⟨⟨b, rfl, hb⟩, rfl⟩; have HB : Hid (b = true ↔ Name s) := hb; clear hb)
  go_ret
  exact ⟨⟨b, rfl, HB.out⟩, rfl⟩

theorem nc_ne {c : Int} (h : nc c = true) : (c == 123) = false ∧ (c == 125) = false ∧ (c == 93) = false ∧ (c == 34) = false ∧ (c == 91) = false ∧ (c == 36) = false ∧ (c == 59) = false ∧ (c == 32) = false ∧ (c == 12) = false ∧ (c == 10) = false ∧ (c == 13) = false ∧ (c == 9) = false ∧ (c == 11) = false ∧ (c == 92) = false := by
  rw [El.nc_iff, El.ns_iff] at h
  simp only [beq_eq_false_iff_ne]
  omega
theorem ns_ne {c : Int} (h : ns c = true) : (c == 35) = false ∧ (c == 123) = false ∧ (c == 34) = false := by
  rw [El.ns_iff] at h
  simp only [beq_eq_false_iff_ne]
  omega

theorem Try.info5 : (Try.prog.info? 5).map (fun i => (i.zero, i.size, i.bytes)) = some (some (.int .u8 0), 1, 1) := by kernel_rfl

set_option maxHeartbeats 2000000 in
set_option maxRecDepth 100000 in
theorem app_any (s : ByteArray) (f : Bool) (w : World) (hs : s.size ≤ 70000) (hn : Name s) :
    Calls Try.prog 38 #[.slice none 0 0, .string s, .bool f] w fun r w' => (∃ v, r = .returned v ∧ w'.ownsRow w.heap.size 5 1 v s.size (Lib.strCells s)) ∧ Below w.heap.size w w' := by
  obtain ⟨i0, hi, hz0, hz1, hz2⟩ := info_parts Try.info5
  have h0b : 0 < s.size := hn.1
  have h0a := nonempty_of (show ¬ s.size = 0 by omega)
  have hf := ns_ne hn.2.1
  rw [El.bt_eq h0b] at hf
  obtain ⟨f1, f2, f3⟩ := hf
  have HN : Hid (Name s) := hn
  clear hn
  cases f
  all_goals
    go_enter Try.func38, Try.ntmps38
    go_wp2
    go_loop [8, 9, 10, 11, 12, 13] (fun a b c d n t => a = .bool false ∧ b = .bool false ∧ c = .bool false ∧ d = .bool false ∧ n = .int .i64 0 ∧ ∃ k : Nat, k ≤ s.size ∧ t = .int .i64 k) (fun _ _ _ _ _ t => s.size - (intOf t).toNat)
    case atStart => exact ⟨rfl, rfl, rfl, rfl, rfl, 0, by omega, rfl⟩
    case round =>
      obtain ⟨rfl, rfl, rfl, rfl, rfl, k, hk, rfl⟩ := hrel
      by_cases hlt : k < s.size
      · have hc := nc_ne (El.name_at HN.out hlt)
        rw [El.bt_eq hlt] at hc
        obtain ⟨c1, c2, c3, c4, c5, c6, c7, c8, c9, c10, c11, c12, c13, c14⟩ := hc
        go_wp2
        go_round
        case rel => exact ⟨rfl, rfl, rfl, rfl, rfl, k + 1, by omega, by go_num⟩
        case measure => simp [intOf]; omega
      · go_wp2_with (at_builtin; refine Lib.wpList_append_own_string _ rfl _ _ 31 9 rfl w.heap.size 5 i0 Try.underlying31 Try.underlying9 hi hz0 hz1 hz2 _ _ _ rfl (World.ownsRow_nil _ _ _ _) s rfl ?c1 ?c2 (Nat.le_refl _) ?_)
        case c1 => unfold maxLen; omega
        case c2 => omega
        intro v' w1 hown hgr _
        have hb := (Below.refl w.heap.size w).grown hgr (Nat.le_refl _) (fun k hk => by simp [Value.ownBlock] at hk)
        go_wp2
        go_ret
        exact ⟨⟨_, rfl, by simpa using hown⟩, hb⟩

theorem zzapp_any (s : ByteArray) (f : Bool) (w : World) (hs : s.size ≤ 70000) (hn : Name s) :
    Calls Try.prog 22 #[.slice none 0 0, .string s, .bool f] w fun r w' => (∃ v, r = .returned v ∧ w'.ownsRow w.heap.size 5 1 v s.size (Lib.strCells s)) ∧ Below w.heap.size w w' := by
  go_enter Try.func22, Try.ntmps22
  go_wp2_with (go_at_call 38; refine (app_any s f _ hs hn).mono ?_; rintro r w1 ⟨⟨v, rfl, hv⟩, hb⟩)
  go_ret
  exact ⟨⟨_, rfl, hv⟩, hb⟩

theorem strCells_at {s : ByteArray} {k : Nat} (h : k < s.size) : (Lib.strCells s)[k]? = some (.int .u8 ((s[k]'h).toNat : Int)) := by
  unfold Lib.strCells
  rw [List.getElem?_map, List.getElem?_eq_getElem (by simpa using h)]
  rfl

set_option maxHeartbeats 1000000 in
theorem same_any (s : ByteArray) (v : Value) (base : Nat) (w : World) (hs : s.size ≤ 2097152) (hown : w.ownsRow base 5 1 v s.size (Lib.strCells s)) :
    Calls Try.prog 17 #[v, .string s] w fun r w' => r = .returned (.bool true) ∧ ∃ n, w' = w.drewN n := by
  have hcell : ∀ g cap, v = .slice (some ⟨g, 0, none⟩) s.size cap → ∀ k (h : k < s.size), w.cell? ⟨g, k, none⟩ = some (.int .u8 (s[k].toNat : Int)) := by
    rintro g cap rfl k h
    rw [hown.cellAt k (by omega), strCells_at h]
  rcases hown.2 with ⟨rfl, h0⟩ | ⟨g, cap, cur, rfl, hbg, hg, hnc, hcm, hcs, htake⟩
  · clear hown hcell hs
    go_enter Try.func17, Try.ntmps17
    go_wp2
    go_loop [5] (fun t => t = .int .i64 0) (fun t => 0)
    case atStart => rfl
    case round =>
      subst hrel
      go_wp2
      go_ret
      exact ⟨rfl, 0, rfl⟩
  · have hc := hcell g cap rfl
    unfold maxLen at hcm
    clear hown hg hcs htake hcell
    go_enter Try.func17, Try.ntmps17
    go_wp2
    go_loopw [5] (fun t wr => ∃ k n : Nat, k ≤ s.size ∧ t = .int .i64 k ∧ wr = w.drewN n) (fun t _ => s.size - (intOf t).toNat)
    case atStart => exact ⟨0, 0, by omega, rfl, rfl⟩
    case round =>
      obtain ⟨k, n, hk, rfl, rfl⟩ := hrel
      by_cases hlt : k < s.size
      · have hck := hc k hlt
        clear hc
        have hlt' : (k : Int) < s.size := by omega
        go_wp2_with fail
        go_quiet (fail)
        go_wp2
        go_roundw
        case rel => exact ⟨k + 1, _, by omega, by go_num, rfl⟩
        case measure => simp [intOf]; omega
      · go_wp2
        go_ret
        exact ⟨rfl, n, rfl⟩
end Go.Proofs.Qxb6003380a.fnElementNameIsLocalAndWrittenBare
