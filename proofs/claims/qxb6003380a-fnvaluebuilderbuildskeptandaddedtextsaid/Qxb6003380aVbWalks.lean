/- Contracts of the value builder while it has copied nothing. -/
import Derived.Test.Qxb6003380aRows
import Derived.Test.Qxb6003380aVb
import Derived.WalkKit
import Derived.ProofKit
import Derived.OpenShut
import Derived.ShutString
import Derived.WalkLawsBesides
import Derived.BigGuardPart
import Derived.Lib.AppendStr
import Derived.Below
import Derived.Deep.QuietTactic
import Derived.BigQuiet
import Derived.Deep.RegionHeld3
import Derived.Deep.AppendLies
namespace Go.Proofs.Qxb6003380a.Vb
open Go Go.ChangeShapes Go.WideShapes Go.ChangeAt Go.RowKit
set_option linter.unusedVariables false
theorem info5 : (Try.prog.info? 5).map (fun i => (i.zero, i.size, i.bytes)) = some (some (.int .u8 0), 1, 1) := by kernel_rfl
theorem info38 : (Try.prog.info? 38).map (fun i => (i.zero, i.size, i.bytes)) = some (some (.agg #[.int .i64 0, .int .i64 0]), 2, 16) := by kernel_rfl

set_option maxHeartbeats 1000000 in
theorem new_plain (text : ByteArray) (start : Nat) (w : World) (hs : start ≤ 2097152) :
    Calls Try.prog 41 #[.string text, .int .i64 (start : Int), .pointer none] w fun r w' => r = .returned (.pointer (some ⟨w.heap.size, 0, none⟩)) ∧ w' = w.alloc (.cells #[.string text, .int .i64 (start : Int), .slice none 0 0, .bool false, .int .i64 (start : Int), mptr none] 66) := by
  go_enter Try.func41, Try.ntmps41
  go_wp2
  go_ret
  exact ⟨rfl, rfl⟩

set_option maxHeartbeats 1000000 in
theorem keep_plain {f : Nat → Nat} {j : Nat} (w : World) (B : Nat) (mp : Option Nat) (text : ByteArray) (start : Nat) (vb : Value) (i : Int) (h : Fields f j w B mp text start vb false i) (h0 : 0 ≤ i) (hi : i ≤ 2097152) :
    Calls Try.prog 42 #[.pointer (some ⟨B, 0, none⟩), .int .i64 i] w fun r w' => r = .returned (.tuple #[]) ∧ w' = w.setCell ⟨B, 4, none⟩ (.int .i64 (i + 1)) := by
  obtain ⟨c0, c1, c2, c3, c4, c5, fz⟩ := h.cells
  cases mp with
  | none =>
    simp only [mptr, Option.map_none] at c5
    go_enter Try.func42, Try.ntmps42
    go_wp2
    go_end0
    exact ⟨rfl, rfl⟩
  | some mb =>
    simp only [mptr, Option.map_some] at c5
    go_enter Try.func42, Try.ntmps42
    go_wp2
    go_end0
    exact ⟨rfl, rfl⟩

set_option maxHeartbeats 1000000 in
theorem len_plain {f : Nat → Nat} {j : Nat} (w : World) (B : Nat) (mp : Option Nat) (text : ByteArray) (start : Nat) (vb : Value) (i : Int) (h : Fields f j w B mp text start vb false i) (h0 : 0 ≤ i) (hi : i ≤ 2097152) (hs : start ≤ 2097152) :
    Calls Try.prog 44 #[.pointer (some ⟨B, 0, none⟩)] w fun r w' => r = .returned (.int .i64 (i - start)) ∧ ∃ n, w' = w.drewN n := by
  obtain ⟨c0, c1, c2, c3, c4, c5, fz⟩ := h.cells
  go_enter Try.func44, Try.ntmps44
  go_wp2_with fail
  go_quiet (fail)
  go_wp2
  go_ret
  exact ⟨rfl, _, rfl⟩

set_option maxHeartbeats 1000000 in
theorem str_plain {f : Nat → Nat} {j : Nat} (w : World) (B : Nat) (mp : Option Nat) (text : ByteArray) (start : Nat) (vb : Value) (i : Nat) (h : Fields f j w B mp text start vb false i) (hs : start ≤ i) (hi : i ≤ text.size) (ht : text.size ≤ 2097152) :
    Calls Try.prog 43 #[.pointer (some ⟨B, 0, none⟩)] w fun r w' => r = .returned (.string (text.extract start i)) ∧ ∃ n, w' = w.drewN n := by
  obtain ⟨c0, c1, c2, c3, c4, c5, fz⟩ := h.cells
  have q1 : (start : Int) ≤ (i : Int) := by omega
  have q2 : (i : Int) ≤ (text.size : Int) := by omega
  go_enter Try.func43, Try.ntmps43
  go_wp2_with fail
  go_quiet (fail)
  go_wp2
  go_ret
  exact ⟨rfl, _, rfl⟩
theorem two_one (a b : Int) : ∀ u ∈ [Value.int .i64 a, .int .i64 b], u.oneCell' = true := by
  intro u hu
  simp at hu
  rcases hu with rfl | rfl <;> rfl
theorem cell_two (w : World) (x y : Value) (t : TypeId) : ∀ j u, [x, y][j]? = some u → (w.alloc (.cells #[x, y] t)).cell? ((⟨w.heap.size, 0, none⟩ : Addr).add j) = some u := by
  have hb : (w.alloc (.cells #[x, y] t)).heap[w.heap.size]? = some (.cells #[x, y] t (0, 0)) := Go.heap_alloc_new w _
  exact World.news_of_block hb

set_option maxHeartbeats 1000000 in
theorem new_marks {f : Nat → Nat} {j : Nat} (w : World) (mb : Nat) (text : ByteArray) (start : Nat) (hs : start ≤ 2097152) (hm : Marks f (j + 2) w mb (.slice none 0 0) []) :
    Calls Try.prog 41 #[.string text, .int .i64 (start : Int), .pointer (some ⟨mb, 0, none⟩)] w fun r w' => ∃ B f', r = .returned (.pointer (some ⟨B, 0, none⟩)) ∧ VB f' j w' B (some mb) text start false [] (start : Int) [(0, (start : Int))] (.slice none 0 0) ∧ Step f (Of j) w w' f' := by
  obtain ⟨i0, hi, hz0, hz1, hz2⟩ := info_parts info38
  have cm := cell_blk hm.blk 0
  have fm := frozen_blk hm.blk 0
  have hlt := lt_of_blk hm.blk
  simp at cm
  go_enter Try.func41, Try.ntmps41
  go_wp2_with (at_builtin; refine wpList_append_lies _ rfl _ _ 32 rfl 0 38 i0 (.agg #[.int .i64 0, .int .i64 0]) 2 16 Try.underlying32 hi hz0 hz1 hz2 rfl (by decide) _ _ _ rfl (World.ownsRow_nil _ _ _ _) ⟨w.heap.size, 0, none⟩ 1 1 [.int .i64 0, .int .i64 (start : Int)] rfl rfl ?c1 ?c2 (by decide) ?c3 ?c4 (Nat.zero_le _) _ rfl ?_)
  case c1 => exact cell_two _ _ _ _
  case c2 => exact two_one _ _
  case c3 => unfold maxLen; omega
  case c4 => omega
  intro g cap w1 ho hg ha _
  have hm1 : Marks f (j + 2) (w.alloc (.cells #[.int .i64 0, .int .i64 (start : Int)] 38)) mb (.slice none 0 0) [] :=
    hm.step ((Step.refl f (fun _ => False) w).alloc _) (fun h => h) (fun h => h)
  have hb1 := hm1.at hg
  obtain ⟨v', hv'⟩ : ∃ v', v' = Value.slice (some ⟨g, 0, none⟩) 1 cap := ⟨_, rfl⟩
  have ha' : v'.ownBlock = (Value.slice none 0 0).ownBlock ∨ v'.ownBlock = some (w.alloc (.cells #[.int .i64 0, .int .i64 (start : Int)] 38)).heap.size := by
    rw [hv']; rcases ha with ha | ha
    · exact .inl ha.symm
    · exact .inr (by simp [Value.ownBlock, ha])
  obtain ⟨hm2, hs2⟩ := hm1.push (p := 0) (q := (start : Int)) (by rw [hv']; simpa [mcells] using ho) hg ha'
  have hs3 := (((Step.refl f (Of j) w).alloc (.cells #[.int .i64 0, .int .i64 (start : Int)] 38)).trans (hs2.mono (fun i hi => ⟨by omega, by omega⟩)))
  clear hs2 ha ha' ho hm1
  have c2 := cell_blk hb1 0
  have f2 := frozen_blk hb1 0
  simp at c2
  rw [hv'] at hm2 hs3
  have HM : Hid _ := hm2
  have HS : Hid _ := hs3
  clear hm2 hs3 hm hg hb1 hv'
  go_wp2
  go_ret
  obtain ⟨hv, hst⟩ := VB.made (j := j) (mp := some mb) (text := text) (start := start) (ms := [(0, (start : Int))]) ⟨_, HM.out⟩ HS.out w1.heap.size (by simp)
  exact ⟨_, _, rfl, hv, hst⟩

/-! ### the exported doors, at the whole builder -/
theorem zznew_plain (text : ByteArray) (start : Nat) (w : World) (hs : start ≤ 2097152) :
    Calls Try.prog 29 #[.string text, .int .i64 (start : Int), .pointer none] w fun r w' => r = .returned (.pointer (some ⟨w.heap.size, 0, none⟩)) ∧ w' = w.alloc (.cells #[.string text, .int .i64 (start : Int), .slice none 0 0, .bool false, .int .i64 (start : Int), mptr none] 66) := by
  go_enter Try.func29, Try.ntmps29
  go_wp2_with (go_at_call 41; refine (new_plain text start _ hs).mono ?_; rintro r w' ⟨rfl, rfl⟩)
  go_ret
  exact ⟨rfl, rfl⟩
theorem zznew_marks {f : Nat → Nat} {j : Nat} (w : World) (mb : Nat) (text : ByteArray) (start : Nat) (hs : start ≤ 2097152) (hm : Marks f (j + 2) w mb (.slice none 0 0) []) :
    Calls Try.prog 29 #[.string text, .int .i64 (start : Int), .pointer (some ⟨mb, 0, none⟩)] w fun r w' => ∃ B f', r = .returned (.pointer (some ⟨B, 0, none⟩)) ∧ VB f' j w' B (some mb) text start false [] (start : Int) [(0, (start : Int))] (.slice none 0 0) ∧ Step f (Of j) w w' f' := by
  go_enter Try.func29, Try.ntmps29
  go_wp2_with fail
  refine (new_marks w mb text start hs hm).mono ?_
  rintro r w' ⟨B, f', rfl, hv, hst⟩
  go_wp2
  go_ret
  exact ⟨_, _, rfl, hv, hst⟩
theorem keep_vb {f : Nat → Nat} {j : Nat} (w : World) (B : Nat) (mp : Option Nat) (text : ByteArray) (start : Nat) (bs : List UInt8) (i : Int) (ms : List (Int × Int)) (vb : Value) (h : VB f j w B mp text start false bs i ms vb) (h0 : 0 ≤ i) (hi : i ≤ 2097152) :
    Calls Try.prog 42 #[.pointer (some ⟨B, 0, none⟩), .int .i64 i] w fun r w' => r = .returned (.tuple #[]) ∧ VB f j w' B mp text start false bs (i + 1) ms vb ∧ Step f (Of j) w w' f := by
  refine (keep_plain w B mp text start vb i h.fld h0 hi).mono ?_
  rintro r w' ⟨rfl, rfl⟩
  exact ⟨rfl, ⟨h.fld.set4 _, h.row.store (p := ⟨B, 4, none⟩) h.fld.own (by omega) _, h.mks.store (p := ⟨B, 4, none⟩) h.fld.own (by omega) (by omega) _⟩,
    (Step.refl f (Of j) w).setCell (p := ⟨B, 4, none⟩) (by show Of j (f B); rw [h.fld.own]; exact ⟨by omega, by omega⟩) _⟩
theorem zzkeep_vb {f : Nat → Nat} {j : Nat} (w : World) (B : Nat) (mp : Option Nat) (text : ByteArray) (start : Nat) (bs : List UInt8) (i : Int) (ms : List (Int × Int)) (vb : Value) (h : VB f j w B mp text start false bs i ms vb) (h0 : 0 ≤ i) (hi : i ≤ 2097152) :
    Calls Try.prog 30 #[.pointer (some ⟨B, 0, none⟩), .int .i64 i] w fun r w' => r = .returned (.tuple #[]) ∧ VB f j w' B mp text start false bs (i + 1) ms vb ∧ Step f (Of j) w w' f := by
  go_enter Try.func30, Try.ntmps30
  go_wp2_with fail
  refine (keep_vb w B mp text start bs i ms vb h h0 hi).mono ?_
  rintro r w' ⟨rfl, hv, hst⟩
  go_wp2
  go_end0
  exact ⟨rfl, hv, hst⟩
theorem zzlen_plain {f : Nat → Nat} {j : Nat} (w : World) (B : Nat) (mp : Option Nat) (text : ByteArray) (start : Nat) (vb : Value) (i : Int) (h : Fields f j w B mp text start vb false i) (h0 : 0 ≤ i) (hi : i ≤ 2097152) (hs : start ≤ 2097152) :
    Calls Try.prog 32 #[.pointer (some ⟨B, 0, none⟩)] w fun r w' => r = .returned (.int .i64 (i - start)) ∧ ∃ n, w' = w.drewN n := by
  go_enter Try.func32, Try.ntmps32
  go_wp2_with (go_at_call 44; refine (len_plain w B mp text start vb i h h0 hi hs).mono ?_; rintro r w' ⟨rfl, n, rfl⟩)
  go_ret
  exact ⟨rfl, n, rfl⟩
theorem zzstr_plain {f : Nat → Nat} {j : Nat} (w : World) (B : Nat) (mp : Option Nat) (text : ByteArray) (start : Nat) (vb : Value) (i : Nat) (h : Fields f j w B mp text start vb false i) (hs : start ≤ i) (hi : i ≤ text.size) (ht : text.size ≤ 2097152) :
    Calls Try.prog 31 #[.pointer (some ⟨B, 0, none⟩)] w fun r w' => r = .returned (.string (text.extract start i)) ∧ ∃ n, w' = w.drewN n := by
  go_enter Try.func31, Try.ntmps31
  go_wp2_with (go_at_call 43; refine (str_plain w B mp text start vb i h hs hi ht).mono ?_; rintro r w' ⟨rfl, n, rfl⟩)
  go_ret
  exact ⟨rfl, n, rfl⟩
theorem at_any (p q : Int) (w : World) :
    Calls Try.prog 18 #[.agg #[.int .i64 p, .int .i64 q]] w fun r w' => r = .returned (.int .i64 p) ∧ w' = w.alloc (.cells #[.int .i64 p, .int .i64 q] 38) := by
  go_enter Try.func18, Try.ntmps18
  go_wp2
  go_ret
  exact ⟨rfl, rfl⟩
theorem from_any (p q : Int) (w : World) :
    Calls Try.prog 19 #[.agg #[.int .i64 p, .int .i64 q]] w fun r w' => r = .returned (.int .i64 q) ∧ w' = w.alloc (.cells #[.int .i64 p, .int .i64 q] 38) := by
  go_enter Try.func19, Try.ntmps19
  go_wp2
  go_ret
  exact ⟨rfl, rfl⟩
end Go.Proofs.Qxb6003380a.Vb
