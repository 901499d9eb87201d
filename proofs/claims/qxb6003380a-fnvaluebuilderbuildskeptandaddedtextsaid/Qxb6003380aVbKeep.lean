/- keep, len and String while the value is copied. -/
import Derived.Test.Qxb6003380aVbWalks
import Derived.WalkSpells
import Derived.Deep.DrawnRows
import Derived.Deep.RegionLaw
import Derived.Deep.Cut
import Derived.Laws.IdiomStrings
import Derived.Laws.BytesArg
namespace Go.Proofs.Qxb6003380a.Vb
open Go Go.ChangeShapes Go.WideShapes Go.ChangeAt Go.RowKit
set_option linter.unusedVariables false
attribute [local go_sem ↓] Go.wp_at_zero Go.wp_at_succ

theorem len_cells (w : World) (B : Nat) (a : Option Addr) (n cap : Nat) (h2 : w.cell? ⟨B, 2, none⟩ = some (.slice a n cap)) (h3 : w.cell? ⟨B, 3, none⟩ = some (.bool true)) :
    Calls Try.prog 44 #[.pointer (some ⟨B, 0, none⟩)] w fun r w' => r = .returned (.int .i64 n) ∧ w' = w := by
  go_enter Try.func44, Try.ntmps44
  go_wp2
  go_ret
  exact ⟨rfl, rfl⟩

theorem one_one (b : Int) : ∀ u ∈ [Value.int .u8 b], u.oneCell' = true := by
  intro u hu
  simp at hu
  subst hu
  rfl

theorem at_of {a : Option Addr} {n m cap cap' gg H : Nat} (h : (Value.slice a n cap).ownBlock = some gg ∨ gg = H) : (Value.slice (some ⟨gg, 0, none⟩) m cap').ownBlock = (Value.slice a n cap).ownBlock ∨ (Value.slice (some ⟨gg, 0, none⟩) m cap').ownBlock = some H := by
  rcases h with h | h
  · exact .inl h.symm
  · exact .inr (by rw [h]; rfl)

set_option maxHeartbeats 3200000 in
set_option maxRecDepth 100000 in
/-- keep, the value already copied: no mark is made -/
theorem keep_bare {f : Nat → Nat} {j : Nat} (w : World) (B : Nat) (mp : Option Nat) (text : ByteArray) (start : Nat) (i : Nat) (next : Int) (bs : List UInt8) (ms : List (Int × Int)) (a : Option Addr) (cap : Nat)
    (h : VB f j w B mp text start true bs next ms (.slice a bs.length cap)) (hi : i < text.size) (ht : text.size ≤ 2097152) (hb : bs.length ≤ 16777216) (hno : mp = none ∨ (i : Int) = next) :
    Calls Try.prog 42 #[.pointer (some ⟨B, 0, none⟩), .int .i64 (i : Int)] w fun r w' => r = .returned (.tuple #[]) ∧ ∃ f' vb', VB f' j w' B mp text start true (bs ++ [text[i]]) ((i : Int) + 1) ms vb' ∧ Step f (Of j) w w' f' := by
  obtain ⟨i0, hi0, hz0, hz1, hz2⟩ := info_parts info5
  obtain ⟨c0, c1, c2, c3, c4, c5, fz⟩ := h.fld.cells
  have hrow := h.row.1
  have hlt := h.fld.lt
  have q0 : (0 : Int) ≤ (i : Int) := by omega
  have q1 : (i : Int) < (text.size : Int) := by omega
  have HV : Hid _ := h
  clear h fz
  rcases hno with rfl | rfl
  · simp only [mptr, Option.map_none] at c5
    go_enter Try.func42, Try.ntmps42
    go_wp2_with fail
    go_region_law ((refine step_append_lies _ (by rfl) _ _ _ (by rfl) 0 5 i0 _ 1 1 Try.underlying31 hi0 hz0 hz1 hz2 rfl (by omega) _ _ _ (by rfl) ((hrow.alloc _).drew) ⟨w.heap.size, 0, none⟩ 1 1 [.int .u8 (text[i].toNat : Int)] (by rfl) (by rfl) (World.news_of_block (cs := #[.int .u8 (text[i].toNat : Int)]) (t := 5) (fr := (0, 0)) (Go.heap_alloc_new w _)) (one_one _) (by omega) (by unfold maxLen; omega) (by omega) (Nat.zero_le _) (w.heap.size + 1) (by simp) ?_; intro gg cap' w1 hown1 hgrow hat hlt1; obtain ⟨-, -, d2, -, d4, -, dz⟩ := ((HV.out.later (.cells #[.int .u8 (text[i].toNat : Int)] 5)).1.mid hgrow).cells; have dz2 := dz 2; have dz4 := dz 4; clear dz; have hgrow' : Hid _ := hgrow; have hown1' : Hid _ := hown1; clear hgrow hown1))
    all_goals
      go_wp2
      go_end0
      refine ⟨rfl, ?_⟩
      obtain ⟨v1, s1⟩ := HV.out.later (.cells #[.int .u8 (text[i].toNat : Int)] 5)
      obtain ⟨v2, s2⟩ := v1.bytes (bs' := bs ++ [text[i]]) (by rw [bcells_append, List.length_append]; exact hown1'.out) hgrow'.out (at_of (by simpa using hat))
      obtain ⟨v3, s3⟩ := v2.set4 ((i : Int) + 1)
      exact ⟨_, _, v3, ((s1.trans s2).trans s3)⟩
  · cases mp with
    | none =>
      simp only [mptr, Option.map_none] at c5
      go_enter Try.func42, Try.ntmps42
      go_wp2_with fail
      go_region_law ((refine step_append_lies _ (by rfl) _ _ _ (by rfl) 0 5 i0 _ 1 1 Try.underlying31 hi0 hz0 hz1 hz2 rfl (by omega) _ _ _ (by rfl) ((hrow.alloc _).drew) ⟨w.heap.size, 0, none⟩ 1 1 [.int .u8 (text[i].toNat : Int)] (by rfl) (by rfl) (World.news_of_block (cs := #[.int .u8 (text[i].toNat : Int)]) (t := 5) (fr := (0, 0)) (Go.heap_alloc_new w _)) (one_one _) (by omega) (by unfold maxLen; omega) (by omega) (Nat.zero_le _) (w.heap.size + 1) (by simp) ?_; intro gg cap' w1 hown1 hgrow hat hlt1; obtain ⟨-, -, d2, -, d4, -, dz⟩ := ((HV.out.later (.cells #[.int .u8 (text[i].toNat : Int)] 5)).1.mid hgrow).cells; have dz2 := dz 2; have dz4 := dz 4; clear dz; have hgrow' : Hid _ := hgrow; have hown1' : Hid _ := hown1; clear hgrow hown1))
      all_goals
        go_wp2
        go_end0
        refine ⟨rfl, ?_⟩
        obtain ⟨v1, s1⟩ := HV.out.later (.cells #[.int .u8 (text[i].toNat : Int)] 5)
        obtain ⟨v2, s2⟩ := v1.bytes (bs' := bs ++ [text[i]]) (by rw [bcells_append, List.length_append]; exact hown1'.out) hgrow'.out (at_of (by simpa using hat))
        obtain ⟨v3, s3⟩ := v2.set4 ((i : Int) + 1)
        exact ⟨_, _, v3, ((s1.trans s2).trans s3)⟩
    | some mb =>
      simp only [mptr, Option.map_some] at c5
      go_enter Try.func42, Try.ntmps42
      go_wp2_with fail
      go_region_law ((refine step_append_lies _ (by rfl) _ _ _ (by rfl) 0 5 i0 _ 1 1 Try.underlying31 hi0 hz0 hz1 hz2 rfl (by omega) _ _ _ (by rfl) ((hrow.alloc _).drew) ⟨w.heap.size, 0, none⟩ 1 1 [.int .u8 (text[i].toNat : Int)] (by rfl) (by rfl) (World.news_of_block (cs := #[.int .u8 (text[i].toNat : Int)]) (t := 5) (fr := (0, 0)) (Go.heap_alloc_new w _)) (one_one _) (by omega) (by unfold maxLen; omega) (by omega) (Nat.zero_le _) (w.heap.size + 1) (by simp) ?_; intro gg cap' w1 hown1 hgrow hat hlt1; obtain ⟨-, -, d2, -, d4, -, dz⟩ := ((HV.out.later (.cells #[.int .u8 (text[i].toNat : Int)] 5)).1.mid hgrow).cells; have dz2 := dz 2; have dz4 := dz 4; clear dz; have hgrow' : Hid _ := hgrow; have hown1' : Hid _ := hown1; clear hgrow hown1))
      all_goals
        go_wp2
        go_end0
        refine ⟨rfl, ?_⟩
        obtain ⟨v1, s1⟩ := HV.out.later (.cells #[.int .u8 (text[i].toNat : Int)] 5)
        obtain ⟨v2, s2⟩ := v1.bytes (bs' := bs ++ [text[i]]) (by rw [bcells_append, List.length_append]; exact hown1'.out) hgrow'.out (at_of (by simpa using hat))
        obtain ⟨v3, s3⟩ := v2.set4 ((i : Int) + 1)
        exact ⟨_, _, v3, ((s1.trans s2).trans s3)⟩

/-- the builder with one mark more -/
def Marked (f : Nat → Nat) (j : Nat) (w wc : World) (B mb : Nat) (text : ByteArray) (start : Nat) (bs : List UInt8) (next : Int) (ms : List (Int × Int)) (vb : Value) (p q : Int) : Prop :=
  ∃ f', VB f' j wc B (some mb) text start true bs next (ms ++ [(p, q)]) vb ∧ Step f (Of j) w wc f'

set_option maxHeartbeats 3200000 in
set_option maxRecDepth 100000 in
/-- keep, the value already copied: a mark is made -/
theorem keep_mark {f : Nat → Nat} {j : Nat} (w : World) (B mb : Nat) (text : ByteArray) (start : Nat) (i : Nat) (next : Int) (bs : List UInt8) (ms : List (Int × Int)) (a : Option Addr) (cap : Nat) (a2 : Option Addr) (cap2 : Nat)
    (h : VB f j w B (some mb) text start true bs next ms (.slice a bs.length cap)) (hm : Marks f (j + 2) w mb (.slice a2 ms.length cap2) ms) (hi : i < text.size) (ht : text.size ≤ 2097152) (hb : bs.length ≤ 16777216) (hml : ms.length ≤ 16777216) (hno : ((i : Int) != next) = true) :
    Calls Try.prog 42 #[.pointer (some ⟨B, 0, none⟩), .int .i64 (i : Int)] w fun r w' => r = .returned (.tuple #[]) ∧ ∃ f' vb', VB f' j w' B (some mb) text start true (bs ++ [text[i]]) ((i : Int) + 1) (ms ++ [((bs.length : Int), (i : Int))]) vb' ∧ Step f (Of j) w w' f' := by
  obtain ⟨i0, hi0, hz0, hz1, hz2⟩ := info_parts info5
  obtain ⟨k0, hk0, hy0, hy1, hy2⟩ := info_parts info38
  obtain ⟨c0, c1, c2, c3, c4, c5, fz⟩ := h.fld.cells
  have cm := cell_blk hm.blk 0
  have fm := frozen_blk hm.blk 0
  simp at cm
  have hmrow := hm.row.1
  have hneB : some B ≠ (Value.slice a2 ms.length cap2).ownBlock := fun e => by have := hm.row.2 B e.symm; rw [h.fld.own] at this; omega
  have hlt := h.fld.lt
  have hltm := lt_of_blk hm.blk
  have q0 : (0 : Int) ≤ (i : Int) := by omega
  have q1 : (i : Int) < (text.size : Int) := by omega
  have HV : Hid _ := h
  have HM : Hid _ := hm
  clear h fz hm
  simp only [mptr, Option.map_some] at c5
  go_enter Try.func42, Try.ntmps42
  go_upto_region 1 with fail
  go_cut [] from 17 (fun wc => Marked f j w wc B mb text start bs next ms (.slice a bs.length cap) (bs.length : Int) (i : Int))
  case first =>
    go_region_law (first | (refine step_append_lies _ (by rfl) _ _ _ (by rfl) 0 38 k0 _ 2 16 Try.underlying32 hk0 hy0 hy1 hy2 rfl (by omega) _ _ _ (by rfl) ((hmrow.alloc _).drew) ⟨w.heap.size, 0, none⟩ 1 1 [.int .i64 (bs.length : Int), .int .i64 (i : Int)] (by rfl) (by rfl) (World.news_of_block (cs := #[.int .i64 (bs.length : Int), .int .i64 (i : Int)]) (t := 38) (fr := (0, 0)) (Go.heap_alloc_new w _)) (two_one _ _) (by omega) (by unfold maxLen; omega) (by omega) (Nat.zero_le _) (w.heap.size + 1) (by simp) ?_; intro gg cap' w1 hown1 hgrow hat hlt1; have hmm := ((HM.out.step ((((Step.refl f (fun _ => False) w).alloc (.cells #[.int .i64 (bs.length : Int), .int .i64 (i : Int)] 38)).drew)) (fun h => h) (fun h => h)).at hgrow); have d0 := cell_blk hmm 0; have dz0 := frozen_blk hmm 0; simp at d0; have d5 : w1.cell? ⟨B, 5, none⟩ = some (.pointer (some ⟨mb, 0, none⟩)) := (hgrow.cell_far ⟨B, 5, none⟩ (by simp; omega) hneB).trans (by simp [c5, World.cell?_alloc_some]); have hgrow' : Hid _ := hgrow; have hown1' : Hid _ := hown1; clear hgrow hown1 hmm) | (go_simp; go_at_call 44; refine (len_cells _ B a bs.length cap ?_ ?_).mono ?_; (first | assumption | (simp [c2, World.cell?_alloc_some])); (first | assumption | (simp [c3, World.cell?_alloc_some])); rintro r w' ⟨rfl, rfl⟩))
    all_goals
      go_wp2
      go_meet
      case rel =>
        obtain ⟨v1, s1⟩ := HV.out.later (.cells #[.int .i64 (bs.length : Int), .int .i64 (i : Int)] 38)
        have m1 := HM.out.step ((((Step.refl f (fun _ => False) w).alloc (.cells #[.int .i64 (bs.length : Int), .int .i64 (i : Int)] 38)).drew)) (fun h => h) (fun h => h)
        obtain ⟨v2, s2⟩ := v1.mark m1 hown1'.out hgrow'.out (at_of (by simpa using hat))
        exact ⟨_, v2, s1.trans s2⟩
  case rest =>
    obtain ⟨f1, hv, hst⟩ := hcut
    clear HV HM c0 c1 c2 c3 c4 c5 cm fm hmrow hneB hlt hltm
    obtain ⟨c0, c1, c2, c3, c4, c5, fz⟩ := hv.fld.cells
    have hrow := hv.row.1
    have hlt := hv.fld.lt
    have HV : Hid _ := hv
    have HS : Hid _ := hst
    clear hv hst fz
    simp only [mptr, Option.map_some] at c5
    go_wp2_with fail
    go_region_law ((refine step_append_lies _ (by rfl) _ _ _ (by rfl) 0 5 i0 _ 1 1 Try.underlying31 hi0 hz0 hz1 hz2 rfl (by omega) _ _ _ (by rfl) ((hrow.alloc _).drew) ⟨wc.heap.size, 0, none⟩ 1 1 [.int .u8 (text[i].toNat : Int)] (by rfl) (by rfl) (World.news_of_block (cs := #[.int .u8 (text[i].toNat : Int)]) (t := 5) (fr := (0, 0)) (Go.heap_alloc_new wc _)) (one_one _) (by omega) (by unfold maxLen; omega) (by omega) (Nat.zero_le _) (wc.heap.size + 1) (by simp) ?_; intro gg cap' w1 hown1 hgrow hat hlt1; obtain ⟨-, -, d2, -, d4, -, dz⟩ := ((HV.out.later (.cells #[.int .u8 (text[i].toNat : Int)] 5)).1.mid hgrow).cells; have dz2 := dz 2; have dz4 := dz 4; clear dz; have hgrow' : Hid _ := hgrow; have hown1' : Hid _ := hown1; clear hgrow hown1))
    all_goals
      go_wp2
      go_end0
      refine ⟨rfl, ?_⟩
      obtain ⟨v1, s1⟩ := HV.out.later (.cells #[.int .u8 (text[i].toNat : Int)] 5)
      obtain ⟨v2, s2⟩ := v1.bytes (bs' := bs ++ [text[i]]) (by rw [bcells_append, List.length_append]; exact hown1'.out) hgrow'.out (at_of (by simpa using hat))
      obtain ⟨v3, s3⟩ := v2.set4 ((i : Int) + 1)
      exact ⟨_, _, v3, HS.out.trans ((s1.trans s2).trans s3)⟩

/-! ### any keep while the value is copied -/
def keepMarks (mp : Option Nat) (ms : List (Int × Int)) (next i : Int) (n : Nat) : List (Int × Int) :=
  match mp with
  | none => ms
  | some _ => if i = next then ms else ms ++ [((n : Int), i)]

theorem keep_copied {f : Nat → Nat} {j : Nat} (w : World) (B : Nat) (mp : Option Nat) (text : ByteArray) (start : Nat) (i : Nat) (next : Int) (bs : List UInt8) (ms : List (Int × Int)) (vb : Value)
    (h : VB f j w B mp text start true bs next ms vb) (hi : i < text.size) (ht : text.size ≤ 2097152) (hb : bs.length ≤ 16777216) (hml : ms.length ≤ 16777216) :
    Calls Try.prog 42 #[.pointer (some ⟨B, 0, none⟩), .int .i64 (i : Int)] w fun r w' => r = .returned (.tuple #[]) ∧ ∃ f' vb', VB f' j w' B mp text start true (bs ++ [text[i]]) ((i : Int) + 1) (keepMarks mp ms next i bs.length) vb' ∧ Step f (Of j) w w' f' := by
  obtain ⟨a, cap, rfl⟩ := h.row.form
  cases mp with
  | none => exact keep_bare w B none text start i next bs ms a cap h hi ht hb (.inl rfl)
  | some mb =>
    by_cases e : (i : Int) = next
    · have hk : keepMarks (some mb) ms next i bs.length = ms := by simp [keepMarks, e]
      rw [hk]
      exact keep_bare w B (some mb) text start i next bs ms a cap h hi ht hb (.inr e)
    · have hk : keepMarks (some mb) ms next i bs.length = ms ++ [((bs.length : Int), (i : Int))] := by simp [keepMarks, e]
      rw [hk]
      obtain ⟨vm, hm⟩ := h.mks
      obtain ⟨a2, cap2, rfl⟩ := hm.row.form
      exact keep_mark w B mb text start i next bs ms a cap a2 cap2 h hm hi ht hb hml (by simpa using e)
theorem zzkeep_copied {f : Nat → Nat} {j : Nat} (w : World) (B : Nat) (mp : Option Nat) (text : ByteArray) (start : Nat) (i : Nat) (next : Int) (bs : List UInt8) (ms : List (Int × Int)) (vb : Value)
    (h : VB f j w B mp text start true bs next ms vb) (hi : i < text.size) (ht : text.size ≤ 2097152) (hb : bs.length ≤ 16777216) (hml : ms.length ≤ 16777216) :
    Calls Try.prog 30 #[.pointer (some ⟨B, 0, none⟩), .int .i64 (i : Int)] w fun r w' => r = .returned (.tuple #[]) ∧ ∃ f' vb', VB f' j w' B mp text start true (bs ++ [text[i]]) ((i : Int) + 1) (keepMarks mp ms next i bs.length) vb' ∧ Step f (Of j) w w' f' := by
  go_enter Try.func30, Try.ntmps30
  go_wp2_with fail
  refine (keep_copied w B mp text start i next bs ms vb h hi ht hb hml).mono ?_
  rintro r w' ⟨rfl, hv⟩
  go_wp2
  go_end0
  exact ⟨rfl, hv⟩

/-! ### len and String while the value is copied -/
theorem conv_row {f : Nat → Nat} {j : Nat} {w : World} {v : Value} {l : List UInt8} (h : Row f j w 5 1 v l.length (bcells l)) : (convert 31 9 v).run Try.prog w = .ok (.string ⟨l.toArray⟩) w := by
  rcases h.1.2 with ⟨rfl, hn⟩ | ⟨g, cap, cur, rfl, _⟩
  · have hl : l = [] := List.eq_nil_of_length_eq_zero hn
    subst hl
    exact run_convert_bytes_nil w 31 5 Try.underlying31 Try.underlying5 0 0 9 Try.underlying9
  · refine run_convert_bytes_back w 31 9 5 ⟨g, 0, none⟩ cap l Try.underlying31 Try.underlying5 Try.underlying9 fun k hk => ?_
    refine h.1.cells (g := g) rfl k _ ?_
    unfold bcells
    rw [List.getElem?_map, List.getElem?_eq_getElem hk]
    rfl
theorem str_copied {f : Nat → Nat} {j : Nat} (w : World) (B : Nat) (mp : Option Nat) (text : ByteArray) (start : Nat) (next : Int) (bs : List UInt8) (ms : List (Int × Int)) (vb : Value) (h : VB f j w B mp text start true bs next ms vb) :
    Calls Try.prog 43 #[.pointer (some ⟨B, 0, none⟩)] w fun r w' => r = .returned (.string ⟨bs.toArray⟩) ∧ w' = w := by
  obtain ⟨c0, c1, c2, c3, c4, c5, fz⟩ := h.fld.cells
  have hc := conv_row h.row
  obtain ⟨a, cap, rfl⟩ := h.row.form
  clear h fz
  go_enter Try.func43, Try.ntmps43
  go_wp2
  go_ret
  exact ⟨rfl, rfl⟩
theorem zzstr_copied {f : Nat → Nat} {j : Nat} (w : World) (B : Nat) (mp : Option Nat) (text : ByteArray) (start : Nat) (next : Int) (bs : List UInt8) (ms : List (Int × Int)) (vb : Value) (h : VB f j w B mp text start true bs next ms vb) :
    Calls Try.prog 31 #[.pointer (some ⟨B, 0, none⟩)] w fun r w' => r = .returned (.string ⟨bs.toArray⟩) ∧ w' = w := by
  go_enter Try.func31, Try.ntmps31
  go_wp2_with fail
  refine (str_copied w B mp text start next bs ms vb h).mono ?_
  rintro r w' ⟨rfl, rfl⟩
  go_wp2
  go_ret
  exact ⟨rfl, rfl⟩
theorem zzlen_copied {f : Nat → Nat} {j : Nat} (w : World) (B : Nat) (mp : Option Nat) (text : ByteArray) (start : Nat) (next : Int) (bs : List UInt8) (ms : List (Int × Int)) (vb : Value) (h : VB f j w B mp text start true bs next ms vb) :
    Calls Try.prog 32 #[.pointer (some ⟨B, 0, none⟩)] w fun r w' => r = .returned (.int .i64 (bs.length : Int)) ∧ w' = w := by
  obtain ⟨c0, c1, c2, c3, c4, c5, fz⟩ := h.fld.cells
  obtain ⟨a, cap, rfl⟩ := h.row.form
  go_enter Try.func32, Try.ntmps32
  go_wp2_with fail
  refine (len_cells w B a bs.length cap c2 c3).mono ?_
  rintro r w' ⟨rfl, rfl⟩
  go_wp2
  go_ret
  exact ⟨rfl, rfl⟩
end Go.Proofs.Qxb6003380a.Vb
