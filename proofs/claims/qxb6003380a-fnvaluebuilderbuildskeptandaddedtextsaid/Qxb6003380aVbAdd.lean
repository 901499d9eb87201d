/- add: every builder. -/
import Derived.Test.Qxb6003380aVbWalks
import Derived.WalkSpells
import Derived.Deep.DrawnRows
import Derived.Deep.RegionLaw
import Derived.Deep.Cut
namespace Go.Proofs.Qxb6003380a.Vb
open Go Go.ChangeShapes Go.WideShapes Go.ChangeAt Go.RowKit
set_option linter.unusedVariables false
attribute [local go_sem ↓] Go.wp_at_zero Go.wp_at_succ

theorem at_of2 {a : Option Addr} {n m cap cap' gg H : Nat} (h : (Value.slice a n cap).ownBlock = some gg ∨ gg = H) : (Value.slice (some ⟨gg, 0, none⟩) m cap').ownBlock = (Value.slice a n cap).ownBlock ∨ (Value.slice (some ⟨gg, 0, none⟩) m cap').ownBlock = some H := by
  rcases h with h | h
  · exact .inl h.symm
  · exact .inr (by rw [h]; rfl)
/-- a builder that has copied the bytes bs, some steps on -/
def Got (f : Nat → Nat) (j : Nat) (w wc : World) (B : Nat) (mp : Option Nat) (text : ByteArray) (start : Nat) (bs : List UInt8) (next : Int) (ms : List (Int × Int)) : Prop :=
  ∃ f' vb, VB f' j wc B mp text start true bs next ms vb ∧ Step f (Of j) w wc f'
def addMarks (mp : Option Nat) (ms : List (Int × Int)) (n : Nat) (i : Int) : List (Int × Int) :=
  match mp with
  | none => ms
  | some _ => ms ++ [((n : Int), i)]


set_option maxHeartbeats 6400000 in
set_option maxRecDepth 100000 in
theorem add_any {f : Nat → Nat} {j : Nat} (w : World) (B : Nat) (mp : Option Nat) (text : ByteArray) (start n : Nat) (copied : Bool) (next : Int) (bs bs0 : List UInt8) (ms : List (Int × Int)) (vb : Value) (i : Int) (s : ByteArray)
    (h : VB f j w B mp text start copied bs next ms vb) (h1 : copied = true → bs0 = bs) (h2 : copied = false → vb = .slice none 0 0 ∧ bs = [] ∧ next = n ∧ bs0 = (text.extract start n).data.toList ∧ start ≤ n ∧ n ≤ text.size)
    (ht : text.size ≤ 2097152) (hs : s.size ≤ 2097152) (hb : bs0.length ≤ 16777216) (hml : ms.length ≤ 16777216) :
    Calls Try.prog 45 #[.pointer (some ⟨B, 0, none⟩), .int .i64 i, .string s] w fun r w' => r = .returned (.tuple #[]) ∧ Got f j w w' B mp text start (bs0 ++ s.data.toList) (-1) (addMarks mp ms bs0.length i) := by
  obtain ⟨i0, hi0, hz0, hz1, hz2⟩ := info_parts info5
  obtain ⟨k0, hk0, hy0, hy1, hy2⟩ := info_parts info38
  obtain ⟨c0, c1, c2, c3, c4, c5, fz⟩ := h.fld.cells
  have fz2 := fz 2
  have fz3 := fz 3
  have H1 : Hid _ := h1
  have H2 : Hid _ := h2
  have HV : Hid _ := h
  clear h fz h1 h2
  go_enter Try.func45, Try.ntmps45
  go_upto_if 10 with fail
  go_cut [] from 6 (fun wc => Got f j w wc B mp text start bs0 next ms)
  case first =>
    cases copied with
    | true =>
      go_wp2
      go_meet
      case rel => exact ⟨f, vb, by rw [H1.out trivial]; exact HV.out, Step.refl _ _ _⟩
    | false =>
      obtain ⟨rfl, rfl, rfl, hb0, hsn, hnt⟩ := H2.out rfl
      have HB0 : Hid _ := hb0
      clear hb0
      have q1 : (start : Int) ≤ (n : Int) := by omega
      have q2 : (n : Int) ≤ (text.size : Int) := by omega
      have q3 : (0 : Int) ≤ (start : Int) := by omega
      go_wp2_with fail
      go_region_law ((refine step_append_string_lies _ (by rfl) _ _ _ _ (by rfl) 5 i0 Try.underlying31 Try.underlying9 hi0 hz0 hz1 hz2 _ 0 [] (by rfl) (World.ownsRow_nil _ _ _ _) (text.extract start n) (by rfl) (by simp; omega) ?_; intro aa cap' w1; generalize hN : 0 + (text.extract start n).size = N; intro hown1 hgrow hat; have HN : Hid _ := hN; clear hN; obtain ⟨d0, d1, d2, d3, d4, d5, dz⟩ := (HV.out.drew.1.mid hgrow).cells; have dz2 := dz 2; have dz3 := dz 3; clear dz; have hgrow' : Hid _ := hgrow; have hown1' : Hid _ := hown1; have hat' : Hid _ := hat; clear hgrow hown1 hat))
      all_goals
        go_wp2
        go_meet
        case rel =>
          obtain ⟨v1, s1⟩ := HV.out.drew
          obtain ⟨v2, s2⟩ := v1.bytes (bs' := (text.extract start n).data.toList) (by rw [show (text.extract start n).data.toList.length = N by rw [← HN.out, Nat.zero_add]; rfl]; exact hown1'.out) hgrow'.out hat'.out
          obtain ⟨v3, s3⟩ := v2.set3 true
          exact ⟨_, _, by rw [HB0.out]; exact v3, (s1.trans s2).trans s3⟩
  case rest =>
    obtain ⟨f1, vb1, hv1, hs1⟩ := hcut
    obtain ⟨a, cap, rfl⟩ := hv1.row.form
    clear HV H1 H2 c0 c1 c2 c3 c4 c5 fz2 fz3
    obtain ⟨c0, c1, c2, c3, c4, c5, fz⟩ := hv1.fld.cells
    have HV : Hid _ := hv1
    have HS : Hid _ := hs1
    clear hv1 hs1 fz
    cases mp with
    | none =>
      clear c0 c1 c2 c3 c4 c5
      obtain ⟨c0, c1, c2, c3, c4, c5, fz⟩ := HV.out.fld.cells
      have hrow := HV.out.row.1
      clear fz
      simp only [mptr, Option.map_none] at c5
      go_wp2_with (at_builtin; refine wpList_append_string_lies _ rfl _ _ _ _ rfl 5 i0 Try.underlying31 Try.underlying9 hi0 hz0 hz1 hz2 _ _ _ rfl hrow s rfl (by omega) ?_)
      intro aa cap' w1 hown1 hgrow hat
      obtain ⟨d0, d1, d2, d3, d4, d5, dz⟩ := (HV.out.mid hgrow).cells
      have dz2 := dz 2
      have dz4 := dz 4
      clear dz
      have hgrow' : Hid _ := hgrow
      have hown1' : Hid _ := hown1
      have hat' : Hid _ := hat
      clear hgrow hown1 hat
      go_wp2
      go_end0
      refine ⟨rfl, ?_⟩
      obtain ⟨v2, s2⟩ := HV.out.bytes (bs' := bs0 ++ s.data.toList) (by rw [bcells_append, List.length_append]; exact hown1'.out) hgrow'.out hat'.out
      obtain ⟨v3, s3⟩ := v2.set4 (-1)
      exact ⟨_, _, v3, HS.out.trans (s2.trans s3)⟩
    | some mb =>
      simp only [mptr, Option.map_some] at c5
      obtain ⟨vm, hm⟩ := HV.out.mks
      obtain ⟨a2, cap2, rfl⟩ := hm.row.form
      have cm := cell_blk hm.blk 0
      have fm := frozen_blk hm.blk 0
      simp at cm
      have hmrow := hm.row.1
      have hneB : some B ≠ (Value.slice a2 ms.length cap2).ownBlock := fun e => by have := hm.row.2 B e.symm; rw [HV.out.fld.own] at this; omega
      have hlt := HV.out.fld.lt
      have hltm := lt_of_blk hm.blk
      have HM : Hid _ := hm
      clear hm
      go_upto_region 4 with fail
      go_cut [] from 6 (fun wd => Got f1 j wc wd B (some mb) text start bs0 next (addMarks (some mb) ms bs0.length i))
      case first =>
        go_region_law ((refine step_append_lies _ (by rfl) _ _ _ (by rfl) 0 38 k0 _ 2 16 Try.underlying32 hk0 hy0 hy1 hy2 rfl (by omega) _ _ _ (by rfl) ((hmrow.alloc _).drew) ⟨wc.heap.size, 0, none⟩ 1 1 [.int .i64 (bs0.length : Int), .int .i64 i] (by rfl) (by rfl) (World.news_of_block (cs := #[.int .i64 (bs0.length : Int), .int .i64 i]) (t := 38) (fr := (0, 0)) (Go.heap_alloc_new wc _)) (two_one _ _) (by omega) (by unfold maxLen; omega) (by omega) (Nat.zero_le _) (wc.heap.size + 1) (by simp) ?_; intro gg cap' w1 hown1 hgrow hat hlt1; have hmm := ((HM.out.step ((((Step.refl f1 (fun _ => False) wc).alloc (.cells #[.int .i64 (bs0.length : Int), .int .i64 i] 38)).drew)) (fun h => h) (fun h => h)).at hgrow); have d0 := cell_blk hmm 0; have dz0 := frozen_blk hmm 0; simp at d0; have d5 : w1.cell? ⟨B, 5, none⟩ = some (.pointer (some ⟨mb, 0, none⟩)) := (hgrow.cell_far ⟨B, 5, none⟩ (by simp; omega) hneB).trans (by simp [c5, World.cell?_alloc_some]); have hgrow' : Hid _ := hgrow; have hown1' : Hid _ := hown1; clear hgrow hown1 hmm))
        all_goals
          go_wp2
          go_meet
          case rel =>
            obtain ⟨v1, s1⟩ := HV.out.later (.cells #[.int .i64 (bs0.length : Int), .int .i64 i] 38)
            have m1 := HM.out.step ((((Step.refl f1 (fun _ => False) wc).alloc (.cells #[.int .i64 (bs0.length : Int), .int .i64 i] 38)).drew)) (fun h => h) (fun h => h)
            obtain ⟨v2, s2⟩ := v1.mark m1 hown1'.out hgrow'.out (at_of2 (by simpa using hat))
            exact ⟨_, _, v2, s1.trans s2⟩
      case rest =>
        obtain ⟨f2, vb2, hv2, hs2⟩ := hcut
        obtain ⟨a3, cap3, rfl⟩ := hv2.row.form
        clear c0 c1 c2 c3 c4 c5 HV HM cm fm hmrow hneB hlt hltm
        have HV : Hid _ := hv2
        have HS2 : Hid _ := hs2
        clear hv2 hs2
        obtain ⟨c0, c1, c2, c3, c4, c5, fz⟩ := HV.out.fld.cells
        have hrow := HV.out.row.1
        clear fz
        simp only [mptr, Option.map_some] at c5
        go_wp2_with (at_builtin; refine wpList_append_string_lies _ rfl _ _ _ _ rfl 5 i0 Try.underlying31 Try.underlying9 hi0 hz0 hz1 hz2 _ _ _ rfl hrow s rfl (by omega) ?_)
        intro aa cap' w1 hown1 hgrow hat
        obtain ⟨d0, d1, d2, d3, d4, d5, dz⟩ := (HV.out.mid hgrow).cells
        have dz2 := dz 2
        have dz4 := dz 4
        clear dz
        have hgrow' : Hid _ := hgrow
        have hown1' : Hid _ := hown1
        have hat' : Hid _ := hat
        clear hgrow hown1 hat
        go_wp2
        go_end0
        refine ⟨rfl, ?_⟩
        obtain ⟨v2, s2⟩ := HV.out.bytes (bs' := bs0 ++ s.data.toList) (by rw [bcells_append, List.length_append]; exact hown1'.out) hgrow'.out hat'.out
        obtain ⟨v3, s3⟩ := v2.set4 (-1)
        exact ⟨_, _, v3, (HS.out.trans HS2.out).trans (s2.trans s3)⟩

theorem zzadd_any {f : Nat → Nat} {j : Nat} (w : World) (B : Nat) (mp : Option Nat) (text : ByteArray) (start n : Nat) (copied : Bool) (next : Int) (bs bs0 : List UInt8) (ms : List (Int × Int)) (vb : Value) (i : Int) (s : ByteArray)
    (h : VB f j w B mp text start copied bs next ms vb) (h1 : copied = true → bs0 = bs) (h2 : copied = false → vb = .slice none 0 0 ∧ bs = [] ∧ next = n ∧ bs0 = (text.extract start n).data.toList ∧ start ≤ n ∧ n ≤ text.size)
    (ht : text.size ≤ 2097152) (hs : s.size ≤ 2097152) (hb : bs0.length ≤ 16777216) (hml : ms.length ≤ 16777216) :
    Calls Try.prog 35 #[.pointer (some ⟨B, 0, none⟩), .int .i64 i, .string s] w fun r w' => r = .returned (.tuple #[]) ∧ Got f j w w' B mp text start (bs0 ++ s.data.toList) (-1) (addMarks mp ms bs0.length i) := by
  go_enter Try.func35, Try.ntmps35
  go_wp2_with fail
  refine (add_any w B mp text start n copied next bs bs0 ms vb i s h h1 h2 ht hs hb hml).mono ?_
  rintro r w' ⟨rfl, hv⟩
  go_wp2
  go_end0
  exact ⟨rfl, hv⟩
end Go.Proofs.Qxb6003380a.Vb
