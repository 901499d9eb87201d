/- RunBuilder: the value, its length and the marks. -/
import Derived.Test.Qxb6003380aScObj
import Derived.Test.Qxb6003380aKbPlain
import Derived.Test.Qxb6003380aKbClone
namespace Go.Proofs.Qxb6003380a.Kb
open Go Go.RowKit Vb Sc
set_option linter.unusedVariables false

/-- the marks' variable of a run without marks -/
def MV (f : Nat → Nat) (wr : World) (mb : Nat) (mp : Option Nat) : Prop := mp = none → wr.heap[mb]? = some (.cells #[.slice none 0 0] 32 (0, 0)) ∧ f mb = 50
theorem MV.step {f f' : Nat → Nat} {wr w' : World} {mb : Nat} {mp : Option Nat} (h : MV f wr mb mp) (s : Step f (Of 10) wr w' f') : MV f' w' mb mp := fun e => by
  obtain ⟨h1, h2⟩ := h e
  have hl := lt_of_blk h1
  exact ⟨(s.block mb hl (by rw [h2]; unfold Of; omega)).trans h1, (s.own mb hl).trans h2⟩
/-- the builder while the k bytes are kept -/
def K1 (w0 : World) (wr : World) (B mb : Nat) (mp : Option Nat) (text : ByteArray) (start i : Nat) : Prop :=
  ∃ f, BS f 10 wr B mp text start false (text.extract start (start + i)).data.toList ((start + i : Nat) : Int) [(0, (start : Int))] ∧ MV f wr mb mp ∧ Step (fun _ => 0) (fun k => 10 ≤ k) w0 wr f
/-- the builder behind the adds -/
def K2 (w0 : World) (wr : World) (B mb : Nat) (mp : Option Nat) (text : ByteArray) (start k : Nat) (want : List UInt8) (j : Nat) : Prop :=
  ∃ f cp nx ms, BS f 10 wr B mp text start cp want nx ms ∧ (cp = false → j = 0 ∧ want = (text.extract start (start + k)).data.toList ∧ nx = ((start + k : Nat) : Int)) ∧ MR start want.length ms ∧ ms.length ≤ j + 1 ∧ MV f wr mb mp ∧ Step (fun _ => 0) (fun k => 10 ≤ k) w0 wr f
theorem of10 : ∀ i, Of 10 i → 10 ≤ i := fun i hi => by unfold Of at hi; omega

theorem K1.keep {w0 wr : World} {B mb : Nat} {mp : Option Nat} {text : ByteArray} {start i : Nat} (h : K1 w0 wr B mb mp text start i) (hi : start + i < text.size) (ht : text.size ≤ 1048576) :
    Calls Try.prog 30 #[.pointer (some ⟨B, 0, none⟩), .int .i64 ((start : Int) + (i : Int))] wr fun r w' => r = .returned (.tuple #[]) ∧ K1 w0 w' B mb mp text start (i + 1) := by
  obtain ⟨f, h1, hv, h2⟩ := h
  have hl : (text.extract start (start + i)).data.toList.length ≤ 16777216 := by
    show (text.extract start (start + i)).size ≤ 16777216
    simp; omega
  have e : ((start : Int) + (i : Int)) = ((start + i : Nat) : Int) := by omega
  rw [e]
  refine (h1.keep (start + i) hi (fun _ => rfl) (by omega) hl (by simp)).mono ?_
  rintro r w' ⟨rfl, f', hb, hs⟩
  refine ⟨rfl, f', ?_, hv.step hs, h2.trans (hs.mono of10)⟩
  have e1 : keepM [(0, (start : Int))] ((start + i : Nat) : Int) (start + i) (text.extract start (start + i)).data.toList.length = [(0, (start : Int))] := by simp [keepM]
  rw [e1, ← extract_succ hi (by omega)] at hb
  exact hb
theorem K1.k2 {w0 wr : World} {B mb : Nat} {mp : Option Nat} {text : ByteArray} {start k : Nat} (h : K1 w0 wr B mb mp text start k) : K2 w0 wr B mb mp text start k (text.extract start (start + k)).data.toList 0 := by
  obtain ⟨f, h1, hv, h2⟩ := h
  exact ⟨f, false, _, _, h1, fun _ => ⟨rfl, rfl, rfl⟩, (MR.one start).grow (Nat.zero_le _), by simp, hv, h2⟩
theorem K2.add {w0 wr : World} {B mb : Nat} {mp : Option Nat} {text : ByteArray} {start k : Nat} {want : List UInt8} {j : Nat} (h : K2 w0 wr B mb mp text start k want j) (s : ByteArray) (hk : start + k ≤ text.size) (ht : text.size ≤ 1048576) (hs : s.size ≤ 2097152) (hw : want.length ≤ 4194304) (hj : j ≤ 2097152) :
    Calls Try.prog 35 #[.pointer (some ⟨B, 0, none⟩), .int .i64 ((start : Int) + (k : Int)), .string s] wr fun r w' => r = .returned (.tuple #[]) ∧ K2 w0 w' B mb mp text start k (want ++ s.data.toList) (j + 1) := by
  obtain ⟨f, cp, nx, ms, h1, h2, h3, h4, hv, h5⟩ := h
  have e : ((start : Int) + (k : Int)) = ((start + k : Nat) : Int) := by omega
  rw [e]
  refine (h1.add (start + k) (start + k) s (fun hc => (h2 hc).2) (fun _ => ⟨by omega, hk⟩) (by omega) hs (by omega) (by omega)).mono ?_
  rintro r w' ⟨rfl, f', hb, hst⟩
  exact ⟨rfl, f', true, -1, _, hb, fun hc => absurd hc (by simp), (h3.push _).grow (by simp), by simp; omega, hv.step hst, h5.trans (hst.mono of10)⟩
theorem K2.keep {w0 wr : World} {B mb : Nat} {mp : Option Nat} {text : ByteArray} {start k : Nat} {want : List UInt8} {j : Nat} (h : K2 w0 wr B mb mp text start k want (j + 1)) (i : Nat) (hi : i < text.size) (ht : text.size ≤ 1048576) (hw : want.length ≤ 4194304) (hj : j ≤ 2097152) :
    Calls Try.prog 30 #[.pointer (some ⟨B, 0, none⟩), .int .i64 (i : Int)] wr fun r w' => r = .returned (.tuple #[]) ∧ K2 w0 w' B mb mp text start k (want ++ [byteAt text i]) (j + 2) := by
  obtain ⟨f, cp, nx, ms, h1, h2, h3, h4, hv, h5⟩ := h
  refine (h1.keep i hi (fun hc => absurd (h2 hc).1 (by omega)) (by omega) (by omega) (by omega)).mono ?_
  rintro r w' ⟨rfl, f', hb, hst⟩
  have hl := keepM_len ms nx i want.length
  rw [byteAt_eq hi]
  exact ⟨rfl, f', cp, _, _, hb, fun hc => absurd (h2 hc).1 (by omega), (h3.keep nx i).grow (by simp), by omega, hv.step hst, h5.trans (hst.mono of10)⟩

/-- slices that are only read -/
def Strs (w : World) (a : Option Addr) (l : List ByteArray) : Prop := ∀ j, j < l.length → ∃ g, a = some ⟨g, 0, none⟩ ∧ w.cell? ⟨g, j, none⟩ = some (.string (strAt l j))
def Nats (w : World) (a : Option Addr) (l : List Nat) : Prop := ∀ j, j < l.length → ∃ g, a = some ⟨g, 0, none⟩ ∧ w.cell? ⟨g, j, none⟩ = some (.int .i64 (natAt l j : Int))
theorem Strs.later {w wx : World} {a : Option Addr} {l : List ByteArray} (h : Strs w a l) (hb : Below w.heap.size w wx) : Strs wx a l := fun j hj => by
  obtain ⟨g, e, hc⟩ := h j hj
  exact ⟨g, e, (hb.cell (World.block_lt_of_cell? _ _ hc)).trans hc⟩
theorem Nats.later {w wx : World} {a : Option Addr} {l : List Nat} (h : Nats w a l) (hb : Below w.heap.size w wx) : Nats wx a l := fun j hj => by
  obtain ⟨g, e, hc⟩ := h j hj
  exact ⟨g, e, (hb.cell (World.block_lt_of_cell? _ _ hc)).trans hc⟩
theorem K2.below {w0 wr : World} {B mb : Nat} {mp : Option Nat} {text : ByteArray} {start k : Nat} {want : List UInt8} {j : Nat} (h : K2 w0 wr B mb mp text start k want j) : Below w0.heap.size w0 wr := by
  obtain ⟨f, cp, nx, ms, h1, h2, h3, h4, hv, h5⟩ := h
  exact h5.below (fun _ _ => rfl) (by omega)

/-- what RunBuilder hands back -/
def Ran (w0 w' : World) (r : Ending) (start : Nat) (want : List UInt8) (b : Bool) : Prop :=
  ∃ vm, r = .returned (.tuple #[.string ⟨want.toArray⟩, .int .i64 (want.length : Int), vm]) ∧ Below w0.heap.size w0 w' ∧ (b = true → ∃ ms, MR start want.length ms ∧ w'.ownsRow 0 38 2 vm ms.length (mcells ms) ∧ ms.length ≤ 1048576)
/-- behind the last keep: what the last statement reads -/
theorem K2.ends {w0 wr : World} {B mb : Nat} {mp : Option Nat} {text : ByteArray} {start k : Nat} {want : List UInt8} {j : Nat} (h : K2 w0 wr B mb mp text start k want j) (hmp : mp = none ∨ mp = some mb) (hk : start + k ≤ text.size) (ht : text.size ≤ 1048576) (hj : j ≤ 1000000) :
    (∀ n, Calls Try.prog 31 #[.pointer (some ⟨B, 0, none⟩)] (wr.drewN n) fun r w' => r = .returned (.string ⟨want.toArray⟩) ∧ ∃ m, w' = (wr.drewN n).drewN m) ∧
    (∀ n, Calls Try.prog 32 #[.pointer (some ⟨B, 0, none⟩)] (wr.drewN n) fun r w' => r = .returned (.int .i64 (want.length : Int)) ∧ ∃ m, w' = (wr.drewN n).drewN m) ∧
    ∃ a n cap, wr.cell? ⟨mb, 0, none⟩ = some (.slice a n cap) ∧ (mp = some mb → ∃ ms, MR start want.length ms ∧ wr.ownsRow 0 38 2 (.slice a n cap) ms.length (mcells ms) ∧ ms.length ≤ 1048576) := by
  obtain ⟨f, cp, nx, ms, h1, h2, h3, h4, hv, h5⟩ := h
  refine ⟨fun n => (h1.drewN n).str (start + k) (fun hc => (h2 hc).2) (by omega) hk (by omega), fun n => (h1.drewN n).len (start + k) (fun hc => (h2 hc).2) (by omega) hk (by omega), ?_⟩
  rcases hmp with rfl | rfl
  · obtain ⟨e1, _⟩ := hv rfl
    exact ⟨none, 0, 0, by rw [cell_blk e1]; rfl, fun h => by cases h⟩
  · obtain ⟨vb, hvb, -⟩ := h1
    obtain ⟨vm, hm⟩ := hvb.mks
    obtain ⟨a, cap, rfl⟩ := hm.row.form
    exact ⟨a, _, cap, by rw [cell_blk hm.blk]; rfl, fun _ => ⟨ms, h3, hm.row.1, by omega⟩⟩

def want3 (text : ByteArray) (start k : Nat) (adds : List ByteArray) (keeps : List Nat) : List UInt8 :=
  if adds.length = 0 then (text.extract start (start + k)).data.toList else W3 text (W2 text (text.extract start (start + k)).data.toList adds keeps adds.length) keeps adds.length (keeps.length - adds.length)

set_option maxHeartbeats 4000000 in
set_option maxRecDepth 100000 in
theorem run_any (text : ByteArray) (start k : Nat) (adds : List ByteArray) (keeps : List Nat) (aa ka : Option Addr) (ca ck : Nat) (b : Bool) (w : World)
    (hA : Strs w aa adds) (hK : Nats w ka keeps)
    (ht : text.size ≤ 1048576) (hs : start ≤ text.size) (hk : k ≤ text.size - start) (hkb : ∀ j, j < keeps.length → natAt keeps j < text.size) (hn : adds.length ≤ 65536) (hm : keeps.length ≤ 131072) (hsum : sumLen adds adds.length ≤ 1048576) :
    Calls Try.prog 16 #[.string text, .int .i64 (start : Int), .int .i64 (k : Int), .slice aa adds.length ca, .slice ka keeps.length ck, .bool b] w fun r w' => Ran w w' r start (want3 text start k adds keeps) b := by
  have HA : Hid (Strs w aa adds) := hA
  have HK : Hid (Nats w ka keeps) := hK
  have HKB : Hid _ := hkb
  have HSUM : Hid _ := hsum
  clear hA hK hkb hsum
  have hrest : ∀ (W : World) (B : Nat) (mp : Option Nat), (mp = none ∨ mp = some w.heap.size) → (b = true → mp = some w.heap.size) → K1 w W B w.heap.size mp text start 0 → True := fun _ _ _ _ _ _ => trivial
  clear hrest
  cases b with
  | true =>
    have hM : Marks (ext (fun _ => 0) w.heap.size 12) 12 (w.alloc (.cells #[.slice none 0 0] 32)) w.heap.size (.slice none 0 0) [] :=
      ⟨Go.heap_alloc_new w _, ext_new (Nat.le_refl _), Row.nil _ _ _ _ _⟩
    have hS : Step (fun _ => 0) (fun k => 10 ≤ k) w (w.alloc (.cells #[.slice none 0 0] 32)) (ext (fun _ => 0) w.heap.size 12) :=
      ((Step.refl (fun _ => 0) (fun k => 10 ≤ k) w).alloc _).extend 12
    go_enter Try.func16, Try.ntmps16
    go_wp2_with fail
    refine (zznew_marks (j := 10) _ _ text start (by omega) hM).mono ?_
    rintro r w1 ⟨B, f1, rfl, hv1, hs1⟩
    have hK1 : K1 w w1 B w.heap.size (some w.heap.size) text start 0 := ⟨f1, ⟨_, hv1, fun _ => rfl⟩, fun h => absurd h (by simp), hS.trans (hs1.mono of10)⟩
    clear hM hS hv1 hs1
    have H1 : Hid _ := hK1
    clear hK1
    go_wp2_with fail
    go_loopw [18] (fun t wr => ∃ i : Nat, i ≤ k ∧ t = .int .i64 (i : Int) ∧ K1 w wr B w.heap.size (some w.heap.size) text start i) (fun t _ => k - (intOf t).toNat)
    case atStart => exact ⟨0, Nat.zero_le _, rfl, H1.out⟩
    case round =>
      clear H1
      obtain ⟨i, hi, rfl, hk1⟩ := hrel
      by_cases hlt : i < k
      · go_wp2_with fail
        refine (K1.keep hk1 (by omega) ht).mono ?_
        rintro r w2 ⟨rfl, hk2⟩
        go_wp2
        go_roundw
        case rel => exact ⟨i + 1, by omega, by go_num, hk2⟩
        case measure => simp [intOf]; omega
      · have hik : i = k := by omega
        rw [hik] at hk1
        have H2 : Hid (K2 w wr B w.heap.size (some w.heap.size) text start k (W2 text (text.extract start (start + k)).data.toList adds keeps 0) 0) := hk1.k2
        clear hk1 hik
        go_wp2_with fail
        go_loopw [19] (fun t wr => ∃ j : Nat, j ≤ adds.length ∧ t = .int .i64 (j : Int) ∧ Hid (K2 w wr B w.heap.size (some w.heap.size) text start k (W2 text (text.extract start (start + k)).data.toList adds keeps j) (2 * j))) (fun t _ => adds.length - (intOf t).toNat)
        case atStart => exact ⟨0, Nat.zero_le _, rfl, H2.out⟩
        case round =>
          clear H2
          obtain ⟨j, hj, rfl, hk2⟩ := hrel
          have hb2 := hk2.out.below
          have hlw := W2_len text (text.extract start (start + k)).data.toList adds keeps j
          have hlb : (text.extract start (start + k)).data.toList.length ≤ 1048576 := by
            show (text.extract start (start + k)).size ≤ 1048576
            simp; omega
          have hsj := sumLen_mono adds j adds.length hj
          have hsm := HSUM.out
          by_cases hjl : j < adds.length
          · obtain ⟨g, rfl, hcg⟩ := (HA.out.later hb2) j hjl
            have hjn : (j : Int) < (adds.length : Int) := by omega
            have hss := sumLen_mono adds (j + 1) adds.length (by omega)
            have hsz : (strAt adds j).size ≤ 2097152 := by simp only [sumLen] at hss; omega
            have hlw2 := W2_sum_le text (text.extract start (start + k)).data.toList adds keeps j
            have HX : Hid ((W2 text (text.extract start (start + k)).data.toList adds keeps j).length + (strAt adds j).size ≤ 4194304) := show _ ≤ _ by omega
            have HY : Hid ((W2 text (text.extract start (start + k)).data.toList adds keeps j).length ≤ 4194304) := show _ ≤ _ by omega
            clear hlw hlb hsj hsm hss hlw2
            go_wp2_with fail
            refine (K2.add hk2.out (strAt adds j) (by omega) ht hsz HY.out (by omega)).mono ?_
            rintro r w2 ⟨rfl, hk3⟩
            have hb3 := hk3.below
            have hl3 : (W2 text (text.extract start (start + k)).data.toList adds keeps j ++ (strAt adds j).data.toList).length ≤ 4194304 := by rw [List.length_append, size_data]; exact HX.out
            have H3 : Hid _ := hk3
            have HL3 : Hid _ := hl3
            clear hk3 hl3 hk2
            by_cases hjk : j < keeps.length
            · obtain ⟨gk, rfl, hck⟩ := (HK.out.later hb3) j hjk
              have hjkn : (j : Int) < (keeps.length : Int) := by omega
              have hkt := HKB.out j hjk
              go_wp2_with fail
              refine (K2.keep (show K2 _ _ _ _ _ _ _ _ _ (2 * j + 1) from H3.out) (natAt keeps j) hkt ht HL3.out (by omega)).mono ?_
              rintro r w3 ⟨rfl, hk4⟩
              have H4 : Hid (K2 w w3 B w.heap.size (some w.heap.size) text start k (W2 text (text.extract start (start + k)).data.toList adds keeps (j + 1)) (2 * (j + 1))) := by
                have e : W2 text (text.extract start (start + k)).data.toList adds keeps (j + 1) = W2 text (text.extract start (start + k)).data.toList adds keeps j ++ (strAt adds j).data.toList ++ [byteAt text (natAt keeps j)] := by simp only [W2, if_pos hjk]
                rw [e]; exact hk4
              clear hk4 H3
              go_wp2
              go_roundw
              case rel => exact ⟨j + 1, by omega, by go_num, H4⟩
              case measure => simp [intOf]; omega
            · have hjkn : ¬ (j : Int) < (keeps.length : Int) := by omega
              have H4 : Hid (K2 w w2 B w.heap.size (some w.heap.size) text start k (W2 text (text.extract start (start + k)).data.toList adds keeps (j + 1)) (2 * (j + 1))) := by
                have e : W2 text (text.extract start (start + k)).data.toList adds keeps (j + 1) = W2 text (text.extract start (start + k)).data.toList adds keeps j ++ (strAt adds j).data.toList := by simp only [W2, if_neg hjk, List.append_nil]
                obtain ⟨f, cp, nx, ms, q1, q2, q3, q4, q5, q6⟩ := H3.out
                rw [e]; exact ⟨f, cp, nx, ms, q1, fun hc => absurd (q2 hc).1 (by omega), q3, by omega, q5, q6⟩
              clear H3
              go_wp2
              go_roundw
              case rel => exact ⟨j + 1, by omega, by go_num, H4⟩
              case measure => simp [intOf]; omega
          · have hjn : j = adds.length := by omega
            subst hjn
            by_cases h0 : adds.length = 0
            · have h0i : ¬ (0 : Int) < (adds.length : Int) := by omega
              have hw3 : Hid (want3 text start k adds keeps = W2 text (text.extract start (start + k)).data.toList adds keeps adds.length) := by
                show want3 _ _ _ _ _ = _
                unfold want3
                rw [if_pos h0, h0]
                rfl
              obtain ⟨e31, e32, a, n, cap, ec, em⟩ := hk2.out.ends (.inr rfl) (by omega) ht (by omega)
              have E31 : Hid _ := e31
              have E32 : Hid _ := e32
              have EM : Hid _ := em
              have HB : Hid _ := hb2
              clear e31 e32 em hk2 hlw hlb hsj hsm h0
              go_wp2_with fail
              go_quiet ((first | (go_at_call 31; exact Calls.quiet_of (E31.out _)) | (go_at_call 32; exact Calls.quiet_of (E32.out _))))
              go_wp2
              go_ret3
              refine ⟨_, by rw [hw3.out]; rfl, below_drewN HB.out _, fun hb => ?_⟩
              obtain ⟨ms, m1, m2, m3⟩ := EM.out (by first | rfl | trivial); exact ⟨ms, by rw [hw3.out]; exact m1, m2, m3⟩
            · have h0i : decide (0 < adds.length) = true := by simp; omega
              have h0n : 1 ≤ adds.length := by omega
              have hwb : (W2 text (text.extract start (start + k)).data.toList adds keeps adds.length).length ≤ 2162688 := by omega
              have H5 : Hid (K2 w wr B w.heap.size (some w.heap.size) text start k (W3 text (W2 text (text.extract start (start + k)).data.toList adds keeps adds.length) keeps adds.length 0) (2 * adds.length + 0)) := hk2.out
              have HWB : Hid _ := hwb
              clear hwb hk2 hlw hlb hsj hsm
              go_wp2_with fail
              go_loopw [20] (fun v wr => ∃ t : Nat, t ≤ keeps.length - adds.length ∧ v = .int .i64 ((adds.length : Int) + (t : Int)) ∧ Hid (K2 w wr B w.heap.size (some w.heap.size) text start k (W3 text (W2 text (text.extract start (start + k)).data.toList adds keeps adds.length) keeps adds.length t) (2 * adds.length + t))) (fun v _ => keeps.length - (intOf v).toNat)
              case atStart => exact ⟨0, Nat.zero_le _, by simp, H5.out⟩
              case round =>
                clear H5
                obtain ⟨t, ht3, rfl, hk5⟩ := hrel
                have hb5 := hk5.out.below
                by_cases htl : adds.length + t < keeps.length
                · obtain ⟨gk, rfl, hck⟩ := (HK.out.later hb5) (adds.length + t) htl
                  have htli : (adds.length : Int) + (t : Int) < (keeps.length : Int) := by omega
                  have hkt := HKB.out (adds.length + t) htl
                  have hl5 : (W3 text (W2 text (text.extract start (start + k)).data.toList adds keeps adds.length) keeps adds.length t).length ≤ 4194304 := by
                    rw [W3_len]; have := HWB.out; omega
                  have HL5 : Hid _ := hl5
                  have e2 : 2 * adds.length + t = (2 * adds.length + t - 1) + 1 := by omega
                  have hk6 : K2 w wr B w.heap.size (some w.heap.size) text start k (W3 text (W2 text (text.extract start (start + k)).data.toList adds keeps adds.length) keeps adds.length t) ((2 * adds.length + t - 1) + 1) := by rw [← e2]; exact hk5.out
                  have H6 : Hid _ := hk6
                  clear hl5 e2 hk6 hk5
                  go_wp2_with fail
                  refine (K2.keep (show K2 _ _ _ _ _ _ _ _ _ (2 * adds.length + t - 1 + 1) from H6.out) (natAt keeps (adds.length + t)) hkt ht HL5.out (by omega)).mono ?_
                  rintro r w3 ⟨rfl, hk7⟩
                  have H7 : Hid (K2 w w3 B w.heap.size (some w.heap.size) text start k (W3 text (W2 text (text.extract start (start + k)).data.toList adds keeps adds.length) keeps adds.length (t + 1)) (2 * adds.length + (t + 1))) := by
                    have e3 : 2 * adds.length + (t + 1) = 2 * adds.length + t - 1 + 2 := by omega
                    rw [e3]; exact hk7
                  clear hk7 H6
                  go_wp2
                  go_roundw
                  case rel => first | exact ⟨t + 1, by omega, by go_num, H7⟩ | ((repeat apply Exists.intro); refine ⟨⟨t + 1, by omega, ?_, H7⟩, rfl⟩; go_num)
                  case measure => simp [intOf]; omega
                · have htli : ¬ (adds.length : Int) + (t : Int) < (keeps.length : Int) := by omega
                  have ht4 : t = keeps.length - adds.length := by omega
                  have hw3 : Hid (want3 text start k adds keeps = W3 text (W2 text (text.extract start (start + k)).data.toList adds keeps adds.length) keeps adds.length t) := by
                    show want3 _ _ _ _ _ = _
                    unfold want3
                    rw [if_neg h0, ← ht4]
                  obtain ⟨e31, e32, a, n, cap, ec, em⟩ := hk5.out.ends (.inr rfl) (by omega) ht (by omega)
                  have E31 : Hid _ := e31
                  have E32 : Hid _ := e32
                  have EM : Hid _ := em
                  have HB : Hid _ := hb5
                  clear e31 e32 em hk5 ht4 h0
                  go_wp2_with fail
                  go_quiet ((first | (go_at_call 31; exact Calls.quiet_of (E31.out _)) | (go_at_call 32; exact Calls.quiet_of (E32.out _))))
                  go_wp2
                  go_ret3
                  refine ⟨_, by rw [hw3.out]; rfl, below_drewN HB.out _, fun hb => ?_⟩
                  obtain ⟨ms, m1, m2, m3⟩ := EM.out (by first | rfl | trivial); exact ⟨ms, by rw [hw3.out]; exact m1, m2, m3⟩
  | false =>
    have hS : Step (fun _ => 0) (fun k => 10 ≤ k) w (w.alloc (.cells #[.slice none 0 0] 32)) (ext (fun _ => 0) w.heap.size 50) :=
      ((Step.refl (fun _ => 0) (fun k => 10 ≤ k) w).alloc _).extend 50
    go_enter Try.func16, Try.ntmps16
    go_wp2_with fail
    refine (zznew_plain text start _ (by omega)).mono ?_
    rintro r w1 ⟨rfl, hw1⟩
    obtain ⟨hv1, hs1⟩ := VB.made (f0 := ext (fun _ => 0) w.heap.size 50) (f := ext (fun _ => 0) w.heap.size 50) (j := 10) (w := w.alloc (.cells #[.slice none 0 0] 32)) (W := w.alloc (.cells #[.slice none 0 0] 32)) (mp := none) (text := text) (start := start) (ms := []) rfl (Step.refl _ _ _) _ rfl
    rw [← hw1] at hv1 hs1
    have hmv : MV (ext (fun _ => 0) w.heap.size 50) (w.alloc (.cells #[.slice none 0 0] 32)) w.heap.size none := fun _ => ⟨Go.heap_alloc_new w _, ext_new (Nat.le_refl _)⟩
    obtain ⟨B, hB⟩ : ∃ B, B = (w.alloc (.cells #[.slice none 0 0] 32)).heap.size := ⟨_, rfl⟩
    have hK1 : K1 w w1 B w.heap.size none text start 0 := by
      rw [hB]
      exact ⟨_, ⟨_, hv1, fun _ => rfl⟩, hmv.step hs1, hS.trans (hs1.mono of10)⟩
    have hB2 : (w.alloc (.cells #[.slice none 0 0] 32)).heap.size = B := hB.symm
    rw [hB2]
    clear hS hv1 hs1 hw1 hmv hB hB2
    have H1 : Hid _ := hK1
    clear hK1
    go_wp2_with fail
    go_loopw [18] (fun t wr => ∃ i : Nat, i ≤ k ∧ t = .int .i64 (i : Int) ∧ K1 w wr B w.heap.size none text start i) (fun t _ => k - (intOf t).toNat)
    case atStart => exact ⟨0, Nat.zero_le _, rfl, H1.out⟩
    case round =>
      clear H1
      obtain ⟨i, hi, rfl, hk1⟩ := hrel
      by_cases hlt : i < k
      · go_wp2_with fail
        refine (K1.keep hk1 (by omega) ht).mono ?_
        rintro r w2 ⟨rfl, hk2⟩
        go_wp2
        go_roundw
        case rel => exact ⟨i + 1, by omega, by go_num, hk2⟩
        case measure => simp [intOf]; omega
      · have hik : i = k := by omega
        rw [hik] at hk1
        have H2 : Hid (K2 w wr B w.heap.size none text start k (W2 text (text.extract start (start + k)).data.toList adds keeps 0) 0) := hk1.k2
        clear hk1 hik
        go_wp2_with fail
        go_loopw [19] (fun t wr => ∃ j : Nat, j ≤ adds.length ∧ t = .int .i64 (j : Int) ∧ Hid (K2 w wr B w.heap.size none text start k (W2 text (text.extract start (start + k)).data.toList adds keeps j) (2 * j))) (fun t _ => adds.length - (intOf t).toNat)
        case atStart => exact ⟨0, Nat.zero_le _, rfl, H2.out⟩
        case round =>
          clear H2
          obtain ⟨j, hj, rfl, hk2⟩ := hrel
          have hb2 := hk2.out.below
          have hlw := W2_len text (text.extract start (start + k)).data.toList adds keeps j
          have hlb : (text.extract start (start + k)).data.toList.length ≤ 1048576 := by
            show (text.extract start (start + k)).size ≤ 1048576
            simp; omega
          have hsj := sumLen_mono adds j adds.length hj
          have hsm := HSUM.out
          by_cases hjl : j < adds.length
          · obtain ⟨g, rfl, hcg⟩ := (HA.out.later hb2) j hjl
            have hjn : (j : Int) < (adds.length : Int) := by omega
            have hss := sumLen_mono adds (j + 1) adds.length (by omega)
            have hsz : (strAt adds j).size ≤ 2097152 := by simp only [sumLen] at hss; omega
            have hlw2 := W2_sum_le text (text.extract start (start + k)).data.toList adds keeps j
            have HX : Hid ((W2 text (text.extract start (start + k)).data.toList adds keeps j).length + (strAt adds j).size ≤ 4194304) := show _ ≤ _ by omega
            have HY : Hid ((W2 text (text.extract start (start + k)).data.toList adds keeps j).length ≤ 4194304) := show _ ≤ _ by omega
            clear hlw hlb hsj hsm hss hlw2
            go_wp2_with fail
            refine (K2.add hk2.out (strAt adds j) (by omega) ht hsz HY.out (by omega)).mono ?_
            rintro r w2 ⟨rfl, hk3⟩
            have hb3 := hk3.below
            have hl3 : (W2 text (text.extract start (start + k)).data.toList adds keeps j ++ (strAt adds j).data.toList).length ≤ 4194304 := by rw [List.length_append, size_data]; exact HX.out
            have H3 : Hid _ := hk3
            have HL3 : Hid _ := hl3
            clear hk3 hl3 hk2
            by_cases hjk : j < keeps.length
            · obtain ⟨gk, rfl, hck⟩ := (HK.out.later hb3) j hjk
              have hjkn : (j : Int) < (keeps.length : Int) := by omega
              have hkt := HKB.out j hjk
              go_wp2_with fail
              refine (K2.keep (show K2 _ _ _ _ _ _ _ _ _ (2 * j + 1) from H3.out) (natAt keeps j) hkt ht HL3.out (by omega)).mono ?_
              rintro r w3 ⟨rfl, hk4⟩
              have H4 : Hid (K2 w w3 B w.heap.size none text start k (W2 text (text.extract start (start + k)).data.toList adds keeps (j + 1)) (2 * (j + 1))) := by
                have e : W2 text (text.extract start (start + k)).data.toList adds keeps (j + 1) = W2 text (text.extract start (start + k)).data.toList adds keeps j ++ (strAt adds j).data.toList ++ [byteAt text (natAt keeps j)] := by simp only [W2, if_pos hjk]
                rw [e]; exact hk4
              clear hk4 H3
              go_wp2
              go_roundw
              case rel => exact ⟨j + 1, by omega, by go_num, H4⟩
              case measure => simp [intOf]; omega
            · have hjkn : ¬ (j : Int) < (keeps.length : Int) := by omega
              have H4 : Hid (K2 w w2 B w.heap.size none text start k (W2 text (text.extract start (start + k)).data.toList adds keeps (j + 1)) (2 * (j + 1))) := by
                have e : W2 text (text.extract start (start + k)).data.toList adds keeps (j + 1) = W2 text (text.extract start (start + k)).data.toList adds keeps j ++ (strAt adds j).data.toList := by simp only [W2, if_neg hjk, List.append_nil]
                obtain ⟨f, cp, nx, ms, q1, q2, q3, q4, q5, q6⟩ := H3.out
                rw [e]; exact ⟨f, cp, nx, ms, q1, fun hc => absurd (q2 hc).1 (by omega), q3, by omega, q5, q6⟩
              clear H3
              go_wp2
              go_roundw
              case rel => exact ⟨j + 1, by omega, by go_num, H4⟩
              case measure => simp [intOf]; omega
          · have hjn : j = adds.length := by omega
            subst hjn
            by_cases h0 : adds.length = 0
            · have h0i : ¬ (0 : Int) < (adds.length : Int) := by omega
              have hw3 : Hid (want3 text start k adds keeps = W2 text (text.extract start (start + k)).data.toList adds keeps adds.length) := by
                show want3 _ _ _ _ _ = _
                unfold want3
                rw [if_pos h0, h0]
                rfl
              obtain ⟨e31, e32, a, n, cap, ec, em⟩ := hk2.out.ends (.inl rfl) (by omega) ht (by omega)
              have E31 : Hid _ := e31
              have E32 : Hid _ := e32
              have EM : Hid _ := em
              have HB : Hid _ := hb2
              clear e31 e32 em hk2 hlw hlb hsj hsm h0
              go_wp2_with fail
              go_quiet ((first | (go_at_call 31; exact Calls.quiet_of (E31.out _)) | (go_at_call 32; exact Calls.quiet_of (E32.out _))))
              go_wp2
              go_ret3
              refine ⟨_, by rw [hw3.out]; rfl, below_drewN HB.out _, fun hb => ?_⟩
              exact absurd hb (by simp)
            · have h0i : decide (0 < adds.length) = true := by simp; omega
              have h0n : 1 ≤ adds.length := by omega
              have hwb : (W2 text (text.extract start (start + k)).data.toList adds keeps adds.length).length ≤ 2162688 := by omega
              have H5 : Hid (K2 w wr B w.heap.size none text start k (W3 text (W2 text (text.extract start (start + k)).data.toList adds keeps adds.length) keeps adds.length 0) (2 * adds.length + 0)) := hk2.out
              have HWB : Hid _ := hwb
              clear hwb hk2 hlw hlb hsj hsm
              go_wp2_with fail
              go_loopw [20] (fun v wr => ∃ t : Nat, t ≤ keeps.length - adds.length ∧ v = .int .i64 ((adds.length : Int) + (t : Int)) ∧ Hid (K2 w wr B w.heap.size none text start k (W3 text (W2 text (text.extract start (start + k)).data.toList adds keeps adds.length) keeps adds.length t) (2 * adds.length + t))) (fun v _ => keeps.length - (intOf v).toNat)
              case atStart => exact ⟨0, Nat.zero_le _, by simp, H5.out⟩
              case round =>
                clear H5
                obtain ⟨t, ht3, rfl, hk5⟩ := hrel
                have hb5 := hk5.out.below
                by_cases htl : adds.length + t < keeps.length
                · obtain ⟨gk, rfl, hck⟩ := (HK.out.later hb5) (adds.length + t) htl
                  have htli : (adds.length : Int) + (t : Int) < (keeps.length : Int) := by omega
                  have hkt := HKB.out (adds.length + t) htl
                  have hl5 : (W3 text (W2 text (text.extract start (start + k)).data.toList adds keeps adds.length) keeps adds.length t).length ≤ 4194304 := by
                    rw [W3_len]; have := HWB.out; omega
                  have HL5 : Hid _ := hl5
                  have e2 : 2 * adds.length + t = (2 * adds.length + t - 1) + 1 := by omega
                  have hk6 : K2 w wr B w.heap.size none text start k (W3 text (W2 text (text.extract start (start + k)).data.toList adds keeps adds.length) keeps adds.length t) ((2 * adds.length + t - 1) + 1) := by rw [← e2]; exact hk5.out
                  have H6 : Hid _ := hk6
                  clear hl5 e2 hk6 hk5
                  go_wp2_with fail
                  refine (K2.keep (show K2 _ _ _ _ _ _ _ _ _ (2 * adds.length + t - 1 + 1) from H6.out) (natAt keeps (adds.length + t)) hkt ht HL5.out (by omega)).mono ?_
                  rintro r w3 ⟨rfl, hk7⟩
                  have H7 : Hid (K2 w w3 B w.heap.size none text start k (W3 text (W2 text (text.extract start (start + k)).data.toList adds keeps adds.length) keeps adds.length (t + 1)) (2 * adds.length + (t + 1))) := by
                    have e3 : 2 * adds.length + (t + 1) = 2 * adds.length + t - 1 + 2 := by omega
                    rw [e3]; exact hk7
                  clear hk7 H6
                  go_wp2
                  go_roundw
                  case rel => first | exact ⟨t + 1, by omega, by go_num, H7⟩ | ((repeat apply Exists.intro); refine ⟨⟨t + 1, by omega, ?_, H7⟩, rfl⟩; go_num)
                  case measure => simp [intOf]; omega
                · have htli : ¬ (adds.length : Int) + (t : Int) < (keeps.length : Int) := by omega
                  have ht4 : t = keeps.length - adds.length := by omega
                  have hw3 : Hid (want3 text start k adds keeps = W3 text (W2 text (text.extract start (start + k)).data.toList adds keeps adds.length) keeps adds.length t) := by
                    show want3 _ _ _ _ _ = _
                    unfold want3
                    rw [if_neg h0, ← ht4]
                  obtain ⟨e31, e32, a, n, cap, ec, em⟩ := hk5.out.ends (.inl rfl) (by omega) ht (by omega)
                  have E31 : Hid _ := e31
                  have E32 : Hid _ := e32
                  have EM : Hid _ := em
                  have HB : Hid _ := hb5
                  clear e31 e32 em hk5 ht4 h0
                  go_wp2_with fail
                  go_quiet ((first | (go_at_call 31; exact Calls.quiet_of (E31.out _)) | (go_at_call 32; exact Calls.quiet_of (E32.out _))))
                  go_wp2
                  go_ret3
                  refine ⟨_, by rw [hw3.out]; rfl, below_drewN HB.out _, fun hb => ?_⟩
                  exact absurd hb (by simp)
end Go.Proofs.Qxb6003380a.Kb
