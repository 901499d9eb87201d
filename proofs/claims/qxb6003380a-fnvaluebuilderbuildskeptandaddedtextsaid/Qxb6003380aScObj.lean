/- The two builders and the rows of the law on the script: what each step does to all of them. -/
import Derived.Test.Qxb6003380aVbKeep
import Derived.Test.Qxb6003380aVbAdd
import Derived.Test.Qxb6003380aScPlain
namespace Go.Proofs.Qxb6003380a.Sc
open Go Go.RowKit Vb
set_option linter.unusedVariables false

def icells (l : List Int) : List Value := l.map (Value.int .i64)
theorem icells_length (l : List Int) : (icells l).length = l.length := by simp [icells]
theorem icells_append (a b : List Int) : icells (a ++ b) = icells a ++ icells b := by simp [icells]
theorem icells_at {l : List Int} {k : Nat} (h : k < l.length) : (icells l)[k]? = some (.int .i64 (ig l k)) := by
  simp [icells, ig, List.getD_eq_getElem?_getD, List.getElem?_eq_getElem h]

def msOf (mp : Option Nat) (ms : List (Int × Int)) : List (Int × Int) :=
  match mp with
  | none => []
  | some _ => ms

/-- a builder whose value is want, copied (cp) or not -/
def BS (f : Nat → Nat) (j : Nat) (w : World) (B : Nat) (mp : Option Nat) (text : ByteArray) (start : Nat) (cp : Bool) (want : List UInt8) (nx : Int) (ms : List (Int × Int)) : Prop :=
  ∃ vb, VB f j w B mp text start cp (if cp = true then want else []) nx (msOf mp ms) vb ∧ (cp = false → vb = .slice none 0 0)
theorem BS.step {f f' : Nat → Nat} {J : Nat → Prop} {j : Nat} {w w' : World} {B : Nat} {mp : Option Nat} {text : ByteArray} {start : Nat} {cp : Bool} {want : List UInt8} {nx : Int} {ms : List (Int × Int)} (h : BS f j w B mp text start cp want nx ms) (s : Step f J w w' f') (hJ : ∀ i, Of j i → ¬ J i) : BS f' j w' B mp text start cp want nx ms := by
  obtain ⟨vb, h1, h2⟩ := h
  exact ⟨vb, h1.step s hJ, h2⟩

theorem BS.keep {f : Nat → Nat} {j : Nat} {w : World} {B : Nat} {mp : Option Nat} {text : ByteArray} {start : Nat} {cp : Bool} {want : List UInt8} {nx : Int} {ms : List (Int × Int)} (h : BS f j w B mp text start cp want nx ms) (i : Nat) (hi : i < text.size) (hp : cp = false → nx = i) (ht : text.size ≤ 2097152) (hb : want.length ≤ 16777216) (hml : ms.length ≤ 16777216) :
    Calls Try.prog 30 #[.pointer (some ⟨B, 0, none⟩), .int .i64 (i : Int)] w fun r w' => r = .returned (.tuple #[]) ∧ ∃ f', BS f' j w' B mp text start cp (want ++ [text[i]]) ((i : Int) + 1) (keepM ms nx i want.length) ∧ Step f (Of j) w w' f' := by
  obtain ⟨vb, h1, h2⟩ := h
  have hml' : (msOf mp ms).length ≤ 16777216 := by
    cases mp
    · simp [msOf]
    · exact hml
  cases cp with
  | false =>
    have hn := hp rfl
    subst hn
    refine (zzkeep_vb w B mp text start _ _ _ vb h1 (by omega) (by omega)).mono ?_
    rintro r w' ⟨rfl, hv, hs⟩
    refine ⟨rfl, f, ⟨vb, ?_, h2⟩, hs⟩
    have e : keepM ms (i : Int) i want.length = ms := by simp [keepM]
    rw [e]
    exact hv
  | true =>
    refine (zzkeep_copied w B mp text start i nx want (msOf mp ms) vb h1 hi ht hb hml').mono ?_
    rintro r w' ⟨rfl, f', vb', hv, hs⟩
    refine ⟨rfl, f', ⟨vb', ?_, fun h => by cases h⟩, hs⟩
    have e : keepMarks mp (msOf mp ms) nx i want.length = msOf mp (keepM ms nx i want.length) := by
      cases mp
      · rfl
      · simp [keepMarks, msOf, keepM]
    rw [← e]
    exact hv

theorem BS.add {f : Nat → Nat} {j : Nat} {w : World} {B : Nat} {mp : Option Nat} {text : ByteArray} {start : Nat} {cp : Bool} {want : List UInt8} {nx : Int} {ms : List (Int × Int)} (h : BS f j w B mp text start cp want nx ms) (i : Nat) (n : Nat) (s : ByteArray) (hp : cp = false → want = (text.extract start n).data.toList ∧ nx = n) (hsn : cp = false → start ≤ n ∧ n ≤ text.size) (ht : text.size ≤ 2097152) (hs : s.size ≤ 2097152) (hb : want.length ≤ 16777216) (hml : ms.length ≤ 16777216) :
    Calls Try.prog 35 #[.pointer (some ⟨B, 0, none⟩), .int .i64 (i : Int), .string s] w fun r w' => r = .returned (.tuple #[]) ∧ ∃ f', BS f' j w' B mp text start true (want ++ s.data.toList) (-1) (ms ++ [((want.length : Int), (i : Int))]) ∧ Step f (Of j) w w' f' := by
  obtain ⟨vb, h1, h2⟩ := h
  have hml' : (msOf mp ms).length ≤ 16777216 := by
    cases mp
    · simp [msOf]
    · exact hml
  refine (zzadd_any w B mp text start n cp nx _ want (msOf mp ms) vb (i : Int) s h1 (fun hc => by simp [hc]) (fun hc => ⟨h2 hc, by simp [hc], (hp hc).2, (hp hc).1, (hsn hc).1, (hsn hc).2⟩) ht hs hb hml').mono ?_
  rintro r w' ⟨rfl, f', vb', hv, hst⟩
  refine ⟨rfl, f', ⟨vb', ?_, fun h => by cases h⟩, hst⟩
  have e : addMarks mp (msOf mp ms) want.length (i : Int) = msOf mp (ms ++ [((want.length : Int), (i : Int))]) := by
    cases mp
    · rfl
    · rfl
  rw [← e]
  exact hv

theorem BS.str {f : Nat → Nat} {j : Nat} {w : World} {B : Nat} {mp : Option Nat} {text : ByteArray} {start : Nat} {cp : Bool} {want : List UInt8} {nx : Int} {ms : List (Int × Int)} (h : BS f j w B mp text start cp want nx ms) (i : Nat) (hp : cp = false → want = (text.extract start i).data.toList ∧ nx = i) (hsi : start ≤ i) (hi : i ≤ text.size) (ht : text.size ≤ 2097152) :
    Calls Try.prog 31 #[.pointer (some ⟨B, 0, none⟩)] w fun r w' => r = .returned (.string ⟨want.toArray⟩) ∧ ∃ n, w' = w.drewN n := by
  obtain ⟨vb, h1, h2⟩ := h
  cases cp with
  | false =>
    obtain ⟨rfl, rfl⟩ := hp rfl
    refine (zzstr_plain w B mp text start vb i h1.fld hsi hi ht).mono ?_
    rintro r w' ⟨rfl, n, rfl⟩
    exact ⟨rfl, n, rfl⟩
  | true =>
    refine (zzstr_copied w B mp text start nx want (msOf mp ms) vb h1).mono ?_
    rintro r w' ⟨rfl, rfl⟩
    exact ⟨rfl, 0, rfl⟩
theorem BS.len {f : Nat → Nat} {j : Nat} {w : World} {B : Nat} {mp : Option Nat} {text : ByteArray} {start : Nat} {cp : Bool} {want : List UInt8} {nx : Int} {ms : List (Int × Int)} (h : BS f j w B mp text start cp want nx ms) (i : Nat) (hp : cp = false → want = (text.extract start i).data.toList ∧ nx = i) (hsi : start ≤ i) (hi : i ≤ text.size) (ht : text.size ≤ 2097152) :
    Calls Try.prog 32 #[.pointer (some ⟨B, 0, none⟩)] w fun r w' => r = .returned (.int .i64 (want.length : Int)) ∧ ∃ n, w' = w.drewN n := by
  obtain ⟨vb, h1, h2⟩ := h
  cases cp with
  | false =>
    obtain ⟨rfl, rfl⟩ := hp rfl
    refine (zzlen_plain w B mp text start vb (i : Int) h1.fld (by omega) (by omega) (by omega)).mono ?_
    rintro r w' ⟨rfl, n, rfl⟩
    refine ⟨?_, n, rfl⟩
    have e : ((i : Int) - (start : Int)) = (((text.extract start i).data.toList.length : Nat) : Int) := by
      have : (text.extract start i).data.toList.length = i - start := by
        show (text.extract start i).size = i - start
        simp; omega
      omega
    rw [e]
  | true =>
    refine (zzlen_copied w B mp text start nx want (msOf mp ms) vb h1).mono ?_
    rintro r w' ⟨rfl, rfl⟩
    exact ⟨rfl, 0, rfl⟩
theorem BS.drewN {f : Nat → Nat} {j : Nat} {w : World} {B : Nat} {mp : Option Nat} {text : ByteArray} {start : Nat} {cp : Bool} {want : List UInt8} {nx : Int} {ms : List (Int × Int)} (h : BS f j w B mp text start cp want nx ms) (n : Nat) : BS f j (w.drewN n) B mp text start cp want nx ms :=
  h.step ((Step.refl f (fun _ => False) w).drewN n) (fun _ _ h => h)

/-! ### all objects -/
structure All (w0 : World) (f : Nat → Nat) (wr : World) (B1 B2 mb : Nat) (text : ByteArray) (start : Nat) (ov : Value) (ops : List UInt8) (cb : Bool) (wb : List UInt8) (nb : Int) (mkb : List (Int × Int)) (cq : Bool) (wq : List UInt8) (nq : Int) (mkq : List (Int × Int))
    (want : List UInt8) (src aA aF : List Int) (v12 v13 v14 v15 : Value) : Prop where
  b : BS f 10 wr B1 (some mb) text start cb wb nb mkb
  q : BS f 20 wr B2 none text start cq wq nq mkq
  r12 : Row f 30 wr 5 1 v12 want.length (bcells want)
  r13 : Row f 31 wr 3 1 v13 src.length (icells src)
  r14 : Row f 32 wr 3 1 v14 aA.length (icells aA)
  r15 : Row f 33 wr 3 1 v15 aF.length (icells aF)
  ro : Row f 40 wr 5 1 ov ops.length (bcells ops)
  st : Step (fun _ => 0) (fun k => 10 ≤ k) w0 wr f

section
variable {w0 : World} {f f' : Nat → Nat} {wr w' : World} {B1 B2 mb : Nat} {text : ByteArray} {start : Nat} {ov : Value} {ops : List UInt8} {cb : Bool} {wb : List UInt8} {nb : Int} {mkb : List (Int × Int)} {cq : Bool} {wq : List UInt8} {nq : Int} {mkq : List (Int × Int)}
    {want : List UInt8} {src aA aF : List Int} {v12 v13 v14 v15 : Value}

theorem All.quiet {J : Nat → Prop} (h : All w0 f wr B1 B2 mb text start ov ops cb wb nb mkb cq wq nq mkq want src aA aF v12 v13 v14 v15) (s : Step f J wr w' f') (hJ : ∀ i, J i → 34 = i) : All w0 f' w' B1 B2 mb text start ov ops cb wb nb mkb cq wq nq mkq want src aA aF v12 v13 v14 v15 :=
  ⟨h.b.step s (fun i hi hj => by have := hJ i hj; unfold Of at hi; omega), h.q.step s (fun i hi hj => by have := hJ i hj; unfold Of at hi; omega), h.r12.step s (fun hj => by have := hJ _ hj; omega), h.r13.step s (fun hj => by have := hJ _ hj; omega), h.r14.step s (fun hj => by have := hJ _ hj; omega), h.r15.step s (fun hj => by have := hJ _ hj; omega), h.ro.step s (fun hj => by have := hJ _ hj; omega),
    h.st.trans (s.mono (fun i hi => by have := hJ i hi; omega))⟩
theorem All.onB (h : All w0 f wr B1 B2 mb text start ov ops cb wb nb mkb cq wq nq mkq want src aA aF v12 v13 v14 v15) {cb' : Bool} {wb' : List UInt8} {nb' : Int} {mkb' : List (Int × Int)} (hb : BS f' 10 w' B1 (some mb) text start cb' wb' nb' mkb') (s : Step f (Of 10) wr w' f') : All w0 f' w' B1 B2 mb text start ov ops cb' wb' nb' mkb' cq wq nq mkq want src aA aF v12 v13 v14 v15 :=
  ⟨hb, h.q.step s (fun i hi hj => by unfold Of at hi hj; omega), h.r12.step s (fun hj => by unfold Of at hj; omega), h.r13.step s (fun hj => by unfold Of at hj; omega), h.r14.step s (fun hj => by unfold Of at hj; omega), h.r15.step s (fun hj => by unfold Of at hj; omega), h.ro.step s (fun hj => by unfold Of at hj; omega),
    h.st.trans (s.mono (fun i hi => by unfold Of at hi; omega))⟩
theorem All.onQ (h : All w0 f wr B1 B2 mb text start ov ops cb wb nb mkb cq wq nq mkq want src aA aF v12 v13 v14 v15) {cq' : Bool} {wq' : List UInt8} {nq' : Int} {mkq' : List (Int × Int)} (hq : BS f' 20 w' B2 none text start cq' wq' nq' mkq') (s : Step f (Of 20) wr w' f') : All w0 f' w' B1 B2 mb text start ov ops cb wb nb mkb cq' wq' nq' mkq' want src aA aF v12 v13 v14 v15 :=
  ⟨h.b.step s (fun i hi hj => by unfold Of at hi hj; omega), hq, h.r12.step s (fun hj => by unfold Of at hj; omega), h.r13.step s (fun hj => by unfold Of at hj; omega), h.r14.step s (fun hj => by unfold Of at hj; omega), h.r15.step s (fun hj => by unfold Of at hj; omega), h.ro.step s (fun hj => by unfold Of at hj; omega),
    h.st.trans (s.mono (fun i hi => by unfold Of at hi; omega))⟩

/-- an append onto a row j: what becomes of the row, and the step -/
theorem row_append {j : Nat} {e : TypeId} {size : Nat} {v v' : Value} {n m : Nat} {xs ys : List Value} {wa w1 : World} (h : Row f j wr e size v n xs) (s : Step f (fun k => k = j) wr wa f) (ho : w1.ownsRow 0 e size v' m ys) (hg : wa.grownBy w1 v.ownBlock) (ha : v'.ownBlock = v.ownBlock ∨ v'.ownBlock = some wa.heap.size) (hw : ∀ k, k < wr.heap.size → wa.heap[k]? = wr.heap[k]?) :
    Row (ext f wa.heap.size j) j w1 e size v' m ys ∧ Step f (fun k => k = j) wr w1 (ext f wa.heap.size j) := by
  have h1 : Row f j wa e size v n xs := ⟨ownsRow_same h.1 fun k hk => hw k (h.1.lt k hk).2, h.2⟩
  have s2 : Step f (fun k => k = j) wa w1 (ext f wa.heap.size j) := ((Step.refl f (fun k => k = j) wa).grown hg (fun k hk => h.2 k hk)).extend j
  exact ⟨h1.grown ho ha, s.trans s2⟩
theorem row_append1 {j : Nat} {e : TypeId} {size : Nat} {v v' : Value} {n m : Nat} {xs ys : List Value} {w1 : World} {o : Obj} (h : Row f j wr e size v n xs) (ho : w1.ownsRow 0 e size v' m ys) (hg : (wr.alloc o).grownBy w1 v.ownBlock) (ha : v'.ownBlock = v.ownBlock ∨ v'.ownBlock = some (wr.heap.size + 1)) :
    Row (ext f (wr.heap.size + 1) j) j w1 e size v' m ys ∧ Step f (fun k => k = j) wr w1 (ext f (wr.heap.size + 1) j) := by
  have e1 : (wr.alloc o).heap.size = wr.heap.size + 1 := by simp
  have := row_append h ((Step.refl f (fun k => k = j) wr).alloc o) ho hg (by rw [e1]; exact ha) (fun k hk => Below.heap_alloc wr o k hk)
  rwa [e1] at this

theorem All.on12 (h : All w0 f wr B1 B2 mb text start ov ops cb wb nb mkb cq wq nq mkq want src aA aF v12 v13 v14 v15) {want' : List UInt8} {v' : Value} (hr : Row f' 30 w' 5 1 v' want'.length (bcells want')) (s : Step f (fun k => k = 30) wr w' f') : All w0 f' w' B1 B2 mb text start ov ops cb wb nb mkb cq wq nq mkq want' src aA aF v' v13 v14 v15 :=
  ⟨h.b.step s (fun i hi hj => by unfold Of at hi; omega), h.q.step s (fun i hi hj => by unfold Of at hi; omega), hr, h.r13.step s (by omega), h.r14.step s (by omega), h.r15.step s (by omega), h.ro.step s (by omega), h.st.trans (s.mono (fun i hi => by omega))⟩
theorem All.on13 (h : All w0 f wr B1 B2 mb text start ov ops cb wb nb mkb cq wq nq mkq want src aA aF v12 v13 v14 v15) {src' : List Int} {v' : Value} (hr : Row f' 31 w' 3 1 v' src'.length (icells src')) (s : Step f (fun k => k = 31) wr w' f') : All w0 f' w' B1 B2 mb text start ov ops cb wb nb mkb cq wq nq mkq want src' aA aF v12 v' v14 v15 :=
  ⟨h.b.step s (fun i hi hj => by unfold Of at hi; omega), h.q.step s (fun i hi hj => by unfold Of at hi; omega), h.r12.step s (by omega), hr, h.r14.step s (by omega), h.r15.step s (by omega), h.ro.step s (by omega), h.st.trans (s.mono (fun i hi => by omega))⟩
theorem All.on14 (h : All w0 f wr B1 B2 mb text start ov ops cb wb nb mkb cq wq nq mkq want src aA aF v12 v13 v14 v15) {aA' : List Int} {v' : Value} (hr : Row f' 32 w' 3 1 v' aA'.length (icells aA')) (s : Step f (fun k => k = 32) wr w' f') : All w0 f' w' B1 B2 mb text start ov ops cb wb nb mkb cq wq nq mkq want src aA' aF v12 v13 v' v15 :=
  ⟨h.b.step s (fun i hi hj => by unfold Of at hi; omega), h.q.step s (fun i hi hj => by unfold Of at hi; omega), h.r12.step s (by omega), h.r13.step s (by omega), hr, h.r15.step s (by omega), h.ro.step s (by omega), h.st.trans (s.mono (fun i hi => by omega))⟩
theorem All.on15 (h : All w0 f wr B1 B2 mb text start ov ops cb wb nb mkb cq wq nq mkq want src aA aF v12 v13 v14 v15) {aF' : List Int} {v' : Value} (hr : Row f' 33 w' 3 1 v' aF'.length (icells aF')) (s : Step f (fun k => k = 33) wr w' f') : All w0 f' w' B1 B2 mb text start ov ops cb wb nb mkb cq wq nq mkq want src aA aF' v12 v13 v14 v' :=
  ⟨h.b.step s (fun i hi hj => by unfold Of at hi; omega), h.q.step s (fun i hi hj => by unfold Of at hi; omega), h.r12.step s (by omega), h.r13.step s (by omega), h.r14.step s (by omega), hr, h.ro.step s (by omega), h.st.trans (s.mono (fun i hi => by omega))⟩
end
end Go.Proofs.Qxb6003380a.Sc
