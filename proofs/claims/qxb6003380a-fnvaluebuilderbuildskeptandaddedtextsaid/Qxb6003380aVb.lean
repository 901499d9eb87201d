/- The value builder in memory: who owns which block (a ghost map from blocks to owners), rows, and the builder's own state. Nothing of the dump. -/
import Derived.WalkKit
import Derived.Below
import Derived.Maps.AppendAt
import Derived.Lib.AppendStr
import Derived.Deep.Draws
namespace Go.Proofs.Qxb6003380a.Vb
open Go Go.RowKit

/-! ### owners and steps -/
/-- the owners behind a step that began with n blocks: what is new belongs to j -/
def ext (f : Nat → Nat) (n j : Nat) : Nat → Nat := fun k => if k < n then f k else j
theorem ext_old {f : Nat → Nat} {n j k : Nat} (h : k < n) : ext f n j k = f k := by simp [ext, h]
theorem ext_new {f : Nat → Nat} {n j k : Nat} (h : n ≤ k) : ext f n j k = j := by simp [ext, Nat.not_lt.2 h]

/-- w' is w but for the blocks whose owners J names, and new blocks; f' owns as f where there was something -/
structure Step (f : Nat → Nat) (J : Nat → Prop) (w w' : World) (f' : Nat → Nat) : Prop where
  os : w'.os = w.os
  tape : w'.tape = w.tape
  output : w'.output = w.output
  size : w.heap.size ≤ w'.heap.size
  block : ∀ k, k < w.heap.size → ¬ J (f k) → w'.heap[k]? = w.heap[k]?
  own : ∀ k, k < w.heap.size → f' k = f k

theorem Step.refl (f : Nat → Nat) (J : Nat → Prop) (w : World) : Step f J w w f := ⟨rfl, rfl, rfl, Nat.le_refl _, fun _ _ _ => rfl, fun _ _ => rfl⟩
theorem Step.trans {f f1 f2 : Nat → Nat} {J : Nat → Prop} {a b c : World} (h : Step f J a b f1) (k : Step f1 J b c f2) : Step f J a c f2 :=
  ⟨k.os.trans h.os, k.tape.trans h.tape, k.output.trans h.output, Nat.le_trans h.size k.size,
    fun i hi hj => (k.block i (Nat.lt_of_lt_of_le hi h.size) (by rw [h.own i hi]; exact hj)).trans (h.block i hi hj),
    fun i hi => (k.own i (Nat.lt_of_lt_of_le hi h.size)).trans (h.own i hi)⟩
theorem Step.mono {f f' : Nat → Nat} {J K : Nat → Prop} {a b : World} (h : Step f J a b f') (hJ : ∀ i, J i → K i) : Step f K a b f' :=
  ⟨h.os, h.tape, h.output, h.size, fun k hk hn => h.block k hk fun hj => hn (hJ _ hj), h.own⟩
theorem Step.drew {f f' : Nat → Nat} {J : Nat → Prop} {a b : World} (h : Step f J a b f') : Step f J a b.drew f' := ⟨h.os, h.tape, h.output, h.size, h.block, h.own⟩
theorem Step.drewN {f f' : Nat → Nat} {J : Nat → Prop} {a b : World} (h : Step f J a b f') (n : Nat) : Step f J a (b.drewN n) f' := ⟨h.os, h.tape, h.output, h.size, h.block, h.own⟩
theorem Step.alloc {f f' : Nat → Nat} {J : Nat → Prop} {a b : World} (h : Step f J a b f') (o : Obj) : Step f J a (b.alloc o) f' :=
  h.trans ⟨rfl, rfl, rfl, by simp, fun k hk _ => Below.heap_alloc b o k hk, fun _ _ => rfl⟩
/-- the new blocks get an owner -/
theorem Step.extend {f f' : Nat → Nat} {J : Nat → Prop} {a b : World} (h : Step f J a b f') (j : Nat) : Step f J a b (ext f' a.heap.size j) :=
  ⟨h.os, h.tape, h.output, h.size, h.block, fun k hk => by rw [ext_old hk]; exact h.own k hk⟩
theorem Step.setCell {f f' : Nat → Nat} {J : Nat → Prop} {a b : World} (h : Step f J a b f') {p : Addr} (hp : J (f' p.block)) (u : Value) : Step f J a (b.setCell p u) f' :=
  h.trans ⟨rfl, rfl, rfl, by simp, fun k _ hn => heap_setCell_other b p k u (fun e => hn (by rw [e]; exact hp)), fun _ _ => rfl⟩
theorem Step.grown {f f' : Nat → Nat} {J : Nat → Prop} {a b c : World} {row : Option Nat} (h : Step f J a b f') (hg : b.grownBy c row) (hr : ∀ k, row = some k → J (f' k)) : Step f J a c f' :=
  h.trans ⟨hg.os, hg.tape, hg.output, hg.size, fun k hk hn => hg.block k hk (fun e => hn (hr k e.symm)), fun _ _ => rfl⟩
/-- what was there when the call began, its owner 0, is as it was -/
theorem Step.below {f f' : Nat → Nat} {J : Nat → Prop} {a b : World} (h : Step f J a b f') (h0 : ∀ k, k < a.heap.size → f k = 0) (hJ : ¬ J 0) : Below a.heap.size a b :=
  ⟨h.os, h.tape, h.output, h.size, fun k hk => h.block k hk (by rw [h0 k hk]; exact hJ)⟩

/-! ### rows -/
/-- a slice value that owns its row; the row's owner is j -/
def Row (f : Nat → Nat) (j : Nat) (w : World) (e : TypeId) (size : Nat) (v : Value) (n : Nat) (xs : List Value) : Prop :=
  w.ownsRow 0 e size v n xs ∧ ∀ k, v.ownBlock = some k → f k = j

theorem ownsRow_same {w w' : World} {e : TypeId} {size : Nat} {v : Value} {n : Nat} {xs : List Value} (h : w.ownsRow 0 e size v n xs) (hs : ∀ k, v.ownBlock = some k → w'.heap[k]? = w.heap[k]?) : w'.ownsRow 0 e size v n xs := by
  refine ⟨h.1, ?_⟩
  rcases h.2 with hn | ⟨g, cap, cur, rfl, hb, hg, rest⟩
  · exact .inl hn
  · exact .inr ⟨g, cap, cur, rfl, hb, (hs g rfl).trans hg, rest⟩

theorem Row.step {f f' : Nat → Nat} {J : Nat → Prop} {j : Nat} {w w' : World} {e : TypeId} {size : Nat} {v : Value} {n : Nat} {xs : List Value} (h : Row f j w e size v n xs) (s : Step f J w w' f') (hj : ¬ J j) : Row f' j w' e size v n xs :=
  ⟨ownsRow_same h.1 fun k hk => s.block k (h.1.lt k hk).2 (by rw [h.2 k hk]; exact hj), fun k hk => (s.own k (h.1.lt k hk).2).trans (h.2 k hk)⟩

theorem Row.nil (f : Nat → Nat) (j : Nat) (w : World) (e : TypeId) (size : Nat) : Row f j w e size (.slice none 0 0) 0 [] :=
  ⟨World.ownsRow_nil w 0 e size, fun k hk => by simp [Value.ownBlock] at hk⟩

/-- behind an append onto the row -/
theorem Row.grown {f : Nat → Nat} {j : Nat} {w w' : World} {e : TypeId} {size : Nat} {v v' : Value} {n m : Nat} {xs ys : List Value} (h : Row f j w e size v n xs) (ho : w'.ownsRow 0 e size v' m ys)
    (ha : v'.ownBlock = v.ownBlock ∨ v'.ownBlock = some w.heap.size) : Row (ext f w.heap.size j) j w' e size v' m ys :=
  ⟨ho, fun k hk => by
    rcases ha with ha | ha
    · rw [hk] at ha
      have := h.1.lt k ha.symm
      rw [ext_old this.2]; exact h.2 k ha.symm
    · rw [hk] at ha
      cases ha
      exact ext_new (Nat.le_refl _)⟩

/-- what an owned row's value looks like -/
theorem Row.form {f : Nat → Nat} {j : Nat} {w : World} {e : TypeId} {size : Nat} {v : Value} {n : Nat} {xs : List Value} (h : Row f j w e size v n xs) : ∃ a cap, v = .slice a n cap := by
  rcases h.1.2 with ⟨rfl, rfl⟩ | ⟨g, cap, cur, rfl, _⟩
  · exact ⟨none, 0, rfl⟩
  · exact ⟨_, cap, rfl⟩

/-! ### append of a string's bytes: where the new slice lies -/
theorem run_append_string_at {P : Program} (w : World) (t u ty e : TypeId) (i : TypeInfo) (ht : P.underlying t = some (.slice e)) (hu : P.underlying u = some .string) (hi : P.info? e = some i) (hz : i.zero = some (.int .u8 0))
    (hsize : i.size = 1) (hby : i.bytes = 1) (v : Value) (n : Nat) (xs : List Value) (hown : w.ownsRow 0 e 1 v n xs) (s : ByteArray) (hb : n + s.size ≤ 140737488355328) :
    ∃ v' w', (Builtin.append_ #[t, u] ty #[v, .string s]).run P w = .ok v' w' ∧ w'.ownsRow 0 e 1 v' (n + s.size) (xs ++ Lib.strCells s) ∧ w.grownBy w' v.ownBlock ∧ (v'.ownBlock = v.ownBlock ∨ v'.ownBlock = some w.heap.size) := by
  have h63 : n + s.size ≤ maxLen := by unfold maxLen; omega
  obtain ⟨v', w', hr, ho, hg, hn⟩ := Lib.run_append_own_string (P := P) w 0 t u ty e i ht hu hi hz hsize hby v n xs hown s h63 hb (Nat.zero_le _)
  refine ⟨v', w', hr, ho, hg, ?_⟩
  have hxl : xs.length = n := by simpa using hown.1
  rcases hown.2 with ⟨rfl, rfl⟩ | ⟨g, cap, cur, rfl, hbg, hgc, hnc, hcm, hcs, htake⟩
  · by_cases hm : s.size = 0
    · rw [hn.2 ⟨rfl, hm⟩]; exact .inl rfl
    · have hr2 := run_append_nil_string (P := P) w t u ty e i (.int .u8 0) ht hu hi hz s (by omega) (by omega) (by rw [hby]; omega)
      rw [hr] at hr2
      cases hr2
      exact .inr rfl
  · by_cases hroom : n + s.size ≤ cap
    · have hr2 := Lib.run_append_room_string (P := P) w t u ty e i ht hu hi hsize g n cap cur hgc s hroom (by omega)
      rw [hr] at hr2
      cases hr2
      exact .inl rfl
    · have holds : ∀ j u, xs[j]? = some u → w.cell? ((⟨g, 0, none⟩ : Addr).add j) = some u := hown.cells (g := g) rfl
      have hr2 := Lib.run_append_grow_string (P := P) w t u ty e i (.int .u8 0) ht hu hi hz ⟨g, 0, none⟩ n cap xs (by rw [hsize]; simpa using hxl) holds s (by omega) (by omega) (by rw [hby]; exact growslice_fits (by omega) (by omega))
      rw [hr] at hr2
      cases hr2
      exact .inr rfl

theorem wpList_append_string_at {P : Program} (w : World) {ops : Array Oper} {rest : List Oper} {o : Oper} {a : Act} {Q : Exit → Act → World → Prop} (hgd : o.guard = none) (sl x : Operand) (t u : TypeId)
    (ho : o.op = .call { callee := .builtin .append, args := #[sl, x], argTypes := #[t, u] }) (e : TypeId) (i : TypeInfo) (ht : P.underlying t = some (.slice e)) (hu : P.underlying u = some .string) (hi : P.info? e = some i) (hz : i.zero = some (.int .u8 0))
    (hsize : i.size = 1) (hby : i.bytes = 1) (v : Value) (n : Nat) (xs : List Value) (hs : a.eval sl = v) (hown : w.ownsRow 0 e 1 v n xs) (s : ByteArray) (hx : a.eval x = .string s) (hb : n + s.size ≤ 140737488355328)
    (h : ∀ v' w', w'.ownsRow 0 e 1 v' (n + s.size) (xs ++ Lib.strCells s) → w.grownBy w' v.ownBlock → (v'.ownBlock = v.ownBlock ∨ v'.ownBlock = some w.heap.size) → wpList P ops Q rest (a.put o.dst v') w') : wpList P ops Q (o :: rest) a w := by
  refine wpList_plain hgd fun K hK => ?_
  obtain ⟨v', w', hr, h2, h3, h4⟩ := run_append_string_at (P := P) w t u o.type e i ht hu hi hz hsize hby v n xs hown s hb
  unfold Oper.wp execOp
  simp only [ho, resolve, invoke, builtin, Sem.run_bind, Sem.run_pure, Result.andThen_ok, List.map_toArray, List.map_cons, List.map_nil, hs, hx, hr]
  exact hK _ _ (h v' w' h2 h3 h4)

/-! ### the builder -/
def bcells (bs : List UInt8) : List Value := bs.map fun b => .int .u8 (b.toNat : Int)
def mcells (ms : List (Int × Int)) : List Value := ms.flatMap fun p => [.int .i64 p.1, .int .i64 p.2]
def mptr (mp : Option Nat) : Value := .pointer (mp.map fun b => ⟨b, 0, none⟩)

theorem strCells_eq (s : ByteArray) : Lib.strCells s = bcells s.data.toList := rfl
theorem bcells_append (a b : List UInt8) : bcells (a ++ b) = bcells a ++ bcells b := by simp [bcells]
theorem mcells_append (a b : List (Int × Int)) : mcells (a ++ b) = mcells a ++ mcells b := by simp [mcells]
theorem bcells_length (a : List UInt8) : (bcells a).length = a.length := by simp [bcells]
theorem mcells_length (a : List (Int × Int)) : (mcells a).length = a.length * 2 := by
  induction a with
  | nil => rfl
  | cons x r ih => simp only [mcells, List.flatMap_cons, List.length_append, List.length_cons, List.length_nil] at *; omega

/-- the struct itself -/
structure Fields (f : Nat → Nat) (j : Nat) (w : World) (B : Nat) (mp : Option Nat) (text : ByteArray) (start : Nat) (vb : Value) (copied : Bool) (next : Int) : Prop where
  blk : w.heap[B]? = some (.cells #[.string text, .int .i64 (start : Int), vb, .bool copied, .int .i64 next, mptr mp] 66 (0, 0))
  own : f B = j

theorem lt_of_blk {w : World} {B : Nat} {o : Obj} (h : w.heap[B]? = some o) : B < w.heap.size := (Array.getElem?_eq_some_iff.1 h).1
theorem Fields.lt {f : Nat → Nat} {j : Nat} {w : World} {B : Nat} {mp : Option Nat} {text : ByteArray} {start : Nat} {vb : Value} {copied : Bool} {next : Int} (h : Fields f j w B mp text start vb copied next) : B < w.heap.size := lt_of_blk h.blk
theorem Fields.step {f f' : Nat → Nat} {J : Nat → Prop} {j : Nat} {w w' : World} {B : Nat} {mp : Option Nat} {text : ByteArray} {start : Nat} {vb : Value} {copied : Bool} {next : Int} (h : Fields f j w B mp text start vb copied next) (s : Step f J w w' f') (hj : ¬ J j) : Fields f' j w' B mp text start vb copied next :=
  ⟨(s.block B h.lt (by rw [h.own]; exact hj)).trans h.blk, (s.own B h.lt).trans h.own⟩
theorem frozen_blk {w : World} {B : Nat} {cs : Array Value} {t : TypeId} (h : w.heap[B]? = some (.cells cs t (0, 0))) (o : Nat) : w.frozen? ⟨B, o, none⟩ = false := by simp [World.frozen?, h]
theorem cell_blk {w : World} {B : Nat} {cs : Array Value} {t : TypeId} (h : w.heap[B]? = some (.cells cs t (0, 0))) (o : Nat) : w.cell? ⟨B, o, none⟩ = cs[o]? := by simp [World.cell?, h]
theorem Fields.cells {f : Nat → Nat} {j : Nat} {w : World} {B : Nat} {mp : Option Nat} {text : ByteArray} {start : Nat} {vb : Value} {copied : Bool} {next : Int} (h : Fields f j w B mp text start vb copied next) :
    w.cell? ⟨B, 0, none⟩ = some (.string text) ∧ w.cell? ⟨B, 1, none⟩ = some (.int .i64 (start : Int)) ∧ w.cell? ⟨B, 2, none⟩ = some vb ∧ w.cell? ⟨B, 3, none⟩ = some (.bool copied) ∧ w.cell? ⟨B, 4, none⟩ = some (.int .i64 next) ∧ w.cell? ⟨B, 5, none⟩ = some (mptr mp) ∧ ∀ o, w.frozen? ⟨B, o, none⟩ = false := by
  refine ⟨?_, ?_, ?_, ?_, ?_, ?_, frozen_blk h.blk⟩ <;> rw [cell_blk h.blk] <;> rfl
theorem set_blk {w : World} {B : Nat} {cs : Array Value} {t : TypeId} (h : w.heap[B]? = some (.cells cs t (0, 0))) (o : Nat) (u : Value) : (w.setCell ⟨B, o, none⟩ u).heap[B]? = some (.cells (cs.setIfInBounds o u) t (0, 0)) := Go.heap_setCell_same w B o cs t u h
theorem Fields.set2 {f : Nat → Nat} {j : Nat} {w : World} {B : Nat} {mp : Option Nat} {text : ByteArray} {start : Nat} {vb : Value} {copied : Bool} {next : Int} (h : Fields f j w B mp text start vb copied next) (u : Value) : Fields f j (w.setCell ⟨B, 2, none⟩ u) B mp text start u copied next :=
  ⟨by rw [set_blk h.blk]; rfl, h.own⟩
theorem Fields.set3 {f : Nat → Nat} {j : Nat} {w : World} {B : Nat} {mp : Option Nat} {text : ByteArray} {start : Nat} {vb : Value} {copied : Bool} {next : Int} (h : Fields f j w B mp text start vb copied next) (u : Bool) : Fields f j (w.setCell ⟨B, 3, none⟩ (.bool u)) B mp text start vb u next :=
  ⟨by rw [set_blk h.blk]; rfl, h.own⟩
theorem Fields.set4 {f : Nat → Nat} {j : Nat} {w : World} {B : Nat} {mp : Option Nat} {text : ByteArray} {start : Nat} {vb : Value} {copied : Bool} {next : Int} (h : Fields f j w B mp text start vb copied next) (u : Int) : Fields f j (w.setCell ⟨B, 4, none⟩ (.int .i64 u)) B mp text start vb copied u :=
  ⟨by rw [set_blk h.blk]; rfl, h.own⟩

/-- the marks: a variable and its row -/
structure Marks (f : Nat → Nat) (j : Nat) (w : World) (mb : Nat) (vm : Value) (ms : List (Int × Int)) : Prop where
  blk : w.heap[mb]? = some (.cells #[vm] 32 (0, 0))
  own : f mb = j
  row : Row f (j + 1) w 38 2 vm ms.length (mcells ms)
theorem Marks.step {f f' : Nat → Nat} {J : Nat → Prop} {j : Nat} {w w' : World} {mb : Nat} {vm : Value} {ms : List (Int × Int)} (h : Marks f j w mb vm ms) (s : Step f J w w' f') (h0 : ¬ J j) (h1 : ¬ J (j + 1)) : Marks f' j w' mb vm ms :=
  ⟨(s.block mb (lt_of_blk h.blk) (by rw [h.own]; exact h0)).trans h.blk, (s.own mb (lt_of_blk h.blk)).trans h.own, h.row.step s h1⟩

/-- the owners of a builder: j the struct, j + 1 the bytes, j + 2 the marks' variable, j + 3 the marks' row -/
def Of (j : Nat) : Nat → Prop := fun i => j ≤ i ∧ i < j + 4

def MarksOf (f : Nat → Nat) (j : Nat) (w : World) (mp : Option Nat) (ms : List (Int × Int)) : Prop :=
  match mp with
  | none => ms = []
  | some mb => ∃ vm, Marks f j w mb vm ms
theorem MarksOf.step {f f' : Nat → Nat} {J : Nat → Prop} {j : Nat} {w w' : World} {mp : Option Nat} {ms : List (Int × Int)} (h : MarksOf f j w mp ms) (s : Step f J w w' f') (h0 : ¬ J j) (h1 : ¬ J (j + 1)) : MarksOf f' j w' mp ms := by
  cases mp with
  | none => exact h
  | some mb => obtain ⟨vm, h⟩ := h; exact ⟨vm, h.step s h0 h1⟩

/-- the whole builder -/
structure VB (f : Nat → Nat) (j : Nat) (w : World) (B : Nat) (mp : Option Nat) (text : ByteArray) (start : Nat) (copied : Bool) (bs : List UInt8) (next : Int) (ms : List (Int × Int)) (vb : Value) : Prop where
  fld : Fields f j w B mp text start vb copied next
  row : Row f (j + 1) w 5 1 vb bs.length (bcells bs)
  mks : MarksOf f (j + 2) w mp ms
theorem VB.step {f f' : Nat → Nat} {J : Nat → Prop} {j : Nat} {w w' : World} {B : Nat} {mp : Option Nat} {text : ByteArray} {start : Nat} {copied : Bool} {bs : List UInt8} {next : Int} {ms : List (Int × Int)} {vb : Value} (h : VB f j w B mp text start copied bs next ms vb) (s : Step f J w w' f') (hJ : ∀ i, Of j i → ¬ J i) : VB f' j w' B mp text start copied bs next ms vb :=
  ⟨h.fld.step s (hJ _ ⟨by omega, by omega⟩), h.row.step s (hJ _ ⟨by omega, by omega⟩), h.mks.step s (hJ _ ⟨by omega, by omega⟩) (hJ _ ⟨by omega, by omega⟩)⟩

/-! ### what an append and a store make of the marks, of the bytes -/
/-- the variable's block right behind the append, ahead of the store -/
theorem Marks.at {f : Nat → Nat} {j : Nat} {wa w2 : World} {mb : Nat} {vm : Value} {ms : List (Int × Int)} (h : Marks f j wa mb vm ms) (hg : wa.grownBy w2 vm.ownBlock) : w2.heap[mb]? = some (.cells #[vm] 32 (0, 0)) :=
  (hg.block mb (lt_of_blk h.blk) (fun e => by have := h.row.2 mb e.symm; rw [h.own] at this; omega)).trans h.blk
theorem Marks.push {f : Nat → Nat} {j : Nat} {wa w2 : World} {mb : Nat} {vm v' : Value} {ms : List (Int × Int)} {p q : Int} (h : Marks f j wa mb vm ms)
    (ho : w2.ownsRow 0 38 2 v' (ms.length + 1) (mcells ms ++ [.int .i64 p, .int .i64 q])) (hg : wa.grownBy w2 vm.ownBlock) (ha : v'.ownBlock = vm.ownBlock ∨ v'.ownBlock = some wa.heap.size) :
    Marks (ext f wa.heap.size (j + 1)) j (w2.setCell ⟨mb, 0, none⟩ v') mb v' (ms ++ [(p, q)]) ∧ Step f (fun i => i = j ∨ i = j + 1) wa (w2.setCell ⟨mb, 0, none⟩ v') (ext f wa.heap.size (j + 1)) := by
  have hlt := lt_of_blk h.blk
  have hs : Step f (fun i => i = j ∨ i = j + 1) wa w2 f := (Step.refl f _ wa).grown hg (fun k hk => .inr (h.row.2 k hk))
  have hs2 := (hs.extend (j + 1)).setCell (p := ⟨mb, 0, none⟩) (.inl (by rw [ext_old hlt]; exact h.own)) v'
  refine ⟨⟨?_, ?_, ?_⟩, hs2⟩
  · rw [set_blk (h.at hg)]; rfl
  · rw [ext_old hlt]; exact h.own
  · have hr := h.row.grown ho ha
    have e1 : (ms ++ [(p, q)]).length = ms.length + 1 := by simp
    have e2 : mcells (ms ++ [(p, q)]) = mcells ms ++ [.int .i64 p, .int .i64 q] := by simp [mcells]
    rw [e1, e2]
    refine ⟨ownsRow_same hr.1 fun k hk => heap_setCell_other w2 _ k v' (fun e => ?_), hr.2⟩
    have h1 := hr.2 k hk
    rw [show k = mb from e, ext_old hlt, h.own] at h1
    omega

theorem Row.bytes_at {f : Nat → Nat} {j : Nat} {wa w2 : World} {B : Nat} {mp : Option Nat} {text : ByteArray} {start : Nat} {vb : Value} {copied : Bool} {next : Int} {n : Nat} {xs : List Value} (h : Fields f j wa B mp text start vb copied next) (hr : Row f (j + 1) wa 5 1 vb n xs) (hg : wa.grownBy w2 vb.ownBlock) : Fields f j w2 B mp text start vb copied next :=
  ⟨(hg.block B h.lt (fun e => by have := hr.2 B e.symm; rw [h.own] at this; omega)).trans h.blk, h.own⟩
theorem Row.push {f : Nat → Nat} {j : Nat} {wa w2 : World} {B : Nat} {mp : Option Nat} {text : ByteArray} {start : Nat} {vb v' : Value} {copied : Bool} {next : Int} {n m : Nat} {xs ys : List Value} (h : Fields f j wa B mp text start vb copied next) (hr : Row f (j + 1) wa 5 1 vb n xs)
    (ho : w2.ownsRow 0 5 1 v' m ys) (hg : wa.grownBy w2 vb.ownBlock) (ha : v'.ownBlock = vb.ownBlock ∨ v'.ownBlock = some wa.heap.size) :
    Fields (ext f wa.heap.size (j + 1)) j (w2.setCell ⟨B, 2, none⟩ v') B mp text start v' copied next ∧ Row (ext f wa.heap.size (j + 1)) (j + 1) (w2.setCell ⟨B, 2, none⟩ v') 5 1 v' m ys ∧
      Step f (fun i => i = j ∨ i = j + 1) wa (w2.setCell ⟨B, 2, none⟩ v') (ext f wa.heap.size (j + 1)) := by
  have hlt := h.lt
  have hs : Step f (fun i => i = j ∨ i = j + 1) wa w2 f := (Step.refl f _ wa).grown hg (fun k hk => .inr (hr.2 k hk))
  have hs2 := (hs.extend (j + 1)).setCell (p := ⟨B, 2, none⟩) (.inl (by rw [ext_old hlt]; exact h.own)) v'
  have hf := (Row.bytes_at h hr hg).set2 v'
  have hr2 := hr.grown ho ha
  refine ⟨⟨hf.blk, by rw [ext_old hlt]; exact h.own⟩, ⟨ownsRow_same hr2.1 fun k hk => heap_setCell_other w2 _ k v' (fun e => ?_), hr2.2⟩, hs2⟩
  have h1 := hr2.2 k hk
  rw [show k = B from e, ext_old hlt, h.own] at h1
  omega
/-- a store into the struct leaves the rows -/
theorem Row.store {f : Nat → Nat} {j i : Nat} {w : World} {e : TypeId} {size : Nat} {v : Value} {n : Nat} {xs : List Value} (h : Row f i w e size v n xs) {p : Addr} (hp : f p.block = j) (hne : i ≠ j) (u : Value) : Row f i (w.setCell p u) e size v n xs :=
  h.step ((Step.refl f (fun k => k = j) w).setCell (p := p) hp u) hne
theorem MarksOf.store {f : Nat → Nat} {j i : Nat} {w : World} {mp : Option Nat} {ms : List (Int × Int)} (h : MarksOf f i w mp ms) {p : Addr} (hp : f p.block = j) (hne : i ≠ j) (hne1 : i + 1 ≠ j) (u : Value) : MarksOf f i (w.setCell p u) mp ms :=
  h.step ((Step.refl f (fun k => k = j) w).setCell (p := p) hp u) hne hne1

/-- a builder that has just been made -/
theorem VB.made {f0 f : Nat → Nat} {j : Nat} {w W : World} {mp : Option Nat} {text : ByteArray} {start : Nat} {ms : List (Int × Int)} (hm : MarksOf f (j + 2) W mp ms) (hs : Step f0 (Of j) w W f) (N : Nat) (hN : N = W.heap.size) :
    VB (ext f N j) j (W.alloc (.cells #[.string text, .int .i64 (start : Int), .slice none 0 0, .bool false, .int .i64 (start : Int), mptr mp] 66)) N mp text start false [] (start : Int) ms (.slice none 0 0) ∧
      Step f0 (Of j) w (W.alloc (.cells #[.string text, .int .i64 (start : Int), .slice none 0 0, .bool false, .int .i64 (start : Int), mptr mp] 66)) (ext f N j) := by
  subst hN
  have h1 := ((Step.refl f (Of j) W).alloc (.cells #[.string text, .int .i64 (start : Int), .slice none 0 0, .bool false, .int .i64 (start : Int), mptr mp] 66)).extend j
  refine ⟨⟨⟨Go.heap_alloc_new W _, ext_new (Nat.le_refl _)⟩, Row.nil _ _ _ _ _, ?_⟩, hs.trans h1⟩
  exact hm.step (((Step.refl f (fun _ => False) W).alloc _).extend j) (fun h => h) (fun h => h)

theorem of_sub {j : Nat} : ∀ i, (i = j ∨ i = j + 1) → Of j i := fun i h => by unfold Of; omega
theorem of_sub2 {j : Nat} : ∀ i, (i = j + 2 ∨ i = j + 2 + 1) → Of j i := fun i h => by unfold Of; omega

/-- a builder in a world with one block and a draw more -/
theorem VB.later {f : Nat → Nat} {j : Nat} {w : World} {B : Nat} {mp : Option Nat} {text : ByteArray} {start : Nat} {copied : Bool} {bs : List UInt8} {next : Int} {ms : List (Int × Int)} {vb : Value} (h : VB f j w B mp text start copied bs next ms vb) (o : Obj) :
    VB f j (w.alloc o).drew B mp text start copied bs next ms vb ∧ Step f (Of j) w (w.alloc o).drew f :=
  ⟨h.step (((Step.refl f (fun _ => False) w).alloc o).drew) (fun _ _ h => h), (((Step.refl f (Of j) w).alloc o).drew)⟩
theorem VB.drew {f : Nat → Nat} {j : Nat} {w : World} {B : Nat} {mp : Option Nat} {text : ByteArray} {start : Nat} {copied : Bool} {bs : List UInt8} {next : Int} {ms : List (Int × Int)} {vb : Value} (h : VB f j w B mp text start copied bs next ms vb) :
    VB f j w.drew B mp text start copied bs next ms vb ∧ Step f (Of j) w w.drew f :=
  ⟨h.step ((Step.refl f (fun _ => False) w).drew) (fun _ _ h => h), ((Step.refl f (Of j) w).drew)⟩

/-- behind an append onto the bytes and the store of the new slice -/
theorem VB.bytes {f : Nat → Nat} {j : Nat} {wa w1 : World} {B : Nat} {mp : Option Nat} {text : ByteArray} {start : Nat} {copied : Bool} {bs bs' : List UInt8} {next : Int} {ms : List (Int × Int)} {vb v' : Value} (h : VB f j wa B mp text start copied bs next ms vb)
    (ho : w1.ownsRow 0 5 1 v' bs'.length (bcells bs')) (hg : wa.grownBy w1 vb.ownBlock) (ha : v'.ownBlock = vb.ownBlock ∨ v'.ownBlock = some wa.heap.size) :
    VB (ext f wa.heap.size (j + 1)) j (w1.setCell ⟨B, 2, none⟩ v') B mp text start copied bs' next ms v' ∧ Step f (Of j) wa (w1.setCell ⟨B, 2, none⟩ v') (ext f wa.heap.size (j + 1)) := by
  obtain ⟨h1, h2, h3⟩ := Row.push h.fld h.row ho hg ha
  exact ⟨⟨h1, h2, h.mks.step h3 (by omega) (by omega)⟩, h3.mono of_sub⟩
/-- the struct's cells right behind the append -/
theorem VB.mid {f : Nat → Nat} {j : Nat} {wa w1 : World} {B : Nat} {mp : Option Nat} {text : ByteArray} {start : Nat} {copied : Bool} {bs : List UInt8} {next : Int} {ms : List (Int × Int)} {vb : Value} (h : VB f j wa B mp text start copied bs next ms vb)
    (hg : wa.grownBy w1 vb.ownBlock) : Fields f j w1 B mp text start vb copied next := Row.bytes_at h.fld h.row hg
theorem VB.set3 {f : Nat → Nat} {j : Nat} {w : World} {B : Nat} {mp : Option Nat} {text : ByteArray} {start : Nat} {copied : Bool} {bs : List UInt8} {next : Int} {ms : List (Int × Int)} {vb : Value} (h : VB f j w B mp text start copied bs next ms vb) (u : Bool) :
    VB f j (w.setCell ⟨B, 3, none⟩ (.bool u)) B mp text start u bs next ms vb ∧ Step f (Of j) w (w.setCell ⟨B, 3, none⟩ (.bool u)) f :=
  ⟨⟨h.fld.set3 u, h.row.store (p := ⟨B, 3, none⟩) h.fld.own (by omega) _, h.mks.store (p := ⟨B, 3, none⟩) h.fld.own (by omega) (by omega) _⟩,
    (Step.refl f (Of j) w).setCell (p := ⟨B, 3, none⟩) (by show Of j (f B); rw [h.fld.own]; exact ⟨by omega, by omega⟩) _⟩
theorem VB.set4 {f : Nat → Nat} {j : Nat} {w : World} {B : Nat} {mp : Option Nat} {text : ByteArray} {start : Nat} {copied : Bool} {bs : List UInt8} {next : Int} {ms : List (Int × Int)} {vb : Value} (h : VB f j w B mp text start copied bs next ms vb) (u : Int) :
    VB f j (w.setCell ⟨B, 4, none⟩ (.int .i64 u)) B mp text start copied bs u ms vb ∧ Step f (Of j) w (w.setCell ⟨B, 4, none⟩ (.int .i64 u)) f :=
  ⟨⟨h.fld.set4 u, h.row.store (p := ⟨B, 4, none⟩) h.fld.own (by omega) _, h.mks.store (p := ⟨B, 4, none⟩) h.fld.own (by omega) (by omega) _⟩,
    (Step.refl f (Of j) w).setCell (p := ⟨B, 4, none⟩) (by show Of j (f B); rw [h.fld.own]; exact ⟨by omega, by omega⟩) _⟩
/-- behind an append onto the marks and the store into their variable -/
theorem VB.mark {f : Nat → Nat} {j : Nat} {wa w1 : World} {B mb : Nat} {text : ByteArray} {start : Nat} {copied : Bool} {bs : List UInt8} {next : Int} {ms : List (Int × Int)} {vb vm v' : Value} {p q : Int} (h : VB f j wa B (some mb) text start copied bs next ms vb) (hm : Marks f (j + 2) wa mb vm ms)
    (ho : w1.ownsRow 0 38 2 v' (ms.length + 1) (mcells ms ++ [.int .i64 p, .int .i64 q])) (hg : wa.grownBy w1 vm.ownBlock) (ha : v'.ownBlock = vm.ownBlock ∨ v'.ownBlock = some wa.heap.size) :
    VB (ext f wa.heap.size (j + 2 + 1)) j (w1.setCell ⟨mb, 0, none⟩ v') B (some mb) text start copied bs next (ms ++ [(p, q)]) vb ∧ Step f (Of j) wa (w1.setCell ⟨mb, 0, none⟩ v') (ext f wa.heap.size (j + 2 + 1)) := by
  obtain ⟨h1, h2⟩ := hm.push ho hg ha
  exact ⟨⟨h.fld.step h2 (by omega), h.row.step h2 (by omega), ⟨v', h1⟩⟩, h2.mono of_sub2⟩

/-! ### append of a string: the new value written out -/
theorem run_append_string_lies {P : Program} (w : World) (t u ty e : TypeId) (i : TypeInfo) (ht : P.underlying t = some (.slice e)) (hu : P.underlying u = some .string) (hi : P.info? e = some i) (hz : i.zero = some (.int .u8 0))
    (hsize : i.size = 1) (hby : i.bytes = 1) (v : Value) (n : Nat) (xs : List Value) (hown : w.ownsRow 0 e 1 v n xs) (s : ByteArray) (hb : n + s.size ≤ 140737488355328) :
    ∃ a cap w', (Builtin.append_ #[t, u] ty #[v, .string s]).run P w = .ok (.slice a (n + s.size) cap) w' ∧ w'.ownsRow 0 e 1 (.slice a (n + s.size) cap) (n + s.size) (xs ++ Lib.strCells s) ∧ w.grownBy w' v.ownBlock ∧
      ((Value.slice a (n + s.size) cap).ownBlock = v.ownBlock ∨ (Value.slice a (n + s.size) cap).ownBlock = some w.heap.size) := by
  obtain ⟨v', w', hr, h2, h3, h4⟩ := run_append_string_at (P := P) w t u ty e i ht hu hi hz hsize hby v n xs hown s hb
  have hf : ∃ a cap, v' = .slice a (n + s.size) cap := by
    rcases h2.2 with ⟨rfl, hn⟩ | ⟨g, cap, cur, rfl, _⟩
    · exact ⟨none, 0, by rw [hn]⟩
    · exact ⟨_, cap, rfl⟩
  obtain ⟨a, cap, rfl⟩ := hf
  exact ⟨a, cap, w', hr, h2, h3, h4⟩
theorem wp_append_string_lies {P : Program} (w : World) {o : Oper} {a : Act} {K : Act → World → Prop} {Q : Exit → Act → World → Prop} (sl x : Operand) (t u : TypeId)
    (ho : o.op = .call { callee := .builtin .append, args := #[sl, x], argTypes := #[t, u] }) (e : TypeId) (i : TypeInfo) (ht : P.underlying t = some (.slice e)) (hu : P.underlying u = some .string) (hi : P.info? e = some i) (hz : i.zero = some (.int .u8 0))
    (hsize : i.size = 1) (hby : i.bytes = 1) (v : Value) (n : Nat) (xs : List Value) (hs : a.eval sl = v) (hown : w.ownsRow 0 e 1 v n xs) (s : ByteArray) (hx : a.eval x = .string s) (hb : n + s.size ≤ 140737488355328)
    (h : ∀ aa cap w', w'.ownsRow 0 e 1 (.slice aa (n + s.size) cap) (n + s.size) (xs ++ Lib.strCells s) → w.grownBy w' v.ownBlock → ((Value.slice aa (n + s.size) cap).ownBlock = v.ownBlock ∨ (Value.slice aa (n + s.size) cap).ownBlock = some w.heap.size) → K (a.put o.dst (.slice aa (n + s.size) cap)) w') : o.wp P a w K Q := by
  obtain ⟨aa, cap, w', hr, h2, h3, h4⟩ := run_append_string_lies (P := P) w t u o.type e i ht hu hi hz hsize hby v n xs hown s hb
  unfold Oper.wp execOp
  simp only [ho, resolve, invoke, builtin, Sem.run_bind, Sem.run_pure, Result.andThen_ok, List.map_toArray, List.map_cons, List.map_nil, hs, hx, hr]
  exact h aa cap w' h2 h3 h4
theorem wpList_append_string_lies {P : Program} (w : World) {ops : Array Oper} {rest : List Oper} {o : Oper} {a : Act} {Q : Exit → Act → World → Prop} (hgd : o.guard = none) (sl x : Operand) (t u : TypeId)
    (ho : o.op = .call { callee := .builtin .append, args := #[sl, x], argTypes := #[t, u] }) (e : TypeId) (i : TypeInfo) (ht : P.underlying t = some (.slice e)) (hu : P.underlying u = some .string) (hi : P.info? e = some i) (hz : i.zero = some (.int .u8 0))
    (hsize : i.size = 1) (hby : i.bytes = 1) (v : Value) (n : Nat) (xs : List Value) (hs : a.eval sl = v) (hown : w.ownsRow 0 e 1 v n xs) (s : ByteArray) (hx : a.eval x = .string s) (hb : n + s.size ≤ 140737488355328)
    (h : ∀ aa cap w', w'.ownsRow 0 e 1 (.slice aa (n + s.size) cap) (n + s.size) (xs ++ Lib.strCells s) → w.grownBy w' v.ownBlock → ((Value.slice aa (n + s.size) cap).ownBlock = v.ownBlock ∨ (Value.slice aa (n + s.size) cap).ownBlock = some w.heap.size) → wpList P ops Q rest (a.put o.dst (.slice aa (n + s.size) cap)) w') : wpList P ops Q (o :: rest) a w :=
  wpList_plain hgd fun _ hK => wp_append_string_lies w sl x t u ho e i ht hu hi hz hsize hby v n xs hs hown s hx hb fun aa cap w' h2 h3 h4 => hK _ _ (h aa cap w' h2 h3 h4)
theorem step_append_string_lies {P : Program} (w : World) {ops : Array Oper} {o : Oper} {a : Act} {K : Act → World → Prop} {Q : Exit → Act → World → Prop} {E : Prop} (hgd : o.guard = none) (sl x : Operand) (t u : TypeId)
    (ho : o.op = .call { callee := .builtin .append, args := #[sl, x], argTypes := #[t, u] }) (e : TypeId) (i : TypeInfo) (ht : P.underlying t = some (.slice e)) (hu : P.underlying u = some .string) (hi : P.info? e = some i) (hz : i.zero = some (.int .u8 0))
    (hsize : i.size = 1) (hby : i.bytes = 1) (v : Value) (n : Nat) (xs : List Value) (hs : a.eval sl = v) (hown : w.ownsRow 0 e 1 v n xs) (s : ByteArray) (hx : a.eval x = .string s) (hb : n + s.size ≤ 140737488355328)
    (h : ∀ aa cap w', w'.ownsRow 0 e 1 (.slice aa (n + s.size) cap) (n + s.size) (xs ++ Lib.strCells s) → w.grownBy w' v.ownBlock → ((Value.slice aa (n + s.size) cap).ownBlock = v.ownBlock ∨ (Value.slice aa (n + s.size) cap).ownBlock = some w.heap.size) → K (a.put o.dst (.slice aa (n + s.size) cap)) w') :
    if Region.wanted o (yielded ops a.tmps) = true then Oper.wp P o a w K Q else E := by
  have hw : Region.wanted o (yielded ops a.tmps) = true := by simp [Region.wanted, hgd]
  rw [if_pos hw]
  exact wp_append_string_lies w sl x t u ho e i ht hu hi hz hsize hby v n xs hs hown s hx hb h

end Go.Proofs.Qxb6003380a.Vb
