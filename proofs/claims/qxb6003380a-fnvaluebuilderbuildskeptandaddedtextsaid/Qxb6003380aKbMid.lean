/- The middle part of the claim's function: the copies are made and the wanted value is built. -/
import Derived.Test.Qxb6003380aKbTail
namespace Go.Proofs.Qxb6003380a.Kb
open Go Go.RowKit Vb Sc
set_option linter.unusedVariables false

/-- the copies and the wanted value, as they lie in memory -/
def KA (w0 wr : World) (aa ka : Option Addr) (ca ck : Nat) (adds : List ByteArray) (keeps : List Nat) (v14 : Value) (want : List UInt8) : Prop :=
  ∃ f, Step (fun _ => 0) (fun k => 10 ≤ k) w0 wr f ∧ Row f 40 wr 9 1 (.slice aa adds.length ca) adds.length (scells adds) ∧ Row f 41 wr 3 1 (.slice ka keeps.length ck) keeps.length (icells (List.map (fun n : Nat => (n : Int)) keeps)) ∧ Row f 30 wr 5 1 v14 want.length (bcells want)
section
variable {w0 wr : World} {aa ka : Option Addr} {ca ck : Nat} {adds : List ByteArray} {keeps : List Nat} {v14 : Value} {want : List UInt8}
theorem KA.below (h : KA w0 wr aa ka ca ck adds keeps v14 want) : Below w0.heap.size w0 wr := by
  obtain ⟨f, h1, -⟩ := h
  exact h1.below (fun _ _ => rfl) (by omega)
theorem KA.form (h : KA w0 wr aa ka ca ck adds keeps v14 want) : ∃ a c, v14 = .slice a want.length c := by
  obtain ⟨f, -, -, -, h4⟩ := h
  exact h4.form
theorem KA.strs (h : KA w0 wr aa ka ca ck adds keeps v14 want) : Strs wr aa adds := by
  obtain ⟨f, -, h2, -⟩ := h
  intro j hj
  obtain ⟨g, gc, hov, -, hgl⟩ := h2.1.form (by omega)
  have e : aa = some ⟨g, 0, none⟩ := by simp at hov; exact hov.1
  subst e
  refine ⟨g, rfl, ?_⟩
  rw [h2.1.cellAt j (by omega)]
  simp [scells, strAt, List.getElem?_eq_getElem hj, List.getD_eq_getElem?_getD]
theorem KA.nats (h : KA w0 wr aa ka ca ck adds keeps v14 want) : Nats wr ka keeps := by
  obtain ⟨f, -, -, h3, -⟩ := h
  intro j hj
  obtain ⟨g, gc, hov, -, hgl⟩ := h3.1.form (by omega)
  have e : ka = some ⟨g, 0, none⟩ := by simp at hov; exact hov.1
  subst e
  refine ⟨g, rfl, ?_⟩
  rw [h3.1.cellAt j (by omega)]
  simp [icells, natAt, List.getElem?_eq_getElem hj, List.getD_eq_getElem?_getD]
theorem KA.own (h : KA w0 wr aa ka ca ck adds keeps v14 want) : wr.ownsRow 0 5 1 v14 want.length (bcells want) := by
  obtain ⟨f, -, -, -, h4⟩ := h
  exact h4.1
theorem KA.push (h : KA w0 wr aa ka ca ck adds keeps v14 want) {w1 : World} {o : Obj} {v' : Value} (b : UInt8) (ho : w1.ownsRow 0 5 1 v' (want.length + 1) (bcells want ++ [.int .u8 (b.toNat : Int)])) (hg : (wr.alloc o).grownBy w1 v14.ownBlock) (ha : v'.ownBlock = v14.ownBlock ∨ v'.ownBlock = some (wr.heap.size + 1)) :
    KA w0 w1 aa ka ca ck adds keeps v' (want ++ [b]) := by
  obtain ⟨f, h1, h2, h3, h4⟩ := h
  obtain ⟨hr, hst⟩ := row_append1 (j := 30) h4 ho hg ha
  exact ⟨_, h1.trans (hst.mono (fun k h => by omega)), h2.step hst (by omega), h3.step hst (by omega), by rw [bcells_append, List.length_append]; exact hr⟩
theorem KA.cat (h : KA w0 wr aa ka ca ck adds keeps v14 want) {w1 : World} {v' : Value} (s : ByteArray) (ho : w1.ownsRow 0 5 1 v' (want.length + s.size) (bcells want ++ Lib.strCells s)) (hg : wr.grownBy w1 v14.ownBlock) (ha : v'.ownBlock = v14.ownBlock ∨ v'.ownBlock = some wr.heap.size) :
    KA w0 w1 aa ka ca ck adds keeps v' (want ++ s.data.toList) := by
  obtain ⟨f, h1, h2, h3, h4⟩ := h
  have hst : Step f (fun k => k = 30) wr w1 (ext f wr.heap.size 30) := ((Step.refl f (fun k => k = 30) wr).grown hg (fun k hk => h4.2 k hk)).extend 30
  have hr := h4.grown ho ha
  exact ⟨_, h1.trans (hst.mono (fun k h => by omega)), h2.step hst (by omega), h3.step hst (by omega), by rw [bcells_append, List.length_append]; exact hr⟩
end
theorem want3_len (text : ByteArray) (start k : Nat) (adds : List ByteArray) (keeps : List Nat) : (want3 text start k adds keeps).length ≤ text.size + sumLen adds adds.length + adds.length + keeps.length := by
  have hb : (text.extract start (start + k)).data.toList.length ≤ text.size := by
    show (text.extract start (start + k)).size ≤ text.size
    simp; omega
  unfold want3
  split
  · omega
  · rw [W3_len]
    have := W2_len text (text.extract start (start + k)).data.toList adds keeps adds.length
    omega
theorem one_u8 (b : Int) : ∀ u ∈ [Value.int .u8 b], u.oneCell' = true := by
  intro u hu
  simp at hu
  subst hu
  rfl
theorem at_of4 {v : Value} {m cap' gg H : Nat} (h : v.ownBlock = some gg ∨ gg = H) : (Value.slice (some ⟨gg, 0, none⟩) m cap').ownBlock = v.ownBlock ∨ (Value.slice (some ⟨gg, 0, none⟩) m cap').ownBlock = some H := by
  rcases h with h | h
  · exact .inl h.symm
  · exact .inr (by rw [h]; rfl)
/-- the first i bytes that are kept -/
def bs (text : ByteArray) (start i : Nat) : List UInt8 := (text.extract start (start + i)).data.toList
theorem bs_succ {text : ByteArray} {start i : Nat} (h : start + i < text.size) : bs text start (i + 1) = bs text start i ++ [text[start + i]'h] := extract_succ h (by omega)
theorem bs_len (text : ByteArray) (start i : Nat) : (bs text start i).length ≤ text.size := by
  show (text.extract start (start + i)).size ≤ text.size
  simp; omega
theorem bs_zero (text : ByteArray) (start : Nat) : bs text start 0 = [] := by simp [bs]
theorem step_of {f : Nat → Nat} {w w' : World} (J : Nat → Prop) (h : Below w.heap.size w w') : Step f J w w' f := ⟨h.os, h.tape, h.output, h.size, fun k hk _ => h.block k hk, fun _ _ => rfl⟩
theorem KA.start {wc w1 w2 w3 : World} {aa ka : Option Addr} {ca ck N : Nat} {adds : List ByteArray} {keeps : List Nat}
    (h1 : w1.ownsRow 0 9 1 (.slice aa adds.length ca) adds.length (scells adds)) (n1 : ∀ k, (Value.slice aa adds.length ca).ownBlock = some k → wc.heap.size ≤ k) (b1 : Below wc.heap.size wc w1)
    (h2 : w2.ownsRow 0 3 1 (.slice ka keeps.length ck) keeps.length (icells (List.map (fun n : Nat => (n : Int)) keeps))) (n2 : ∀ k, (Value.slice ka keeps.length ck).ownBlock = some k → w1.heap.size ≤ k) (b2 : Below w1.heap.size w1 w2)
    (h3 : w3.ownsRow 0 5 1 (.slice (some ⟨w2.heap.size, 0, none⟩) 0 N) 0 []) (g3 : w2.grownBy w3 none) : KA wc w3 aa ka ca ck adds keeps (.slice (some ⟨w2.heap.size, 0, none⟩) 0 N) [] := by
  have s1 : Step (fun _ => 0) (fun k => 10 ≤ k) wc w1 (ext (fun _ => 0) wc.heap.size 40) := (step_of _ b1).extend 40
  have r1 : Row (ext (fun _ => 0) wc.heap.size 40) 40 w1 9 1 (.slice aa adds.length ca) adds.length (scells adds) := ⟨h1, fun k hk => ext_new (n1 k hk)⟩
  have s2 : Step (ext (fun _ => 0) wc.heap.size 40) (fun k => k = 41) w1 w2 (ext (ext (fun _ => 0) wc.heap.size 40) w1.heap.size 41) := (step_of _ b2).extend 41
  have r2 : Row (ext (ext (fun _ => 0) wc.heap.size 40) w1.heap.size 41) 41 w2 3 1 (.slice ka keeps.length ck) keeps.length (icells (List.map (fun n : Nat => (n : Int)) keeps)) := ⟨h2, fun k hk => ext_new (n2 k hk)⟩
  have s3 : Step (ext (ext (fun _ => 0) wc.heap.size 40) w1.heap.size 41) (fun k => k = 30) w2 w3 (ext (ext (ext (fun _ => 0) wc.heap.size 40) w1.heap.size 41) w2.heap.size 30) := ((Step.refl _ (fun k => k = 30) w2).grown g3 (fun k hk => by cases hk)).extend 30
  refine ⟨_, (s1.trans (s2.mono (fun k h => by omega))).trans (s3.mono (fun k h => by omega)), (r1.step s2 (by omega)).step s3 (by omega), r2.step s3 (by omega), ⟨h3, fun k hk => ext_new ?_⟩⟩
  simp [Value.ownBlock] at hk
  omega

set_option maxHeartbeats 4000000 in
set_option maxRecDepth 100000 in
theorem midT (text : ByteArray) (start k : Nat) (adds : List ByteArray) (keeps : List Nat) (a3 a4 : Option Addr) (c3 c4 total : Nat) (w0 wc : World) (u10 u12 u13 u14 u15 u16 u17 u18 u19 u20 u21 u22 u23 u24 u25 u26 u27 u28 u29 u30 u31 u32 u33 u34 u35 u36 u37 u38 u39 u40 u41 u42 u43 u44 u45 u46 u47 u48 u49 u50 u51 u52 u53 u54 u55 u56 u57 u58 u59 u60 u61 u62 u63 u64 u65 u66 u67 u68 u69 u70 u71 u72 u73 u74 u75 u76 u77 u78 u79 u80 u81 u82 u83 u84 u85 u86 u87 u88 u89 u90 u91 u92 u93 u94 u95 u96 u97 u98 u99 u100 u101 u102 u103 u104 u105 u106 u107 u108 u109 u110 u111 u112 u113 u114 u115 u116 u117 u118 u119 u120 u121 u122 u123 u124 u125 u126 u127 u128 u129 u130 u131 u132 u133 u134 u135 u136 u137 u138 u139 u140 u141 u142 u143 u144 u145 u146 u147 u148 u149 u150 u151 u152 u153 u154 u155 u156 u157 u158 u159 u160 u161 u162 u163 u164 u165 u166 u167 u168 u169 u170 u171 u172 u173 u174 u175 u176 u177 u178 u179 u180 u181 u182 u183 u184 u185 u186 u187 u188 u189 u190 u191 u192 u193 u194 u195 u196 u197 u198 u199 u200 u201 u202 u203 u204 u205 u206 u207 u208 u209 u210 u211 u212 u213 u214 u215 u216 u217 u218 u219 u220 u221 u222 u223 u224 u225 u226 u227 u228 u229 u230 u231 u232 u233 u234 u235 u236 u237 u238 u239 u240 u241 u242 u243 u244 u245 u246 u247 u248 u249 u250 u251 u252 u253 u254 u255 u256 u257 u258 u259 u260 u261 : Value)
    (hA0 : a3 = none → adds.length = 0) (hAc : ∀ k (h : k < adds.length), ∃ b off, a3 = some ⟨b, off, none⟩ ∧ wc.cell? ⟨b, off + k, none⟩ = some (.string (adds[k]'h)))
    (hK0 : a4 = none → keeps.length = 0) (hKc : ∀ k (h : k < keeps.length), ∃ b off, a4 = some ⟨b, off, none⟩ ∧ wc.cell? ⟨b, off + k, none⟩ = some (.int .i64 ((keeps[k]'h : Nat) : Int))) (hB : Below w0.heap.size w0 wc)
    (ht : text.size ≤ 1048576) (hs : start ≤ text.size) (hk : k ≤ text.size - start) (hkb : ∀ j, j < keeps.length → natAt keeps j < text.size) (hn : adds.length ≤ 65536) (hm : keeps.length ≤ 131072) (hsum : text.size + sumLen adds adds.length + adds.length + keeps.length ≤ 1048576) (hT : total ≤ 1048576) (K : Act → World → Prop)
    (hKK : ∀ a w, Code.wp Try.prog ((Try.f4.body.bind (tlR 21)).getD .skip) (bodyPost Try.prog Try.f4 fun r w2 => r = .returned (.bool true) ∧ Below w0.heap.size w0 w2) a w → K a w) :
    Code.wp Try.prog ((Try.f4.body.bind (hdR 21)).getD .skip) (Exit.then K (bodyPost Try.prog Try.f4 fun r w2 => r = .returned (.bool true) ∧ Below w0.heap.size w0 w2)) ⟨List.toArray (.string text :: .int .i64 (start : Int) :: .int .i64 (k : Int) :: .slice a3 adds.length c3 :: .slice a4 keeps.length c4 :: undef :: undef :: undef :: undef :: undef :: u10 :: .int .i64 (total : Int) :: u12 :: u13 :: u14 :: u15 :: u16 :: u17 :: u18 :: u19 :: u20 :: u21 :: u22 :: u23 :: u24 :: u25 :: u26 :: u27 :: u28 :: u29 :: u30 :: u31 :: u32 :: u33 :: u34 :: u35 :: u36 :: u37 :: u38 :: u39 :: u40 :: u41 :: u42 :: u43 :: u44 :: u45 :: u46 :: u47 :: u48 :: u49 :: u50 :: u51 :: u52 :: u53 :: u54 :: u55 :: u56 :: u57 :: u58 :: u59 :: u60 :: u61 :: u62 :: u63 :: u64 :: u65 :: u66 :: u67 :: u68 :: u69 :: u70 :: u71 :: u72 :: u73 :: u74 :: u75 :: u76 :: u77 :: u78 :: u79 :: u80 :: u81 :: u82 :: u83 :: u84 :: u85 :: u86 :: u87 :: u88 :: u89 :: u90 :: u91 :: u92 :: u93 :: u94 :: u95 :: u96 :: u97 :: u98 :: u99 :: u100 :: u101 :: u102 :: u103 :: u104 :: u105 :: u106 :: u107 :: u108 :: u109 :: u110 :: u111 :: u112 :: u113 :: u114 :: u115 :: u116 :: u117 :: u118 :: u119 :: u120 :: u121 :: u122 :: u123 :: u124 :: u125 :: u126 :: u127 :: u128 :: u129 :: u130 :: u131 :: u132 :: u133 :: u134 :: u135 :: u136 :: u137 :: u138 :: u139 :: u140 :: u141 :: u142 :: u143 :: u144 :: u145 :: u146 :: u147 :: u148 :: u149 :: u150 :: u151 :: u152 :: u153 :: u154 :: u155 :: u156 :: u157 :: u158 :: u159 :: u160 :: u161 :: u162 :: u163 :: u164 :: u165 :: u166 :: u167 :: u168 :: u169 :: u170 :: u171 :: u172 :: u173 :: u174 :: u175 :: u176 :: u177 :: u178 :: u179 :: u180 :: u181 :: u182 :: u183 :: u184 :: u185 :: u186 :: u187 :: u188 :: u189 :: u190 :: u191 :: u192 :: u193 :: u194 :: u195 :: u196 :: u197 :: u198 :: u199 :: u200 :: u201 :: u202 :: u203 :: u204 :: u205 :: u206 :: u207 :: u208 :: u209 :: u210 :: u211 :: u212 :: u213 :: u214 :: u215 :: u216 :: u217 :: u218 :: u219 :: u220 :: u221 :: u222 :: u223 :: u224 :: u225 :: u226 :: u227 :: u228 :: u229 :: u230 :: u231 :: u232 :: u233 :: u234 :: u235 :: u236 :: u237 :: u238 :: u239 :: u240 :: u241 :: u242 :: u243 :: u244 :: u245 :: u246 :: u247 :: u248 :: u249 :: u250 :: u251 :: u252 :: u253 :: u254 :: u255 :: u256 :: u257 :: u258 :: u259 :: u260 :: u261 :: List.nil), []⟩ wc := by
  conv => arg 2; whnf
  conv at hKK => intro a w; arg 1; arg 2; whnf
  have HAC : Hid (∀ k (h : k < adds.length), ∃ b off, a3 = some ⟨b, off, none⟩ ∧ wc.cell? ⟨b, off + k, none⟩ = some (.string (adds[k]'h))) := hAc
  have HKC : Hid (∀ k (h : k < keeps.length), ∃ b off, a4 = some ⟨b, off, none⟩ ∧ wc.cell? ⟨b, off + k, none⟩ = some (.int .i64 ((keeps[k]'h : Nat) : Int))) := hKc
  have HA0 : Hid (a3 = none → adds.length = 0) := hA0
  have HK0 : Hid (a4 = none → keeps.length = 0) := hK0
  have HB : Hid (Below w0.heap.size w0 wc) := hB
  have HKB : Hid (∀ j, j < keeps.length → natAt keeps j < text.size) := hkb
  have HSUM : Hid (sumLen adds adds.length ≤ 1048576) := show _ ≤ _ by omega
  have hwl := want3_len text start k adds keeps
  have HWL : Hid ((want3 text start k adds keeps).length ≤ 2097152) := show _ ≤ _ by omega
  clear hAc hKc hA0 hK0 hB hkb hsum hwl
  obtain ⟨i5, hi5, hx0, hx1, hx2⟩ := info_parts info5
  go_wp2_with fail
  refine Calls.mono (strs_any wc a3 adds.length c3 adds rfl HA0.out (by omega) HAC.out) ?_
  rintro r w1 ⟨⟨v1, rfl, ho1, hf1⟩, hb1⟩
  obtain ⟨aa, ca, rfl⟩ := Row.form (f := fun _ => 0) (j := 0) ⟨ho1, fun _ _ => rfl⟩
  have HO1 : Hid (w1.ownsRow 0 9 1 (.slice aa adds.length ca) adds.length (scells adds)) := ho1
  have HF1 : Hid (∀ k, (Value.slice aa adds.length ca).ownBlock = some k → wc.heap.size ≤ k) := hf1
  have HB1 : Hid (Below wc.heap.size wc w1) := hb1
  clear ho1 hf1 hb1
  go_wp2_with fail
  refine Calls.mono (ints_any w1 a4 keeps.length c4 (List.map (fun n : Nat => (n : Int)) keeps) (by simp) HK0.out (by omega) (fun k h => ?_)) ?_
  · obtain ⟨b, off, e, hc⟩ := HKC.out k h
    exact ⟨b, off, e, by rw [List.getElem_map]; exact (HB1.out.cell (World.block_lt_of_cell? _ _ hc)).trans hc⟩
  rintro r w2 ⟨⟨v2, rfl, ho2, hf2⟩, hb2⟩
  obtain ⟨ka, ck, rfl⟩ := Row.form (f := fun _ => 0) (j := 0) ⟨ho2, fun _ _ => rfl⟩
  have HO2 : Hid (w2.ownsRow 0 3 1 (.slice ka keeps.length ck) keeps.length (icells (List.map (fun n : Nat => (n : Int)) keeps))) := ho2
  have HF2 : Hid (∀ k, (Value.slice ka keeps.length ck).ownBlock = some k → w1.heap.size ≤ k) := hf2
  have HB2 : Hid (Below w1.heap.size w1 w2) := hb2
  clear ho2 hf2 hb2
  go_wp2_with (refine wpList_make_own _ rfl _ _ 31 rfl 0 5 i5 (.int .u8 0) 1 Try.underlying31 hi5 hx0 hx1 .i64 .i64 (total : Int) total rfl rfl rfl ?c1 ?c2 (Nat.zero_le _) ?_)
  case c1 => rw [hx2]; omega
  case c2 => unfold maxLen; omega
  intro w3 ho3 hg3
  have HKA : Hid (KA wc w3 aa ka ca ck adds keeps (.slice (some ⟨w2.heap.size, 0, none⟩) 0 total) []) := KA.start HO1.out HF1.out HB1.out HO2.out HF2.out HB2.out ho3 hg3
  clear ho3 hg3 HO1 HF1 HB1 HO2 HF2 HB2 HAC HKC HA0 HK0
  go_wp2_with fail
  go_loopw [14, 15] (fun v14 v15 wr => ∃ i : Nat, i ≤ k ∧ v15 = .int .i64 (i : Int) ∧ Hid (KA wc wr aa ka ca ck adds keeps v14 (bs text start i))) (fun _ v15 _ => k - (intOf v15).toNat)
  case atStart => exact ⟨0, Nat.zero_le _, rfl, by rw [bs_zero]; exact HKA⟩
  case round =>
    clear HKA
    obtain ⟨i, hi, rfl, hka⟩ := hrel
    by_cases hlt : i < k
    · have q1 : (start : Int) + (i : Int) < (text.size : Int) := by omega
      have q2 : start + i < text.size := by omega
      have HBL : Hid ((bs text start i).length ≤ 1048576) := Nat.le_trans (bs_len text start i) ht
      go_wp2_with (at_builtin; refine wpList_append_lies _ rfl _ _ 31 rfl 0 5 i5 (.int .u8 0) 1 1 Try.underlying31 hi5 hx0 hx1 hx2 rfl (by decide) _ _ _ rfl (hka.out.own.alloc _) ⟨wr.heap.size, 0, none⟩ 1 1 [.int .u8 ((text[start + i]'q2).toNat : Int)] rfl rfl ?c1 ?c2 (by decide) ?c3 ?c4 (Nat.zero_le _) _ rfl ?_)
      case c1 => exact cell_one_new _ _ _
      case c2 => exact one_u8 _
      case c3 => have := HBL.out; unfold maxLen; omega
      case c4 => have := HBL.out; omega
      intro gx ex w4 ho hg ht2 _
      have hkn := hka.out.push ((text[start + i]'q2)) ho hg (at_of4 (by simpa using ht2))
      clear ho hg ht2
      have HK2 : Hid (KA wc w4 aa ka ca ck adds keeps (.slice (some ⟨gx, 0, none⟩) ((bs text start i).length + 1) ex) (bs text start (i + 1))) := by
        show KA _ _ _ _ _ _ _ _ _ _
        rw [bs_succ q2]; exact hkn
      clear hkn hka
      go_wp2
      go_roundw
      case rel => exact ⟨i + 1, by omega, by go_num, HK2⟩
      case measure => simp [intOf]; omega
    · have HW2 : Hid (KA wc wr aa ka ca ck adds keeps u14 (W2 text (bs text start k) adds keeps 0)) := by
        have hik : i = k := by omega
        rw [hik] at hka
        exact hka
      clear hka
      go_wp2_with fail
      clear hi hlt
      go_loopw [14, 16] (fun v14 v16 wr => ∃ j : Nat, j ≤ adds.length ∧ v16 = .int .i64 (j : Int) ∧ Hid (KA wc wr aa ka ca ck adds keeps v14 (W2 text (bs text start k) adds keeps j))) (fun _ v16 _ => adds.length - (intOf v16).toNat)
      case atStart => exact ⟨0, Nat.zero_le _, rfl, HW2⟩
      case round =>
        clear HW2
        obtain ⟨j, hj, rfl, hka⟩ := hrel
        have hlb := Nat.le_trans (bs_len text start k) ht
        have hsm := HSUM.out
        by_cases hjl : j < adds.length
        · obtain ⟨g, rfl, hcg⟩ := hka.out.strs j hjl
          have hjn : (j : Int) < (adds.length : Int) := by omega
          have hss := sumLen_mono adds (j + 1) adds.length (by omega)
          have hlw2 := W2_sum_le text (bs text start k) adds keeps j
          have HX : Hid ((W2 text (bs text start k) adds keeps j).length + (strAt adds j).size ≤ 4194304) := show _ ≤ _ by omega
          have hrow := hka.out.own
          clear hlb hsm hss hlw2
          go_wp2_with (at_builtin; refine wpList_append_string_lies _ rfl _ _ _ _ rfl 5 i5 Try.underlying31 Try.underlying9 hi5 hx0 hx1 hx2 _ _ _ rfl hrow (strAt adds j) rfl (by have := HX.out; omega) ?_)
          intro ax cx w4 ho hg hat
          have hkc := hka.out.cat (strAt adds j) ho hg hat
          have HKC : Hid (KA wc w4 (some ⟨g, 0, none⟩) ka ca ck adds keeps (.slice ax ((W2 text (bs text start k) adds keeps j).length + (strAt adds j).size) cx) (W2 text (bs text start k) adds keeps j ++ (strAt adds j).data.toList)) := hkc
          have HXL : Hid ((W2 text (bs text start k) adds keeps j ++ (strAt adds j).data.toList).length ≤ 4194304) := by show _ ≤ _; rw [List.length_append, size_data]; exact HX.out
          clear hkc ho hg hat hrow hka
          by_cases hjk : j < keeps.length
          · obtain ⟨gk, rfl, hck⟩ := HKC.out.nats j hjk
            have hjkn : (j : Int) < (keeps.length : Int) := by omega
            have hkt := HKB.out j hjk
            have hkti : (natAt keeps j : Int) < (text.size : Int) := by omega
            have e : W2 text (bs text start k) adds keeps (j + 1) = W2 text (bs text start k) adds keeps j ++ (strAt adds j).data.toList ++ [text[natAt keeps j]'hkt] := by simp only [W2, if_pos hjk, byteAt_eq hkt]
            have HE : Hid (W2 text (bs text start k) adds keeps (j + 1) = W2 text (bs text start k) adds keeps j ++ (strAt adds j).data.toList ++ [text[natAt keeps j]'hkt]) := e
            clear e
            obtain ⟨V4, hV4⟩ : ∃ V4, V4 = W2 text (bs text start k) adds keeps j ++ (strAt adds j).data.toList := ⟨_, rfl⟩
            have hl4 : (W2 text (bs text start k) adds keeps j).length + (strAt adds j).size = V4.length := by rw [hV4, List.length_append, size_data]
            rw [hl4, ← hV4] at HKC
            rw [← hV4] at HE HXL
            rw [hl4]
            clear hV4 hl4 HX
            go_wp2_with (at_builtin; refine wpList_append_lies _ rfl _ _ 31 rfl 0 5 i5 (.int .u8 0) 1 1 Try.underlying31 hi5 hx0 hx1 hx2 rfl (by decide) _ _ _ rfl (HKC.out.own.alloc _) ⟨w4.heap.size, 0, none⟩ 1 1 [.int .u8 ((text[natAt keeps j]'hkt).toNat : Int)] rfl rfl ?c1 ?c2 (by decide) ?c3 ?c4 (Nat.zero_le _) _ rfl ?_)
            case c1 => exact cell_one_new _ _ _
            case c2 => exact one_u8 _
            case c3 => have := HXL.out; unfold maxLen; omega
            case c4 => have := HXL.out; omega
            intro gx ex w5 ho hg ht2 _
            have hkn := HKC.out.push ((text[natAt keeps j]'hkt)) ho hg (at_of4 (by simpa using ht2))
            clear ho hg ht2
            have H4 : Hid (KA wc w5 (some ⟨g, 0, none⟩) (some ⟨gk, 0, none⟩) ca ck adds keeps (.slice (some ⟨gx, 0, none⟩) (V4.length + 1) ex) (W2 text (bs text start k) adds keeps (j + 1))) := by show KA _ _ _ _ _ _ _ _ _ _; rw [HE.out]; exact hkn
            clear hkn HKC HE
            go_wp2
            go_roundw
            case rel => exact ⟨j + 1, by omega, by go_num, H4⟩
            case measure => simp [intOf]; omega
          · have hjkn : ¬ (j : Int) < (keeps.length : Int) := by omega
            have e : W2 text (bs text start k) adds keeps (j + 1) = W2 text (bs text start k) adds keeps j ++ (strAt adds j).data.toList := by simp only [W2, if_neg hjk, List.append_nil]
            have H4 : Hid (KA wc w4 (some ⟨g, 0, none⟩) ka ca ck adds keeps (.slice ax ((W2 text (bs text start k) adds keeps j).length + (strAt adds j).size) cx) (W2 text (bs text start k) adds keeps (j + 1))) := by show KA _ _ _ _ _ _ _ _ _ _; rw [e]; exact HKC.out
            clear e HKC
            go_wp2
            go_roundw
            case rel => exact ⟨j + 1, by omega, by go_num, H4⟩
            case measure => simp [intOf]; omega
        · have hjn : j = adds.length := by omega
          subst hjn
          by_cases h0 : adds.length = 0
          · have h0i : ¬ (0 : Int) < (adds.length : Int) := by omega
            have hw3 : Hid (want3 text start k adds keeps = W2 text (bs text start k) adds keeps adds.length) := by
              show want3 _ _ _ _ _ = _
              unfold want3
              rw [if_pos h0, h0]
              rfl
            clear h0 hlb hsm
            obtain ⟨a14, c14, hf⟩ := hka.out.form
            rw [hf] at hka
            rw [hf]
            clear hf
            have HX : Hid (wr.ownsRow 0 5 1 (.slice a14 (want3 text start k adds keeps).length c14) (want3 text start k adds keeps).length (bcells (want3 text start k adds keeps))) := by show World.ownsRow _ _ _ _ _ _ _; rw [hw3.out]; exact hka.out.own
            have HY : Hid (Strs wr aa adds ∧ Nats wr ka keeps ∧ Below w0.heap.size w0 wr) := ⟨hka.out.strs, hka.out.nats, below_trans HB.out hka.out.below⟩
            rw [← hw3.out]
            clear hka hw3
            go_upto_region 39 with fail
            rename_i Kx hKx
            exact tailT Kx text start k adds keeps aa ka a14 ca ck c14 w0 wr _ _ _ _ _ _ _ _ _ _ _ _ _ _ _ _ _ _ _ _ _ _ _ _ _ _ _ _ _ _ _ _ _ _ _ _ _ _ _ _ _ _ _ _ _ _ _ _ _ _ _ _ _ _ _ _ _ _ _ _ _ _ _ _ _ _ _ _ _ _ _ _ _ _ _ _ _ _ _ _ _ _ _ _ _ _ _ _ _ _ _ _ _ _ _ _ _ _ _ _ _ _ _ _ _ _ _ _ _ _ _ _ _ _ _ _ _ _ _ _ _ _ _ _ _ _ _ _ _ _ _ _ _ _ _ _ _ _ _ _ _ _ _ _ _ _ _ _ _ _ _ _ _ _ _ _ _ _ _ _ _ _ _ _ _ _ _ _ _ _ _ _ _ _ _ _ _ _ _ _ _ _ _ _ _ _ _ _ _ _ _ _ _ _ _ _ _ _ _ _ _ _ _ _ _ _ _ _ _ _ _ _ _ _ _ _ _ _ _ _ _ _ _ _ _ _ _ _ _ _ _ _ _ _ _ _ _ _ _ _ _ _ _ _ _ _ _ _ _ _ _ HY.out.1 HY.out.2.1 HX.out HY.out.2.2 ht hs hk HKB.out hn hm HSUM.out HWL.out hKx
          · have h0i : decide (0 < adds.length) = true := by simp; omega
            have h0n : 1 ≤ adds.length := by omega
            have hlw := W2_len text (bs text start k) adds keeps adds.length
            have HWB : Hid ((W2 text (bs text start k) adds keeps adds.length).length ≤ 2162688) := show _ ≤ _ by omega
            have H5 : Hid (KA wc wr aa ka ca ck adds keeps u14 (W3 text (W2 text (bs text start k) adds keeps adds.length) keeps adds.length 0)) := hka
            clear hka hlw hlb hsm
            go_wp2_with fail
            go_loopw [14, 17] (fun v14 v17 wr => ∃ t : Nat, t ≤ keeps.length - adds.length ∧ v17 = .int .i64 ((adds.length : Int) + (t : Int)) ∧ Hid (KA wc wr aa ka ca ck adds keeps v14 (W3 text (W2 text (bs text start k) adds keeps adds.length) keeps adds.length t))) (fun _ v17 _ => keeps.length - (intOf v17).toNat)
            case atStart => exact ⟨0, Nat.zero_le _, by simp, H5⟩
            case round =>
              clear H5
              obtain ⟨t, ht3, rfl, hka⟩ := hrel
              by_cases htl : adds.length + t < keeps.length
              · obtain ⟨gk, rfl, hck⟩ := hka.out.nats (adds.length + t) htl
                have htli : (adds.length : Int) + (t : Int) < (keeps.length : Int) := by omega
                have hkt := HKB.out (adds.length + t) htl
                have hkti : (natAt keeps (adds.length + t) : Int) < (text.size : Int) := by omega
                have e : W3 text (W2 text (bs text start k) adds keeps adds.length) keeps adds.length (t + 1) = W3 text (W2 text (bs text start k) adds keeps adds.length) keeps adds.length t ++ [text[natAt keeps (adds.length + t)]'hkt] := by simp only [W3, byteAt_eq hkt]
                have HE : Hid (W3 text (W2 text (bs text start k) adds keeps adds.length) keeps adds.length (t + 1) = W3 text (W2 text (bs text start k) adds keeps adds.length) keeps adds.length t ++ [text[natAt keeps (adds.length + t)]'hkt]) := e
                have HL5 : Hid ((W3 text (W2 text (bs text start k) adds keeps adds.length) keeps adds.length t).length ≤ 4194304) := by
                  show _ ≤ _
                  rw [W3_len]; have := HWB.out; omega
                obtain ⟨V5, hV5⟩ : ∃ V5, V5 = W3 text (W2 text (bs text start k) adds keeps adds.length) keeps adds.length t := ⟨_, rfl⟩
                rw [← hV5] at hka HL5 HE
                clear e hV5
                go_wp2_with (at_builtin; refine wpList_append_lies _ rfl _ _ 31 rfl 0 5 i5 (.int .u8 0) 1 1 Try.underlying31 hi5 hx0 hx1 hx2 rfl (by decide) _ _ _ rfl (hka.out.own.alloc _) ⟨wr.heap.size, 0, none⟩ 1 1 [.int .u8 ((text[natAt keeps (adds.length + t)]'hkt).toNat : Int)] rfl rfl ?c1 ?c2 (by decide) ?c3 ?c4 (Nat.zero_le _) _ rfl ?_)
                case c1 => exact cell_one_new _ _ _
                case c2 => exact one_u8 _
                case c3 => have := HL5.out; unfold maxLen; omega
                case c4 => have := HL5.out; omega
                intro gx ex w5 ho hg ht2 _
                have hkn := hka.out.push ((text[natAt keeps (adds.length + t)]'hkt)) ho hg (at_of4 (by simpa using ht2))
                clear ho hg ht2
                have H7 : Hid (KA wc w5 aa (some ⟨gk, 0, none⟩) ca ck adds keeps (.slice (some ⟨gx, 0, none⟩) (V5.length + 1) ex) (W3 text (W2 text (bs text start k) adds keeps adds.length) keeps adds.length (t + 1))) := by show KA _ _ _ _ _ _ _ _ _ _; rw [HE.out]; exact hkn
                clear hkn hka HE
                go_wp2
                go_roundw
                case rel => first | exact ⟨t + 1, by omega, by go_num, H7⟩ | ((repeat apply Exists.intro); refine ⟨⟨t + 1, by omega, ?_, H7⟩, rfl⟩; go_num)
                case measure => simp [intOf]; omega
              · have htli : ¬ (adds.length : Int) + (t : Int) < (keeps.length : Int) := by omega
                have hw3 : Hid (want3 text start k adds keeps = W3 text (W2 text (bs text start k) adds keeps adds.length) keeps adds.length t) := by
                  show want3 _ _ _ _ _ = _
                  unfold want3
                  have ht4 : t = keeps.length - adds.length := by omega
                  rw [if_neg h0, ← ht4]
                  rfl
                clear h0
                obtain ⟨a14, c14, hf⟩ := hka.out.form
                rw [hf] at hka
                rw [hf]
                clear hf
                have HX : Hid (wr.ownsRow 0 5 1 (.slice a14 (want3 text start k adds keeps).length c14) (want3 text start k adds keeps).length (bcells (want3 text start k adds keeps))) := by show World.ownsRow _ _ _ _ _ _ _; rw [hw3.out]; exact hka.out.own
                have HY : Hid (Strs wr aa adds ∧ Nats wr ka keeps ∧ Below w0.heap.size w0 wr) := ⟨hka.out.strs, hka.out.nats, below_trans HB.out hka.out.below⟩
                rw [← hw3.out]
                clear hka hw3
                go_upto_region 39 with fail
                rename_i Kx hKx
                exact tailT Kx text start k adds keeps aa ka a14 ca ck c14 w0 wr _ _ _ _ _ _ _ _ _ _ _ _ _ _ _ _ _ _ _ _ _ _ _ _ _ _ _ _ _ _ _ _ _ _ _ _ _ _ _ _ _ _ _ _ _ _ _ _ _ _ _ _ _ _ _ _ _ _ _ _ _ _ _ _ _ _ _ _ _ _ _ _ _ _ _ _ _ _ _ _ _ _ _ _ _ _ _ _ _ _ _ _ _ _ _ _ _ _ _ _ _ _ _ _ _ _ _ _ _ _ _ _ _ _ _ _ _ _ _ _ _ _ _ _ _ _ _ _ _ _ _ _ _ _ _ _ _ _ _ _ _ _ _ _ _ _ _ _ _ _ _ _ _ _ _ _ _ _ _ _ _ _ _ _ _ _ _ _ _ _ _ _ _ _ _ _ _ _ _ _ _ _ _ _ _ _ _ _ _ _ _ _ _ _ _ _ _ _ _ _ _ _ _ _ _ _ _ _ _ _ _ _ _ _ _ _ _ _ _ _ _ _ _ _ _ _ _ _ _ _ _ _ _ _ _ _ _ _ _ _ _ _ _ _ _ _ _ _ _ _ _ HY.out.1 HY.out.2.1 HX.out HY.out.2.2 ht hs hk HKB.out hn hm HSUM.out HWL.out hKx
end Go.Proofs.Qxb6003380a.Kb
