/- The plain side of the law on the value builder's script: what the marks say of the value. No Go in sight. -/
namespace Go.Proofs.Qxb6003380a.Sc

/-- one mark -/
def at' (ms : List (Int × Int)) (m : Nat) : Int := (ms.getD m (0, 0)).1
def fr' (ms : List (Int × Int)) (m : Nat) : Int := (ms.getD m (0, 0)).2
def ig (l : List Int) (m : Nat) : Int := l.getD m 0

theorem at_app {ms : List (Int × Int)} {p : Int × Int} {m : Nat} (h : m < ms.length) : at' (ms ++ [p]) m = at' ms m := by simp [at', List.getD_eq_getElem?_getD, List.getElem?_append_left h]
theorem fr_app {ms : List (Int × Int)} {p : Int × Int} {m : Nat} (h : m < ms.length) : fr' (ms ++ [p]) m = fr' ms m := by simp [fr', List.getD_eq_getElem?_getD, List.getElem?_append_left h]
theorem at_new {ms : List (Int × Int)} {p : Int × Int} : at' (ms ++ [p]) ms.length = p.1 := by simp [at', List.getD_eq_getElem?_getD]
theorem fr_new {ms : List (Int × Int)} {p : Int × Int} : fr' (ms ++ [p]) ms.length = p.2 := by simp [fr', List.getD_eq_getElem?_getD]
theorem ig_app {l r : List Int} {m : Nat} (h : m < l.length) : ig (l ++ r) m = ig l m := by simp [ig, List.getD_eq_getElem?_getD, List.getElem?_append_left h]
theorem ig_new {l : List Int} {p : Int} : ig (l ++ [p]) l.length = p := by simp [ig, List.getD_eq_getElem?_getD]
theorem ig_rep {l : List Int} {n m : Nat} {p : Int} (h : l.length ≤ m) (h2 : m < l.length + n) : ig (l ++ List.replicate n p) m = p := by
  have hlt : m - l.length < n := by omega
  simp [ig, List.getD_eq_getElem?_getD, List.getElem?_append_right h, hlt]

/-- mark m is the last one that stands at x or before it -/
def Sel (ms : List (Int × Int)) (x : Int) (m : Nat) : Prop := m < ms.length ∧ at' ms m ≤ x ∧ (m + 1 < ms.length → x < at' ms (m + 1))

/-- the marks by themselves: they begin at (0, start) and rise; none lies past the value's end n nor past the place i -/
structure Ms (start : Nat) (n i : Nat) (ms : List (Int × Int)) : Prop where
  pos : 0 < ms.length
  a0 : at' ms 0 = 0
  f0 : fr' ms 0 = start
  am : ∀ p, p + 1 < ms.length → at' ms p ≤ at' ms (p + 1)
  fm : ∀ p, p + 1 < ms.length → fr' ms p ≤ fr' ms (p + 1)
  al : ∀ p, p < ms.length → at' ms p ≤ n
  fl : ∀ p, p < ms.length → fr' ms p ≤ i

theorem Ms.ge {start n i : Nat} {ms : List (Int × Int)} (h : Ms start n i ms) : ∀ p, p < ms.length → 0 ≤ at' ms p ∧ (start : Int) ≤ fr' ms p := by
  intro p
  induction p with
  | zero => intro _; rw [h.a0, h.f0]; omega
  | succ p ih =>
    intro hp
    have h1 := ih (by omega)
    have h2 := h.am p hp
    have h3 := h.fm p hp
    omega

theorem Ms.grow {start n i n' i' : Nat} {ms : List (Int × Int)} (h : Ms start n i ms) (hn : n ≤ n') (hi : i ≤ i') : Ms start n' i' ms :=
  ⟨h.pos, h.a0, h.f0, h.am, h.fm, fun p hp => by have := h.al p hp; omega, fun p hp => by have := h.fl p hp; omega⟩

theorem Ms.push {start n i : Nat} {ms : List (Int × Int)} (h : Ms start n i ms) : Ms start n i (ms ++ [((n : Int), (i : Int))]) := by
  have hl : (ms ++ [((n : Int), (i : Int))]).length = ms.length + 1 := by simp
  refine ⟨by omega, by rw [at_app h.pos]; exact h.a0, by rw [fr_app h.pos]; exact h.f0, fun p hp => ?_, fun p hp => ?_, fun p hp => ?_, fun p hp => ?_⟩
  · rw [hl] at hp
    rw [at_app (by omega)]
    by_cases c : p + 1 < ms.length
    · rw [at_app c]; exact h.am p c
    · have : p + 1 = ms.length := by omega
      rw [this, at_new]; exact h.al p (by omega)
  · rw [hl] at hp
    rw [fr_app (by omega)]
    by_cases c : p + 1 < ms.length
    · rw [fr_app c]; exact h.fm p c
    · have : p + 1 = ms.length := by omega
      rw [this, fr_new]; exact h.fl p (by omega)
  · rw [hl] at hp
    by_cases c : p < ms.length
    · rw [at_app c]; exact h.al p c
    · have : p = ms.length := by omega
      rw [this, at_new]; exact Int.le_refl _
  · rw [hl] at hp
    by_cases c : p < ms.length
    · rw [fr_app c]; exact h.fl p c
    · have : p = ms.length := by omega
      rw [this, fr_new]; exact Int.le_refl _

/-- a place before the new mark is chosen by the same mark as before -/
theorem Sel.old {ms : List (Int × Int)} {n i x : Int} {m : Nat} (h : Sel (ms ++ [(n, i)]) x m) (hx : x < n) : Sel ms x m := by
  obtain ⟨h1, h2, h3⟩ := h
  have hl : (ms ++ [(n, i)]).length = ms.length + 1 := by simp
  rw [hl] at h1 h3
  by_cases c : m < ms.length
  · rw [at_app c] at h2
    refine ⟨c, h2, fun hm => ?_⟩
    have := h3 (by omega)
    rwa [at_app hm] at this
  · have : m = ms.length := by omega
    subst this
    rw [at_new] at h2
    simp at h2
    omega
/-- the place of the new mark itself is chosen by the new mark -/
theorem Sel.new {ms : List (Int × Int)} {n i : Int} {m : Nat} (h : Sel (ms ++ [(n, i)]) n m) (hal : ∀ p, p < ms.length → at' ms p ≤ n) : m = ms.length := by
  obtain ⟨h1, h2, h3⟩ := h
  have hl : (ms ++ [(n, i)]).length = ms.length + 1 := by simp
  rw [hl] at h1 h3
  by_cases c : m < ms.length
  · have h4 := h3 (by omega)
    by_cases c2 : m + 1 < ms.length
    · rw [at_app c2] at h4
      have := hal (m + 1) c2
      omega
    · have : m + 1 = ms.length := by omega
      rw [this, at_new] at h4
      simp at h4
  · omega
/-- a place at the value's end is chosen by the last mark -/
theorem Sel.last {ms : List (Int × Int)} {x : Int} {m : Nat} (h : Sel ms x m) (hal : ∀ p, p < ms.length → at' ms p ≤ x) : m + 1 = ms.length := by
  obtain ⟨h1, h2, h3⟩ := h
  by_cases c : m + 1 < ms.length
  · have := h3 c
    have := hal (m + 1) c
    omega
  · omega

/-- all that the script has made so far: the place i in the text, the value want, where each byte came from (src), the replacements' places, the marks, whether the builder copies, what comes next -/
structure Good (text : ByteArray) (start k i c : Nat) (want : List UInt8) (src aA aF : List Int) (ms : List (Int × Int)) (cp : Bool) (nx : Int) : Prop where
  hi : start ≤ i ∧ i ≤ text.size
  hc : c ≤ 4 * k
  hw : want.length ≤ 4 * k
  hs : src.length = want.length
  hm : ms.length ≤ k + 1
  ha : aA.length ≤ k
  hf : aF.length = aA.length
  plain : cp = false → want = (text.extract start i).data.toList ∧ nx = i
  nxt : nx = i ∨ nx = -1
  msk : Ms start want.length i ms
  last : nx = i → fr' ms (ms.length - 1) + want.length - at' ms (ms.length - 1) = i
  srcb : ∀ j, j < src.length → -1 ≤ ig src j ∧ ig src j ≤ text.size
  cov : ∀ j, j < src.length → ∀ m, Sel ms j m → 0 ≤ ig src j → fr' ms m + j - at' ms m = ig src j
  aB : ∀ t, t < aA.length → 0 ≤ ig aA t ∧ ig aA t < want.length
  aS : ∀ t, t + 1 < aA.length → ig aA t ≤ ig aA (t + 1)
  aFb : ∀ t, t < aF.length → 0 ≤ ig aF t ∧ ig aF t ≤ text.size
  covA : ∀ t, t < aA.length → ∀ m, Sel ms (ig aA t) m → fr' ms m = ig aF t

theorem Good.start (text : ByteArray) (start : Nat) (h : start ≤ text.size) : Good text start 0 start 0 [] [] [] [] [(0, (start : Int))] false start where
  hi := ⟨Nat.le_refl _, h⟩
  hc := Nat.le_refl _
  hw := Nat.le_refl _
  hs := rfl
  hm := Nat.le_refl _
  ha := Nat.le_refl _
  hf := rfl
  plain := fun _ => ⟨by simp, rfl⟩
  nxt := .inl rfl
  msk := ⟨by simp, rfl, rfl, fun p hp => by simp at hp, fun p hp => by simp at hp, fun p hp => by
    have : p = 0 := by simpa using hp
    subst this; simp [at'], fun p hp => by
    have : p = 0 := by simpa using hp
    subst this; simp [fr']⟩
  last := fun _ => by simp [fr', at']
  srcb := fun j hj => absurd hj (by simp)
  cov := fun j hj => absurd hj (by simp)
  aB := fun j hj => absurd hj (by simp)
  aS := fun j hj => absurd hj (by simp)
  aFb := fun j hj => absurd hj (by simp)
  covA := fun j hj => absurd hj (by simp)

theorem extract_succ {text : ByteArray} {start i : Nat} (h : i < text.size) (hs : start ≤ i) : (text.extract start (i + 1)).data.toList = (text.extract start i).data.toList ++ [text[i]] := by
  have e : ∀ a b, (text.extract a b).data.toList = (text.data.toList.drop a).take (b - a) := fun a b => by simp [ByteArray.data_extract]
  rw [e, e]
  have h1 : i + 1 - start = (i - start) + 1 := by omega
  rw [h1, List.take_succ_eq_append_getElem (by simp; omega)]
  congr 1
  simp only [List.getElem_drop]
  congr 1
  have h2 : start + (i - start) = i := by omega
  simp only [h2]
  rfl

/-- the marks behind a keep -/
def keepM (ms : List (Int × Int)) (nx : Int) (i n : Nat) : List (Int × Int) := if (i : Int) = nx then ms else ms ++ [((n : Int), (i : Int))]

theorem Good.keep {text : ByteArray} {start k i c : Nat} {want : List UInt8} {src aA aF : List Int} {ms : List (Int × Int)} {cp : Bool} {nx : Int} (h : Good text start k i c want src aA aF ms cp nx) (hi : i < text.size) :
    Good text start (k + 1) (i + 1) c (want ++ [text[i]]) (src ++ [(i : Int)]) aA aF (keepM ms nx i want.length) cp ((i : Int) + 1) := by
  have hlw : (want ++ [text[i]]).length = want.length + 1 := by simp
  have hls : (src ++ [(i : Int)]).length = src.length + 1 := by simp
  have hpos := h.msk.pos
  have hsz := h.hs
  have hll : ((keepM ms nx i want.length).length = ms.length ∧ keepM ms nx i want.length = ms ∧ (i : Int) = nx) ∨ ((keepM ms nx i want.length).length = ms.length + 1 ∧ keepM ms nx i want.length = ms ++ [((want.length : Int), (i : Int))] ∧ (i : Int) ≠ nx) := by
    unfold keepM
    split
    · exact .inl ⟨rfl, rfl, by assumption⟩
    · exact .inr ⟨by simp, rfl, by assumption⟩
  have hM : Ms start want.length i (keepM ms nx i want.length) := by
    rcases hll with ⟨_, e, _⟩ | ⟨_, e, _⟩
    · rw [e]; exact h.msk
    · rw [e]; exact h.msk.push
  refine ⟨⟨by have := h.hi; omega, by omega⟩, by have := h.hc; omega, by have := h.hw; omega, by omega, by have := h.hm; omega, by have := h.ha; omega, h.hf, fun hc => ?_, .inl (by omega), ?_, fun _ => ?_, fun j hj => ?_, fun j hj m hS h0 => ?_, fun t ht => ?_, h.aS, h.aFb, fun t ht m hS => ?_⟩
  · obtain ⟨h1, h2⟩ := h.plain hc
    exact ⟨by rw [extract_succ hi h.hi.1, h1], by omega⟩
  · rw [hlw]; exact hM.grow (by omega) (by omega)
  · rw [hlw]
    rcases hll with ⟨el, e, en⟩ | ⟨el, e, en⟩
    · rw [e]
      have := h.last en.symm
      omega
    · rw [el, e]
      have e1 : ms.length + 1 - 1 = ms.length := by omega
      rw [e1, fr_new, at_new]
      simp
      omega
  · rw [hls] at hj
    by_cases c : j < src.length
    · rw [ig_app c]; exact h.srcb j c
    · have : j = src.length := by omega
      subst this
      rw [ig_new]
      omega
  · rw [hls] at hj
    by_cases c : j < src.length
    · rw [ig_app c] at h0 ⊢
      have hS' : Sel ms j m := by
        rcases hll with ⟨_, e, _⟩ | ⟨_, e, _⟩
        · rwa [e] at hS
        · rw [e] at hS; exact hS.old (by omega)
      have := h.cov j c m hS' h0
      have hml := hS'.1
      rcases hll with ⟨_, e, _⟩ | ⟨_, e, _⟩
      · rwa [e]
      · rw [e, fr_app hml, at_app hml]; exact this
    · have hj' : j = src.length := by omega
      subst hj'
      rw [ig_new]
      rw [hsz] at hS ⊢
      rcases hll with ⟨_, e, en⟩ | ⟨_, e, en⟩
      · rw [e] at hS ⊢
        have hm := hS.last h.msk.al
        have := h.last en.symm
        have e2 : m = ms.length - 1 := by omega
        rw [e2]
        omega
      · rw [e] at hS ⊢
        have hm := hS.new h.msk.al
        rw [hm, fr_new, at_new]
        simp
  · have := h.aB t ht
    rw [hlw]
    omega
  · have h1 := h.aB t ht
    have hS' : Sel ms (ig aA t) m := by
      rcases hll with ⟨_, e, _⟩ | ⟨_, e, _⟩
      · rwa [e] at hS
      · rw [e] at hS; exact hS.old h1.2
    have := h.covA t ht m hS'
    rcases hll with ⟨_, e, _⟩ | ⟨_, e, _⟩
    · rwa [e]
    · rw [e, fr_app hS'.1]; exact this

theorem Good.add {text : ByteArray} {start k i c n : Nat} {want : List UInt8} {src aA aF : List Int} {ms : List (Int × Int)} {cp : Bool} {nx : Int} (h : Good text start k i c want src aA aF ms cp nx) (hi : i + n ≤ text.size) (rep : List UInt8) (h1 : 1 ≤ rep.length) (h4 : rep.length ≤ 4) :
    Good text start (k + 1) (i + n) (c + rep.length) (want ++ rep) (src ++ List.replicate rep.length (-1)) (aA ++ [(want.length : Int)]) (aF ++ [(i : Int)]) (ms ++ [((want.length : Int), (i : Int))]) true (-1) := by
  have hlw : (want ++ rep).length = want.length + rep.length := by simp
  have hls : (src ++ List.replicate rep.length (-1)).length = src.length + rep.length := by simp
  have hla : (aA ++ [(want.length : Int)]).length = aA.length + 1 := by simp
  have hlf : (aF ++ [(i : Int)]).length = aF.length + 1 := by simp
  have hlm : (ms ++ [((want.length : Int), (i : Int))]).length = ms.length + 1 := by simp
  have hsz := h.hs
  have hff := h.hf
  refine ⟨⟨by have := h.hi; omega, hi⟩, by have := h.hc; omega, by have := h.hw; omega, by omega, by have := h.hm; omega, by have := h.ha; omega, by omega, fun hc => absurd hc (by simp), Or.inr rfl, ?_, fun hc => ?_, fun j hj => ?_, fun j hj m hS h0 => ?_, fun t ht => ?_, fun t ht => ?_, fun t ht => ?_, fun t ht m hS => ?_⟩
  · rw [hlw]; exact h.msk.push.grow (by omega) (by omega)
  · exfalso; omega
  · rw [hls] at hj
    by_cases c : j < src.length
    · rw [ig_app c]; exact h.srcb j c
    · rw [ig_rep (by omega) (by omega)]; omega
  · rw [hls] at hj
    by_cases c : j < src.length
    · rw [ig_app c] at h0 ⊢
      have hS' : Sel ms j m := hS.old (by omega)
      have := h.cov j c m hS' h0
      rw [fr_app hS'.1, at_app hS'.1]; exact this
    · rw [ig_rep (by omega) (by omega)] at h0
      omega
  · rw [hla] at ht
    rw [hlw]
    by_cases c : t < aA.length
    · rw [ig_app c]; have := h.aB t c; omega
    · have : t = aA.length := by omega
      subst this
      rw [ig_new]; omega
  · rw [hla] at ht
    rw [ig_app (show t < aA.length by omega)]
    by_cases c : t + 1 < aA.length
    · rw [ig_app c]; exact h.aS t c
    · have : t + 1 = aA.length := by omega
      rw [this, ig_new]; have := h.aB t (by omega); omega
  · rw [hlf] at ht
    by_cases c : t < aF.length
    · rw [ig_app c]; exact h.aFb t c
    · have : t = aF.length := by omega
      subst this
      rw [ig_new]; omega
  · rw [hla] at ht
    by_cases c : t < aA.length
    · rw [ig_app c] at hS
      rw [ig_app (show t < aF.length by omega)]
      have hS' : Sel ms (ig aA t) m := hS.old (h.aB t c).2
      rw [fr_app hS'.1]
      exact h.covA t c m hS'
    · have e : t = aA.length := by omega
      subst e
      rw [ig_new] at hS
      have hm := hS.new h.msk.al
      rw [hm, fr_new, ← hff, ig_new]

end Go.Proofs.Qxb6003380a.Sc
