/- The plain side of the middle snake: the two rows of furthest points. No Go in sight. -/
import Derived.Test.Qxb6602567aMsPlain
namespace Go.Proofs.Qxb6602567a.Ms

def ig (l : List Int) (m : Nat) : Int := l.getD m 0
theorem ig_set_same {l : List Int} {i : Nat} (h : i < l.length) (v : Int) : ig (l.set i v) i = v := by
  simp [ig, List.getD_eq_getElem?_getD, h]
theorem ig_set_other {l : List Int} {i j : Nat} (h : i ≠ j) (v : Int) : ig (l.set i v) j = ig l j := by
  simp [ig, List.getD_eq_getElem?_getD, List.getElem?_set_ne h]

variable {e e' : Nat → Nat → Bool} {n m : Nat}

/-- the row holds the furthest points of all diagonals that d steps reach -/
def Fw (e : Nat → Nat → Bool) (at' d : Nat) (F : List Int) : Prop := ∀ k : Int, -(d : Int) ≤ k → k ≤ d → (k - d) % 2 = 0 → Fz e d k (ig F ((at' : Int) + k).toNat)
/-- the row as step d finds it -/
def Pre (e : Nat → Nat → Bool) (at' d : Nat) (F : List Int) : Prop := (d = 0 → ig F (at' + 1) = 0) ∧ (1 ≤ d → Fw e at' (d - 1) F)
/-- the row within step d, i diagonals done -/
structure Half (e : Nat → Nat → Bool) (at' d i : Nat) (F : List Int) : Prop where
  z : i = 0 → d = 0 → ig F (at' + 1) = 0
  p : 1 ≤ d → Fw e at' (d - 1) F
  q : ∀ j : Nat, j < i → Fz e d (2 * (j : Int) - d) (ig F ((at' : Int) + (2 * (j : Int) - d)).toNat)
theorem Half.start {at' d : Nat} {F : List Int} (h : Pre e at' d F) : Half e at' d 0 F := ⟨fun _ => h.1, h.2, fun j hj => absurd hj (by omega)⟩
theorem Half.next {at' d i : Nat} {F : List Int} {v : Int} (h : Half e at' d i F) (hi : i ≤ d) (hat : d < at') (hlen : at' + d < F.length) (hz : Fz e d (2 * (i : Int) - d) v) (p : Nat) (hp : (p : Int) = (at' : Int) + (2 * (i : Int) - d)) : Half e at' d (i + 1) (F.set p v) := by
  refine ⟨fun h0 => absurd h0 (by omega), fun hd => fun k h1 h2 h3 => ?_, fun j hj => ?_⟩
  · rw [ig_set_other (by omega)]
    exact h.p hd k h1 h2 h3
  · by_cases hji : j = i
    · subst hji
      have e1 : ((at' : Int) + (2 * (j : Int) - d)).toNat = p := by omega
      rw [e1, ig_set_same (by omega)]
      exact hz
    · rw [ig_set_other (by omega)]
      exact h.q j (by omega)
theorem Half.done {at' d : Nat} {F : List Int} (h : Half e at' d (d + 1) F) : Fw e at' d F := fun k h1 h2 h3 => by
  have := h.q ((k + d) / 2).toNat (by omega)
  have e1 : 2 * ((((k + d) / 2).toNat : Nat) : Int) - d = k := by omega
  rw [e1] at this
  exact this

/-- where the run of equal lines on diagonal k begins -/
def StartOK (e : Nat → Nat → Bool) (d : Nat) (k v : Int) : Prop := ∃ x y : Nat, v = x ∧ k = (x : Int) - y ∧ Dst e x y ≤ d ∧
  (k = -(d : Int) ∨ ∃ a : Int, 0 < d ∧ Fz e (d - 1) (k - 1) a ∧ a + 1 ≤ x) ∧ (k = (d : Int) ∨ ∃ b : Int, 0 < d ∧ Fz e (d - 1) (k + 1) b ∧ b ≤ x)
theorem Half.down {at' d i : Nat} {F : List Int} (h : Half e at' d i F) (hi : i ≤ d) (hat : d < at') (p1 p2 : Nat) (h1 : (p1 : Int) + 1 = (at' : Int) + (2 * (i : Int) - d)) (h2 : (p2 : Int) = (at' : Int) + (2 * (i : Int) - d) + 1)
    (hc : i = 0 ∨ (i < d ∧ ig F p1 < ig F p2)) : StartOK e d (2 * (i : Int) - d) (ig F p2) := by
  by_cases hd : d = 0
  · have hi0 : i = 0 := by omega
    subst hd; subst hi0
    have e1 : p2 = at' + 1 := by omega
    rw [e1, h.z rfl rfl]
    exact ⟨0, 0, rfl, by simp, by rw [dst_0y]; omega, .inl (by simp), .inl (by simp)⟩
  · have hF := h.p (by omega)
    have hb := hF (2 * (i : Int) - d + 1) (by omega) (by omega) (by omega)
    have e2 : ((at' : Int) + (2 * (i : Int) - d + 1)).toNat = p2 := by omega
    rw [e2] at hb
    obtain ⟨x, y, hv, hk, hd1, hd2⟩ := hb
    have hb : Fz e (d - 1) (2 * (i : Int) - d + 1) (ig F p2) := ⟨x, y, hv, hk, hd1, hd2⟩
    refine ⟨x, y + 1, hv, by omega, by have := up_y (e := e) x y; omega, ?_, .inr ⟨_, by omega, hb, by omega⟩⟩
    rcases hc with hc | ⟨hc1, hc2⟩
    · exact .inl (by omega)
    · by_cases hi0 : i = 0
      · exact .inl (by omega)
      · have ha := hF (2 * (i : Int) - d - 1) (by omega) (by omega) (by omega)
        have e1 : ((at' : Int) + (2 * (i : Int) - d - 1)).toNat = p1 := by omega
        rw [e1] at ha
        exact .inr ⟨_, by omega, ha, by omega⟩
theorem Half.right {at' d i : Nat} {F : List Int} (h : Half e at' d i F) (hi : i ≤ d) (hat : d < at') (p1 p2 : Nat) (h1 : (p1 : Int) + 1 = (at' : Int) + (2 * (i : Int) - d)) (h2 : (p2 : Int) = (at' : Int) + (2 * (i : Int) - d) + 1)
    (hi0 : 0 < i) (hc : i = d ∨ ¬ ig F p1 < ig F p2) : StartOK e d (2 * (i : Int) - d) (ig F p1 + 1) := by
  have hF := h.p (by omega)
  have ha := hF (2 * (i : Int) - d - 1) (by omega) (by omega) (by omega)
  have e1 : ((at' : Int) + (2 * (i : Int) - d - 1)).toNat = p1 := by omega
  rw [e1] at ha
  obtain ⟨x, y, hv, hk, hd1, hd2⟩ := ha
  have ha : Fz e (d - 1) (2 * (i : Int) - d - 1) (ig F p1) := ⟨x, y, hv, hk, hd1, hd2⟩
  refine ⟨x + 1, y, by omega, by omega, by have := up_x (e := e) x y; omega, .inr ⟨_, by omega, ha, by omega⟩, ?_⟩
  by_cases hid : i = d
  · exact .inl (by omega)
  · have hb := hF (2 * (i : Int) - d + 1) (by omega) (by omega) (by omega)
    have e2 : ((at' : Int) + (2 * (i : Int) - d + 1)).toNat = p2 := by omega
    rw [e2] at hb
    exact .inr ⟨_, by omega, hb, by omega⟩

/-- how far d steps can come beyond the box -/
theorem Box.reach (h : Box e n m) {d x y : Nat} (hd : Dst e x y ≤ d) : x ≤ n + d ∧ y ≤ m + d := by
  constructor
  · by_cases hx : x ≤ n
    · omega
    · obtain ⟨j, rfl⟩ : ∃ j, x = n + j := ⟨x - n, by omega⟩
      rw [h.xs] at hd
      omega
  · by_cases hy : y ≤ m
    · omega
    · obtain ⟨j, rfl⟩ : ∃ j, y = m + j := ⟨y - m, by omega⟩
      rw [h.ys] at hd
      omega
theorem Fz.reach (h : Box e n m) {d : Nat} {k v : Int} (hz : Fz e d k v) : 0 ≤ v ∧ v ≤ n + d := by
  obtain ⟨x, y, rfl, -, hd, -⟩ := hz
  have := (h.reach (Nat.le_of_eq hd)).1
  omega

/-- no meeting so far: i diagonals of this row against the other row -/
def NoM (n m at' d i : Nat) (c : Int) (F G : List Int) : Prop := ∀ j : Nat, j < i → -c ≤ (n : Int) - m - (2 * (j : Int) - d) → (n : Int) - m - (2 * (j : Int) - d) ≤ c →
  ig F ((at' : Int) + (2 * (j : Int) - d)).toNat < (n : Int) - ig G ((at' : Int) + ((n : Int) - m - (2 * (j : Int) - d))).toNat
theorem NoM.start (n m at' d : Nat) (c : Int) (F G : List Int) : NoM n m at' d 0 c F G := fun j hj => absurd hj (by omega)
theorem NoM.next {at' d i : Nat} {c : Int} {F G : List Int} {v : Int} (h : NoM n m at' d i c F G) (hi : i ≤ d) (hat : d < at') (hlen : at' + d < F.length) (p : Nat) (hp : (p : Int) = (at' : Int) + (2 * (i : Int) - d))
    (hv : -c ≤ (n : Int) - m - (2 * (i : Int) - d) → (n : Int) - m - (2 * (i : Int) - d) ≤ c → v < (n : Int) - ig G ((at' : Int) + ((n : Int) - m - (2 * (i : Int) - d))).toNat) : NoM n m at' d (i + 1) c (F.set p v) G := by
  intro j hj h1 h2
  by_cases hji : j = i
  · subst hji
    have e1 : ((at' : Int) + (2 * (j : Int) - d)).toNat = p := by omega
    rw [e1, ig_set_same (by omega)]
    exact hv h1 h2
  · rw [ig_set_other (by omega)]
    exact h j (by omega) h1 h2
/-- a step without a meeting: the whole distance is not d + c -/
theorem NoM.not (h : Rev e e' n m) {at' d c : Nat} {F G : List Int} (hF : Fw e at' d F) (hG : Fw e' at' c G) (hp : (d + c + n + m) % 2 = 0) (hn : NoM n m at' d (d + 1) c F G) : Dst e n m ≠ d + c := by
  intro hD
  obtain ⟨k, h1, h2, h3, h4, h5, h6⟩ := must h hD
  have e1 : 2 * ((((k + d) / 2).toNat : Nat) : Int) - d = k := by omega
  have h7 := hn ((k + d) / 2).toNat (by omega) (by rw [e1]; omega) (by rw [e1]; omega)
  rw [e1] at h7
  have h8 := h6 _ _ (hF k h1 h2 h3) (hG _ h4 h5 (by omega))
  omega

/-- what the answer says: a run of equal lines from (x, y), j lines long -/
structure Cuts (e e' : Nat → Nat → Bool) (n m x y j : Nat) : Prop where
  bx : x + j ≤ n
  cy : y + j ≤ m
  run : Run e x y j
  half : (Dst e x y = (Dst e n m + 1) / 2 ∧ Dst e' (n - (x + j)) (m - (y + j)) = Dst e n m / 2) ∨ (2048 < Dst e n m ∧ j = 0 ∧ (x ≠ 0 ∨ y ≠ 0) ∧ (x ≠ n ∨ y ≠ m))

/-- the forward search meets the backward one -/
theorem cuts_odd (h : Rev e e' n m) {d : Nat} {k v b : Int} {x y j : Nat} (hk : k = (x : Int) - y) (hr : Run e x y j) (hv : v = ((x + j : Nat) : Int)) (hd : 1 ≤ d) (hz : Fz e d k v) (hg : Fz e' (d - 1) ((n : Int) - m - k) b) (hD : 2 * d ≤ Dst e n m + 1) (h1 : (n : Int) - m - k ≤ (d : Int) - 1) (h2 : -((d : Int) - 1) ≤ (n : Int) - m - k) (hm : (n : Int) - b ≤ v) :
    Cuts e e' n m x y j ∧ Dst e n m = 2 * d - 1 := by
  obtain ⟨hD2, x', y', hv', hk', hx, hy, hd1, hd2⟩ := meet h hz hg (by omega) (by omega) (by omega) hm
  have ex : x' = x + j := by omega
  have ey : y' = y + j := by omega
  subst ex; subst ey
  rw [hr.dst] at hd1
  exact ⟨⟨hx, hy, hr, .inl ⟨by omega, by omega⟩⟩, by omega⟩
/-- a run of equal lines, read from the other end -/
theorem Run.rev (h : Rev e e' n m) {x y j : Nat} (hr : Run e' x y j) (hx : x + j ≤ n) (hy : y + j ≤ m) : Run e (n - (x + j)) (m - (y + j)) j := fun i hi => by
  have := hr (j - 1 - i) (by omega)
  rw [h.at' (n - (x + j) + i) (m - (y + j) + i) (x + (j - 1 - i)) (y + (j - 1 - i)) (by omega) (by omega)] at this
  exact this
/-- the backward search meets the forward one -/
theorem cuts_even (h : Rev e e' n m) {d : Nat} {k v b : Int} {x y j : Nat} (hk : k = (x : Int) - y) (hr : Run e' x y j) (hv : v = ((x + j : Nat) : Int)) (hz : Fz e' d k v) (hg : Fz e d ((n : Int) - m - k) b) (hD : 2 * d ≤ Dst e n m) (h1 : (n : Int) - m - k ≤ d) (h2 : -(d : Int) ≤ (n : Int) - m - k) (hm : (n : Int) - v ≤ b) :
    x + j ≤ n ∧ y + j ≤ m ∧ Cuts e e' n m (n - (x + j)) (m - (y + j)) j ∧ Dst e n m = 2 * d := by
  have he := rev_eq h
  obtain ⟨hD2, x', y', hv', hk', hx, hy, hd1, hd2⟩ := meet h.symm hz hg (by omega) (by omega) (by omega) (by omega)
  have ex : x' = x + j := by omega
  have ey : y' = y + j := by omega
  subst ex; subst ey
  rw [hr.dst] at hd1
  refine ⟨hx, hy, ⟨by omega, by omega, hr.rev h hx hy, .inl ⟨by omega, ?_⟩⟩, by omega⟩
  have e1 : n - (n - (x + j) + j) = x := by omega
  have e2 : m - (m - (y + j) + j) = y := by omega
  rw [e1, e2]
  omega
/-- the distance and the lines have the same parity -/
theorem par_box : (Dst e n m + n + m) % 2 = 0 := by
  have := par (e := e) n m
  omega
/-- the furthest point of all: not the start, not the end -/
structure Far (e : Nat → Nat → Bool) (n m d : Nat) (x y : Nat) : Prop where
  bx : x ≤ n
  cy : y ≤ m
  z : (x = 0 ∧ y = 0) ∨ Dst e x y = d
theorem cuts_far (hb : Box e n m) {at' d : Nat} {F : List Int} (hF : Fw e at' d F) (hd : 0 < d) (hD : d < Dst e n m) (h2 : 2048 < Dst e n m) {x y : Nat} (hf : Far e n m d x y)
    (hmax : ∀ k : Int, -(d : Int) ≤ k → k ≤ d → (k - d) % 2 = 0 → ig F ((at' : Int) + k).toNat ≤ n → ig F ((at' : Int) + k).toNat - k ≤ m → 2 * ig F ((at' : Int) + k).toNat - k ≤ (x : Int) + y) : Cuts e e' n m x y 0 := by
  obtain ⟨k, h1, h2', h3, h4, h5⟩ := someIn hb hD (fun k => ig F ((at' : Int) + k).toNat) hF
  have h6 := hmax k h1 h2' h3 h4 h5
  obtain ⟨p, q, hv, hk, hd1, -⟩ := hF k h1 h2' h3
  have hpq : 0 < p + q := by
    by_cases c : 0 < p + q
    · exact c
    · have hp : p = 0 := by omega
      have hq : q = 0 := by omega
      rw [hp, hq, dst_0y] at hd1
      omega
  refine ⟨hf.bx, hf.cy, fun i hi => absurd hi (by omega), .inr ⟨h2, rfl, by omega, ?_⟩⟩
  by_cases c : x ≠ n ∨ y ≠ m
  · exact c
  · have hx : x = n := by omega
    have hy : y = m := by omega
    rcases hf.z with hz | hz
    · omega
    · rw [hx, hy] at hz
      omega
/-- statement 7: neither part is the whole -/
theorem Cuts.split (h : Rev e e' n m) {x y j : Nat} (hc : Cuts e e' n m x y j) (hD : 2 ≤ Dst e n m) : (x + j ≠ 0 ∨ y + j ≠ 0) ∧ (x ≠ n ∨ y ≠ m) := by
  have he := rev_eq h
  rcases hc.half with ⟨h1, h2⟩ | ⟨_, rfl, h1, h2⟩
  · constructor
    · by_cases c : x + j ≠ 0 ∨ y + j ≠ 0
      · exact c
      · exfalso
        have e1 : n - (x + j) = n := by omega
        have e2 : m - (y + j) = m := by omega
        rw [e1, e2] at h2
        omega
    · by_cases c : x ≠ n ∨ y ≠ m
      · exact c
      · exfalso
        have e1 : x = n := by omega
        have e2 : y = m := by omega
        rw [e1, e2] at h1
        have := par_box (e := e) (n := n) (m := m)
        omega
  · exact ⟨by omega, h2⟩
end Go.Proofs.Qxb6602567a.Ms
