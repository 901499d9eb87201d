/- The plain side of the middle snake: edit distance on the grid. No Go in sight. -/
namespace Go.Proofs.Qxb6602567a.Ms

/-- the least number of single steps to (x, y), diagonal steps on equal lines free -/
def Dst (e : Nat → Nat → Bool) : Nat → Nat → Nat
  | 0, y => y
  | x + 1, 0 => x + 1
  | x + 1, y + 1 => if e x y then Dst e x y else 1 + min (Dst e x (y + 1)) (Dst e (x + 1) y)
termination_by x y => x + y
/-- the length of a longest common subsequence -/
def Lcs (e : Nat → Nat → Bool) : Nat → Nat → Nat
  | 0, _ => 0
  | _ + 1, 0 => 0
  | x + 1, y + 1 => if e x y then Lcs e x y + 1 else max (Lcs e x (y + 1)) (Lcs e (x + 1) y)
termination_by x y => x + y

variable {e e' : Nat → Nat → Bool} {n m : Nat}

theorem dst_x0 (x : Nat) : Dst e x 0 = x := by cases x <;> simp [Dst]
theorem dst_0y (y : Nat) : Dst e 0 y = y := by simp [Dst]
theorem dst_ss (x y : Nat) : Dst e (x + 1) (y + 1) = if e x y then Dst e x y else 1 + min (Dst e x (y + 1)) (Dst e (x + 1) y) := by rw [Dst]
theorem dst_t {x y : Nat} (h : e x y = true) : Dst e (x + 1) (y + 1) = Dst e x y := by rw [dst_ss, if_pos h]
theorem dst_f {x y : Nat} (h : e x y = false) : Dst e (x + 1) (y + 1) = 1 + min (Dst e x (y + 1)) (Dst e (x + 1) y) := by rw [dst_ss, if_neg (by simp [h])]
theorem lcs_x0 (x : Nat) : Lcs e x 0 = 0 := by cases x <;> simp [Lcs]
theorem lcs_0y (y : Nat) : Lcs e 0 y = 0 := by simp [Lcs]
theorem lcs_ss (x y : Nat) : Lcs e (x + 1) (y + 1) = if e x y then Lcs e x y + 1 else max (Lcs e x (y + 1)) (Lcs e (x + 1) y) := by rw [Lcs]

theorem dst_lcs : ∀ s x y, x + y ≤ s → Dst e x y + 2 * Lcs e x y = x + y := by
  intro s
  induction s with
  | zero => intro x y h; have : x = 0 := by omega
            subst this; rw [dst_0y, lcs_0y]; omega
  | succ s ih =>
    intro x y h
    cases x with
    | zero => rw [dst_0y, lcs_0y]; omega
    | succ x =>
      cases y with
      | zero => rw [dst_x0, lcs_x0]
      | succ y =>
        have h1 := ih x y (by omega)
        have h2 := ih x (y + 1) (by omega)
        have h3 := ih (x + 1) y (by omega)
        rw [dst_ss, lcs_ss]
        split <;> omega

/-- one step changes the distance by at most one -/
theorem lip : ∀ s x y, x + y ≤ s → (Dst e (x + 1) y ≤ Dst e x y + 1 ∧ Dst e x y ≤ Dst e (x + 1) y + 1) ∧ (Dst e x (y + 1) ≤ Dst e x y + 1 ∧ Dst e x y ≤ Dst e x (y + 1) + 1) := by
  intro s
  induction s with
  | zero =>
    intro x y h
    have hx : x = 0 := by omega
    have hy : y = 0 := by omega
    subst hx; subst hy
    simp [dst_x0, dst_0y]
  | succ s ih =>
    intro x y h
    constructor
    · cases y with
      | zero => simp [dst_x0]; omega
      | succ y =>
        have h1 := ih x y (by omega)
        rw [dst_ss]
        split <;> omega
    · cases x with
      | zero => simp [dst_0y]; omega
      | succ x =>
        have h1 := ih x y (by omega)
        rw [dst_ss]
        split <;> omega
theorem up_x (x y : Nat) : Dst e (x + 1) y ≤ Dst e x y + 1 := (lip _ x y (Nat.le_refl _)).1.1
theorem dn_x (x y : Nat) : Dst e x y ≤ Dst e (x + 1) y + 1 := (lip _ x y (Nat.le_refl _)).1.2
theorem up_y (x y : Nat) : Dst e x (y + 1) ≤ Dst e x y + 1 := (lip _ x y (Nat.le_refl _)).2.1
theorem dn_y (x y : Nat) : Dst e x y ≤ Dst e x (y + 1) + 1 := (lip _ x y (Nat.le_refl _)).2.2
theorem up_xs (x y j : Nat) : Dst e (x + j) y ≤ Dst e x y + j := by
  induction j with
  | zero => exact Nat.le_refl _
  | succ j ih => have := up_x (e := e) (x + j) y; rw [← Nat.add_assoc]; omega
theorem up_ys (x y j : Nat) : Dst e x (y + j) ≤ Dst e x y + j := by
  induction j with
  | zero => exact Nat.le_refl _
  | succ j ih => have := up_y (e := e) x (y + j); rw [← Nat.add_assoc]; omega
theorem diag1 (x y : Nat) : Dst e x y ≤ Dst e (x + 1) (y + 1) := by
  have h1 := dn_x (e := e) x y
  have h2 := dn_y (e := e) x y
  rw [dst_ss]
  split <;> omega
theorem diag (x y j : Nat) : Dst e x y ≤ Dst e (x + j) (y + j) := by
  induction j with
  | zero => exact Nat.le_refl _
  | succ j ih => exact Nat.le_trans ih (diag1 (x + j) (y + j))
theorem parity : ∀ s x y, x + y ≤ s → Dst e x y % 2 = (x + y) % 2 := by
  intro s x y _
  have := dst_lcs (e := e) _ x y (Nat.le_refl _)
  omega
theorem par (x y : Nat) : Dst e x y % 2 = (x + y) % 2 := parity _ x y (Nat.le_refl _)
theorem le_all (x y : Nat) : Dst e x y ≤ x + y := by
  have := dst_lcs (e := e) _ x y (Nat.le_refl _)
  omega
theorem gap : ∀ s x y, x + y ≤ s → x ≤ Dst e x y + y ∧ y ≤ Dst e x y + x := by
  intro s
  induction s with
  | zero => intro x y h; have : x = 0 := by omega
            subst this; rw [dst_0y]; omega
  | succ s ih =>
    intro x y h
    cases x with
    | zero => rw [dst_0y]; omega
    | succ x =>
      cases y with
      | zero => rw [dst_x0]; omega
      | succ y =>
        have h1 := ih x y (by omega)
        have h2 := ih x (y + 1) (by omega)
        have h3 := ih (x + 1) y (by omega)
        rw [dst_ss]
        split <;> omega
theorem gap_x (x y : Nat) : x ≤ Dst e x y + y := (gap _ x y (Nat.le_refl _)).1
theorem gap_y (x y : Nat) : y ≤ Dst e x y + x := (gap _ x y (Nat.le_refl _)).2

/-- no equal lines outside the box -/
def Box (e : Nat → Nat → Bool) (n m : Nat) : Prop := ∀ x y, e x y = true → x < n ∧ y < m
theorem Box.fx (h : Box e n m) {x : Nat} (y : Nat) (hx : n ≤ x) : e x y = false := by
  cases c : e x y with
  | false => rfl
  | true => have := (h x y c).1; omega
theorem Box.fy (h : Box e n m) (x : Nat) {y : Nat} (hy : m ≤ y) : e x y = false := by
  cases c : e x y with
  | false => rfl
  | true => have := (h x y c).2; omega
theorem Box.x1 (h : Box e n m) {x : Nat} (hx : n ≤ x) : ∀ y, Dst e (x + 1) y = Dst e x y + 1 := by
  intro y
  induction y with
  | zero => simp [dst_x0]
  | succ y ih =>
    rw [dst_f (h.fx y hx), ih]
    have := up_y (e := e) x y
    omega
theorem Box.y1 (h : Box e n m) {y : Nat} (hy : m ≤ y) : ∀ x, Dst e x (y + 1) = Dst e x y + 1 := by
  intro x
  induction x with
  | zero => simp [dst_0y]
  | succ x ih =>
    rw [dst_f (h.fy x hy), ih]
    have := up_x (e := e) x y
    omega
theorem Box.xs (h : Box e n m) (j y : Nat) : Dst e (n + j) y = Dst e n y + j := by
  induction j with
  | zero => rfl
  | succ j ih => rw [← Nat.add_assoc, h.x1 (by omega), ih]; omega
theorem Box.ys (h : Box e n m) (j x : Nat) : Dst e x (m + j) = Dst e x m + j := by
  induction j with
  | zero => rfl
  | succ j ih => rw [← Nat.add_assoc, h.y1 (by omega), ih]; omega

/-- the two readings of one box, from the start and from the end -/
structure Rev (e e' : Nat → Nat → Bool) (n m : Nat) : Prop where
  b : Box e n m
  b' : Box e' n m
  at' : ∀ x y x' y', x + x' + 1 = n → y + y' + 1 = m → e' x' y' = e x y
theorem Rev.symm (h : Rev e e' n m) : Rev e' e n m := ⟨h.b', h.b, fun x y x' y' hx hy => (h.at' x' y' x y (by omega) (by omega)).symm⟩

theorem tri (h : Rev e e' n m) : ∀ s x' y' x y, x' + y' ≤ s → x + x' = n → y + y' = m → Dst e n m ≤ Dst e x y + Dst e' x' y' := by
  intro s
  induction s with
  | zero =>
    intro x' y' x y hs hx hy
    have h1 : x' = 0 := by omega
    have h2 : y' = 0 := by omega
    have h3 : x = n := by omega
    have h4 : y = m := by omega
    subst h1; subst h2; subst h3; subst h4
    omega
  | succ s ih =>
    intro x' y' x y hs hx hy
    cases x' with
    | zero =>
      have h3 : x = n := by omega
      subst h3; subst hy
      rw [dst_0y]
      exact up_ys x y y'
    | succ x' =>
      cases y' with
      | zero =>
        have h4 : y = m := by omega
        subst h4; subst hx
        rw [dst_x0]
        exact up_xs x y (x' + 1)
      | succ y' =>
        have ee := h.at' x y x' y' (by omega) (by omega)
        cases c : e x y with
        | true =>
          rw [dst_t (e := e') (ee.trans c), ← dst_t c]
          exact ih x' y' (x + 1) (y + 1) (by omega) (by omega) (by omega)
        | false =>
          rw [dst_f (e := e') (ee.trans c)]
          have h1 := ih x' (y' + 1) (x + 1) y (by omega) (by omega) (by omega)
          have h2 := ih (x' + 1) y' x (y + 1) (by omega) (by omega) (by omega)
          have h3 := up_x (e := e) x y
          have h4 := up_y (e := e) x y
          omega

/-- from a point on a shortest path: every lesser distance is met on it, and its start -/
theorem walkBack (h : Rev e e' n m) (D : Nat) : ∀ s x y x' y', x + y ≤ s → x + x' = n → y + y' = m → Dst e x y + Dst e' x' y' ≤ D →
    Dst e' n m ≤ D ∧ ∀ c, c ≤ Dst e x y → ∃ p q p' q', p + p' = n ∧ q + q' = m ∧ Dst e p q = c ∧ c + Dst e' p' q' ≤ D := by
  intro s
  induction s with
  | zero =>
    intro x y x' y' hs hx hy hD
    have h1 : x = 0 := by omega
    have h2 : y = 0 := by omega
    subst h1; subst h2
    have h3 : x' = n := by omega
    have h4 : y' = m := by omega
    subst h3; subst h4
    rw [dst_0y] at hD
    refine ⟨by omega, fun c hc => ⟨0, 0, x', y', by omega, by omega, ?_, ?_⟩⟩
    · rw [dst_0y] at hc ⊢; omega
    · rw [dst_0y] at hc; omega
  | succ s ih =>
    intro x y x' y' hs hx hy hD
    have self : ∀ c, c = Dst e x y → ∃ p q p' q', p + p' = n ∧ q + q' = m ∧ Dst e p q = c ∧ c + Dst e' p' q' ≤ D := fun c hc => ⟨x, y, x', y', hx, hy, hc.symm, by omega⟩
    cases x with
    | zero =>
      cases y with
      | zero => exact ih 0 0 x' y' (by omega) hx hy hD
      | succ y =>
        rw [dst_0y] at hD
        have h1 := up_y (e := e') x' y'
        obtain ⟨a, b⟩ := ih 0 y x' (y' + 1) (by omega) hx (by omega) (by rw [dst_0y]; omega)
        refine ⟨a, fun c hc => ?_⟩
        by_cases hh : c = Dst e 0 (y + 1)
        · exact self c hh
        · refine b c ?_
          rw [dst_0y] at hc hh ⊢; omega
    | succ x =>
      cases y with
      | zero =>
        rw [dst_x0] at hD
        have h1 := up_x (e := e') x' y'
        obtain ⟨a, b⟩ := ih x 0 (x' + 1) y' (by omega) (by omega) hy (by rw [dst_x0]; omega)
        refine ⟨a, fun c hc => ?_⟩
        by_cases hh : c = Dst e (x + 1) 0
        · exact self c hh
        · refine b c ?_
          rw [dst_x0] at hc hh ⊢; omega
      | succ y =>
        have ee := h.at' x y x' y' (by omega) (by omega)
        cases c : e x y with
        | true =>
          have h1 := dst_t (e := e') (ee.trans c)
          have h2 := dst_t c
          obtain ⟨a, b⟩ := ih x y (x' + 1) (y' + 1) (by omega) (by omega) (by omega) (by omega)
          exact ⟨a, fun k hk => b k (by omega)⟩
        | false =>
          have h0 := dst_f c
          have h1 := up_x (e := e') x' y'
          have h2 := up_y (e := e') x' y'
          by_cases hm : Dst e x (y + 1) ≤ Dst e (x + 1) y
          · obtain ⟨a, b⟩ := ih x (y + 1) (x' + 1) y' (by omega) (by omega) (by omega) (by omega)
            refine ⟨a, fun k hk => ?_⟩
            by_cases hh : k = Dst e (x + 1) (y + 1)
            · exact self k hh
            · exact b k (by omega)
          · obtain ⟨a, b⟩ := ih (x + 1) y x' (y' + 1) (by omega) (by omega) (by omega) (by omega)
            refine ⟨a, fun k hk => ?_⟩
            by_cases hh : k = Dst e (x + 1) (y + 1)
            · exact self k hh
            · exact b k (by omega)
theorem rev_le (h : Rev e e' n m) : Dst e' n m ≤ Dst e n m := (walkBack h _ _ n m 0 0 (Nat.le_refl _) (by omega) (by omega) (by rw [dst_0y]; omega)).1
theorem rev_eq (h : Rev e e' n m) : Dst e' n m = Dst e n m := Nat.le_antisymm (rev_le h) (rev_le h.symm)
theorem onPath (h : Rev e e' n m) (c : Nat) (hc : c ≤ Dst e n m) : ∃ p q p' q', p + p' = n ∧ q + q' = m ∧ Dst e p q = c ∧ c + Dst e' p' q' ≤ Dst e n m :=
  (walkBack h _ _ n m 0 0 (Nat.le_refl _) (by omega) (by omega) (by rw [dst_0y]; omega)).2 c hc

/-- the furthest point on diagonal k that d steps reach stands at v -/
def Fz (e : Nat → Nat → Bool) (d : Nat) (k v : Int) : Prop := ∃ x y : Nat, v = x ∧ k = (x : Int) - y ∧ Dst e x y = d ∧ Dst e (x + 1) (y + 1) = d + 2

theorem Fz.max {d : Nat} {k v : Int} (h : Fz e d k v) {x y : Nat} (hk : (x : Int) - y = k) (hd : Dst e x y ≤ d + 1) : (x : Int) ≤ v := by
  obtain ⟨a, b, rfl, hk', -, h2⟩ := h
  by_cases c : (x : Int) ≤ a
  · exact c
  · exfalso
    obtain ⟨j, hj⟩ : ∃ j, x = (a + 1) + j := ⟨x - (a + 1), by omega⟩
    have hy : y = (b + 1) + j := by omega
    have := diag (e := e) (a + 1) (b + 1) j
    rw [← hj, ← hy] at this
    omega
/-- below the furthest point the distance is at most d -/
theorem Fz.low {d : Nat} {k v : Int} (h : Fz e d k v) {x y : Nat} (hk : (x : Int) - y = k) (hx : (x : Int) ≤ v) : Dst e x y ≤ d := by
  obtain ⟨a, b, rfl, hk', h1, -⟩ := h
  obtain ⟨j, hj⟩ : ∃ j, a = x + j := ⟨a - x, by omega⟩
  have hy : b = y + j := by omega
  have := diag (e := e) x y j
  rw [← hj, ← hy] at this
  omega
theorem Fz.far {d : Nat} {k v : Int} (h : Fz e d k v) {x y : Nat} (hk : (x : Int) - y = k) (hx : v < (x : Int)) : d + 2 ≤ Dst e x y := by
  have h3 : ¬ Dst e x y ≤ d + 1 := fun hd => by have := h.max hk hd; omega
  omega

/-- a run of equal lines -/
def Run (e : Nat → Nat → Bool) (x y j : Nat) : Prop := ∀ i, i < j → e (x + i) (y + i) = true
theorem Run.dst {x y j : Nat} (h : Run e x y j) : Dst e (x + j) (y + j) = Dst e x y := by
  induction j with
  | zero => rfl
  | succ j ih =>
    rw [← ih fun i hi => h i (by omega)]
    exact dst_t (h j (by omega))

/-- the step: from a point that d steps reach, along the run of equal lines to its end -/
theorem Fz.step {d : Nat} {k : Int} {x y j : Nat} (hk : k = (x : Int) - y) (hd : Dst e x y ≤ d) (hpar : (k - d) % 2 = 0) (hr : Run e x y j) (hend : e (x + j) (y + j) = false)
    (ha : k = -(d : Int) ∨ ∃ a : Int, 0 < d ∧ Fz e (d - 1) (k - 1) a ∧ a + 1 ≤ x) (hb : k = (d : Int) ∨ ∃ b : Int, 0 < d ∧ Fz e (d - 1) (k + 1) b ∧ b ≤ x) :
    Fz e d k ((x + j : Nat) : Int) := by
  have h0 := hr.dst
  refine ⟨x + j, y + j, rfl, by omega, ?_⟩
  have h1 : d + 1 ≤ Dst e (x + j) (y + j + 1) := by
    rcases ha with ha | ⟨a, hd0, ha, hax⟩
    · have := gap_y (e := e) (x + j) (y + j + 1); omega
    · have := ha.far (x := x + j) (y := y + j + 1) (by omega) (by omega); omega
  have h2 : d + 1 ≤ Dst e (x + j + 1) (y + j) := by
    rcases hb with hb | ⟨b, hd0, hb, hbx⟩
    · have := gap_x (e := e) (x + j + 1) (y + j); omega
    · have := hb.far (x := x + j + 1) (y := y + j) (by omega) (by omega); omega
  have h3 := dst_f hend
  have h4 := up_x (e := e) (x + j) (y + j + 1)
  have h5 := up_y (e := e) (x + j) (y + j)
  have h6 := par (e := e) (x + j) (y + j)
  constructor <;> omega

/-- d + c at most the whole distance, the other end within c of the diagonal: the point stands in the box -/
theorem inBox (hb : Box e n m) {d c : Nat} {x y : Nat} (h : Dst e x y = d) (hD : d + c ≤ Dst e n m) (h1 : (n : Int) - m - (x - y) ≤ c) (h2 : -(c : Int) ≤ (n : Int) - m - (x - y)) : x ≤ n ∧ y ≤ m := by
  by_cases hx : x ≤ n
  · refine ⟨hx, ?_⟩
    by_cases hy : y ≤ m
    · exact hy
    · exfalso
      obtain ⟨j, rfl⟩ : ∃ j, y = m + j := ⟨y - m, by omega⟩
      rw [hb.ys] at h
      have := up_xs (e := e) x m (n - x)
      rw [show x + (n - x) = n by omega] at this
      omega
  · exfalso
    obtain ⟨i, rfl⟩ : ∃ i, x = n + i := ⟨x - n, by omega⟩
    rw [hb.xs] at h
    by_cases hy : y ≤ m
    · have := up_ys (e := e) n y (m - y)
      rw [show y + (m - y) = m by omega] at this
      omega
    · obtain ⟨j, rfl⟩ : ∃ j, y = m + j := ⟨y - m, by omega⟩
      rw [hb.ys] at h
      omega

/-- the two searches meet: the point lies on a shortest path, d from the start and c from the end -/
theorem meet (h : Rev e e' n m) {d c : Nat} {k v b : Int} (hf : Fz e d k v) (hg : Fz e' c ((n : Int) - m - k) b) (hD : d + c ≤ Dst e n m) (h1 : (n : Int) - m - k ≤ c) (h2 : -(c : Int) ≤ (n : Int) - m - k) (hm : (n : Int) - b ≤ v) :
    Dst e n m = d + c ∧ ∃ x y : Nat, v = x ∧ k = (x : Int) - y ∧ x ≤ n ∧ y ≤ m ∧ Dst e x y = d ∧ Dst e' (n - x) (m - y) = c := by
  obtain ⟨x, y, rfl, rfl, hd, -⟩ := hf
  obtain ⟨hx, hy⟩ := inBox h.b hd hD h1 h2
  have hlow := hg.low (x := n - x) (y := m - y) (by omega) (by omega)
  have ht := tri h _ (n - x) (m - y) x y (Nat.le_refl _) (by omega) (by omega)
  exact ⟨by omega, x, y, rfl, rfl, hx, hy, hd, by omega⟩

/-- if the whole distance is d + c, the two searches meet on some diagonal -/
theorem must (h : Rev e e' n m) {d c : Nat} (hD : Dst e n m = d + c) : ∃ k : Int, -(d : Int) ≤ k ∧ k ≤ d ∧ (k - d) % 2 = 0 ∧ -(c : Int) ≤ (n : Int) - m - k ∧ (n : Int) - m - k ≤ c ∧ ∀ v b : Int, Fz e d k v → Fz e' c ((n : Int) - m - k) b → (n : Int) - b ≤ v := by
  obtain ⟨p, q, p', q', hp, hq, hc, hc'⟩ := onPath h d (by omega)
  have h1 := gap_x (e := e) p q
  have h2 := gap_y (e := e) p q
  have h3 := gap_x (e := e') p' q'
  have h4 := gap_y (e := e') p' q'
  have h5 := par (e := e) p q
  refine ⟨(p : Int) - q, by omega, by omega, by omega, by omega, by omega, fun v b hv hb => ?_⟩
  have := hv.max (x := p) (y := q) rfl (by omega)
  have := hb.max (x := p') (y := q') (by omega) (by omega)
  omega

/-- a distance of nought: every line is met -/
theorem zero_diag : ∀ s x y, x + y ≤ s → Dst e x y = 0 → x = y ∧ (0 < x → e 0 0 = true) := by
  intro s
  induction s with
  | zero => intro x y h _; omega
  | succ s ih =>
    intro x y h hz
    cases x with
    | zero => rw [dst_0y] at hz; omega
    | succ x =>
      cases y with
      | zero => rw [dst_x0] at hz; omega
      | succ y =>
        cases c : e x y with
        | true =>
          rw [dst_t c] at hz
          obtain ⟨a, b⟩ := ih x y (by omega) hz
          refine ⟨by omega, fun _ => ?_⟩
          by_cases h0 : 0 < x
          · exact b h0
          · have hx0 : x = 0 := by omega
            have hy0 : y = 0 := by omega
            rw [hx0, hy0] at c; exact c
        | false => rw [dst_f c] at hz; omega
/-- first and last lines differ: at least two changes -/
theorem two (hn : 0 < n) (hm : 0 < m) (h0 : e 0 0 = false) (h1 : e (n - 1) (m - 1) = false) : 2 ≤ Dst e n m := by
  obtain ⟨x, rfl⟩ : ∃ x, n = x + 1 := ⟨n - 1, by omega⟩
  obtain ⟨y, rfl⟩ : ∃ y, m = y + 1 := ⟨m - 1, by omega⟩
  have h2 := dst_f (e := e) (x := x) (y := y) h1
  have h3 : Dst e x (y + 1) ≠ 0 := fun hz => by
    obtain ⟨a, b⟩ := zero_diag _ x (y + 1) (Nat.le_refl _) hz
    rw [h0] at b
    exact absurd (b (by omega)) (by simp)
  have h4 : Dst e (x + 1) y ≠ 0 := fun hz => by
    obtain ⟨a, b⟩ := zero_diag _ (x + 1) y (Nat.le_refl _) hz
    rw [h0] at b
    exact absurd (b (by omega)) (by simp)
  omega

/-- only the lines in the box matter -/
theorem dst_congr {e1 e2 : Nat → Nat → Bool} : ∀ s x y, x + y ≤ s → (∀ p q, p < x → q < y → e1 p q = e2 p q) → Dst e1 x y = Dst e2 x y := by
  intro s
  induction s with
  | zero => intro x y h _; have : x = 0 := by omega
            subst this; rw [dst_0y, dst_0y]
  | succ s ih =>
    intro x y h he
    cases x with
    | zero => rw [dst_0y, dst_0y]
    | succ x =>
      cases y with
      | zero => rw [dst_x0, dst_x0]
      | succ y =>
        rw [dst_ss, dst_ss, he x y (by omega) (by omega), ih x y (by omega) (fun p q hp hq => he p q (by omega) (by omega)), ih x (y + 1) (by omega) (fun p q hp hq => he p q (by omega) hq), ih (x + 1) y (by omega) (fun p q hp hq => he p q hp (by omega))]

/-- some diagonal that d steps reach stands in the box -/
theorem someIn (hb : Box e n m) {d : Nat} (hD : d < Dst e n m) (F : Int → Int) (hF : ∀ k : Int, -(d : Int) ≤ k → k ≤ d → (k - d) % 2 = 0 → Fz e d k (F k)) :
    ∃ k : Int, -(d : Int) ≤ k ∧ k ≤ d ∧ (k - d) % 2 = 0 ∧ F k ≤ n ∧ F k - k ≤ m := by
  have X : ∀ (s : Nat) (k : Int), (k + d).toNat ≤ s → -(d : Int) ≤ k → k ≤ d → (k - d) % 2 = 0 → (n : Int) < F k → ∃ k : Int, -(d : Int) ≤ k ∧ k ≤ d ∧ (k - d) % 2 = 0 ∧ F k ≤ n ∧ F k - k ≤ m := by
    intro s
    induction s with
    | zero =>
      intro k hs h1 h2 h3 h4
      exfalso
      obtain ⟨x, y, hv, hk, hd, -⟩ := hF k h1 h2 h3
      obtain ⟨i, rfl⟩ : ∃ i, x = n + i := ⟨x - n, by omega⟩
      rw [hb.xs] at hd
      have := gap_y (e := e) n y
      omega
    | succ s ih =>
      intro k hs h1 h2 h3 h4
      obtain ⟨x, y, hv, hk, hd, -⟩ := hF k h1 h2 h3
      obtain ⟨i, rfl⟩ : ∃ i, x = n + i := ⟨x - n, by omega⟩
      rw [hb.xs] at hd
      have hy : y ≤ m := by
        by_cases hy : y ≤ m
        · exact hy
        · exfalso
          obtain ⟨j, rfl⟩ : ∃ j, y = m + j := ⟨y - m, by omega⟩
          rw [hb.ys] at hd
          omega
      have h5 := up_ys (e := e) n y i
      have h6 : y + i ≤ m := by
        by_cases hc : y + i ≤ m
        · exact hc
        · exfalso
          have := up_ys (e := e) n y (m - y)
          rw [show y + (m - y) = m by omega] at this
          omega
      have h7 := gap_y (e := e) n (y + i)
      have h8 := gap_x (e := e) n (y + i)
      have hF' := hF ((n : Int) - ((y + i : Nat) : Int)) (by omega) (by omega) (by omega)
      have h9 := hF'.max (x := n) (y := y + i) rfl (by omega)
      by_cases hc : (n : Int) < F ((n : Int) - ((y + i : Nat) : Int))
      · exact ih _ (by omega) (by omega) (by omega) (by omega) hc
      · exact ⟨_, by omega, by omega, by omega, Int.not_lt.1 hc, by omega⟩
  have Y : ∀ (s : Nat) (k : Int), ((d : Int) - k).toNat ≤ s → -(d : Int) ≤ k → k ≤ d → (k - d) % 2 = 0 → (m : Int) < F k - k → ∃ k : Int, -(d : Int) ≤ k ∧ k ≤ d ∧ (k - d) % 2 = 0 ∧ F k ≤ n ∧ F k - k ≤ m := by
    intro s
    induction s with
    | zero =>
      intro k hs h1 h2 h3 h4
      exfalso
      obtain ⟨x, y, hv, hk, hd, -⟩ := hF k h1 h2 h3
      obtain ⟨i, rfl⟩ : ∃ i, y = m + i := ⟨y - m, by omega⟩
      rw [hb.ys] at hd
      have := gap_x (e := e) x m
      omega
    | succ s ih =>
      intro k hs h1 h2 h3 h4
      by_cases hxn : (n : Int) < F k
      · exact X _ k (Nat.le_refl _) h1 h2 h3 hxn
      obtain ⟨x, y, hv, hk, hd, -⟩ := hF k h1 h2 h3
      obtain ⟨i, rfl⟩ : ∃ i, y = m + i := ⟨y - m, by omega⟩
      rw [hb.ys] at hd
      have h5 := up_xs (e := e) x m i
      have h6 : x + i ≤ n := by
        by_cases hc : x + i ≤ n
        · exact hc
        · exfalso
          have := up_xs (e := e) x m (n - x)
          rw [show x + (n - x) = n by omega] at this
          omega
      have h7 := gap_y (e := e) (x + i) m
      have h8 := gap_x (e := e) (x + i) m
      have hF' := hF (((x + i : Nat) : Int) - (m : Int)) (by omega) (by omega) (by omega)
      have h9 := hF'.max (x := x + i) (y := m) rfl (by omega)
      by_cases hc : (m : Int) < F (((x + i : Nat) : Int) - (m : Int)) - (((x + i : Nat) : Int) - (m : Int))
      · exact ih _ (by omega) (by omega) (by omega) (by omega) hc
      · exact ⟨_, by omega, by omega, by omega, by omega, Int.not_lt.1 hc⟩
  by_cases c1 : (n : Int) < F d
  · exact X _ d (Nat.le_refl _) (by omega) (by omega) (by omega) c1
  · by_cases c2 : (m : Int) < F d - d
    · exact Y _ d (Nat.le_refl _) (by omega) (by omega) (by omega) c2
    · exact ⟨d, by omega, by omega, by omega, by omega, by omega⟩
end Go.Proofs.Qxb6602567a.Ms
