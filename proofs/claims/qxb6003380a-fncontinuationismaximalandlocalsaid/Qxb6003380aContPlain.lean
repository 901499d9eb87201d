/- Plain facts for the law on continuation. No Go in sight. -/
namespace Go.Proofs.Qxb6003380a.Cont

def bt (s : ByteArray) (k : Nat) : Nat := (s.data.toList.getD k 0).toNat

theorem bt_eq {s : ByteArray} {k : Nat} (h : k < s.size) : bt s k = (s[k]'h).toNat := by
  unfold bt
  rw [List.getD_eq_getElem?_getD, List.getElem?_eq_getElem (by simpa using h)]
  rfl

def Sp (n : Nat) : Prop := n = 32 ∨ n = 9
def Opens (s : ByteArray) (i e : Nat) : Prop := i + 1 < e ∧ bt s i = 92 ∧ bt s (i + 1) = 10
def Stops (s : ByteArray) (i e v : Nat) : Prop := i + 2 ≤ v ∧ v ≤ e ∧ (∀ k, i + 2 ≤ k → k < v → Sp (bt s k)) ∧ (v = e ∨ ¬ Sp (bt s v))
def Is (s : ByteArray) (i e v : Nat) : Prop := (¬ Opens s i e ∧ v = i) ∨ (Opens s i e ∧ Stops s i e v)

theorem Is.unique {s : ByteArray} {i e v u : Nat} (hv : Is s i e v) (hu : Is s i e u) : v = u := by
  rcases hv with ⟨a, rfl⟩ | ⟨a, h1, h2, h3, h4⟩
  · rcases hu with ⟨b, rfl⟩ | ⟨b, _⟩
    · rfl
    · exact absurd b a
  · rcases hu with ⟨b, rfl⟩ | ⟨b, g1, g2, g3, g4⟩
    · exact absurd a b
    · rcases Nat.lt_trichotomy v u with h | h | h
      · rcases h4 with h4 | h4
        · omega
        · exact absurd (g3 v h1 h) h4
      · exact h
      · rcases g4 with g4 | g4
        · omega
        · exact absurd (h3 u g1 h) g4

theorem bt_cut {s : ByteArray} {e k : Nat} (he : e ≤ s.size) (h : k < e) : bt (s.extract 0 e) k = bt s k := by
  have h1 : k < (s.extract 0 e).size := by simp; omega
  rw [bt_eq h1, bt_eq (show k < s.size by omega)]
  rw [ByteArray.getElem_extract]
  simp

theorem opens_cut {s : ByteArray} {i e : Nat} (he : e ≤ s.size) : Opens (s.extract 0 e) i e ↔ Opens s i e := by
  unfold Opens
  constructor
  · rintro ⟨a, b, c⟩
    rw [bt_cut he (by omega)] at b c
    exact ⟨a, b, c⟩
  · rintro ⟨a, b, c⟩
    rw [bt_cut he (by omega), bt_cut he (by omega)]
    exact ⟨a, b, c⟩

theorem Is.cut {s : ByteArray} {i e v : Nat} (he : e ≤ s.size) (h : Is (s.extract 0 e) i e v) : Is s i e v := by
  rcases h with ⟨a, rfl⟩ | ⟨a, h1, h2, h3, h4⟩
  · exact .inl ⟨fun h => a ((opens_cut he).2 h), rfl⟩
  · refine .inr ⟨(opens_cut he).1 a, h1, h2, fun k hk hk2 => ?_, ?_⟩
    · have := h3 k hk hk2
      rwa [bt_cut he (by omega)] at this
    · rcases h4 with h4 | h4
      · exact .inl h4
      · by_cases c : v = e
        · exact .inl c
        · right
          rwa [bt_cut he (by omega)] at h4

/-! steps in the walk's own forms -/
theorem not1 {s : ByteArray} {i e : Nat} (h : ¬ i + 1 < e) : ¬ Opens s i e := fun ⟨a, _⟩ => h a
theorem not2 {s : ByteArray} {i e : Nat} (hi : i < s.size) (h : ((s[i]'hi).toNat : Int) ≠ 92) : ¬ Opens s i e := fun ⟨_, b, _⟩ => by rw [bt_eq hi] at b; omega
theorem not3 {s : ByteArray} {i e : Nat} (hi : i + 1 < s.size) (h : ((s[i + 1]'hi).toNat : Int) ≠ 10) : ¬ Opens s i e := fun ⟨_, _, b⟩ => by rw [bt_eq hi] at b; omega
theorem yes {s : ByteArray} {i e : Nat} (hi : i + 1 < s.size) (h : i + 1 < e) (h1 : ((s[i]'(by omega)).toNat : Int) = 92) (h2 : ((s[i + 1]'hi).toNat : Int) = 10) : Opens s i e :=
  ⟨h, by rw [bt_eq (by omega)]; omega, by rw [bt_eq hi]; omega⟩
def Gone (s : ByteArray) (i k : Nat) : Prop := i + 2 ≤ k ∧ ∀ j, i + 2 ≤ j → j < k → Sp (bt s j)
theorem gone0 (s : ByteArray) (i : Nat) : Gone s i (i + 2) := ⟨Nat.le_refl _, fun j a b => absurd b (by omega)⟩
theorem gone_step {s : ByteArray} {i k : Nat} (hk : k < s.size) (g : Gone s i k) (h : ((s[k]'hk).toNat : Int) = 32 ∨ ((s[k]'hk).toNat : Int) = 9) : Gone s i (k + 1) :=
  ⟨by have := g.1; omega, fun j a b => by
    by_cases c : j = k
    · subst c; rw [bt_eq hk]; unfold Sp; omega
    · exact g.2 j a (by omega)⟩
theorem gone_stop {s : ByteArray} {i e k : Nat} (hk : k < s.size) (he : k ≤ e) (o : Opens s i e) (g : Gone s i k) (h1 : ((s[k]'hk).toNat : Int) ≠ 32) (h2 : ((s[k]'hk).toNat : Int) ≠ 9) : Is s i e k :=
  .inr ⟨o, g.1, he, g.2, .inr (by rw [bt_eq hk]; unfold Sp; omega)⟩
theorem gone_end {s : ByteArray} {i e k : Nat} (he : k ≤ e) (hk : ¬ k < e) (o : Opens s i e) (g : Gone s i k) : Is s i e k :=
  .inr ⟨o, g.1, he, g.2, .inl (by omega)⟩
theorem is_not {s : ByteArray} {i e v : Nat} (h : Is s i e v) (o : ¬ Opens s i e) : v = i := by
  rcases h with ⟨_, h⟩ | ⟨h, _⟩
  · exact h
  · exact absurd h o
theorem is_yes {s : ByteArray} {i e v : Nat} (h : Is s i e v) (o : Opens s i e) : Stops s i e v := by
  rcases h with ⟨h, _⟩ | ⟨_, h⟩
  · exact absurd o h
  · exact h
theorem sp_at {s : ByteArray} {k : Nat} (hk : k < s.size) (h : Sp (bt s k)) : ((s[k]'hk).toNat : Int) = 32 ∨ ((s[k]'hk).toNat : Int) = 9 := by
  rw [bt_eq hk] at h; unfold Sp at h; omega
theorem nsp_at {s : ByteArray} {k : Nat} (hk : k < s.size) (h : ¬ Sp (bt s k)) : ((s[k]'hk).toNat : Int) ≠ 32 ∧ ((s[k]'hk).toNat : Int) ≠ 9 := by
  rw [bt_eq hk] at h; unfold Sp at h; omega
end Go.Proofs.Qxb6003380a.Cont
