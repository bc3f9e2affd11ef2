/-
  That the beginning of a right program comes to an end; the bytes of runes. No program in sight.
-/
import Derived.Test.YtejhffcjamdffaaPlain
import Derived.Lib.RuneBytes
namespace Go.Proofs.Ytejhffcjamdffaa

theorem skip_mono (is : List I) : ∀ f k q, skipN is f k = some q → ∀ g, f ≤ g → skipN is g k = some q := by
  intro f
  induction f with
  | zero => intro k q h; cases h
  | succ f ih =>
    intro k q h g hg
    obtain ⟨g, rfl⟩ : ∃ g', g = g' + 1 := ⟨g - 1, by omega⟩
    rw [skipN] at h ⊢
    cases hk : is[k]? with
    | none => rw [hk] at h; cases h
    | some i =>
      rw [hk] at h
      dsimp only at h ⊢
      by_cases h26 : i.op = 6 ∨ i.op = 2
      · rw [if_pos h26] at h ⊢
        exact ih _ _ h g (by omega)
      · rw [if_neg h26] at h ⊢
        exact h

theorem skip_lt (is : List I) : ∀ f k q, skipN is f k = some q → k < is.length ∧ q < is.length := by
  intro f
  induction f with
  | zero => intro k q h; cases h
  | succ f ih =>
    intro k q h
    rw [skipN] at h
    cases hk : is[k]? with
    | none => rw [hk] at h; cases h
    | some i =>
      have hlt := (List.getElem?_eq_some_iff.1 hk).1
      rw [hk] at h
      dsimp only at h
      by_cases h26 : i.op = 6 ∨ i.op = 2
      · rw [if_pos h26] at h
        exact ⟨hlt, (ih _ _ h).2⟩
      · rw [if_neg h26] at h
        injection h with h
        subst h
        exact ⟨hlt, hlt⟩

theorem skip_ends (is : List I) : ∀ f k, endsF is f k = true → ∃ q f', skipN is (f + 1) k = some q ∧ f' ≤ f ∧ endsF is f' q = true := by
  intro f
  induction f with
  | zero =>
    intro k h
    have h0 := h
    rw [endsF] at h
    rw [skipN]
    cases hk : is[k]? with
    | none => rw [hk] at h; cases h
    | some i =>
      rw [hk] at h
      simp only [stopB, Bool.or_eq_true, decide_eq_true_eq] at h
      dsimp only
      rw [if_neg (by omega)]
      exact ⟨k, 0, rfl, Nat.le_refl _, h0⟩
  | succ f ih =>
    intro k h
    have h0 := h
    rw [endsF] at h
    rw [skipN]
    cases hk : is[k]? with
    | none => rw [hk] at h; cases h
    | some i =>
      rw [hk] at h
      dsimp only at h ⊢
      by_cases h26 : i.op = 6 ∨ i.op = 2
      · rw [if_pos h26]
        rw [if_neg (by simp [stopB]; omega)] at h
        obtain ⟨q, f', h1, h2, h3⟩ := ih _ h
        exact ⟨q, f', h1, by omega, h3⟩
      · rw [if_neg h26]
        exact ⟨k, f + 1, rfl, Nat.le_refl _, h0⟩

theorem pref_mono (is : List I) (g : Nat) : ∀ f k x, prefN is g f k = some x → ∀ f', f ≤ f' → prefN is g f' k = some x := by
  intro f
  induction f with
  | zero => intro k x h; cases h
  | succ f ih =>
    intro k x h f' hf
    obtain ⟨f', rfl⟩ : ∃ y, f' = y + 1 := ⟨f' - 1, by omega⟩
    rw [prefN] at h ⊢
    cases hk : is[k]? with
    | none => rw [hk] at h; cases h
    | some i =>
      rw [hk] at h
      dsimp only at h ⊢
      by_cases h8 : i.op = 8 ∧ i.runes.headD 0 ≠ 65533
      · rw [if_pos h8] at h ⊢
        cases hq : skipN is g i.out.toNat with
        | none => rw [hq] at h; cases h
        | some q =>
          rw [hq] at h
          dsimp only at h ⊢
          cases hx : prefN is g f q with
          | none => rw [hx] at h; cases h
          | some y =>
            rw [hx] at h
            rw [ih q y hx f' (by omega)]
            exact h
      · rw [if_neg h8] at h ⊢
        exact h

theorem pref_ends (is : List I) (g : Nat) : ∀ f k, endsF is f k = true → f < g → ∃ x, prefN is g (f + 1) k = some x := by
  intro f
  induction f using Nat.strongRecOn with
  | ind f ih =>
    intro k h hg
    rw [prefN]
    cases f with
    | zero =>
      rw [endsF] at h
      cases hk : is[k]? with
      | none => rw [hk] at h; cases h
      | some i =>
        rw [hk] at h
        simp only [stopB, Bool.or_eq_true, decide_eq_true_eq] at h
        dsimp only
        rw [if_neg (by omega)]
        exact ⟨_, rfl⟩
    | succ f =>
      rw [endsF] at h
      cases hk : is[k]? with
      | none => rw [hk] at h; cases h
      | some i =>
        rw [hk] at h
        dsimp only at h ⊢
        by_cases h8 : i.op = 8 ∧ i.runes.headD 0 ≠ 65533
        · rw [if_pos h8]
          rw [if_neg (by simp [stopB]; omega)] at h
          obtain ⟨q, f', h1, h2, h3⟩ := skip_ends is f _ h
          rw [skip_mono is _ _ _ h1 g (by omega)]
          dsimp only
          obtain ⟨x, hx⟩ := ih f' (by omega) q h3 (by omega)
          rw [pref_mono is g _ _ _ hx (f + 1) (by omega)]
          exact ⟨_, rfl⟩
        · rw [if_neg h8]
          exact ⟨_, rfl⟩

/-- What Prefix tells of a right program. -/
theorem prefix_of {is : List I} {s : Nat} (hP : ProgP is (s : Int)) : ∃ q ps wh, skipN is (is.length + 1) s = some q ∧ prefN is (is.length + 1) (is.length + 1) q = some (ps, wh) := by
  have hs : s < is.length := by have := hP.start.2; omega
  obtain ⟨q, f', h1, h2, h3⟩ := skip_ends is is.length s (hP.ends s hs)
  obtain ⟨x, hx⟩ := pref_ends is (is.length + 1) f' q h3 (by omega)
  exact ⟨q, x.1, x.2, h1, pref_mono is _ _ _ _ hx _ (by omega)⟩

/-- The bytes of runes. -/
def encs (l : List Int) : List UInt8 := l.flatMap Lib.encodeRune
theorem encs_snoc (l : List Int) (r : Int) : encs (l ++ [r]) = encs l ++ Lib.encodeRune r := by simp [encs]
theorem encs_length (l : List Int) : (encs l).length ≤ 4 * l.length := by
  induction l with
  | nil => simp [encs]
  | cons r l ih =>
    have h := Lib.runeCells_le r
    rw [Lib.runeCells_length] at h
    simp only [encs, List.flatMap_cons, List.length_append, List.length_cons] at ih ⊢
    omega
theorem cells_snoc (l : List Int) (r : Int) : Lib.byteCells (encs (l ++ [r])) = Lib.byteCells (encs l) ++ Lib.runeCells r := by
  rw [encs_snoc, ← Lib.byteCells_encodeRune]
  simp [Lib.byteCells]
theorem cells_length (l : List UInt8) : (Lib.byteCells l).length = l.length := by simp [Lib.byteCells]
end Go.Proofs.Ytejhffcjamdffaa
