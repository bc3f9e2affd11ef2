/-
  Plain law for FnTreeSimpler: a right tree whose expression has no repetitions of repetitions, whose repeated parts take something, and without bounds, is one that Simplify leaves ('SmF'). No conditions beside those typed.
-/
import Derived.Test.YtejhffcjamdffaaReRow
namespace Go.Proofs.Ytejhffcjamdffaa
open Go.RowKit

/-- How deep repetitions stand in one another. -/
def deepF : Nat → Rx → Int
  | 0, _ => 0
  | d + 1, rx => if rx.kind = 5 then maxs 0 (rx.subs.map (deepF d)) + 1 else maxs 0 (rx.subs.map (deepF d))

/-- A repetition with bounds is in the tree. -/
def countedF : Nat → Nd → Bool
  | 0, _ => false
  | d + 1, nd => nd.subs.any (countedF d) || nd.op == 17

/-- Repetitions have a part. -/
def RxOne : Nat → Rx → Prop
  | 0, _ => False
  | d + 1, rx => (rx.kind = 5 → 1 ≤ rx.subs.length) ∧ ∀ s, s ∈ rx.subs → RxOne d s

/-- What is repeated is not the empty expression. -/
def PlainP : Nat → Rx → Prop
  | 0, _ => True
  | d + 1, rx => (rx.kind = 5 → ∀ s, rx.subs[0]? = some s → s.kind ≠ 1) ∧ ∀ s, s ∈ rx.subs → PlainP d s

/-- What Simplify leaves as it is. -/
def SmF : Nat → Nd → Prop
  | 0, _ => False
  | d + 1, nd => nd.op ≠ 17 ∧ (14 ≤ nd.op → nd.op ≤ 16 → ∀ s, s ∈ nd.subs → s.op ≠ 2 ∧ ¬(14 ≤ s.op ∧ s.op ≤ 16)) ∧ ∀ s, s ∈ nd.subs → SmF d s

theorem maxs_ge (gs : List Int) : ∀ m : Int, m ≤ maxs m gs ∧ ∀ x, x ∈ gs → x ≤ maxs m gs := by
  induction gs with
  | nil => intro m; exact ⟨by simp [maxs], fun x hx => by simp at hx⟩
  | cons y ys ih =>
    intro m
    rw [maxs]
    have h := ih (if m < y then y else m)
    have h0 : m ≤ (if m < y then y else m) ∧ y ≤ (if m < y then y else m) := by split <;> omega
    generalize (if m < y then y else m) = z at *
    refine ⟨by have := h.1; omega, fun x hx => ?_⟩
    rcases List.mem_cons.1 hx with rfl | hx
    · have := h.1; omega
    · exact h.2 x hx

theorem deepF_bd (d : Nat) : ∀ rx, 0 ≤ deepF d rx := by
  cases d with
  | zero => intro rx; simp [deepF]
  | succ d =>
    intro rx
    have h := (maxs_ge (rx.subs.map (deepF d)) 0).1
    simp only [deepF]
    split <;> omega

theorem ofF_rep {d : Nat} {nd : Nd} (h : 14 ≤ nd.op) (h' : nd.op ≤ 16) : (ofF (d + 1) nd).kind = 5 ∧ (ofF (d + 1) nd).subs = nd.subs.map (ofF d) := by
  have h3 : nd.op = 14 ∨ nd.op = 15 ∨ nd.op = 16 := by omega
  rcases h3 with h3 | h3 | h3 <;> simp [ofF, h3, Rx.kind, Rx.subs]
theorem ofF_subs {d : Nat} {nd : Nd} (h : 13 ≤ nd.op) : (ofF (d + 1) nd).subs = nd.subs.map (ofF d) := by
  simp only [ofF]
  rw [if_neg (by omega), if_neg (by omega), if_neg (by omega), if_neg (by omega)]
  repeat' split
  all_goals rfl
theorem ofF_two {d : Nat} {nd : Nd} (h : nd.op = 2) : (ofF (d + 1) nd).kind = 1 := by simp [ofF, h, Rx.kind]

theorem leaf_one (d : Nat) (k : Int) (h : k ≠ 5) : RxOne (d + 1) (.mk k 0 0 []) := ⟨fun h5 => absurd h5 h, fun s hs => by simp [Rx.subs] at hs⟩

/-- The expression of a right tree: repetitions have a part. -/
theorem one_of_ok (d : Nat) : ∀ nd, OkF d nd → RxOne (d + 1) (ofF d nd) := by
  induction d with
  | zero => intro nd h; cases h
  | succ d ih =>
    intro nd h
    have hr := h.1.range
    by_cases h13 : 13 ≤ nd.op
    · have hs := ofF_subs (d := d) h13
      refine ⟨fun hk => ?_, fun s hs' => ?_⟩
      · rw [hs, List.length_map]
        by_cases h17 : nd.op ≤ 17
        · rw [h.1.one h13 h17]; exact Nat.le_refl _
        · have := h.1.many (by omega); omega
      · rw [hs] at hs'
        obtain ⟨x, hx, rfl⟩ := List.mem_map.1 hs'
        exact ih x (h.2 x hx)
    · have hn := h.1.leaf (by omega)
      have hnil : nd.subs = [] := List.eq_nil_of_length_eq_zero hn
      simp only [ofF, hnil, List.map_nil]
      by_cases h2 : nd.op = 2
      · rw [if_pos h2]; exact leaf_one _ _ (by decide)
      rw [if_neg h2]
      by_cases h3 : nd.op = 3
      · rw [if_pos h3]
        refine ⟨fun h5 => by simp [Rx.kind] at h5, fun s hs => ?_⟩
        simp only [Rx.subs, List.mem_map] at hs
        obtain ⟨x, _, rfl⟩ := hs
        exact leaf_one _ _ (by decide)
      rw [if_neg h3]
      by_cases h4 : nd.op = 4 ∨ nd.op = 5 ∨ nd.op = 6
      · rw [if_pos h4]; exact leaf_one _ _ (by decide)
      rw [if_neg h4]
      by_cases h7 : 7 ≤ nd.op ∧ nd.op ≤ 12
      · rw [if_pos h7]; exact leaf_one _ _ (by decide)
      rw [if_neg h7, if_neg (by omega), if_neg (by omega), if_neg (by omega), if_neg (by omega), if_neg (by omega), if_neg (by omega), if_neg (by omega)]
      exact ⟨fun h5 => by simp [Rx.kind] at h5, fun s hs => by simp [Rx.subs] at hs⟩

theorem sm_of (d : Nat) : ∀ nd, OkF d nd → countedF d nd = false → deepF (d + 1) (ofF d nd) ≤ 1 → PlainP (d + 1) (ofF d nd) → SmF d nd := by
  induction d with
  | zero => intro nd h; cases h
  | succ d ih =>
    intro nd h hc hd hp
    have hr := h.1.range
    simp only [countedF, Bool.or_eq_false_iff, List.any_eq_false] at hc
    have h17 : nd.op ≠ 17 := by simpa using hc.2
    by_cases h13 : 13 ≤ nd.op
    · have hs := ofF_subs (d := d) h13
      have hm : ∀ s, s ∈ nd.subs → deepF (d + 1) (ofF d s) ≤ maxs 0 ((ofF (d + 1) nd).subs.map (deepF (d + 1))) := fun s hs' => by
        rw [hs]
        exact (maxs_ge _ 0).2 _ (List.mem_map.2 ⟨_, List.mem_map.2 ⟨s, hs', rfl⟩, rfl⟩)
      have hle : maxs 0 ((ofF (d + 1) nd).subs.map (deepF (d + 1))) ≤ deepF (d + 1 + 1) (ofF (d + 1) nd) := by
        rw [deepF]; split <;> omega
      refine ⟨h17, fun h14 h16 s hs' => ?_, fun s hs' => ih s (h.2 s hs') (by simpa using hc.1 s hs') (by have := hm s hs'; omega) (hp.2 _ (by rw [hs]; exact List.mem_map.2 ⟨s, hs', rfl⟩))⟩
      obtain ⟨hk, _⟩ := ofF_rep (d := d) h14 h16
      have hone := h.1.one (by omega) (by omega)
      obtain ⟨x, hx⟩ := List.length_eq_one_iff.1 hone
      rw [hx] at hs'
      have hsx : s = x := by simpa using hs'
      subst hsx
      have hOk := h.2 s (by rw [hx]; simp)
      obtain ⟨e, rfl⟩ : ∃ e, d = e + 1 := by
        cases d with
        | zero => cases hOk
        | succ e => exact ⟨e, rfl⟩
      have h1 := hm s (by rw [hx]; simp)
      have hd' : maxs 0 ((ofF (e + 1 + 1) nd).subs.map (deepF (e + 1 + 1))) + 1 ≤ 1 := by
        have h0 := hd
        rw [deepF, if_pos hk] at h0
        exact h0
      refine ⟨fun h2 => ?_, fun h2 => ?_⟩
      · exact hp.1 hk _ (by rw [hs, hx]; rfl) (ofF_two h2)
      · obtain ⟨hk2, _⟩ := ofF_rep (d := e) h2.1 h2.2
        have := (maxs_ge ((ofF (e + 1) s).subs.map (deepF (e + 1))) 0).1
        rw [deepF, if_pos hk2] at h1
        omega
    · have hl := h.1.leaf (by omega)
      have hnil : nd.subs = [] := List.eq_nil_of_length_eq_zero hl
      exact ⟨h17, fun h14 => by omega, fun s hs => by rw [hnil] at hs; simp at hs⟩

theorem adds_mem (gs : List Int) : ∀ m : Int, 0 ≤ m → (∀ x, x ∈ gs → 0 ≤ x) → adds m gs < 1000 → m ≤ adds m gs ∧ ∀ x, x ∈ gs → m + x ≤ adds m gs := by
  induction gs with
  | nil => intro m _ _ _; exact ⟨by simp [adds], fun x hx => by simp at hx⟩
  | cons y ys ih =>
    intro m h0 h1 h2
    rw [adds] at h2 ⊢
    have hy := h1 y (by simp)
    have hc : (if 1000 < m + y then 1000 else m + y) = 1000 ∨ (if 1000 < m + y then 1000 else m + y) = m + y := by split <;> omega
    generalize (if 1000 < m + y then 1000 else m + y) = z at *
    have h := ih z (by omega) (fun x hx => h1 x (by simp [hx])) h2
    refine ⟨by omega, fun x hx => ?_⟩
    rcases List.mem_cons.1 hx with rfl | hx
    · omega
    · have := h.2 x hx; omega

theorem maxs_le (gs : List Int) (a : Int) : ∀ m : Int, m ≤ a → (∀ x, x ∈ gs → x ≤ a) → maxs m gs ≤ a := by
  induction gs with
  | nil => intro m h _; exact h
  | cons y ys ih =>
    intro m h h2
    rw [maxs]
    exact ih _ (by have := h2 y (by simp); split <;> omega) (fun x hx => h2 x (by simp [hx]))

/-- Repetitions stand no deeper than the expression is large. -/
theorem deep_large (d : Nat) : ∀ rx, largeF d rx < 1000 → deepF d rx ≤ largeF d rx := by
  induction d with
  | zero => intro rx _; simp [deepF, largeF]
  | succ d ih =>
    intro rx h
    have hlt : adds 1 (rx.subs.map (largeF d)) < 1000 → maxs 0 (rx.subs.map (deepF d)) + 1 ≤ adds 1 (rx.subs.map (largeF d)) := fun h1 => by
      have h2 := adds_mem _ 1 (by omega) (fun x hx => by
        obtain ⟨s, _, rfl⟩ := List.mem_map.1 hx
        exact (largeF_bd d s).1) h1
      have := maxs_le (rx.subs.map (deepF d)) (adds 1 (rx.subs.map (largeF d)) - 1) 0 (by omega) (fun x hx => by
        obtain ⟨s, hs, rfl⟩ := List.mem_map.1 hx
        have h3 := h2.2 _ (List.mem_map.2 ⟨s, hs, rfl⟩)
        have h4 := ih s (by omega)
        omega)
      omega
    have hb := adds_bd (rx.subs.map (largeF d)) 1 (by omega) (by omega) (fun x hx => by
      obtain ⟨s, _, rfl⟩ := List.mem_map.1 hx
      exact largeF_bd d s)
    simp only [largeF] at h ⊢
    simp only [deepF]
    generalize adds 1 (rx.subs.map (largeF d)) = n at *
    by_cases h5 : rx.kind = 5
    · rw [if_pos h5] at h ⊢
      rw [if_pos h5]
      have hM : 1 ≤ max rx.mn (max rx.mx 1) := by omega
      generalize max rx.mn (max rx.mx 1) = M at *
      have hnM : n * 1 ≤ n * M := Int.mul_le_mul_of_nonneg_left hM hb.1
      generalize n * M = p at *
      have hc : (if 1000 < p then 1000 else p) = p := by
        split at h <;> omega
      rw [hc] at h ⊢
      have := hlt (by omega)
      omega
    · rw [if_neg h5] at h ⊢
      rw [if_neg h5]
      have := hlt h
      omega

/-- Whether an expression may match nothing. -/
def voidF : Nat → Rx → Bool
  | 0, _ => false
  | d + 1, rx =>
    if rx.kind = 1 ∨ rx.kind = 7 then true
    else if rx.kind = 3 ∨ rx.kind = 6 then !(rx.subs.any fun s => !voidF d s)
    else if rx.kind = 4 then rx.subs.any (voidF d)
    else if rx.kind = 5 then decide (rx.mn = 0) || (rx.subs.take 1).any (voidF d)
    else false

/-- Whether nothing that may match nothing is repeated. -/
def plainF : Nat → Rx → Bool
  | 0, _ => false
  | d + 1, rx => (decide (rx.kind ≠ 5) || !(rx.subs.take 1).any (voidF d)) && !(rx.subs.any fun s => !plainF d s)

theorem plain_of (d : Nat) : ∀ rx, RxOne d rx → plainF d rx = true → PlainP d rx := by
  induction d with
  | zero => intro rx h; cases h
  | succ d ih =>
    intro rx h1 h
    simp only [plainF, Bool.and_eq_true, Bool.or_eq_true, Bool.not_eq_true'] at h
    refine ⟨fun hk s hs hk1 => ?_, fun s hs => ih s (h1.2 s hs) ?_⟩
    · rcases h.1 with h0 | h0
      · simp [hk] at h0
      · have hm : s ∈ rx.subs.take 1 := by
          cases hx : rx.subs with
          | nil => rw [hx] at hs; simp at hs
          | cons y ys => rw [hx] at hs; simp at hs; simp [hs]
        have hv := List.any_eq_false.1 h0 s hm
        have hs1 := h1.2 s (List.mem_of_getElem? hs)
        cases d with
        | zero => cases hs1
        | succ e => exact hv (by simp [voidF, hk1])
    · have := List.any_eq_false.1 h.2 s hs
      simpa using this
end Go.Proofs.Ytejhffcjamdffaa
