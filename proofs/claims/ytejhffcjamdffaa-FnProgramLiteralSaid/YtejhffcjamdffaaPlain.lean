/-
  Programs as plain data: which are right, where a way ends that never chooses, which ends are reached; that what is told of the beginning is so where a match begins. No program in sight.
-/
import Derived.Test.YtejhffcjamdffaaCond
import Derived.Test.YtejhffcjamdffaaBits
import Derived.Test.YtejhffcjamdffaaPub
namespace Go.Proofs.Ytejhffcjamdffaa

/-- A right instruction of a program of n. -/
structure InstP (n : Nat) (i : I) : Prop where
  ops : 0 ≤ i.op ∧ i.op ≤ 10 ∧ i.op ≠ 1
  out : i.op ≠ 4 → i.op ≠ 5 → 0 ≤ i.out ∧ i.out < n
  outz : i.op = 4 ∨ i.op = 5 → i.out = 0
  arg0 : i.op = 0 → 0 ≤ i.arg ∧ i.arg < n
  arg2 : i.op = 2 → 0 ≤ i.arg ∧ i.arg < 100
  arg3 : i.op = 3 → i.arg = 1 ∨ i.arg = 2 ∨ i.arg = 4 ∨ i.arg = 8 ∨ i.arg = 16 ∨ i.arg = 32
  argz : 4 ≤ i.op → i.arg = 0
  runes : i.op ≠ 7 → i.op ≠ 8 → i.runes = []
  runes7 : i.op = 7 → 2 ≤ i.runes.length ∧ i.runes.length ≤ 16
  runes8 : i.op = 8 → ∃ z, i.runes = [z] ∧ 0 ≤ z ∧ z ≤ 1114111

theorem InstP.few {n : Nat} {i : I} (h : InstP n i) : i.runes.length ≤ 16 := by
  by_cases h7 : i.op = 7
  · exact (h.runes7 h7).2
  · by_cases h8 : i.op = 8
    · obtain ⟨z, hz, _⟩ := h.runes8 h8
      rw [hz]; simp
    · rw [h.runes h7 h8]; decide

/-- Where a way stops or chooses. -/
def stopB (i : I) : Bool := decide (i.op = 0) || decide (i.op = 4) || decide (i.op = 5)

def endsF (is : List I) : Nat → Nat → Bool
  | 0, k => match is[k]? with
    | none => false
    | some i => stopB i
  | f + 1, k => match is[k]? with
    | none => false
    | some i => if stopB i = true then true else endsF is f i.out.toNat

/-- A right program. -/
structure ProgP (is : List I) (start : Int) : Prop where
  len : is.length ≤ 60
  start : 0 ≤ start ∧ start < is.length
  inst : ∀ i, i ∈ is → InstP is.length i
  ends : ∀ k, k < is.length → endsF is is.length k = true

def before (t : List Int) (at' : Nat) : Int := if at' = 0 then -1 else t.getD (at' - 1) 0
def behind (t : List Int) (at' : Nat) : Int := t.getD at' (-1)
/-- The conditions of a place. -/
def hereN (t : List Int) (at' : Nat) : Nat := (ctxN (before t at') (behind t at')).toNat

theorem here_lt (t : List Int) (p : Nat) : hereN t p < 64 := by
  have := ctx_bd (before t p) (behind t p)
  unfold hereN
  omega

/-- From instruction k at a place a match is reached at the place e. -/
inductive Reach (is : List I) (t : List Int) : Nat → Nat → Nat → Prop
  | stop {k p : Nat} {i : I} : is[k]? = some i → i.op = 4 → Reach is t k p p
  | alt1 {k p e : Nat} {i : I} : is[k]? = some i → i.op = 0 → Reach is t i.out.toNat p e → Reach is t k p e
  | alt2 {k p e : Nat} {i : I} : is[k]? = some i → i.op = 0 → Reach is t i.arg.toNat p e → Reach is t k p e
  | pass {k p e : Nat} {i : I} : is[k]? = some i → (i.op = 2 ∨ i.op = 6) → Reach is t i.out.toNat p e → Reach is t k p e
  | cond {k p e : Nat} {i : I} : is[k]? = some i → i.op = 3 → hereN t p &&& i.arg.toNat ≠ 0 → Reach is t i.out.toNat p e → Reach is t k p e
  | rune {k p e : Nat} {i : I} {z : Int} : is[k]? = some i → 7 ≤ i.op → t[p]? = some z → (i.op = 8 → i.runes = [z]) → Reach is t i.out.toNat (p + 1) e → Reach is t k p e

theorem Reach.le {is : List I} {t : List Int} {k p e : Nat} (h : Reach is t k p e) : p ≤ e := by
  induction h with
  | stop => exact Nat.le_refl _
  | alt1 _ _ _ ih => exact ih
  | alt2 _ _ _ ih => exact ih
  | pass _ _ _ ih => exact ih
  | cond _ _ _ _ ih => exact ih
  | rune _ _ _ _ _ ih => omega

def condN (is : List I) : Nat → Nat → Nat → Option Nat
  | 0, _, _ => none
  | f + 1, k, fl => match is[k]? with
    | none => none
    | some i =>
      if i.op = 3 then condN is f i.out.toNat (fl ||| i.arg.toNat)
      else if i.op = 5 then some 255
      else if i.op = 2 ∨ i.op = 6 then condN is f i.out.toNat fl
      else some fl

theorem arg_lt {n : Nat} {i : I} (h : InstP n i) (h3 : i.op = 3) : i.arg.toNat < 64 ∧ i.arg = (i.arg.toNat : Int) := by
  rcases h.arg3 h3 with e | e | e | e | e | e <;> rw [e] <;> decide

theorem small_u8 {z : Int} (h0 : 0 ≤ z) (h : z < 256) : IntKind.u8.wrap z = z := by
  have := wrap_u8 z.toNat (by omega)
  rwa [Int.toNat_of_nonneg h0] at this
theorem small_u32 {z : Int} (h0 : 0 ≤ z) (h : z < 4294967296) : IntKind.u32.wrap z = z := by
  have := wrap_u32 z.toNat (by omega)
  rwa [Int.toNat_of_nonneg h0] at this

theorem scond_of (is : List I) (hl : is.length ≤ 60) (hok : ∀ i, i ∈ is → InstP is.length i) : ∀ f k fl r, fl < 256 → condN is f k fl = some r → scond is f k (fl : Int) = some (r : Int) ∧ r < 256 := by
  intro f
  induction f with
  | zero => intro k fl r _ h; cases h
  | succ f ih =>
    intro k fl r hfl h
    rw [condN] at h
    rw [scond]
    cases hk : is[k]? with
    | none => rw [hk] at h; cases h
    | some i =>
      rw [hk] at h
      have hi := hok i (List.mem_of_getElem? hk)
      have ho := hi.ops
      dsimp only at h ⊢
      rw [small_u8 ho.1 (by omega)]
      by_cases h3 : i.op = 3
      · rw [if_pos h3] at h ⊢
        have hout := hi.out (by omega) (by omega)
        obtain ⟨ha, hb⟩ := arg_lt hi h3
        rw [small_u32 hout.1 (by omega), small_u32 (by omega) (by omega), small_u8 (by omega) (by omega), hb, or_u8 _ _ hfl (by omega)]
        exact ih _ _ _ (or_lt256 hfl (by omega)) h
      · rw [if_neg h3] at h ⊢
        by_cases h5 : i.op = 5
        · rw [if_pos h5] at h ⊢
          injection h with h
          subst h
          exact ⟨rfl, by decide⟩
        · rw [if_neg h5] at h ⊢
          by_cases h26 : i.op = 2 ∨ i.op = 6
          · rw [if_pos h26] at h ⊢
            have hout := hi.out (by omega) (by omega)
            rw [small_u32 hout.1 (by omega)]
            exact ih _ _ _ hfl h
          · rw [if_neg h26] at h ⊢
            injection h with h
            subst h
            exact ⟨rfl, hfl⟩

theorem cond_ends (is : List I) : ∀ f k fl, endsF is f k = true → ∃ r, condN is (f + 1) k fl = some r := by
  intro f
  induction f with
  | zero =>
    intro k fl h
    rw [endsF] at h
    rw [condN]
    cases hk : is[k]? with
    | none => rw [hk] at h; cases h
    | some i =>
      rw [hk] at h
      simp only [stopB, Bool.or_eq_true, decide_eq_true_eq] at h
      dsimp only
      rw [if_neg (by omega)]
      by_cases h5 : i.op = 5
      · rw [if_pos h5]; exact ⟨_, rfl⟩
      · rw [if_neg h5, if_neg (by omega)]; exact ⟨_, rfl⟩
  | succ f ih =>
    intro k fl h
    rw [endsF] at h
    rw [condN]
    cases hk : is[k]? with
    | none => rw [hk] at h; cases h
    | some i =>
      rw [hk] at h
      dsimp only at h ⊢
      by_cases h3 : i.op = 3
      · rw [if_pos h3]
        rw [if_neg (by simp [stopB]; omega)] at h
        exact ih _ _ h
      · rw [if_neg h3]
        by_cases h5 : i.op = 5
        · rw [if_pos h5]; exact ⟨_, rfl⟩
        · rw [if_neg h5]
          by_cases h26 : i.op = 2 ∨ i.op = 6
          · rw [if_pos h26]
            rw [if_neg (by simp [stopB]; omega)] at h
            exact ih _ _ h
          · rw [if_neg h26]; exact ⟨_, rfl⟩

/-- A bit that is asked for and is there. -/
theorem bit_and : ∀ h : Fin 64, ∀ a : Fin 64, (a = 1 ∨ a = 2 ∨ a = 4 ∨ a = 8 ∨ a = 16 ∨ a = 32) → h.val &&& a.val ≠ 0 → a.val &&& h.val = a.val := by decide

theorem bit_in {n : Nat} {i : I} (h : InstP n i) (h3 : i.op = 3) (x : Nat) (hx : x < 64) (hne : x &&& i.arg.toNat ≠ 0) : i.arg.toNat &&& x = i.arg.toNat := by
  have ha := arg_lt h h3
  refine bit_and ⟨x, hx⟩ ⟨i.arg.toNat, ha.1⟩ ?_ hne
  rcases h.arg3 h3 with e | e | e | e | e | e
  · exact .inl (Fin.ext (by show i.arg.toNat = 1; rw [e]; rfl))
  · exact .inr (.inl (Fin.ext (by show i.arg.toNat = 2; rw [e]; rfl)))
  · exact .inr (.inr (.inl (Fin.ext (by show i.arg.toNat = 4; rw [e]; rfl))))
  · exact .inr (.inr (.inr (.inl (Fin.ext (by show i.arg.toNat = 8; rw [e]; rfl)))))
  · exact .inr (.inr (.inr (.inr (.inl (Fin.ext (by show i.arg.toNat = 16; rw [e]; rfl))))))
  · exact .inr (.inr (.inr (.inr (.inr (Fin.ext (by show i.arg.toNat = 32; rw [e]; rfl))))))

/-- What is told of the beginning is so where a match begins. -/
theorem cond_reach {is : List I} {t : List Int} (hok : ∀ i, i ∈ is → InstP is.length i) {k p e : Nat} (h : Reach is t k p e) : ∀ f fl r, condN is f k fl = some r → fl &&& hereN t p = fl → r &&& hereN t p = r := by
  induction h with
  | stop hk ho =>
    intro f fl r hc hf
    cases f with
    | zero => cases hc
    | succ f =>
      rw [condN, hk] at hc
      dsimp only at hc
      rw [if_neg (by omega), if_neg (by omega), if_neg (by omega)] at hc
      injection hc with hc
      rw [← hc]; exact hf
  | alt1 hk ho _ _ =>
    intro f fl r hc hf
    cases f with
    | zero => cases hc
    | succ f =>
      rw [condN, hk] at hc
      dsimp only at hc
      rw [if_neg (by omega), if_neg (by omega), if_neg (by omega)] at hc
      injection hc with hc
      rw [← hc]; exact hf
  | alt2 hk ho _ _ =>
    intro f fl r hc hf
    cases f with
    | zero => cases hc
    | succ f =>
      rw [condN, hk] at hc
      dsimp only at hc
      rw [if_neg (by omega), if_neg (by omega), if_neg (by omega)] at hc
      injection hc with hc
      rw [← hc]; exact hf
  | pass hk ho _ ih =>
    intro f fl r hc hf
    cases f with
    | zero => cases hc
    | succ f =>
      rw [condN, hk] at hc
      dsimp only at hc
      rw [if_neg (by omega), if_neg (by omega), if_pos ho] at hc
      exact ih f fl r hc hf
  | @cond k p e i hk ho hne _ ih =>
    intro f fl r hc hf
    cases f with
    | zero => cases hc
    | succ f =>
      rw [condN, hk] at hc
      dsimp only at hc
      rw [if_pos ho] at hc
      refine ih f _ r hc ?_
      rw [Nat.and_or_distrib_right, hf, bit_in (hok i (List.mem_of_getElem? hk)) ho _ (here_lt t p) hne]
  | rune hk ho _ _ _ _ =>
    intro f fl r hc hf
    cases f with
    | zero => cases hc
    | succ f =>
      rw [condN, hk] at hc
      dsimp only at hc
      rw [if_neg (by omega), if_neg (by omega), if_neg (by omega)] at hc
      injection hc with hc
      rw [← hc]; exact hf

/-- A condition that is told stays told. -/
theorem cond_keeps (is : List I) (m : Nat) (hm : m < 256) : ∀ f k fl r, condN is f k fl = some r → fl &&& m ≠ 0 → r &&& m ≠ 0 := by
  intro f
  induction f with
  | zero => intro k fl r h; cases h
  | succ f ih =>
    intro k fl r h hne
    rw [condN] at h
    cases hk : is[k]? with
    | none => rw [hk] at h; cases h
    | some i =>
      rw [hk] at h
      dsimp only at h
      by_cases h3 : i.op = 3
      · rw [if_pos h3] at h
        refine ih _ _ _ h ?_
        rw [Nat.and_or_distrib_right]
        intro h0
        exact hne (Nat.or_eq_zero_iff.1 h0).1
      · rw [if_neg h3] at h
        by_cases h5 : i.op = 5
        · rw [if_pos h5] at h
          injection h with h
          rw [← h]
          have h1 : m &&& (2 ^ 8 - 1) = m := by rw [Nat.and_two_pow_sub_one_eq_mod]; exact Nat.mod_eq_of_lt hm
          rw [Nat.and_comm, show 255 = 2 ^ 8 - 1 from rfl, h1]
          rintro rfl
          exact hne (Nat.and_zero _)
        · rw [if_neg h5] at h
          by_cases h26 : i.op = 2 ∨ i.op = 6
          · rw [if_pos h26] at h; exact ih _ _ _ h hne
          · rw [if_neg h26] at h
            injection h with h
            rw [← h]; exact hne

theorem cond_first {is : List I} {k f r : Nat} {i : I} {n : Nat} (hi : InstP n i) (hk : is[k]? = some i) (h3 : i.op = 3) (h : condN is f k 0 = some r) : r &&& i.arg.toNat ≠ 0 := by
  cases f with
  | zero => cases h
  | succ f =>
    rw [condN, hk] at h
    dsimp only at h
    rw [if_pos h3] at h
    have ha := arg_lt hi h3
    refine cond_keeps is _ (by omega) _ _ _ _ h ?_
    rw [Nat.zero_or, Nat.and_self]
    rcases hi.arg3 h3 with e | e | e | e | e | e <;> rw [e] <;> decide

def skipN (is : List I) : Nat → Nat → Option Nat
  | 0, _ => none
  | f + 1, k => match is[k]? with
    | none => none
    | some i => if i.op = 6 ∨ i.op = 2 then skipN is f i.out.toNat else some k

/-- What is told as the beginning from instruction k on, and whether it is all. -/
def prefN (is : List I) (g : Nat) : Nat → Nat → Option (List Int × Bool)
  | 0, _ => none
  | f + 1, k => match is[k]? with
    | none => none
    | some i =>
      if i.op = 8 ∧ i.runes.headD 0 ≠ 65533 then
        match skipN is g i.out.toNat with
        | none => none
        | some q => (prefN is g f q).map fun x => (i.runes.headD 0 :: x.1, x.2)
      else some ([], decide (i.op = 4))

theorem skip_reach {is : List I} {t : List Int} : ∀ f k q p e, skipN is f k = some q → Reach is t k p e → Reach is t q p e := by
  intro f
  induction f with
  | zero => intro k q p e h; cases h
  | succ f ih =>
    intro k q p e h hr
    rw [skipN] at h
    cases hk : is[k]? with
    | none => rw [hk] at h; cases h
    | some i =>
      rw [hk] at h
      dsimp only at h
      by_cases h26 : i.op = 6 ∨ i.op = 2
      · rw [if_pos h26] at h
        refine ih _ _ _ _ h ?_
        cases hr with
        | stop h1 h2 => rw [hk] at h1; injection h1 with h1; subst h1; omega
        | alt1 h1 h2 _ => rw [hk] at h1; injection h1 with h1; subst h1; omega
        | alt2 h1 h2 _ => rw [hk] at h1; injection h1 with h1; subst h1; omega
        | pass h1 h2 h3 => rw [hk] at h1; injection h1 with h1; subst h1; exact h3
        | cond h1 h2 _ _ => rw [hk] at h1; injection h1 with h1; subst h1; omega
        | rune h1 h2 _ _ _ => rw [hk] at h1; injection h1 with h1; subst h1; omega
      · rw [if_neg h26] at h
        injection h with h
        rw [← h]; exact hr

/-- Whatever is matched begins with what is told as the beginning, and is that where that is all. -/
theorem pref_reach {is : List I} {t : List Int} (g : Nat) : ∀ f k p e ps wh, prefN is g f k = some (ps, wh) → Reach is t k p e → p + ps.length ≤ e ∧ (∀ j z, ps[j]? = some z → t[p + j]? = some z) ∧ (wh = true → e = p + ps.length) := by
  intro f
  induction f with
  | zero => intro k p e ps wh h; cases h
  | succ f ih =>
    intro k p e ps wh h hr
    rw [prefN] at h
    cases hk : is[k]? with
    | none => rw [hk] at h; cases h
    | some i =>
      rw [hk] at h
      dsimp only at h
      by_cases h8 : i.op = 8 ∧ i.runes.headD 0 ≠ 65533
      · rw [if_pos h8] at h
        cases hr with
        | stop h1 h2 => rw [hk] at h1; injection h1 with h1; subst h1; omega
        | alt1 h1 h2 _ => rw [hk] at h1; injection h1 with h1; subst h1; omega
        | alt2 h1 h2 _ => rw [hk] at h1; injection h1 with h1; subst h1; omega
        | pass h1 h2 h3 => rw [hk] at h1; injection h1 with h1; subst h1; omega
        | cond h1 h2 _ _ => rw [hk] at h1; injection h1 with h1; subst h1; omega
        | @rune _ _ _ _ z h1 h2 h3 h4 h5 =>
          rw [hk] at h1
          injection h1 with h1
          subst h1
          have hz := h4 h8.1
          rw [hz] at h
          cases hq : skipN is g i.out.toNat with
          | none => rw [hq] at h; cases h
          | some q =>
            rw [hq] at h
            dsimp only at h
            cases hx : prefN is g f q with
            | none => rw [hx] at h; cases h
            | some x =>
              rw [hx] at h
              simp only [Option.map_some, List.headD_cons] at h
              injection h with h
              injection h with e1 e2
              subst e1
              have h6 := ih q (p + 1) e x.1 x.2 hx (skip_reach _ _ _ _ _ hq h5)
              refine ⟨by simp only [List.length_cons]; omega, fun j y hj => ?_, fun hw => by rw [← e2] at hw; have := h6.2.2 hw; simp only [List.length_cons]; omega⟩
              cases j with
              | zero =>
                simp only [List.getElem?_cons_zero, Option.some.injEq] at hj
                subst hj
                exact h3
              | succ j =>
                simp only [List.getElem?_cons_succ] at hj
                have := h6.2.1 j y hj
                rwa [show p + (j + 1) = p + 1 + j from by omega]
      · rw [if_neg h8] at h
        injection h with h
        injection h with e1 e2
        subst e1
        refine ⟨hr.le, fun j z hj => by simp at hj, fun hw => ?_⟩
        rw [← e2] at hw
        have h4 := of_decide_eq_true hw
        cases hr with
        | stop h1 h2 => rfl
        | alt1 h1 h2 _ => rw [hk] at h1; injection h1 with h1; subst h1; omega
        | alt2 h1 h2 _ => rw [hk] at h1; injection h1 with h1; subst h1; omega
        | pass h1 h2 h3 => rw [hk] at h1; injection h1 with h1; subst h1; omega
        | cond h1 h2 _ _ => rw [hk] at h1; injection h1 with h1; subst h1; omega
        | rune h1 h2 _ _ _ => rw [hk] at h1; injection h1 with h1; subst h1; omega
end Go.Proofs.Ytejhffcjamdffaa
