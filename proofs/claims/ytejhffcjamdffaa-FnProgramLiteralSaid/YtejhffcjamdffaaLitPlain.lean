/-
  The program that takes the runes of a word one behind the other and matches then: it is right; what is told of its beginning. No program in sight.
-/
import Derived.Test.YtejhffcjamdffaaPlainPref
import Derived.Test.YtejhffcjamdffaaProg2
import Derived.Laws.Cover4
namespace Go.Proofs.Ytejhffcjamdffaa

def litI (j : Nat) (z : Int) : I := { op := 8, out := (j : Int) + 1, arg := 0, runes := [z] }
def litsK (zs : List Int) (k : Nat) : List I := (List.range k).map fun j => litI j (zs.getD j 0)
def endI : I := { op := 4, out := 0, arg := 0, runes := [] }
def litP (zs : List Int) : List I := litsK zs zs.length ++ [endI]

theorem litsK_succ (zs : List Int) (k : Nat) : litsK zs (k + 1) = litsK zs k ++ [litI k (zs.getD k 0)] := by
  simp [litsK, List.range_succ]
theorem litsK_length (zs : List Int) (k : Nat) : (litsK zs k).length = k := by simp [litsK]
theorem litP_length (zs : List Int) : (litP zs).length = zs.length + 1 := by simp [litP, litsK_length]
theorem litP_get (zs : List Int) (j : Nat) (h : j < zs.length) : (litP zs)[j]? = some (litI j (zs.getD j 0)) := by
  unfold litP
  rw [List.getElem?_append_left (by rw [litsK_length]; exact h)]
  simp [litsK, h]
theorem litP_end (zs : List Int) : (litP zs)[zs.length]? = some endI := by
  unfold litP
  rw [List.getElem?_append_right (by rw [litsK_length]; exact Nat.le_refl _), litsK_length, Nat.sub_self]
  rfl

theorem lit_ends (zs : List Int) : ∀ d k, k + d = zs.length → ∀ f, d ≤ f → endsF (litP zs) f k = true := by
  intro d
  induction d with
  | zero =>
    intro k hk f _
    have hk' : k = zs.length := by omega
    subst hk'
    cases f with
    | zero => rw [endsF, litP_end]; rfl
    | succ f => rw [endsF, litP_end]; rfl
  | succ d ih =>
    intro k hk f hf
    obtain ⟨f, rfl⟩ : ∃ y, f = y + 1 := ⟨f - 1, by omega⟩
    rw [endsF, litP_get zs k (by omega)]
    dsimp only
    rw [if_neg (by simp [stopB, litI])]
    have h1 : (litI k (zs.getD k 0)).out.toNat = k + 1 := by
      show ((k : Int) + 1).toNat = k + 1
      omega
    rw [h1]
    exact ih (k + 1) (by omega) f (by omega)

theorem lit_skip (zs : List Int) (k g : Nat) (hk : k ≤ zs.length) : skipN (litP zs) (g + 1) k = some k := by
  rw [skipN]
  by_cases h : k < zs.length
  · rw [litP_get zs k h]
    dsimp only
    rw [if_neg (by simp [litI])]
  · have hk' : k = zs.length := by omega
    rw [hk', litP_end]
    dsimp only
    rw [if_neg (by simp [endI])]

theorem lit_pref (zs : List Int) (g : Nat) (hne : ∀ z, z ∈ zs → z ≠ 65533) : ∀ d k, k + d = zs.length → prefN (litP zs) (g + 1) (d + 1) k = some (zs.drop k, true) := by
  intro d
  induction d with
  | zero =>
    intro k hk
    have hk' : k = zs.length := by omega
    subst hk'
    rw [prefN, litP_end]
    dsimp only
    rw [if_neg (by simp [endI])]
    simp [endI]
  | succ d ih =>
    intro k hk
    have hlt : k < zs.length := by omega
    rw [prefN, litP_get zs k hlt]
    dsimp only
    have hz : zs.getD k 0 = zs[k] := by rw [List.getD, List.getElem?_eq_getElem hlt]; rfl
    have hm : zs.getD k 0 ≠ 65533 := by rw [hz]; exact hne _ (List.getElem_mem _)
    rw [if_pos ⟨rfl, by simpa [litI] using hm⟩]
    have h1 : (litI k (zs.getD k 0)).out.toNat = k + 1 := by
      show ((k : Int) + 1).toNat = k + 1
      omega
    rw [h1, lit_skip zs (k + 1) g (by omega)]
    dsimp only
    rw [ih (k + 1) (by omega)]
    rw [List.drop_eq_getElem_cons hlt]
    simp only [Option.map_some, litI, List.headD_cons, hz]

theorem lit_inst (zs : List Int) (hv : ∀ z, z ∈ zs → validB z = true) : ∀ i, i ∈ litP zs → InstP (litP zs).length i := by
  intro i hi
  rw [litP_length]
  rcases List.mem_append.1 hi with h | h
  · simp only [litsK, List.mem_map, List.mem_range] at h
    obtain ⟨j, hj, rfl⟩ := h
    have hz : zs.getD j 0 = zs[j] := by rw [List.getD, List.getElem?_eq_getElem hj]; rfl
    have h1 := hv (zs[j]) (List.getElem_mem _)
    simp only [validB, Bool.or_eq_true, Bool.and_eq_true, decide_eq_true_eq] at h1
    refine ⟨⟨by show (0:Int) ≤ 8; decide, by show (8:Int) ≤ 10; decide, by show (8:Int) ≠ 1; decide⟩, fun _ _ => ?_, fun h => ?_, fun h => ?_, fun h => ?_, fun h => ?_, fun _ => rfl, fun _ h => ?_, fun h => ?_, fun _ => ⟨_, rfl, ?_, ?_⟩⟩
    · show 0 ≤ (j : Int) + 1 ∧ (j : Int) + 1 < ((zs.length + 1 : Nat) : Int)
      omega
    · rcases h with h | h <;> cases h
    · cases h
    · cases h
    · cases h
    · exact absurd rfl h
    · cases h
    · rw [hz]; omega
    · rw [hz]; omega
  · simp only [List.mem_singleton] at h
    subst h
    refine ⟨by decide, fun h _ => absurd rfl h, fun _ => rfl, fun h => ?_, fun h => ?_, fun h => ?_, fun _ => rfl, fun _ _ => rfl, fun h => ?_, fun h => ?_⟩
    all_goals cases h

theorem lit_ok (zs : List Int) (hl : zs.length ≤ 50) (hv : ∀ z, z ∈ zs → validB z = true) : ProgP (litP zs) ((0 : Nat) : Int) :=
  ⟨by rw [litP_length]; omega, by rw [litP_length]; omega, lit_inst zs hv, fun k hk => by
    rw [litP_length] at hk ⊢
    exact lit_ends zs (zs.length - k) k (by omega) _ (by omega)⟩

/-- The bytes of right runes, as the model tells them. -/
theorem encode_right (r : Int) (hv : validB r = true) : Utf8.encode r = ⟨(Lib.encodeRune r).toArray⟩ := by
  simp only [validB, Bool.or_eq_true, Bool.and_eq_true, decide_eq_true_eq] at hv
  obtain ⟨c, rfl⟩ : ∃ c : Nat, r = (c : Int) := ⟨r.toNat, by omega⟩
  have hx : Utf8.valid (c : Int) = true := by
    unfold Utf8.valid
    simp only [Bool.or_eq_true, Bool.and_eq_true, decide_eq_true_eq]
    omega
  have by' : ∀ (n : Nat) (z : Int), z = (n : Int) → n < 256 → UInt8.ofNat n = z.toNat.toUInt8 := fun n z hz _ => by
    subst hz
    rfl
  unfold Utf8.encode Lib.encodeRune
  simp only [hx, if_true, Int.toNat_natCast]
  by_cases h1 : c ≤ 127
  · rw [Lib.encodeRuneZ_one (by omega) (by omega), if_pos (by omega), by' c (c : Int) rfl (by omega)]
    rfl
  by_cases h2 : c ≤ 2047
  · rw [Lib.encodeRuneZ_two (by omega) (by omega), if_neg (by omega), if_pos (by omega), by' _ (192 + (c : Int) / 64) (by omega) (by omega), by' _ (128 + (c : Int) % 64) (by omega) (by omega)]
    rfl
  by_cases h3 : c ≤ 65535
  · rw [Lib.encodeRuneZ_three (by omega), if_neg (by omega), if_neg (by omega), if_pos (by omega), by' _ (224 + (c : Int) / 4096) (by omega) (by omega), by' _ (128 + (c : Int) / 64 % 64) (by omega) (by omega), by' _ (128 + (c : Int) % 64) (by omega) (by omega)]
    rfl
  · rw [Lib.encodeRuneZ_four (by omega) (by omega), if_neg (by omega), if_neg (by omega), if_neg (by omega), by' _ (240 + (c : Int) / 262144) (by omega) (by omega), by' _ (128 + (c : Int) / 4096 % 64) (by omega) (by omega), by' _ (128 + (c : Int) / 64 % 64) (by omega) (by omega), by' _ (128 + (c : Int) % 64) (by omega) (by omega)]
    rfl

theorem runesBytes_right (zs : List Int) (hv : ∀ z, z ∈ zs → validB z = true) : runesBytes zs = ⟨(encs zs).toArray⟩ := by
  have h : ∀ (l : List Int) (acc : List UInt8), (∀ z, z ∈ l → validB z = true) → l.foldl (fun r n => r ++ Utf8.encode n) (⟨acc.toArray⟩ : ByteArray) = ⟨(acc ++ encs l).toArray⟩ := by
    intro l
    induction l with
    | nil => intro acc _; simp [encs]
    | cons r l ih =>
      intro acc hl
      rw [List.foldl_cons, encode_right r (hl r (by simp))]
      have h2 : (⟨acc.toArray⟩ : ByteArray) ++ (⟨(Lib.encodeRune r).toArray⟩ : ByteArray) = ⟨(acc ++ Lib.encodeRune r).toArray⟩ := by
        apply ByteArray.ext
        rw [ByteArray.data_append]
        simp
      rw [h2, ih _ (fun z hz => hl z (by simp [hz]))]
      have h3 : encs (r :: l) = Lib.encodeRune r ++ encs l := rfl
      rw [h3, List.append_assoc]
  have h1 := h zs [] hv
  rw [List.nil_append] at h1
  exact h1
end Go.Proofs.Ytejhffcjamdffaa
