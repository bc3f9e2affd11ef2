/-
  The runes of the bytes of right runes are these runes; the bytes of runes as the model tells them. No program in sight.
-/
import Derived.Test.YtejhffcjamdffaaPlainPref
import Derived.Test.YtejhffcjamdffaaProg2
import Derived.Laws.IdiomStrings
import Derived.Laws.Cover4
namespace Go.Proofs.Ytejhffcjamdffaa

/-- The byte number j of a text. -/
def byteAt (s : ByteArray) (i : Nat) (n : Nat) : Prop := i < s.size ∧ (s.get! i).toNat = n

theorem decode_one (s : ByteArray) (i c : Nat) (h : c ≤ 127) (h0 : byteAt s i c) : Utf8.decode s i = (c, 1) := by
  have e0 : (s.get! (i + 0)).toNat = c := h0.2
  unfold Utf8.decode
  simp only [e0]
  rw [if_pos (by omega)]

theorem decode_two (s : ByteArray) (i c : Nat) (h : 128 ≤ c) (h' : c ≤ 2047) (h0 : byteAt s i (192 + c / 64)) (h1 : byteAt s (i + 1) (128 + c % 64)) : Utf8.decode s i = (c, 2) := by
  have e0 : (s.get! (i + 0)).toNat = 192 + c / 64 := h0.2
  have e1 := h1.2
  have l1 := h1.1
  have x1 : (192 + c / 64) / 32 = 6 := by omega
  have x2 : (128 + c % 64) / 64 = 2 := by omega
  have x3 : (192 + c / 64) % 32 * 64 + (128 + c % 64) % 64 = c := by omega
  unfold Utf8.decode
  simp only [e0, e1, x1, x2, x3, decide_eq_true l1]
  rw [if_neg (by omega), if_pos (by decide), if_pos (by omega)]

theorem decode_three (s : ByteArray) (i c : Nat) (h : (2048 ≤ c ∧ c < 55296) ∨ (57343 < c ∧ c ≤ 65535)) (h0 : byteAt s i (224 + c / 4096)) (h1 : byteAt s (i + 1) (128 + c / 64 % 64)) (h2 : byteAt s (i + 2) (128 + c % 64)) : Utf8.decode s i = (c, 3) := by
  have e0 : (s.get! (i + 0)).toNat = 224 + c / 4096 := h0.2
  have e1 := h1.2
  have l1 := h1.1
  have e2 := h2.2
  have l2 := h2.1
  have x0 : (224 + c / 4096) / 32 = 7 := by omega
  have x1 : (224 + c / 4096) / 16 = 14 := by omega
  have x2 : (128 + c / 64 % 64) / 64 = 2 := by omega
  have x3 : (128 + c % 64) / 64 = 2 := by omega
  have x4 : (224 + c / 4096) % 16 * 4096 + (128 + c / 64 % 64) % 64 * 64 + (128 + c % 64) % 64 = c := by omega
  have x5 : Utf8.valid (c : Int) = true := by
    unfold Utf8.valid
    simp only [Bool.or_eq_true, Bool.and_eq_true, decide_eq_true_eq]
    omega
  unfold Utf8.decode
  simp only [e0, e1, e2, x0, x1, x2, x3, x4, x5, decide_eq_true l1, decide_eq_true l2, Bool.and_true]
  rw [if_neg (by omega), if_neg (by decide), if_pos (by decide), if_pos (by simp; omega)]

theorem decode_four (s : ByteArray) (i c : Nat) (h : 65536 ≤ c) (h' : c ≤ 1114111) (h0 : byteAt s i (240 + c / 262144)) (h1 : byteAt s (i + 1) (128 + c / 4096 % 64)) (h2 : byteAt s (i + 2) (128 + c / 64 % 64)) (h3 : byteAt s (i + 3) (128 + c % 64)) : Utf8.decode s i = (c, 4) := by
  have e0 : (s.get! (i + 0)).toNat = 240 + c / 262144 := h0.2
  have e1 := h1.2
  have l1 := h1.1
  have e2 := h2.2
  have l2 := h2.1
  have e3 := h3.2
  have l3 := h3.1
  have x0 : (240 + c / 262144) / 32 = 7 := by omega
  have x1 : (240 + c / 262144) / 16 = 15 := by omega
  have x1' : (240 + c / 262144) / 8 = 30 := by omega
  have x2 : (128 + c / 4096 % 64) / 64 = 2 := by omega
  have x3 : (128 + c / 64 % 64) / 64 = 2 := by omega
  have x3' : (128 + c % 64) / 64 = 2 := by omega
  have x4 : (240 + c / 262144) % 8 * 262144 + (128 + c / 4096 % 64) % 64 * 4096 + (128 + c / 64 % 64) % 64 * 64 + (128 + c % 64) % 64 = c := by omega
  have x5 : Utf8.valid (c : Int) = true := by
    unfold Utf8.valid
    simp only [Bool.or_eq_true, Bool.and_eq_true, decide_eq_true_eq]
    omega
  unfold Utf8.decode
  simp only [e0, e1, e2, e3, x0, x1, x1', x2, x3, x3', x4, x5, decide_eq_true l1, decide_eq_true l2, decide_eq_true l3, Bool.and_true]
  rw [if_neg (by omega), if_neg (by decide), if_neg (by decide), if_pos (by decide), if_pos (by simp; omega)]

theorem byte_in {l : List UInt8} {i : Nat} {z : Int} (h : l[i]? = some (z.toNat.toUInt8)) (h1 : z < 256) : byteAt ⟨l.toArray⟩ i z.toNat := by
  have hlt := (List.getElem?_eq_some_iff.1 h).1
  refine ⟨by show i < l.toArray.size; simpa using hlt, ?_⟩
  show ((l.toArray)[i]!).toNat = _
  rw [getElem!_pos l.toArray i (by simpa using hlt)]
  have h2 := (List.getElem?_eq_some_iff.1 h).2
  simp only [List.getElem_toArray, h2]
  simp
  omega

/-- The bytes of a right rune, wherever they stand, are read as that rune. -/
theorem decode_rune (pre post : List UInt8) (r : Int) (hv : validB r = true) : Utf8.decode ⟨(pre ++ Lib.encodeRune r ++ post).toArray⟩ pre.length = (r.toNat, (Lib.encodeRune r).length) := by
  simp only [validB, Bool.or_eq_true, Bool.and_eq_true, decide_eq_true_eq] at hv
  have get : ∀ (bs : List UInt8) (j : Nat) (b : UInt8), bs[j]? = some b → (pre ++ bs ++ post)[pre.length + j]? = some b := fun bs j b hb => by
    have hlt := (List.getElem?_eq_some_iff.1 hb).1
    rw [List.append_assoc, List.getElem?_append_right (by omega), Nat.add_sub_cancel_left, List.getElem?_append_left hlt, hb]
  obtain ⟨c, rfl⟩ : ∃ c : Nat, r = (c : Int) := ⟨r.toNat, by omega⟩
  unfold Lib.encodeRune
  by_cases h1 : c ≤ 127
  · rw [Lib.encodeRuneZ_one (by omega) (by omega)]
    have b0 := byte_in (get [(c : Int).toNat.toUInt8] 0 _ rfl) (by omega)
    exact decode_one _ _ c h1 b0
  by_cases h2 : c ≤ 2047
  · rw [Lib.encodeRuneZ_two (by omega) (by omega)]
    have b0 := byte_in (get (List.map (fun x : Int => x.toNat.toUInt8) [192 + (c : Int) / 64, 128 + (c : Int) % 64]) 0 _ rfl) (by omega)
    have b1 := byte_in (get (List.map (fun x : Int => x.toNat.toUInt8) [192 + (c : Int) / 64, 128 + (c : Int) % 64]) 1 _ rfl) (by omega)
    rw [show (192 + (c : Int) / 64).toNat = 192 + c / 64 from by omega] at b0
    rw [show (128 + (c : Int) % 64).toNat = 128 + c % 64 from by omega] at b1
    exact decode_two _ _ c (by omega) h2 b0 b1
  by_cases h3 : c ≤ 65535
  · rw [Lib.encodeRuneZ_three (by omega)]
    have g := get (List.map (fun x : Int => x.toNat.toUInt8) [224 + (c : Int) / 4096, 128 + (c : Int) / 64 % 64, 128 + (c : Int) % 64])
    have b0 := byte_in (g 0 _ rfl) (by omega)
    have b1 := byte_in (g 1 _ rfl) (by omega)
    have b2 := byte_in (g 2 _ rfl) (by omega)
    rw [show (224 + (c : Int) / 4096).toNat = 224 + c / 4096 from by omega] at b0
    rw [show (128 + (c : Int) / 64 % 64).toNat = 128 + c / 64 % 64 from by omega] at b1
    rw [show (128 + (c : Int) % 64).toNat = 128 + c % 64 from by omega] at b2
    exact decode_three _ _ c (by omega) b0 b1 b2
  · rw [Lib.encodeRuneZ_four (by omega) (by omega)]
    have g := get (List.map (fun x : Int => x.toNat.toUInt8) [240 + (c : Int) / 262144, 128 + (c : Int) / 4096 % 64, 128 + (c : Int) / 64 % 64, 128 + (c : Int) % 64])
    have b0 := byte_in (g 0 _ rfl) (by omega)
    have b1 := byte_in (g 1 _ rfl) (by omega)
    have b2 := byte_in (g 2 _ rfl) (by omega)
    have b3 := byte_in (g 3 _ rfl) (by omega)
    rw [show (240 + (c : Int) / 262144).toNat = 240 + c / 262144 from by omega] at b0
    rw [show (128 + (c : Int) / 4096 % 64).toNat = 128 + c / 4096 % 64 from by omega] at b1
    rw [show (128 + (c : Int) / 64 % 64).toNat = 128 + c / 64 % 64 from by omega] at b2
    rw [show (128 + (c : Int) % 64).toNat = 128 + c % 64 from by omega] at b3
    exact decode_four _ _ c (by omega) (by omega) b0 b1 b2 b3

/-- The runes of the bytes of right runes. -/
theorem runes_encs : ∀ (ps : List Int), (∀ r, r ∈ ps → validB r = true) → ∀ (pre : List UInt8) (bound : Nat) (acc : Array Value), ps.length ≤ bound → Conv.runesFrom ⟨(pre ++ encs ps).toArray⟩ bound pre.length acc = acc ++ (ps.map (Value.int .i32)).toArray := by
  intro ps
  induction ps with
  | nil =>
    intro _ pre bound acc _
    have he : ¬ pre.length < (⟨(pre ++ encs []).toArray⟩ : ByteArray).size := by
      show ¬ pre.length < (pre ++ encs []).toArray.size
      simp [encs]
    cases bound with
    | zero => simp [Conv.runesFrom]
    | succ b =>
      unfold Conv.runesFrom
      rw [if_neg he]
      simp
  | cons r ps ih =>
    intro hv pre bound acc hb
    obtain ⟨b, rfl⟩ : ∃ b, bound = b + 1 := ⟨bound - 1, by simp at hb; omega⟩
    have he : encs (r :: ps) = Lib.encodeRune r ++ encs ps := rfl
    have hl := Lib.runeCells_le r
    rw [Lib.runeCells_length] at hl
    have hr := hv r (by simp)
    have h0 : 0 ≤ r := by
      simp only [validB, Bool.or_eq_true, Bool.and_eq_true, decide_eq_true_eq] at hr
      omega
    unfold Conv.runesFrom
    rw [if_pos (by show pre.length < (pre ++ encs (r :: ps)).toArray.size; rw [he]; simp; omega)]
    have hd := decode_rune pre (encs ps) r hr
    rw [he, ← List.append_assoc]
    simp only [hd]
    have h2 := ih (fun x hx => hv x (by simp [hx])) (pre ++ Lib.encodeRune r) b (acc.push (.int .i32 (Int.ofNat r.toNat))) (by simp at hb; omega)
    rw [List.length_append] at h2
    rw [h2]
    rw [show Int.ofNat r.toNat = r from Int.toNat_of_nonneg h0]
    simp
end Go.Proofs.Ytejhffcjamdffaa
