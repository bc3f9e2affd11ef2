/-
  The contract of the specification's ProgramOk: true of right programs alone. Conditions: the form's own reach.
-/
import Derived.Test.YtejhffcjamdffaaEnds
import Derived.Test.YtejhffcjamdffaaInstOk2
namespace Go.Proofs.Ytejhffcjamdffaa
open Go.RowKit

def OkProg (is : List I) (start : Int) (w : World) (e : Ending) (w' : World) : Prop := (∃ b : Bool, e = .returned (.bool b) ∧ (b = true → ProgP is start)) ∧ Below w.heap.size w w'

set_option maxRecDepth 100000 in
set_option maxHeartbeats 4000000 in
theorem progok_any (is : List I) (start : Int) (v : Value) (w : World) (h : Insts w w.heap.size v is) (hl : is.length * 48 ≤ 140737488351232) (hr : ∀ i, i ∈ is → i.runes.length * 4 ≤ 140737488351232) :
    Calls Try.prog 25 #[v, .int .i64 start] w (OkProg is start w) := by
  have HAll := Lib.hid h
  obtain ⟨ao, cap, rfl, hx⟩ := h
  have HX := Lib.hid hx
  have HR := Lib.hid hr
  clear hx hr
  generalize hN : is.length = n at *
  have HN := Lib.hid hN
  clear hN
  by_cases h60 : 60 < n
  · go_enter Try.func25, Try.ntmps25
    go_wp2
    go_ret
    exact ⟨⟨_, rfl, fun h => by cases h⟩, Below.refl _ _⟩
  by_cases hs0 : start < 0
  · go_enter Try.func25, Try.ntmps25
    go_wp2
    go_ret
    exact ⟨⟨_, rfl, fun h => by cases h⟩, Below.refl _ _⟩
  by_cases hs1 : (n : Int) ≤ start
  · have hs0' : decide (start < 0) = false := by simpa using hs0
    go_enter Try.func25, Try.ntmps25
    go_wp2
    go_ret
    exact ⟨⟨_, rfl, fun h => by cases h⟩, Below.refl _ _⟩
  have hs0' : decide (start < 0) = false := by simpa using hs0
  have hs1' : decide ((n : Int) ≤ start) = false := by simpa using hs1
  have HS : Hid (0 ≤ start ∧ start < (n : Int)) := by constructor <;> omega
  go_enter Try.func25, Try.ntmps25
  go_wp2
  clear hs0' hs1' hs0 hs1
  go_loopw [23] (fun i wr => ∃ k : Nat, k ≤ n ∧ i = .int .i64 k ∧ Below w.heap.size w wr ∧ (∀ j i', j < k → is[j]? = some i' → InstP n i')) (fun i _ => n - (intOf i).toNat)
  case atStart => exact ⟨0, Nat.zero_le _, rfl, Below.refl _ _, fun j i' h => absurd h (by omega)⟩
  case round =>
    obtain ⟨k, hk, rfl, hbel, hall⟩ := hrel
    have HA := Lib.hid hall
    clear hall
    by_cases hkn : k < n
    · have hne : is ≠ [] := by rintro rfl; have := HN.out; simp at this; omega
      obtain ⟨b, off, rfl, hlt, hc⟩ := HX.out hne
      obtain ⟨i, hik⟩ : ∃ i, is[k]? = some i := ⟨is[k]'(by rw [HN.out]; exact hkn), List.getElem?_eq_getElem _⟩
      obtain ⟨rv, c0, c1, c2, c3, hrunes, hbd⟩ := (hc k i hik).below hbel hlt
      have HC : Hid (∀ o : Obj, Calls Try.prog 58 #[.agg #[.int .i64 i.op, .int .i64 i.out, .int .i64 i.arg, rv], .int .i64 n] (wr.alloc o) (OkInst n i (wr.alloc o))) := fun o =>
        instok_any i rv n _ (RowN.belowW hrunes (below1 wr o) (hbd.mono hbel.size)) (hbd.mono (by have := hbel.size; simp; omega)) (HR.out i (List.mem_of_getElem? hik))
      obtain ⟨ro, rc, rfl⟩ := rowN_slice hrunes
      have HB := Lib.hid hbel
      have HK := Lib.hid hik
      clear hc hik hrunes hbd hne hbel
      go_wp2_with (go_at_call 58; refine (HC.out _).mono ?_; rintro e w1 ⟨⟨b1, rfl, hb1⟩, hbw⟩)
      all_goals
        have hB2 := HB.out.trans (((below1 wr _).trans (hbw.mono (by simp))).mono HB.out.size)
      · go_ret
        exact ⟨⟨_, rfl, fun h => by cases h⟩, hB2⟩
      · have hi : InstP n i := hb1 (by simp_all)
        have HA2 : Hid (∀ j i', j < k + 1 → is[j]? = some i' → InstP n i') := fun j i' hj h1 => by
          by_cases hjk : j < k
          · exact HA.out j i' hjk h1
          · have e : j = k := by omega
            subst e
            rw [HK.out] at h1
            injection h1 with h1
            subst h1
            exact hi
        clear hb1 hi
        go_roundw
        case rel => exact ⟨k + 1, by omega, by go_num, hB2, HA2.out⟩
        case measure => simp [intOf]; omega
    · have hkn' : k = n := by omega
      subst hkn'
      have HOk : Hid (∀ i, i ∈ is → InstP is.length i) := fun i hi => by
        obtain ⟨j, hj, hj2⟩ := List.getElem_of_mem hi
        rw [HN.out]
        exact HA.out j i (by rw [HN.out] at hj; exact hj) (by rw [List.getElem?_eq_getElem hj, hj2])
      have HIns : Hid (Insts wr w.heap.size (.slice ao k cap) is) := HAll.out.below hbel
      have HB := Lib.hid hbel
      clear hbel HA
      go_wp2
      go_loop [35] (fun i => ∃ j : Nat, j ≤ k ∧ i = .int .i64 j ∧ Hid (∀ q, q < j → endsF is k q = true)) (fun i => k - (intOf i).toNat)
      case atStart => exact ⟨0, Nat.zero_le _, rfl, fun q h => absurd h (by omega)⟩
      case round =>
        obtain ⟨j, hj, rfl, HE⟩ := hrel
        by_cases hjn : j < k
        · have HC : Hid (Calls Try.prog 59 #[.slice ao k cap, .int .i64 j] wr fun e w' => e = .returned (.bool (endsF is k j)) ∧ wr = w') := by
            have h1 := ends_any is _ w.heap.size j wr HIns.out HOk.out (by rw [HN.out]; omega) (by rw [HN.out]; exact hjn)
            rw [HN.out] at h1
            exact h1
          obtain ⟨r, hr⟩ : ∃ r, endsF is k j = r := ⟨_, rfl⟩
          rw [hr] at HC
          have HR2 := Lib.hid hr
          clear hr
          cases r
          · go_wp2_with (go_at_call 59; refine HC.out.mono ?_; rintro e w1 ⟨rfl, rfl⟩)
            go_ret
            exact ⟨⟨_, rfl, fun h => by cases h⟩, HB.out⟩
          · have HE2 : Hid (∀ q, q < j + 1 → endsF is k q = true) := fun q hq => by
              by_cases hqj : q < j
              · exact HE.out q hqj
              · have e : q = j := by omega
                subst e
                exact HR2.out
            go_wp2_with (go_at_call 59; refine HC.out.mono ?_; rintro e w1 ⟨rfl, rfl⟩)
            go_round
            case rel => exact ⟨j + 1, by omega, by go_num, HE2⟩
            case measure => simp [intOf]; omega
        · have hjn' : j = k := by omega
          subst hjn'
          go_wp2
          go_ret
          exact ⟨⟨_, rfl, fun _ => ⟨by rw [HN.out]; omega, by rw [HN.out]; exact HS.out, HOk.out, fun q hq => by rw [HN.out] at hq ⊢; exact HE.out q hq⟩⟩, HB.out⟩
end Go.Proofs.Ytejhffcjamdffaa
