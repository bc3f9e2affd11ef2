/-
  The contract of PairsOk: it returns a Boolean and turns no memory. Condition: fewer than 2^63 runes.
-/
import Derived.Test.YtejhffcjamdffaaRunes
import Derived.Deep.QuietTactic
import Derived.BigQuiet
namespace Go.Proofs.Ytejhffcjamdffaa
open Go.RowKit

def SomeBool (w : World) (e : Ending) (w' : World) : Prop := (∃ b : Bool, e = .returned (.bool b)) ∧ ∃ m, w.drewN m = w'

set_option maxRecDepth 100000 in
set_option maxHeartbeats 4000000 in
theorem pairs_any (v : Value) (zs : List Int) (w : World) (h : Runes w v zs) (hl : zs.length ≤ 9223372036854775807) :
    Calls Try.prog 78 #[v] w (SomeBool w) := by
  have HR := Lib.hid h
  obtain ⟨ao, cap, rfl, hz⟩ := h.open
  have HZ := Lib.hid hz
  clear h hz
  have HL := Lib.hid hl
  generalize hN : zs.length = n at *
  have HN := Lib.hid hN
  clear hN
  have hc : (n : Int) % 2 = 1 ∨ (n : Int) % 2 = 0 := by omega
  rcases hc with hc | hc
  · go_enter Try.func78, Try.ntmps78
    go_wp2_with fail
    go_ret
    exact ⟨⟨_, rfl⟩, 0, rfl⟩
  · have hd : decide ((16 : Int) < (n : Int)) = true ∨ decide ((16 : Int) < (n : Int)) = false := by cases decide ((16 : Int) < (n : Int)) <;> simp
    rcases hd with hd | hd
    · go_enter Try.func78, Try.ntmps78
      go_wp2_with fail
      go_ret
      exact ⟨⟨_, rfl⟩, 0, rfl⟩
    · have he : zs.any strangeB = true ∨ zs.any strangeB = false := by cases zs.any strangeB <;> simp
      have hn : n ≤ 16 := by simp at hd; omega
      have HC := Lib.hid hc
      rcases he with he | he
      · go_enter Try.func78, Try.ntmps78
        go_wp2_with (go_at_call 36; refine (contains_strange _ zs _ HR.out (by rw [HN.out]; exact HL.out)).mono ?_; rintro e w' ⟨rfl, rfl⟩)
        go_ret
        exact ⟨⟨_, rfl⟩, 0, rfl⟩
      · go_enter Try.func78, Try.ntmps78
        go_wp2_with (go_at_call 36; refine (contains_strange _ zs _ HR.out (by rw [HN.out]; exact HL.out)).mono ?_; rintro e w' ⟨rfl, rfl⟩)
        clear he hc
        go_loopw [3] (fun j wr => ∃ i m : Nat, i ≤ n ∧ j = .int .i64 i ∧ w.drewN m = wr ∧ Hid (i % 2 = 0)) (fun j _ => n - (intOf j).toNat)
        case atStart => exact ⟨0, 0, by omega, rfl, rfl, rfl⟩
        case round =>
          obtain ⟨i, m, hk, rfl, rfl, HE⟩ := hrel
          by_cases hkn : i < n
          · have hk2 : i + 1 < n := by have := HC.out; have := HE.out; omega
            obtain ⟨z, hks⟩ : ∃ z, zs[i]? = some z := ⟨zs[i]'(by rw [HN.out]; exact hkn), List.getElem?_eq_getElem _⟩
            obtain ⟨z1, hks1⟩ : ∃ z, zs[i + 1]? = some z := ⟨zs[i + 1]'(by rw [HN.out]; exact hk2), List.getElem?_eq_getElem _⟩
            obtain ⟨z2, hks2⟩ : ∃ z, zs[i - 1]? = some z := ⟨zs[i - 1]'(by rw [HN.out]; omega), List.getElem?_eq_getElem _⟩
            rcases HZ.out with h0 | ⟨b, off, rfl, hc⟩
            · rw [h0] at hks; simp at hks
            · have c0 := hc _ z hks
              have c1 := hc _ z1 hks1
              have c2 := hc _ z2 hks2
              clear hc hks hks1 hks2
              have e1 : decide (z1 < z) = true ∨ decide (z1 < z) = false := by cases decide (z1 < z) <;> simp
              have e2 : IntKind.i64.wrap ((i : Int) + 1) = (i : Int) + 1 := IntWalk.i64_in _ (by omega)
              have e2' : ((i : Int) + 1).toNat = i + 1 := by omega
              have b0 : (0 : Int) ≤ (i : Int) := by omega
              have b1 : (i : Int) < (n : Int) := by omega
              have b2 : (0 : Int) ≤ (i : Int) + 1 := by omega
              have b3 : (i : Int) + 1 < (n : Int) := by omega
              rcases e1 with e1 | e1
              · go_wp2_with fail
                go_quiet (fail)
                go_wp2
                go_ret
                exact ⟨⟨_, rfl⟩, _, by rw [World.drewN_drewN]⟩
              · by_cases h0 : i = 0
                · subst h0
                  simp only [Nat.add_zero, Nat.zero_add] at c0 c1
                  go_wp2_with fail
                  go_quiet (fail)
                  go_wp2
                  go_roundw
                  case rel => exact ⟨2, _, by omega, rfl, rfl, rfl⟩
                  case measure => simp [intOf]; omega
                · have e3 : IntKind.i64.wrap ((i : Int) - 1) = (i : Int) - 1 := IntWalk.i64_in _ (by omega)
                  have e4 : decide (0 < i) = true := by simp; omega
                  have e5 : ((i : Int) - 1).toNat = i - 1 := by omega
                  have b4 : (0 : Int) ≤ (i : Int) - 1 := by omega
                  have b5 : (i : Int) - 1 < (n : Int) := by omega
                  go_wp2_with fail
                  go_quiet (fail)
                  go_wp2
                  · go_ret
                    exact ⟨⟨_, rfl⟩, m + nq, by rw [World.drewN_drewN]⟩
                  · go_roundw
                    case rel => exact ⟨i + 2, _, by have := HC.out; have := HE.out; omega, by go_num, rfl, by have := HE.out; exact (by omega : (i + 2) % 2 = 0)⟩
                    case measure => simp [intOf]; omega
          · go_wp2
            go_ret
            exact ⟨⟨_, rfl⟩, _, rfl⟩
end Go.Proofs.Ytejhffcjamdffaa
