/-
  The contracts of strange, and of slices.IndexFunc and slices.ContainsFunc at runes with it: whether one of the runes is strange. Condition: fewer than 2^63 runes.
-/
import Derived.Test.YtejhffcjamdffaaNode
import Derived.Handy
namespace Go.Proofs.Ytejhffcjamdffaa
open Go.RowKit

theorem add_at (b off j : Nat) : (⟨b, off, none⟩ : Addr).add j = ⟨b, off + j, none⟩ := by
  unfold Addr.add
  split <;> simp_all

theorem Runes.open {w : World} {v : Value} {zs : List Int} (h : Runes w v zs) :
    ∃ ao cap, v = .slice ao zs.length cap ∧ (zs = [] ∨ ∃ b off, ao = some ⟨b, off, none⟩ ∧ ∀ j z, zs[j]? = some z → w.cell? ⟨b, off + j, none⟩ = some (.int .i32 z)) := by
  rcases h.2 with ⟨rfl, h0⟩ | ⟨a, cap, rfl, h1, h2, h3⟩
  · exact ⟨none, 0, by rw [h0], .inl (List.length_eq_zero_iff.1 h0)⟩
  · refine ⟨_, cap, rfl, ?_⟩
    cases zs with
    | nil => exact .inl rfl
    | cons z zs =>
      right
      obtain ⟨b, off, spot⟩ := a
      have hspot : spot = none := by simpa [Addr.add] using World.cell?_spot (h3 0 _ rfl)
      subst hspot
      refine ⟨b, off, rfl, fun j u hu => ?_⟩
      rw [← add_at]
      exact h3 j _ (by rw [List.getElem?_map, hu]; rfl)

def strangeB (r : Int) : Bool := decide (r < 0) || decide (1114111 < r)

theorem strange_any (r : Int) (w : World) : Calls Try.prog 77 #[.int .i32 r] w fun e w' => e = .returned (.bool (strangeB r)) ∧ w = w' := by
  have h : decide (r < 0) = true ∨ decide (r < 0) = false := by cases decide (r < 0) <;> simp
  rcases h with h | h
  · go_enter Try.func77, Try.ntmps77
    go_wp2
    go_ret
    exact ⟨ret_bool (by simp [strangeB, h]), rfl⟩
  · go_enter Try.func77, Try.ntmps77
    go_wp2
    go_ret
    exact ⟨ret_bool (by simp [strangeB, h]), rfl⟩

def IdxPost (p : Int → Bool) (zs : List Int) (w : World) (e : Ending) (w' : World) : Prop := ∃ i : Int, e = .returned (.int .i64 i) ∧ decide (0 ≤ i) = zs.any p ∧ w = w'

theorem any_take_succ (p : Int → Bool) (zs : List Int) (k : Nat) (z : Int) (h : zs[k]? = some z) (h0 : (zs.take k).any p = false) (hz : p z = false) : (zs.take (k + 1)).any p = false := by
  rw [List.take_add_one, h]; simp [h0, hz]
theorem any_of_get (p : Int → Bool) (zs : List Int) (k : Nat) (z : Int) (h : zs[k]? = some z) (hz : p z = true) : zs.any p = true :=
  List.any_eq_true.2 ⟨z, List.mem_of_getElem? h, hz⟩

set_option maxRecDepth 100000 in
set_option maxHeartbeats 4000000 in
theorem index_strange (v : Value) (zs : List Int) (w : World) (h : Runes w v zs) (hl : zs.length ≤ 9223372036854775807) :
    Calls Try.prog 69 #[v, .func (.func 77) #[] #[]] w (IdxPost strangeB zs w) := by
  obtain ⟨ao, cap, rfl, hz⟩ := h.open
  have HZ := Lib.hid hz
  clear h hz
  generalize hN : zs.length = n at *
  have HN := Lib.hid hN
  clear hN
  go_enter Try.func69, Try.ntmps69
  go_wp2
  go_loop [8] (fun i => ∃ k : Nat, k ≤ n ∧ i = .int .i64 k ∧ Hid ((zs.take k).any strangeB = false)) (fun i => n - (intOf i).toNat)
  case atStart => exact ⟨0, Nat.zero_le _, rfl, rfl⟩
  case round =>
    obtain ⟨k, hk, rfl, HA⟩ := hrel
    by_cases hkn : k < n
    · obtain ⟨z, hks⟩ : ∃ z, zs[k]? = some z := ⟨zs[k]'(by rw [HN.out]; exact hkn), List.getElem?_eq_getElem _⟩
      rcases HZ.out with h0 | ⟨b, off, rfl, hc⟩
      · rw [h0] at hks; simp at hks
      · have c0 := hc k z hks
        have HK := Lib.hid hks
        clear hc hks
        have hz : strangeB z = true ∨ strangeB z = false := by cases strangeB z <;> simp
        rcases hz with hz | hz
        · go_wp2_with (go_at_call 77; refine (strange_any _ _).mono ?_; rintro e w' ⟨rfl, rfl⟩)
          go_ret
          exact ⟨_, rfl, by rw [any_of_get _ _ _ _ HK.out hz]; simp, rfl⟩
        · go_wp2_with (go_at_call 77; refine (strange_any _ _).mono ?_; rintro e w' ⟨rfl, rfl⟩)
          go_round
          case rel => exact ⟨k + 1, by omega, by go_num, any_take_succ _ _ _ _ HK.out HA.out hz⟩
          case measure => simp [intOf]; omega
    · have hkn' : k = n := by omega
      go_wp2
      go_ret
      refine ⟨_, rfl, ?_, rfl⟩
      have hA := HA.out
      rw [List.take_of_length_le (by rw [HN.out, hkn']; exact Nat.le_refl _)] at hA
      rw [hA]; rfl

theorem contains_strange (v : Value) (zs : List Int) (w : World) (h : Runes w v zs) (hl : zs.length ≤ 9223372036854775807) :
    Calls Try.prog 36 #[v, .func (.func 77) #[] #[]] w fun e w' => e = .returned (.bool (zs.any strangeB)) ∧ w = w' := by
  have H := Lib.hid h
  clear h
  go_enter Try.func36, Try.ntmps36
  go_wp2_with (go_at_call 69; refine (index_strange _ zs _ H.out hl).mono ?_; rintro e w' ⟨i, rfl, hi, rfl⟩; have HI := Lib.hid hi; clear hi)
  go_ret
  exact ⟨ret_bool HI.out, rfl⟩
end Go.Proofs.Ytejhffcjamdffaa
