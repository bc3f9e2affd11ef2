/-
  slices.Clone and slices.Equal at rows of strings. Conditions: at most a thousand strings; the two rows hold the same.
-/
import Derived.Test.YtejhffcjamdffaaCapNames
import Derived.Test.YtejhffcjamdffaaClone
import Derived.Test.YtejhffcjamdffaaRunes
namespace Go.Proofs.Ytejhffcjamdffaa
open Go.RowKit

set_option maxHeartbeats 1000000 in
theorem clone_strs (b : Nat) (l : List ByteArray) (w : World) (h : StrsAt w b l) (hl : l.length ≤ 1000) :
    Calls Try.prog 63 #[.slice (some ⟨b, 0, none⟩) l.length l.length] w fun e w' => (∃ v', e = .returned v' ∧ w'.ownsRow w.heap.size 9 1 v' l.length (l.map Value.string)) ∧ Below w.heap.size w w' := by
  obtain ⟨i0, hi, hz0, hz1, hz2⟩ := info_parts Try.info9
  have he := fun (w : World) => Lib.run_eql_slice_nil (P := Try.prog) w 47 9 (some ⟨b, 0, none⟩) l.length l.length 0 0 Try.underlying47
  simp only [Option.isNone_some] at he
  have hc : ∀ j u, (l.map Value.string)[j]? = some u → w.cell? ((⟨b, 0, none⟩ : Addr).add j) = some u := fun j u hu => by
    rw [add_at, Nat.zero_add, cell_at h, List.getElem?_toArray]; exact hu
  have HC := Lib.hid hc
  clear hc
  go_enter Try.func63, Try.ntmps63
  go_wp2_with (at_builtin; refine wpList_append_own _ rfl _ _ 47 rfl w.heap.size 9 i0 (.string ByteArray.empty) 1 16 Try.underlying47 hi hz0 hz1 hz2 rfl (by decide) _ _ _ rfl (World.ownsRow_made w #[] 0 (Nat.le_refl _) (by decide) rfl) ⟨b, 0, none⟩ l.length l.length (l.map Value.string) rfl (by simp) ?c1 ?c2 ?c3 ?c4 ?c5 ?_)
  case c1 => exact fun j u hu => World.cell?_alloc_of w _ _ (HC.out j u hu)
  case c2 => intro u hu; obtain ⟨z, _, rfl⟩ := List.mem_map.1 hu; rfl
  case c3 => unfold maxLen; omega
  case c4 => omega
  case c5 => simp
  intro v' w1 hown hgrow hnil
  go_wp2
  go_ret
  refine ⟨⟨_, rfl, ?_⟩, ((Below.refl _ _).alloc (Nat.le_refl _) _).grown hgrow (by simp) ?_⟩
  · simpa using hown
  · intro k hk
    simp [Value.ownBlock] at hk
    omega

/-- Two rows that hold the same strings are equal. -/
theorem equal_strs (v1 v2 : Value) (l : List ByteArray) (w : World) (h1 : RowN w 1 v1 l.length (l.map Value.string)) (h2 : RowN w 1 v2 l.length (l.map Value.string)) (hl : l.length ≤ 1000) :
    Calls Try.prog 31 #[v1, v2] w fun e w' => e = .returned (.bool true) ∧ Below w.heap.size w w' := by
  have hop : ∀ v, RowN w 1 v l.length (l.map Value.string) → ∃ ao cap, v = .slice ao l.length cap ∧ (l = [] ∨ ∃ b off, ao = some ⟨b, off, none⟩ ∧ ∀ j z, l[j]? = some z → w.cell? ⟨b, off + j, none⟩ = some (.string z)) := by
    intro v h
    rcases h.2 with ⟨rfl, h0⟩ | ⟨a, cap, rfl, _, _, h3⟩
    · exact ⟨none, 0, by rw [h0], .inl (List.length_eq_zero_iff.1 h0)⟩
    · refine ⟨_, cap, rfl, ?_⟩
      cases l with
      | nil => exact .inl rfl
      | cons z zs =>
        right
        obtain ⟨b, off, spot⟩ := a
        have hspot : spot = none := by simpa [Addr.add] using World.cell?_spot (h3 0 _ rfl)
        subst hspot
        refine ⟨b, off, rfl, fun j u hu => ?_⟩
        rw [← add_at]
        exact h3 j _ (by rw [List.getElem?_map, hu]; rfl)
  obtain ⟨a1, k1, rfl, hx1⟩ := hop v1 h1
  obtain ⟨a2, k2, rfl, hx2⟩ := hop v2 h2
  have HX1 := Lib.hid hx1
  have HX2 := Lib.hid hx2
  clear h1 h2 hop hx1 hx2
  generalize hN : l.length = n at *
  have HN := Lib.hid hN
  clear hN
  go_enter Try.func31, Try.ntmps31
  go_wp2
  go_loopw [13] (fun i wr => ∃ k : Nat, k ≤ n ∧ i = .int .i64 k ∧ Below w.heap.size w wr ∧ ∀ a, wr.cell? a = w.cell? a) (fun i _ => n - (intOf i).toNat)
  case atStart => exact ⟨0, Nat.zero_le _, rfl, Below.refl _ _, fun _ => rfl⟩
  case round =>
    obtain ⟨k, hk, rfl, hbel, hcell⟩ := hrel
    have HCl := Lib.hid hcell
    clear hcell
    by_cases hkn : k < n
    · obtain ⟨z, hks⟩ := get_of_lt HN.out hkn
      rcases HX1.out with h0 | ⟨b1, o1, rfl, g1⟩
      · rw [h0] at hks; simp at hks
      · rcases HX2.out with h0 | ⟨b2, o2, rfl, g2⟩
        · rw [h0] at hks; simp at hks
        · have d1 : wr.cell? ⟨b1, o1 + k, none⟩ = some (.string z) := by rw [HCl.out]; exact g1 k z hks
          have d2 : wr.cell? ⟨b2, o2 + k, none⟩ = some (.string z) := by rw [HCl.out]; exact g2 k z hks
          have HBel := Lib.hid hbel
          clear g1 g2 hks hbel
          go_wp2_with fail
          go_region
          go_wp2
          go_roundw
          case rel => exact ⟨k + 1, by omega, by go_num, HBel.out.drew, HCl.out⟩
          case measure => simp [intOf]; omega
    · go_wp2
      go_ret
      exact ⟨rfl, hbel⟩
end Go.Proofs.Ytejhffcjamdffaa
