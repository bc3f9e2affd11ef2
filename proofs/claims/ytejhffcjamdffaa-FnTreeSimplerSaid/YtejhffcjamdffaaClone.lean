/-
  slices.Clone at runes, of any length that fits. Condition: at most 2^47 - 4096 bytes.
-/
import Derived.Test.YtejhffcjamdffaaMem
namespace Go.Proofs.Ytejhffcjamdffaa
open Go.RowKit

set_option maxHeartbeats 1000000 in
theorem clone_fits (v : Value) (zs : List Int) (w : World) (h : Runes w v zs) (hl : zs.length * 4 ≤ 140737488351232) :
    Calls Try.prog 76 #[v] w fun e w' => ∃ v', e = .returned v' ∧ OwnRunes w' w.heap.size v' zs ∧ Below w.heap.size w w' := by
  obtain ⟨i0, hi, hz0, hz1, hz2⟩ := info_parts Try.info21
  rcases h.2 with ⟨rfl, hn⟩ | ⟨a, cap, rfl, hcap, hm, hc⟩
  · obtain rfl : zs = [] := List.eq_nil_of_length_eq_zero hn
    have he := fun (w : World) => Lib.run_eql_slice_nil (P := Try.prog) w 26 21 none 0 0 0 0 Try.underlying26
    go_enter Try.func76, Try.ntmps76
    go_wp2
    go_ret
    exact ⟨_, rfl, World.ownsRow_nil _ _ _ _, Below.refl _ _⟩
  · have he := fun (w : World) => Lib.run_eql_slice_nil (P := Try.prog) w 26 21 (some a) zs.length cap 0 0 Try.underlying26
    simp only [Option.isNone_some] at he
    have HC := Lib.hid hc
    clear hm h hc
    go_enter Try.func76, Try.ntmps76
    go_wp2_with (at_builtin; refine wpList_append_own _ rfl _ _ 26 rfl w.heap.size 21 i0 (.int .i32 0) 1 4 Try.underlying26 hi hz0 hz1 hz2 rfl (by decide) _ _ _ rfl (World.ownsRow_made w #[] 0 (Nat.le_refl _) (by decide) rfl) a zs.length cap (zs.map (Value.int .i32)) rfl (by simp) ?c1 ?c2 ?c3 ?c4 ?c5 ?_)
    case c1 => exact fun j u hu => World.cell?_alloc_of w (a.add j) _ (HC.out j u hu)
    case c2 => intro u hu; obtain ⟨z, _, rfl⟩ := List.mem_map.1 hu; rfl
    case c3 => unfold maxLen; omega
    case c4 => omega
    case c5 => simp
    intro v' w1 hown hgrow hnil
    go_wp2
    go_ret
    refine ⟨_, rfl, ?_, ((Below.refl _ _).alloc (Nat.le_refl _) _).grown hgrow (by simp) ?_⟩
    · exact hown
    · intro k hk
      simp [Value.ownBlock] at hk
      omega

end Go.Proofs.Ytejhffcjamdffaa
