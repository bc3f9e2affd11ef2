/-
  The contract of (*Regexp).CapNames at a right tree. No conditions beside those typed.
-/
import Derived.Test.YtejhffcjamdffaaNames
import Derived.OwnWalk
import Derived.Laws.OwnMore
namespace Go.Proofs.Ytejhffcjamdffaa
open Go.RowKit

theorem Try.info9 : (Try.prog.info? 9).map (fun i => (i.zero, i.size, i.bytes)) = some (some (.string ByteArray.empty), 1, 16) := by kernel_rfl

/-- The numbers of groups are at most 30. -/
theorem groups_bd (d : Nat) : ∀ nd, OkF d nd → 0 ≤ groupsF d nd ∧ groupsF d nd ≤ 30 := by
  induction d with
  | zero => intro nd h; cases h
  | succ d ih =>
    intro nd h
    have hc : 0 ≤ nd.cap ∧ nd.cap ≤ 30 := by
      by_cases h13 : nd.op = 13
      · have := h.1.cap h13; omega
      · have := (h.1.top.group h13).1; omega
    rw [groupsF]
    have hm : ∀ (xs : List Int) (m : Int), 0 ≤ m → m ≤ 30 → (∀ x, x ∈ xs → x ≤ 30) → 0 ≤ maxs m xs ∧ maxs m xs ≤ 30 := by
      intro xs
      induction xs with
      | nil => intro m h1 h2 _; exact ⟨h1, h2⟩
      | cons x xs ihx =>
        intro m h1 h2 h3
        have hx := h3 x (by simp)
        rw [maxs]
        exact ihx _ (by split <;> omega) (by split <;> omega) (fun y hy => h3 y (by simp [hy]))
    exact hm _ _ hc.1 hc.2 (fun x hx => by
      obtain ⟨s, hs, rfl⟩ := List.mem_map.1 hx
      exact (ih s (h.2 s hs)).2)

theorem strs_made {w : World} {base b n : Nat} (h : w.ownsRow base 9 1 (.slice (some ⟨b, 0, none⟩) n n) n (madeCells (Value.string ByteArray.empty).cells (n * 1)).toList) : StrsAt w b (List.replicate n ByteArray.empty) ∧ base ≤ b ∧ b < w.heap.size := by
  have hlt := h.lt b rfl
  refine ⟨?_, hlt.1, hlt.2⟩
  rcases h.2 with ⟨h0, _⟩ | ⟨g, cap, cur, heq, _, hheap, _, _, hcs, htake⟩
  · cases h0
  · injection heq with e1 e2 e3
    injection e1 with e1
    injection e1 with e1 _ _
    subst e1
    subst e3
    have hc : cur = (List.map Value.string (List.replicate n ByteArray.empty)).toArray := by
      apply Array.ext'
      rw [List.take_of_length_le (by simp [hcs])] at htake
      rw [htake]
      rw [show (Value.string ByteArray.empty).cells = #[.string ByteArray.empty] from rfl, toList_madeCells_one, List.map_replicate, Nat.mul_one]
    unfold StrsAt
    rw [hheap, hc]

set_option maxRecDepth 100000 in
set_option maxHeartbeats 4000000 in
theorem capnames_call (S : Nat → Prop) (d : Nat) (nd : Nd) (g : Nat) (w : World) (h : Rg w S d nd g) (hok : OkF d nd) (hS : ∀ b, S b → b < w.heap.size) (n : Nat) (hn : groupsF d nd + 1 = (n : Int)) :
    Calls Try.prog 64 #[.pointer (some ⟨g, 0, none⟩)] w fun e w' => (∃ b, e = .returned (.slice (some ⟨b, 0, none⟩) n n) ∧ w.heap.size ≤ b ∧ b < w'.heap.size ∧ StrsAt w' b (namesF d nd (List.replicate n ByteArray.empty))) ∧ Below w.heap.size w w' := by
  obtain ⟨i0, hi, hz0, hz1, hz2⟩ := info_parts Try.info9
  have hbd := groups_bd d nd hok
  have HRg := Lib.hid h
  have HS := Lib.hid hS
  have HOk := Lib.hid hok
  clear h hS hok
  generalize hG : groupsF d nd = gmax at *
  have HG := Lib.hid hG
  clear hG
  go_enter Try.func64, Try.ntmps64
  go_wp2_with (first
    | (go_at_call 56
       refine (maxcap_any S d nd g _ HRg.out HOk.out).mono ?_
       rintro e w1 ⟨rfl, rfl⟩
       rw [HG.out])
    | (at_make
       refine wpList_make_full _ rfl _ _ 47 rfl w.heap.size 9 i0 (.string ByteArray.empty) 1 Try.underlying47 hi hz0 hz1 .i64 .i64 _ _ n rfl rfl (by go_num) (by go_num) (by rw [hz2]; omega) (by unfold maxLen; omega) (Nat.le_refl _) ?_
       intro w2 hown2 hgrow2
       have hb2 := (Below.refl w.heap.size w).grown hgrow2 (Nat.le_refl _) (fun j hj => by cases hj)
       obtain ⟨hst, hle, hlt⟩ := strs_made hown2
       have hcall := capnames_any S w.heap.size HS.out d nd g (List.replicate n ByteArray.empty) w2 (Rg.keeps (Keeps.of_below hb2 HS.out) _ _ _ HRg.out) HOk.out hst (by rw [HG.out, List.length_replicate]; omega) (by rw [List.length_replicate]; omega)
       rw [List.length_replicate] at hcall
       have HCall := Lib.hid hcall
       have HB2 := Lib.hid hb2
       clear hown2 hgrow2 hb2 hst hcall)
    | (go_at_call 80
       refine HCall.out.mono ?_
       rintro e w3 ⟨rfl, hst3, hb3⟩))
  go_ret
  have hsz := hb3.size
  exact ⟨⟨w.heap.size, rfl, Nat.le_refl _, by omega, hst3⟩, HB2.out.trans hb3⟩
end Go.Proofs.Ytejhffcjamdffaa
