/-
  The contract of the specification's Reached: each place that it returns is reached. Conditions: a right program, at most a thousand runes.
-/
import Derived.Test.YtejhffcjamdffaaWalkAny
namespace Go.Proofs.Ytejhffcjamdffaa
open Go.RowKit

theorem Try.info69 : (Try.prog.info? 69).map (fun i => (i.zero, i.size, i.bytes)) = some (some (.slice none 0 0), 1, 24) := by kernel_rfl
theorem Try.info4b : (Try.prog.info? 4).map (fun i => (i.zero, i.size, i.bytes)) = some (some (.bool false), 1, 1) := by kernel_rfl
theorem Try.info3 : (Try.prog.info? 3).map (fun i => (i.zero, i.size, i.bytes)) = some (some (.int .i64 0), 1, 8) := by kernel_rfl

theorem marks_made {w : World} {base b n : Nat} (h : w.ownsRow base 4 1 (.slice (some ⟨b, 0, none⟩) n n) n (madeCells (Value.bool false).cells (n * 1)).toList) : MarksAt w b (List.replicate n false) ∧ base ≤ b ∧ b < w.heap.size := by
  have hlt := h.lt b rfl
  refine ⟨?_, hlt.1, hlt.2⟩
  rcases h.2 with ⟨h0, _⟩ | ⟨g, cap, cur, heq, _, hheap, _, _, hcs, htake⟩
  · cases h0
  · injection heq with e1 e2 e3
    injection e1 with e1
    injection e1 with e1 _ _
    subst e1
    subst e3
    have hc : cur = (List.map Value.bool (List.replicate n false)).toArray := by
      apply Array.ext'
      rw [List.take_of_length_le (by simp [hcs])] at htake
      rw [htake]
      rw [show (Value.bool false).cells = #[.bool false] from rfl, toList_madeCells_one, List.map_replicate, Nat.mul_one]
    unfold MarksAt
    rw [hheap, hc]

/-- The rows of marks so far. -/
structure SeenRow (w : World) (base T : Nat) (v : Value) (bs : List Nat) : Prop where
  own : w.ownsRow base 69 1 v bs.length (bs.map fun b => Value.slice (some ⟨b, 0, none⟩) T T)
  marks : ∀ b, b ∈ bs → base ≤ b ∧ MarksAt w b (List.replicate T false)
  nodup : ∀ (j k : Nat) (b : Nat), bs[j]? = some b → bs[k]? = some b → j = k

theorem SeenRow.below {w w' : World} {base T : Nat} {v : Value} {bs : List Nat} (h : SeenRow w base T v bs) (hb : Below w.heap.size w w') : SeenRow w' base T v bs :=
  ⟨owns_below h.own hb (Bd.of_owns h.own), fun b hm => ⟨(h.marks b hm).1, (hb.block b (h.marks b hm).2.lt).trans (h.marks b hm).2⟩, h.nodup⟩

theorem SeenRow.snoc {w w1 w2 : World} {base T b0 : Nat} {v v' : Value} {bs : List Nat} {o : Obj} (h : SeenRow w base T v bs) (hb : Below w.heap.size w w1) (hm : MarksAt w1 b0 (List.replicate T false)) (h0 : w.heap.size ≤ b0) (hbase : base ≤ w.heap.size)
    (hg : (w1.alloc o).grownBy w2 v.ownBlock) (hown : w2.ownsRow base 69 1 v' (bs.length + 1) ((bs.map fun b => Value.slice (some ⟨b, 0, none⟩) T T) ++ [.slice (some ⟨b0, 0, none⟩) T T])) : SeenRow w2 base T v' (bs ++ [b0]) := by
  have h1 := h.below hb
  have keep : ∀ b, MarksAt w1 b (List.replicate T false) → MarksAt w2 b (List.replicate T false) := fun b hx => by
    have hlt := hx.lt
    unfold MarksAt
    rw [hg.block b (by simp; omega) (fun e => owns_apart_cells h1.own hx (by decide) e.symm), Below.heap_alloc _ _ _ hlt]
    exact hx
  refine ⟨by rw [List.length_append, List.map_append]; exact hown, fun b hb' => ?_, fun j k b hj hk => ?_⟩
  · rcases List.mem_append.1 hb' with h2 | h2
    · exact ⟨(h1.marks b h2).1, keep b (h1.marks b h2).2⟩
    · simp only [List.mem_singleton] at h2
      subst h2
      exact ⟨by omega, keep b hm⟩
  · have last : ∀ (x : Nat), (bs ++ [b0])[x]? = some b → x < bs.length ∨ (x = bs.length ∧ b = b0) := fun x hx => by
      by_cases hlt : x < bs.length
      · exact .inl hlt
      · right
        rw [List.getElem?_append_right (by omega)] at hx
        have h0 : x - bs.length = 0 := by
          rcases Nat.eq_zero_or_pos (x - bs.length) with h0 | h0
          · exact h0
          · rw [List.getElem?_eq_none (by simp; omega)] at hx; cases hx
        rw [h0] at hx
        simp at hx
        exact ⟨by omega, hx.symm⟩
    rcases last j hj with hj1 | ⟨hj1, hj2⟩ <;> rcases last k hk with hk1 | ⟨hk1, hk2⟩
    · rw [List.getElem?_append_left hj1] at hj
      rw [List.getElem?_append_left hk1] at hk
      exact h.nodup j k b hj hk
    · rw [List.getElem?_append_left hj1] at hj
      have := (h.marks b (List.mem_of_getElem? hj)).2.lt
      omega
    · rw [List.getElem?_append_left hk1] at hk
      have := (h.marks b (List.mem_of_getElem? hk)).2.lt
      omega
    · omega

/-- What walk begins with. -/
theorem SeenRow.walk {w : World} {base T n o : Nat} {ao : Option Addr} {c : Nat} {bs : List Nat} (h : SeenRow w base T (.slice ao bs.length c) bs) (hn : bs.length = n) (hpos : 0 < n) (ho : MarksAt w o (List.replicate T false)) (hob : base ≤ o) (hne : ∀ b, b ∈ bs → b ≠ o) :
    ∃ g, ao = some ⟨g, 0, none⟩ ∧ WalkAt w base g o n T bs (List.replicate n (List.replicate T false)) (List.replicate T false) := by
  obtain ⟨g, cap', hv, hbg, hlt⟩ := h.own.form (by omega)
  injection hv with e1 e2 e3
  have hog : o ≠ g := fun e => owns_apart_cells h.own ho (by decide) (by rw [e1, e]; rfl)
  refine ⟨g, e1, hn, List.length_replicate, fun r hr => by rw [List.eq_of_mem_replicate hr]; exact List.length_replicate, fun k b hk => ?_, fun k b r hk hr => ?_, h.nodup, fun b hb => ⟨(h.marks b hb).1, fun e => ?_, hne b hb⟩, ho, List.length_replicate, ⟨hog, hob, hbg, hlt⟩⟩
  · have h1 := World.ownsRow.cells h.own (g := g) (by rw [e1]; rfl) k (.slice (some ⟨b, 0, none⟩) T T) (by rw [List.getElem?_map, hk]; rfl)
    rw [show ((⟨g, 0, none⟩ : Addr).add k) = ⟨g, k, none⟩ from by unfold Addr.add; split <;> simp_all] at h1
    exact h1
  · have h1 := List.mem_of_getElem? hr
    rw [List.eq_of_mem_replicate h1]
    exact (h.marks b (List.mem_of_getElem? hk)).2
  · exact owns_apart_cells h.own (h.marks b hb).2 (by decide) (by rw [e1, e]; rfl)
end Go.Proofs.Ytejhffcjamdffaa
