/-
  The thin package's instructions in a row of the call's own ('OwnInsts'): one more, and what it is to a callee. No conditions beside those typed.
-/
import Derived.Test.YtejhffcjamdffaaProgMem
namespace Go.Proofs.Ytejhffcjamdffaa
open Go.RowKit

/-- The cells of the thin package's instructions. -/
def ICells (w : World) (base : Nat) (is : List I) (cs : List Value) : Prop :=
  ∀ k i, is[k]? = some i → ∃ rv, cs[k * 4]? = some (.int .i64 i.op) ∧ cs[k * 4 + 1]? = some (.int .i64 i.out) ∧ cs[k * 4 + 2]? = some (.int .i64 i.arg) ∧ cs[k * 4 + 3]? = some rv ∧ OwnRunes w base rv i.runes

/-- The slice v of the thin package's instructions, in a row of the call's own. -/
def OwnInsts (w : World) (base : Nat) (v : Value) (is : List I) (cs : List Value) : Prop := w.ownsRow base 28 4 v is.length cs ∧ ICells w base is cs

theorem OwnInsts.snoc {w w' : World} {base : Nat} {v v' rv : Value} {is : List I} {cs : List Value} {i : I} (h : OwnInsts w base v is cs) (hrv : OwnRunes w base rv i.runes) (hg : w.grownBy w' v.ownBlock)
    (hown : w'.ownsRow base 28 4 v' (is.length + 1) (cs ++ [.int .i64 i.op, .int .i64 i.out, .int .i64 i.arg, rv])) :
    OwnInsts w' base v' (is ++ [i]) (cs ++ [.int .i64 i.op, .int .i64 i.out, .int .i64 i.arg, rv]) := by
  have hl : cs.length = is.length * 4 := h.1.1
  have hk : ∀ rv zs, OwnRunes w base rv zs → OwnRunes w' base rv zs := fun rv zs hr => World.ownsRow.kept hr hg (owns_apart hr h.1 (by decide))
  refine ⟨by rw [List.length_append]; exact hown, fun k j hj => ?_⟩
  by_cases hlt : k < is.length
  · rw [List.getElem?_append_left hlt] at hj
    obtain ⟨rv', h0, h1, h2, h3, h4⟩ := h.2 k j hj
    refine ⟨rv', ?_, ?_, ?_, ?_, hk _ _ h4⟩ <;> (rw [List.getElem?_append_left (by omega)]; assumption)
  · rw [List.getElem?_append_right (by omega)] at hj
    have hk0 : k - is.length = 0 := by
      rcases Nat.eq_zero_or_pos (k - is.length) with h0 | h0
      · exact h0
      · rw [List.getElem?_eq_none (by simp; omega)] at hj; cases hj
    rw [hk0] at hj
    simp at hj
    subst hj
    refine ⟨rv, ?_, ?_, ?_, ?_, hk _ _ hrv⟩
    · rw [List.getElem?_append_right (by omega), show k * 4 - cs.length = 0 by omega]; rfl
    · rw [List.getElem?_append_right (by omega), show k * 4 + 1 - cs.length = 1 by omega]; rfl
    · rw [List.getElem?_append_right (by omega), show k * 4 + 2 - cs.length = 2 by omega]; rfl
    · rw [List.getElem?_append_right (by omega), show k * 4 + 3 - cs.length = 3 by omega]; rfl

theorem OwnInsts.below {w w' : World} {base : Nat} {v : Value} {is : List I} {cs : List Value} (h : OwnInsts w base v is cs) (hb : Below w.heap.size w w') : OwnInsts w' base v is cs :=
  ⟨owns_below h.1 hb (Bd.of_owns h.1), fun k i hi => by
    obtain ⟨rv, h0, h1, h2, h3, h4⟩ := h.2 k i hi
    exact ⟨rv, h0, h1, h2, h3, owns_below h4 hb (Bd.of_owns h4)⟩⟩

theorem OwnInsts.insts {w : World} {base : Nat} {v : Value} {is : List I} {cs : List Value} (h : OwnInsts w base v is cs) : Insts w w.heap.size v is := by
  obtain ⟨ao, cap, hv⟩ := owns_slice h.1
  refine ⟨ao, cap, hv, fun hne => ?_⟩
  have hpos : 0 < is.length := List.length_pos_iff.2 hne
  obtain ⟨gr, cap', hv', _, hlt⟩ := h.1.form hpos
  rw [hv] at hv'
  injection hv' with e1 e2 e3
  refine ⟨gr, 0, e1, hlt, fun k i hi => ?_⟩
  have hcell : ∀ j u, cs[j]? = some u → w.cell? ⟨gr, 0 + j, none⟩ = some u := fun j u hu => by
    have h1 := World.ownsRow.cells h.1 (g := gr) (by rw [hv, e1]; rfl) j u hu
    rw [show ((⟨gr, 0, none⟩ : Addr).add j) = ⟨gr, 0 + j, none⟩ from by unfold Addr.add; split <;> simp_all] at h1
    exact h1
  obtain ⟨rv, h0, h1, h2, h3, h4⟩ := h.2 k i hi
  exact ⟨rv, hcell _ _ h0, hcell _ _ h1, hcell _ _ h2, hcell _ _ h3, RowN.of_owns h4, (Bd.of_owns h4).wd⟩

theorem Try.info28 : (Try.prog.info? 28).map (fun i => (i.zero, i.size, i.bytes)) = some (some (.agg #[.int .i64 0, .int .i64 0, .int .i64 0, .slice none 0 0]), 4, 48) := by kernel_rfl
end Go.Proofs.Ytejhffcjamdffaa
