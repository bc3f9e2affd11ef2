/-
  Programs in memory: the thin package's instructions in a slice ('Insts'), the package's instructions in a row of the call's own ('InstRow'), and what of them stays. No conditions beside those typed.
-/
import Derived.Test.YtejhffcjamdffaaInst
import Derived.Deep.AppendLies
namespace Go.Proofs.Ytejhffcjamdffaa
open Go.RowKit

/-- An instruction as plain data. -/
structure I where
  op : Int
  out : Int
  arg : Int
  runes : List Int

/-- The four cells from ⟨b, o⟩ on hold an instruction of the thin package. -/
def InstAt (w : World) (B b o : Nat) (i : I) : Prop :=
  ∃ rv, w.cell? ⟨b, o, none⟩ = some (.int .i64 i.op) ∧ w.cell? ⟨b, o + 1, none⟩ = some (.int .i64 i.out) ∧ w.cell? ⟨b, o + 2, none⟩ = some (.int .i64 i.arg) ∧ w.cell? ⟨b, o + 3, none⟩ = some rv ∧ Runes w rv i.runes ∧ Wd B rv

/-- The slice v holds the instructions 'is', all of it below block B. -/
def Insts (w : World) (B : Nat) (v : Value) (is : List I) : Prop :=
  ∃ ao cap, v = .slice ao is.length cap ∧ (is ≠ [] → ∃ b off, ao = some ⟨b, off, none⟩ ∧ b < B ∧ ∀ k i, is[k]? = some i → InstAt w B b (off + k * 4) i)

/-- The cells of the package's instructions. -/
def InstCells (w : World) (base : Nat) (is : List I) (cs : List Value) : Prop :=
  ∀ k i, is[k]? = some i → ∃ rv, cs[k * 4]? = some (.int .u8 (IntKind.u8.wrap i.op)) ∧ cs[k * 4 + 1]? = some (.int .u32 (IntKind.u32.wrap i.out)) ∧ cs[k * 4 + 2]? = some (.int .u32 (IntKind.u32.wrap i.arg)) ∧ cs[k * 4 + 3]? = some rv ∧ OwnRunes w base rv i.runes

/-- The slice v of the package's instructions, in a row of the call's own. -/
def InstRow (w : World) (base : Nat) (v : Value) (is : List I) (cs : List Value) : Prop := w.ownsRow base 73 4 v is.length cs ∧ InstCells w base is cs

theorem InstAt.below {w w' : World} {B b o : Nat} {i : I} (h : InstAt w B b o i) (hb : Below B w w') (hlt : b < B) : InstAt w' B b o i := by
  obtain ⟨rv, h0, h1, h2, h3, h4, h5⟩ := h
  exact ⟨rv, (hb.cell (p := ⟨b, _, none⟩) hlt).trans h0, (hb.cell (p := ⟨b, _, none⟩) hlt).trans h1, (hb.cell (p := ⟨b, _, none⟩) hlt).trans h2, (hb.cell (p := ⟨b, _, none⟩) hlt).trans h3, RowN.belowW h4 hb h5, h5⟩

theorem Insts.below {w w' : World} {B : Nat} {v : Value} {is : List I} (h : Insts w B v is) (hb : Below B w w') : Insts w' B v is := by
  obtain ⟨ao, cap, rfl, h⟩ := h
  refine ⟨ao, cap, rfl, fun hne => ?_⟩
  obtain ⟨b, off, rfl, hlt, hx⟩ := h hne
  exact ⟨b, off, rfl, hlt, fun k i hi => (hx k i hi).below hb hlt⟩

theorem InstAt.mono {w : World} {B B' b o : Nat} {i : I} (h : InstAt w B b o i) (hB : B ≤ B') : InstAt w B' b o i := by
  obtain ⟨rv, h0, h1, h2, h3, h4, h5⟩ := h
  exact ⟨rv, h0, h1, h2, h3, h4, h5.mono hB⟩

theorem Insts.mono {w : World} {B B' : Nat} {v : Value} {is : List I} (h : Insts w B v is) (hB : B ≤ B') : Insts w B' v is := by
  obtain ⟨ao, cap, rfl, h⟩ := h
  refine ⟨ao, cap, rfl, fun hne => ?_⟩
  obtain ⟨b, off, rfl, hlt, hx⟩ := h hne
  exact ⟨b, off, rfl, by omega, fun k i hi => (hx k i hi).mono hB⟩

/-- Rows of different element types lie in different blocks. -/
theorem owns_apart {w : World} {b1 b2 e1 e2 s1 s2 n1 n2 : Nat} {v1 v2 : Value} {x1 x2 : List Value} (h1 : w.ownsRow b1 e1 s1 v1 n1 x1) (h2 : w.ownsRow b2 e2 s2 v2 n2 x2) (hne : e1 ≠ e2) : v1.ownBlock = none ∨ v1.ownBlock ≠ v2.ownBlock := by
  rcases h1.2 with ⟨rfl, _⟩ | ⟨g, cap, cur, rfl, _, hg, _⟩
  · exact .inl rfl
  · refine .inr fun he => ?_
    rcases h2.2 with ⟨rfl, _⟩ | ⟨g', cap', cur', rfl, _, hg', _⟩
    · simp [Value.ownBlock] at he
    · simp only [Value.ownBlock, Option.some.injEq] at he
      rw [he, hg'] at hg
      injection hg with hg
      injection hg with _ hg _
      exact hne hg.symm

theorem owns_apart_cells {w : World} {b1 e1 s1 n1 g : Nat} {v1 : Value} {x1 : List Value} {cs : Array Value} {t : TypeId} {fr : Nat × Nat} (h1 : w.ownsRow b1 e1 s1 v1 n1 x1) (hg : w.heap[g]? = some (.cells cs t fr)) (hne : e1 ≠ t) : v1.ownBlock ≠ some g := by
  rcases h1.2 with ⟨rfl, _⟩ | ⟨g', cap, cur, rfl, _, hg', _⟩
  · simp [Value.ownBlock]
  · intro he
    simp only [Value.ownBlock, Option.some.injEq] at he
    rw [he, hg] at hg'
    injection hg' with hg'
    injection hg' with _ hg' _
    exact hne hg'.symm

theorem InstRow.nil (w : World) (base : Nat) : InstRow w base (.slice none 0 0) [] [] := ⟨World.ownsRow_nil _ _ _ _, fun k i h => by simp at h⟩

theorem InstCells.kept {w w' : World} {base : Nat} {is : List I} {cs : List Value} (h : InstCells w base is cs) (hk : ∀ rv zs, OwnRunes w base rv zs → OwnRunes w' base rv zs) : InstCells w' base is cs := fun k i hi => by
  obtain ⟨rv, h0, h1, h2, h3, h4⟩ := h k i hi
  exact ⟨rv, h0, h1, h2, h3, hk _ _ h4⟩

theorem InstRow.below {w w' : World} {base : Nat} {v : Value} {is : List I} {cs : List Value} (h : InstRow w base v is cs) (hb : Below w.heap.size w w') : InstRow w' base v is cs :=
  ⟨owns_below h.1 hb (Bd.of_owns h.1), h.2.kept fun _ _ hr => owns_below hr hb (Bd.of_owns hr)⟩

/-- A store into a block that is no row of theirs. -/
theorem InstRow.setCell {w : World} {base g o : Nat} {v : Value} {is : List I} {cs : List Value} {cur : Array Value} {t : TypeId} {fr : Nat × Nat} (h : InstRow w base v is cs) (hg : w.heap[g]? = some (.cells cur t fr)) (h1 : (73 : Nat) ≠ t) (h2 : (21 : Nat) ≠ t) (u : Value) :
    InstRow (w.setCell ⟨g, o, none⟩ u) base v is cs :=
  ⟨owns_setCell h.1 (owns_apart_cells h.1 hg h1) u, h.2.kept fun _ _ hr => owns_setCell hr (owns_apart_cells hr hg h2) u⟩

/-- One instruction more. -/
theorem InstRow.snoc {w w' : World} {base : Nat} {v v' rv : Value} {is : List I} {cs : List Value} {i : I} (h : InstRow w base v is cs) (hrv : OwnRunes w base rv i.runes) (hg : w.grownBy w' v.ownBlock)
    (hown : w'.ownsRow base 73 4 v' (is.length + 1) (cs ++ [.int .u8 (IntKind.u8.wrap i.op), .int .u32 (IntKind.u32.wrap i.out), .int .u32 (IntKind.u32.wrap i.arg), rv])) :
    InstRow w' base v' (is ++ [i]) (cs ++ [.int .u8 (IntKind.u8.wrap i.op), .int .u32 (IntKind.u32.wrap i.out), .int .u32 (IntKind.u32.wrap i.arg), rv]) := by
  have hl : cs.length = is.length * 4 := h.1.1
  have hk : ∀ rv zs, OwnRunes w base rv zs → OwnRunes w' base rv zs := fun rv zs hr => World.ownsRow.kept hr hg (owns_apart hr h.1 (by decide))
  refine ⟨by rw [List.length_append]; exact hown, fun k j hj => ?_⟩
  by_cases hlt : k < is.length
  · rw [List.getElem?_append_left hlt] at hj
    obtain ⟨rv', h0, h1, h2, h3, h4⟩ := h.2 k j hj
    refine ⟨rv', ?_, ?_, ?_, ?_, hk _ _ h4⟩ <;> (rw [List.getElem?_append_left (by omega)]; assumption)
  · rw [List.getElem?_append_right (by omega)] at hj
    have hk0 : k - is.length = 0 := by
      rcases Nat.eq_zero_or_pos (k - is.length) with h0 | h0
      · exact h0
      · rw [List.getElem?_eq_none (by simp; omega)] at hj; cases hj
    rw [hk0] at hj
    simp at hj
    subst hj
    refine ⟨rv, ?_, ?_, ?_, ?_, hk _ _ hrv⟩
    · rw [List.getElem?_append_right (by omega), show k * 4 - cs.length = 0 by omega]; rfl
    · rw [List.getElem?_append_right (by omega), show k * 4 + 1 - cs.length = 1 by omega]; rfl
    · rw [List.getElem?_append_right (by omega), show k * 4 + 2 - cs.length = 2 by omega]; rfl
    · rw [List.getElem?_append_right (by omega), show k * 4 + 3 - cs.length = 3 by omega]; rfl
end Go.Proofs.Ytejhffcjamdffaa
