/-
  Trees of the package in memory: 'Rg': block g holds a node, its parts lie in blocks of which S holds; a row of them that the call owns ('TrRow'); what treeOf's loop keeps ('TreeAt'). No conditions beside those typed.
-/
import Derived.Test.YtejhffcjamdffaaOfOut
namespace Go.Proofs.Ytejhffcjamdffaa
open Go.RowKit

def flagsF (nd : Nd) : Int := (if nd.fold then 1 else 0) + (if nd.lazy then 32 else 0)

/-- The cells of a node of the package. -/
def rgCells (nd : Nd) (v rv : Value) : Array Value := #[.int .u8 (nd.op % 256), .int .u16 (flagsF nd), v, .pointer none, rv, .int .i32 0, .int .i32 0, .int .i64 nd.mn, .int .i64 nd.mx, .int .i64 nd.cap, .string nd.name]

def Rg (w : World) (S : Nat → Prop) : Nat → Nd → Nat → Prop
  | 0, _, _ => False
  | d + 1, nd, g => ∃ (ro so : Option Addr) (rc sc b off : Nat) (f : Nat → Nat),
      S g ∧ w.heap[g]? = some (.cells (rgCells nd (.slice so nd.subs.length sc) (.slice ro nd.runes.length rc)) 113 (0, 0)) ∧ Fits nd ∧ Runes w (.slice ro nd.runes.length rc) nd.runes ∧ In S (.slice ro nd.runes.length rc) ∧
      (nd.subs ≠ [] → so = some ⟨b, off, none⟩ ∧ S b) ∧ ∀ k s, nd.subs[k]? = some s → w.cell? ⟨b, off + k, none⟩ = some (.pointer (some ⟨f k, 0, none⟩)) ∧ Rg w S d s (f k)

theorem Rg.keeps {S : Nat → Prop} {w w' : World} (hk : Keeps S w w') : ∀ (d : Nat) (nd : Nd) (g : Nat), Rg w S d nd g → Rg w' S d nd g := by
  intro d
  induction d with
  | zero => intro nd g h; exact h
  | succ d ih =>
    intro nd g h
    obtain ⟨ro, so, rc, sc, b, off, f, hg, ho, hfit, hr, hrb, hne, hs⟩ := h
    refine ⟨ro, so, rc, sc, b, off, f, hg, (hk g hg).trans ho, hfit, RowN.keeps hr hk hrb, hrb, hne, fun k s hks => ?_⟩
    have hn : nd.subs ≠ [] := fun h0 => by rw [h0] at hks; simp at hks
    exact ⟨(hk.cell (a := ⟨b, off + k, none⟩) (hne hn).2).trans (hs k s hks).1, ih _ _ (hs k s hks).2⟩

theorem Rg.mono {S S' : Nat → Prop} {w : World} (hS : ∀ b, S b → S' b) : ∀ (d : Nat) (nd : Nd) (g : Nat), Rg w S d nd g → Rg w S' d nd g := by
  intro d
  induction d with
  | zero => intro nd g h; exact h
  | succ d ih =>
    intro nd g h
    obtain ⟨ro, so, rc, sc, b, off, f, hg, ho, hfit, hr, hrb, hne, hs⟩ := h
    exact ⟨ro, so, rc, sc, b, off, f, hS g hg, ho, hfit, hr, hrb.mono hS, fun h0 => ⟨(hne h0).1, hS _ (hne h0).2⟩, fun k s hks => ⟨(hs k s hks).1, ih _ _ (hs k s hks).2⟩⟩

theorem Rg.alloc {S : Nat → Prop} {w : World} {d g : Nat} {nd : Nd} (h : Rg w S d nd g) (hS : ∀ b, S b → b < w.heap.size) (o : Obj) : Rg (w.alloc o) S d nd g :=
  Rg.keeps (Keeps.of_below (below1 w o) hS) _ _ _ h

/-- A node of the package, its parts told. -/
theorem Rg.open {S : Nat → Prop} {w : World} {d g : Nat} {nd : Nd} (h : Rg w S (d + 1) nd g) :
    ∃ (ro so : Option Addr) (rc sc : Nat), S g ∧ w.heap[g]? = some (.cells (rgCells nd (.slice so nd.subs.length sc) (.slice ro nd.runes.length rc)) 113 (0, 0)) ∧ Fits nd ∧ Runes w (.slice ro nd.runes.length rc) nd.runes ∧ In S (.slice ro nd.runes.length rc) ∧
      (nd.subs = [] ∨ ∃ b off, so = some ⟨b, off, none⟩ ∧ S b ∧ ∀ k s, nd.subs[k]? = some s → ∃ g', w.cell? ⟨b, off + k, none⟩ = some (.pointer (some ⟨g', 0, none⟩)) ∧ Rg w S d s g') := by
  obtain ⟨ro, so, rc, sc, b, off, f, hg, ho, hfit, hr, hrb, hne, hs⟩ := h
  refine ⟨ro, so, rc, sc, hg, ho, hfit, hr, hrb, ?_⟩
  by_cases h0 : nd.subs = []
  · exact .inl h0
  · exact .inr ⟨b, off, (hne h0).1, (hne h0).2, fun k s hks => ⟨f k, hs k s hks⟩⟩

/-- A row of nodes of the package. -/
def TrRow (w : World) (base d : Nat) (v : Value) (nds : List Nd) (cs : List Value) : Prop :=
  w.ownsRow base 80 1 v nds.length cs ∧ ∀ (k : Nat) (s : Nd), nds[k]? = some s → ∃ g : Nat, cs[k]? = some (Value.pointer (some ⟨g, 0, none⟩)) ∧ Rg w (Beside w base v) d s g

theorem TrRow.nil (w : World) (base d : Nat) : TrRow w base d (.slice none 0 0) [] [] := ⟨World.ownsRow_nil _ _ _ _, fun k r h => by simp at h⟩

theorem TrRow.keeps {w w' : World} {base d : Nat} {v : Value} {nds : List Nd} {cs : List Value} (h : TrRow w base d v nds cs) (hs : w.heap.size ≤ w'.heap.size) (hk : ∀ b, base ≤ b → b < w.heap.size → w'.heap[b]? = w.heap[b]?) : TrRow w' base d v nds cs := by
  refine ⟨⟨h.1.1, ?_⟩, fun k s hks => ?_⟩
  · rcases h.1.2 with h2 | ⟨g, cap, cur, rfl, h4, h5, h6⟩
    · exact .inl h2
    · exact .inr ⟨g, cap, cur, rfl, h4, by rw [hk g h4 (Array.getElem?_eq_some_iff.1 h5).1]; exact h5, h6⟩
  · obtain ⟨g, hg, hr⟩ := h.2 k s hks
    exact ⟨g, hg, Rg.mono (fun b hb => ⟨hb.1, Nat.lt_of_lt_of_le hb.2.1 hs, hb.2.2⟩) _ _ _ (Rg.keeps (fun b hb => hk b hb.1 hb.2.1) _ _ _ hr)⟩

theorem TrRow.setCell {w : World} {base d : Nat} {v : Value} {nds : List Nd} {cs : List Value} (h : TrRow w base d v nds cs) {p : Addr} (hp : p.block < base) (u : Value) : TrRow (w.setCell p u) base d v nds cs :=
  h.keeps (by simp [World.setCell]) (fun b hb _ => heap_setCell_ne (by omega))

theorem TrRow.snoc {w w' : World} {base d B1 n g cap g1 : Nat} {v : Value} {nds : List Nd} {s : Nd} {cs : List Value} {H : Nat} (h : TrRow w base d v nds cs) (hn : nds.length = n) (hB1 : base ≤ B1) (hvB : ∀ k, v.ownBlock = some k → k < B1) (hr : Rg w (fun b => B1 ≤ b ∧ b < w.heap.size) d s g1)
    (hg : w.grownBy w' v.ownBlock) (hown : w'.ownsRow base 80 1 (.slice (some ⟨g, 0, none⟩) (n + 1) cap) (n + 1) (cs ++ [.pointer (some ⟨g1, 0, none⟩)])) (hat : v.ownBlock = some g ∨ g = H) (hH : w.heap.size ≤ H) :
    TrRow w' base d (.slice (some ⟨g, 0, none⟩) (n + 1) cap) (nds ++ [s]) (cs ++ [.pointer (some ⟨g1, 0, none⟩)]) := by
  have hl : cs.length = nds.length * 1 := h.1.1
  have hkeep : Keeps (Beside w base v) w w' := fun b hb => hg.block b hb.2.1 (fun e => hb.2.2 e.symm)
  have hsub : ∀ b, Beside w base v b → Beside w' base (.slice (some ⟨g, 0, none⟩) (n + 1) cap) b := fun b hb => by
    refine ⟨hb.1, Nat.lt_of_lt_of_le hb.2.1 hg.size, fun e => ?_⟩
    simp only [Value.ownBlock, Option.some.injEq] at e
    subst e
    rcases hat with hat | hat
    · exact hb.2.2 hat
    · have := hb.2.1; omega
  have hsub2 : ∀ b, (B1 ≤ b ∧ b < w.heap.size) → Beside w base v b := fun b hb => ⟨by omega, hb.2, fun e => by have := hvB b e; omega⟩
  refine ⟨by rw [List.length_append, hn]; exact hown, fun k x hx => ?_⟩
  by_cases hlt : k < nds.length
  · rw [List.getElem?_append_left hlt] at hx
    obtain ⟨gk, hgk, hrk⟩ := h.2 k x hx
    exact ⟨gk, by rw [List.getElem?_append_left (by omega)]; exact hgk, Rg.mono hsub _ _ _ (Rg.keeps hkeep _ _ _ hrk)⟩
  · rw [List.getElem?_append_right (by omega)] at hx
    have hk0 : k - nds.length = 0 := by
      rcases Nat.eq_zero_or_pos (k - nds.length) with h0 | h0
      · exact h0
      · rw [List.getElem?_eq_none (by simp; omega)] at hx; cases hx
    rw [hk0] at hx
    simp at hx
    subst hx
    refine ⟨g1, ?_, Rg.mono hsub _ _ _ (Rg.keeps hkeep _ _ _ (Rg.mono hsub2 _ _ _ hr))⟩
    rw [List.getElem?_append_right (by omega), show k - cs.length = 0 from by omega]; rfl

/-- In the loop of treeOf: the box, the node, its runes, its parts. -/
structure TreeAt (w : World) (B g : Nat) (box : Array Value) (nd : Nd) (rv : Value) (d : Nat) (nds : List Nd) (v : Value) (cs : List Value) : Prop where
  lt : B < g
  box : w.heap[B]? = some (.cells box 36 (0, 0))
  obj : w.heap[g]? = some (.cells (rgCells nd v rv) 113 (0, 0))
  runes : Runes w rv nd.runes
  lies : ∀ j, rv.ownBlock = some j → B < j ∧ j < g
  row : TrRow w (g + 1) d v nds cs

theorem TreeAt.below {w w' : World} {B g d : Nat} {box : Array Value} {nd : Nd} {rv v : Value} {nds : List Nd} {cs : List Value} (h : TreeAt w B g box nd rv d nds v cs) (hb : Below w.heap.size w w') : TreeAt w' B g box nd rv d nds v cs := by
  have hlt : g < w.heap.size := (Array.getElem?_eq_some_iff.1 h.obj).1
  have := h.lt
  exact ⟨h.lt, by rw [hb.block B (by omega)]; exact h.box, by rw [hb.block g hlt]; exact h.obj, RowN.keeps (S := fun b => b < g) h.runes (fun b hb' => hb.block b (by omega)) (fun k hk => .inr (h.lies k hk).2), h.lies, h.row.keeps hb.size (fun b _ hl => hb.block b hl)⟩

theorem TreeAt.snoc {w w2 : World} {B g d B1 n gg cap2 g1 H : Nat} {box : Array Value} {nd s : Nd} {rv v : Value} {nds : List Nd} {cs : List Value} (h : TreeAt w B g box nd rv d nds v cs) (hn : nds.length = n) (hB1 : g + 1 ≤ B1) (hvB : ∀ k, v.ownBlock = some k → k < B1) (hr : Rg w (fun b => B1 ≤ b ∧ b < w.heap.size) d s g1)
    (hg : w.grownBy w2 v.ownBlock) (hown : w2.ownsRow (g + 1) 80 1 (.slice (some ⟨gg, 0, none⟩) (n + 1) cap2) (n + 1) (cs ++ [.pointer (some ⟨g1, 0, none⟩)])) (hat : v.ownBlock = some gg ∨ gg = H) (hH : w.heap.size ≤ H) :
    TreeAt (w2.setCell ⟨g, 2, none⟩ (.slice (some ⟨gg, 0, none⟩) (n + 1) cap2)) B g box nd rv d (nds ++ [s]) (.slice (some ⟨gg, 0, none⟩) (n + 1) cap2) (cs ++ [.pointer (some ⟨g1, 0, none⟩)]) := by
  have hlt : g < w.heap.size := (Array.getElem?_eq_some_iff.1 h.obj).1
  have hBg := h.lt
  have hap : ∀ b, b ≤ g → some b ≠ v.ownBlock := fun b hb e => by have := (h.row.1.lt b e.symm).1; omega
  have k : ∀ b, b ≤ g → w2.heap[b]? = w.heap[b]? := fun b hb => hg.block b (by omega) (hap b hb)
  refine ⟨h.lt, ?_, ?_, ?_, h.lies, ?_⟩
  · rw [heap_setCell_ne (by simp; omega), k B (by omega)]; exact h.box
  · rw [heap_setCell_at ((k g (by omega)).trans h.obj)]; rfl
  · exact RowN.keeps (S := fun b => b < g) h.runes (fun b hb' => by rw [heap_setCell_ne (by simp; omega), k b (by omega)]) (fun k hk => .inr (h.lies k hk).2)
  · exact (TrRow.snoc h.row hn hB1 hvB hr hg hown hat hH).setCell (by simp) _

theorem tree_next {w1 w2 : World} {B g d X k gg cap2 cI g1 : Nat} {aI : Option Addr} {o' : Obj} {box : Array Value} {nd s : Nd} {rv : Value} {nds : List Nd} {cs : List Value} (h : TreeAt w1 B g box nd rv d nds (.slice aI k cI) cs) (hn : nds.length = k) (hX : g + 1 ≤ X)
    (hvB : ∀ j, (Value.slice aI k cI).ownBlock = some j → j < X) (hr : Rg w1 (fun b => X ≤ b ∧ b < w1.heap.size) d s g1) (hg : (w1.alloc o').grownBy w2 (Value.slice aI k cI).ownBlock) (hown : w2.ownsRow (g + 1) 80 1 (.slice (some ⟨gg, 0, none⟩) (k + 1) cap2) (k + 1) (cs ++ [.pointer (some ⟨g1, 0, none⟩)]))
    (hat : (Value.slice aI k cI).ownBlock = some gg ∨ gg = w1.heap.size + 1) : TreeAt (w2.setCell ⟨g, 2, none⟩ (.slice (some ⟨gg, 0, none⟩) (k + 1) cap2)) B g box nd rv d (nds ++ [s]) (.slice (some ⟨gg, 0, none⟩) (k + 1) cap2) (cs ++ [.pointer (some ⟨g1, 0, none⟩)]) :=
  TreeAt.snoc (h.below (below1 w1 o')) hn hX hvB (Rg.mono (fun b hb => ⟨hb.1, by have := hb.2; simp; omega⟩) _ _ _ (hr.alloc (fun b hb => hb.2) o')) hg hown hat (by simp)

theorem tree_below {w wr w1 w2 : World} {o o' : Obj} {B g j n : Nat} {cs : List Value} {vI u : Value} (hbel : Below B w wr) (hb1 : Below (wr.alloc o).drew.heap.size (wr.alloc o).drew w1) (hs : g < wr.heap.size) (hBg : B < g) (hown : w1.ownsRow (g + 1) 80 1 vI n cs)
    (hgrow : (w1.alloc o').grownBy w2 vI.ownBlock) : Below B w (w2.setCell ⟨g, j, none⟩ u) := by
  have h1 : Below B w w1 := hbel.trans (((Below.refl B wr).alloc (by omega) o).drew.trans (hb1.mono (by simp; omega)))
  have hz := hb1.size
  simp at hz
  exact ((h1.alloc (by omega) o').grown hgrow (by simp; omega) (fun j hj => by have := (hown.lt j hj).1; omega)).setCell (by simp; omega) _

def rgBlock : Option Value → Nat
  | some (.pointer (some a)) => a.block
  | _ => 0
/-- The loop is through: the node is a tree. -/
theorem TreeAt.rg {w : World} {B g d : Nat} {box : Array Value} {nd : Nd} {rv v : Value} {cs : List Value} (h : TreeAt w B g box nd rv d nd.subs v cs) (hfit : Fits nd) : Rg w (fun b => B ≤ b ∧ b < w.heap.size) (d + 1) nd g := by
  have hlt : g < w.heap.size := (Array.getElem?_eq_some_iff.1 h.obj).1
  have hBg := h.lt
  obtain ⟨so, sc, rfl⟩ := owns_slice h.row.1
  obtain ⟨ro, rc, rfl⟩ := rowN_slice h.runes
  have hin : In (fun b => B ≤ b ∧ b < w.heap.size) (.slice ro nd.runes.length rc) := fun k hk => .inr (by have := h.lies k hk; omega)
  by_cases h0 : nd.subs = []
  · exact ⟨ro, so, rc, sc, 0, 0, fun _ => 0, ⟨by omega, hlt⟩, h.obj, hfit, h.runes, hin, fun hne => absurd h0 hne, fun k s hks => by rw [h0] at hks; simp at hks⟩
  · obtain ⟨b, cap', hv', hbg, hlt'⟩ := h.row.1.form (List.length_pos_iff.2 h0)
    injection hv' with e1 e2 e3
    refine ⟨ro, so, rc, sc, b, 0, fun k => rgBlock (cs[k]?), ⟨by omega, hlt⟩, h.obj, hfit, h.runes, hin, fun _ => ⟨e1, by omega, hlt'⟩, fun k s hks => ?_⟩
    obtain ⟨g', hc, hr⟩ := h.row.2 k s hks
    have hc2 := World.ownsRow.cells h.row.1 (g := b) (by rw [e1]; rfl) k _ hc
    rw [show ((⟨b, 0, none⟩ : Addr).add k) = ⟨b, 0 + k, none⟩ from by unfold Addr.add; split <;> simp_all] at hc2
    simp only [hc, rgBlock]
    exact ⟨hc2, Rg.mono (fun b hb => ⟨by have := hb.1; omega, hb.2.1⟩) _ _ _ hr⟩
end Go.Proofs.Ytejhffcjamdffaa
