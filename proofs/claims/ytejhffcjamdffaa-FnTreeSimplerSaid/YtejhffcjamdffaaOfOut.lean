/-
  What the loops of Of keep: the box, the result's block, the block of 'out'. No conditions beside those typed.
-/
import Derived.Test.YtejhffcjamdffaaReRow
import Derived.Test.YtejhffcjamdffaaProgOf
namespace Go.Proofs.Ytejhffcjamdffaa
open Go.RowKit

theorem info_sizes {P : Program} {t : TypeId} {s b : Nat} (h : (P.info? t).map (fun i => (i.zero.map (·.cells.size), i.size, i.bytes)) = some (some s, s, b)) : ∃ i z, P.info? t = some i ∧ i.zero = some z ∧ i.size = s ∧ i.bytes = b ∧ z.cells.size = s := by
  cases hi : P.info? t with
  | none => rw [hi] at h; cases h
  | some i =>
    rw [hi] at h
    simp only [Option.map_some, Option.some.injEq, Prod.mk.injEq] at h
    obtain ⟨h1, h2, h3⟩ := h
    cases hz : i.zero with
    | none => rw [hz] at h1; cases h1
    | some z =>
      rw [hz] at h1
      simp only [Option.map_some, Option.some.injEq] at h1
      exact ⟨i, z, rfl, hz, h2, h3, h1⟩
theorem Try.info63 : (Try.prog.info? 63).map (fun i => (i.zero.map (·.cells.size), i.size, i.bytes)) = some (some 10, 10, 120) := by kernel_rfl

/-- In the loop over the parts: the box, the result's block, the block of 'out'. -/
structure OutAt (w : World) (B : Nat) (box : Array Value) (kd mn mx cap : Int) (lazy : Bool) (name : ByteArray) (d : Nat) (rs : List Rx) (v : Value) (cs : List Value) : Prop where
  box : w.heap[B]? = some (.cells box 36 (0, 0))
  out : w.heap[B + 2]? = some (.cells #[.int .i64 kd, .slice none 0 0, .bool false, .int .i64 mn, .int .i64 mx, .bool lazy, .int .i64 cap, .string name, .int .i64 0, v] 63 (0, 0))
  res : ∃ cells, w.heap[B + 1]? = some (.cells cells 63 (0, 0)) ∧ cells.size = 10
  row : ReRow w (B + 3) d v rs cs

theorem alloc_at {w : World} {o : Obj} {n : Nat} (h : w.heap.size = n) : (w.alloc o).heap[n]? = some o := by subst h; exact heap_alloc_new w o
theorem ten {α : Type} {a : Array α} (h : a.size = 10) : ∃ r0 r1 r2 r3 r4 r5 r6 r7 r8 r9, a = #[r0, r1, r2, r3, r4, r5, r6, r7, r8, r9] := by
  obtain ⟨l⟩ := a
  match l, h with
  | [r0, r1, r2, r3, r4, r5, r6, r7, r8, r9], _ => exact ⟨r0, r1, r2, r3, r4, r5, r6, r7, r8, r9, rfl⟩
theorem heap_setCell_ne {w : World} {p : Addr} {u : Value} {b : Nat} (h : p.block ≠ b) : (w.setCell p u).heap[b]? = w.heap[b]? := by
  simp [World.setCell, Array.getElem?_modify, h]
theorem heap_setCell_at {w : World} {b j : Nat} {cs : Array Value} {t : TypeId} {fr : Nat × Nat} {u : Value} (h : w.heap[b]? = some (.cells cs t fr)) : (w.setCell ⟨b, j, none⟩ u).heap[b]? = some (.cells (cs.setIfInBounds j u) t fr) := by
  simp [World.setCell, Array.getElem?_modify, h]
theorem ReRow.setCell {w : World} {base d : Nat} {v : Value} {rs : List Rx} {cs : List Value} (h : ReRow w base d v rs cs) {p : Addr} (hp : p.block < base) (u : Value) : ReRow (w.setCell p u) base d v rs cs :=
  h.keeps (by simp [World.setCell]) (fun b hb _ => heap_setCell_ne (by omega))

theorem ReRow.rep' {w : World} {base d B k cI : Nat} {aI : Option Addr} {rs : List Rx} {cs : List Value} {kind mn mx cap what : Int} {lazy neg : Bool} {name : ByteArray} {eo : Option Addr} {en ec : Nat} (h : ReRow w base d (.slice aI k cI) rs cs) (hk : rs.length = k) (hB : B ≤ base) (hl : k ≤ 1353264501504) :
    ReRep w (fun b => B ≤ b ∧ b < w.heap.size) (d + 1) (.mk kind mn mx rs) [.int .i64 kind, .slice eo en ec, .bool neg, .int .i64 mn, .int .i64 mx, .bool lazy, .int .i64 cap, .string name, .int .i64 what, .slice aI k cI] := by
  subst hk
  obtain ⟨ao, c, hv, hr⟩ := h.rep (kind := kind) (mn := mn) (mx := mx) (cap := cap) (what := what) (lazy := lazy) (neg := neg) (name := name) (eo := eo) (en := en) (ec := ec) hB hl
  exact hr

theorem OutAt.below {w w' : World} {B d : Nat} {box : Array Value} {kd mn mx cap : Int} {lazy : Bool} {name : ByteArray} {rs : List Rx} {v : Value} {cs : List Value} (h : OutAt w B box kd mn mx cap lazy name d rs v cs) (hb : Below w.heap.size w w') : OutAt w' B box kd mn mx cap lazy name d rs v cs := by
  have hlt : B + 2 < w.heap.size := (Array.getElem?_eq_some_iff.1 h.out).1
  obtain ⟨cells, hr, hz⟩ := h.res
  exact ⟨by rw [hb.block B (by omega)]; exact h.box, by rw [hb.block (B + 2) hlt]; exact h.out, ⟨cells, by rw [hb.block (B + 1) (by omega)]; exact hr, hz⟩, h.row.keeps hb.size (fun b _ hl => hb.block b hl)⟩

theorem OutAt.snoc {w w2 : World} {B d B1 n g cap2 H : Nat} {box : Array Value} {kd mn mx cap : Int} {lazy : Bool} {name : ByteArray} {rs : List Rx} {r : Rx} {v : Value} {cs news : List Value} (h : OutAt w B box kd mn mx cap lazy name d rs v cs) (hn : rs.length = n) (hB1 : B + 3 ≤ B1) (hvB : ∀ k, v.ownBlock = some k → k < B1)
    (hr : ReRep w (fun b => B1 ≤ b ∧ b < w.heap.size) d r news) (hnl : news.length = 10) (hg : w.grownBy w2 v.ownBlock) (hown : w2.ownsRow (B + 3) 63 10 (.slice (some ⟨g, 0, none⟩) (n + 1) cap2) (n + 1) (cs ++ news)) (hat : v.ownBlock = some g ∨ g = H) (hH : w.heap.size ≤ H) :
    OutAt (w2.setCell ⟨B + 2, 9, none⟩ (.slice (some ⟨g, 0, none⟩) (n + 1) cap2)) B box kd mn mx cap lazy name d (rs ++ [r]) (.slice (some ⟨g, 0, none⟩) (n + 1) cap2) (cs ++ news) := by
  have hlt : B + 2 < w.heap.size := (Array.getElem?_eq_some_iff.1 h.out).1
  have hap : ∀ b, b < B + 3 → some b ≠ v.ownBlock := fun b hb e => by have := (h.row.1.lt b e.symm).1; omega
  have k : ∀ b, b < B + 3 → w2.heap[b]? = w.heap[b]? := fun b hb => hg.block b (by omega) (hap b hb)
  obtain ⟨cells, hrs, hz⟩ := h.res
  refine ⟨?_, ?_, ⟨cells, ?_, hz⟩, ?_⟩
  · rw [heap_setCell_ne (by simp), k B (by omega)]; exact h.box
  · rw [heap_setCell_at ((k (B + 2) (by omega)).trans h.out)]; rfl
  · rw [heap_setCell_ne (by simp), k (B + 1) (by omega)]; exact hrs
  · exact (ReRow.snoc h.row hn hB1 hvB hr hnl hg hown hat hH).setCell (by simp) _

theorem of_next {w1 w2 : World} {B d X k g cap2 cI : Nat} {aI : Option Addr} {o' : Obj} {box : Array Value} {kd mn mx cap : Int} {lazy : Bool} {name : ByteArray} {rs : List Rx} {r : Rx} {cs news : List Value} (h : OutAt w1 B box kd mn mx cap lazy name d rs (.slice aI k cI) cs) (hn : rs.length = k) (hX : B + 3 ≤ X)
    (hvB : ∀ j, (Value.slice aI k cI).ownBlock = some j → j < X) (hr : ReRep w1 (fun b => X ≤ b ∧ b < w1.heap.size) d r news) (hnl : news.length = 10) (hg : (w1.alloc o').grownBy w2 (Value.slice aI k cI).ownBlock) (hown : w2.ownsRow (B + 3) 63 10 (.slice (some ⟨g, 0, none⟩) (k + 1) cap2) (k + 1) (cs ++ news))
    (hat : (Value.slice aI k cI).ownBlock = some g ∨ g = w1.heap.size + 1) : OutAt (w2.setCell ⟨B + 2, 9, none⟩ (.slice (some ⟨g, 0, none⟩) (k + 1) cap2)) B box kd mn mx cap lazy name d (rs ++ [r]) (.slice (some ⟨g, 0, none⟩) (k + 1) cap2) (cs ++ news) :=
  OutAt.snoc (h.below (below1 w1 o')) hn hX hvB (ReRep.mono (fun b hb => ⟨hb.1, by have := hb.2; simp; omega⟩) _ _ _ (hr.alloc (fun b hb => hb.2) o')) hnl hg hown hat (by simp)

theorem of_below {w wr w1 w2 : World} {o o' : Obj} {B j n : Nat} {cs : List Value} {vI u : Value} (hbel : Below B w wr) (hb1 : Below (wr.alloc o).drew.heap.size (wr.alloc o).drew w1) (hs : B < wr.heap.size) (hown : w1.ownsRow (B + 3) 63 10 vI n cs)
    (hgrow : (w1.alloc o').grownBy w2 vI.ownBlock) : Below B w (w2.setCell ⟨B + 2, j, none⟩ u) := by
  have h1 : Below B w w1 := hbel.trans (((Below.refl B wr).alloc (by omega) o).drew.trans (hb1.mono (by simp; omega)))
  have hz := hb1.size
  simp at hz
  exact ((h1.alloc (by omega) o').grown hgrow (by simp; omega) (fun j hj => by have := (hown.lt j hj).1; omega)).setCell (by simp) _

end Go.Proofs.Ytejhffcjamdffaa
