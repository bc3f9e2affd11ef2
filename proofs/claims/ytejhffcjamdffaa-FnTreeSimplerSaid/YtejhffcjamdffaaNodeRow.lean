/-
  Rows of nodes that the call owns ('NdRow'); what nodeOf's loop keeps ('NdAt'); append onto nil. No conditions beside those typed.
-/
import Derived.Test.YtejhffcjamdffaaOfOut
import Derived.Test.YtejhffcjamdffaaMaxCap
import Derived.Deep.RegionHeld3
namespace Go.Proofs.Ytejhffcjamdffaa
open Go.RowKit

/-- A row of nodes. -/
def NdRow (w : World) (base d : Nat) (v : Value) (rs : List Nd) (cs : List Value) : Prop :=
  w.ownsRow base 36 9 v rs.length cs ∧ ∀ k r, rs[k]? = some r → Rep w (Beside w base v) d r ((cs.drop (k * 9)).take 9)

theorem NdRow.nil (w : World) (base d : Nat) : NdRow w base d (.slice none 0 0) [] [] := ⟨World.ownsRow_nil _ _ _ _, fun k r h => by simp at h⟩

/-- What was there stays while nothing of it is written. -/
theorem NdRow.keeps {w w' : World} {base d : Nat} {v : Value} {rs : List Nd} {cs : List Value} (h : NdRow w base d v rs cs) (hs : w.heap.size ≤ w'.heap.size) (hk : ∀ b, base ≤ b → b < w.heap.size → w'.heap[b]? = w.heap[b]?) : NdRow w' base d v rs cs := by
  refine ⟨⟨h.1.1, ?_⟩, fun k r hr => ?_⟩
  · rcases h.1.2 with h2 | ⟨g, cap, cur, rfl, h4, h5, h6⟩
    · exact .inl h2
    · exact .inr ⟨g, cap, cur, rfl, h4, by rw [hk g h4 (Array.getElem?_eq_some_iff.1 h5).1]; exact h5, h6⟩
  · exact Rep.mono (fun b hb => ⟨hb.1, Nat.lt_of_lt_of_le hb.2.1 hs, hb.2.2⟩) _ _ _ (Rep.keeps (fun b hb => hk b hb.1 hb.2.1) _ _ _ (h.2 k r hr))

/-- One node more: it was made behind block B1, where the row was made ahead of it. -/
theorem NdRow.snoc {w w' : World} {base d B1 n g cap : Nat} {v : Value} {rs : List Nd} {r : Nd} {cs news : List Value} {H : Nat} (h : NdRow w base d v rs cs) (hn : rs.length = n) (hB1 : base ≤ B1) (hvB : ∀ k, v.ownBlock = some k → k < B1) (hr : Rep w (fun b => B1 ≤ b ∧ b < w.heap.size) d r news) (hnl : news.length = 9)
    (hg : w.grownBy w' v.ownBlock) (hown : w'.ownsRow base 36 9 (.slice (some ⟨g, 0, none⟩) (n + 1) cap) (n + 1) (cs ++ news)) (hat : v.ownBlock = some g ∨ g = H) (hH : w.heap.size ≤ H) :
    NdRow w' base d (.slice (some ⟨g, 0, none⟩) (n + 1) cap) (rs ++ [r]) (cs ++ news) := by
  have hl : cs.length = rs.length * 9 := h.1.1
  have hkeep : Keeps (Beside w base v) w w' := fun b hb => hg.block b hb.2.1 (fun e => hb.2.2 e.symm)
  have hsub : ∀ b, Beside w base v b → Beside w' base (.slice (some ⟨g, 0, none⟩) (n + 1) cap) b := fun b hb => by
    refine ⟨hb.1, Nat.lt_of_lt_of_le hb.2.1 hg.size, fun e => ?_⟩
    simp only [Value.ownBlock, Option.some.injEq] at e
    subst e
    rcases hat with hat | hat
    · exact hb.2.2 hat
    · have := hb.2.1; omega
  have hsub2 : ∀ b, (B1 ≤ b ∧ b < w.heap.size) → Beside w base v b := fun b hb => ⟨by omega, hb.2, fun e => by have := hvB b e; omega⟩
  refine ⟨by rw [List.length_append, hn]; exact hown, fun k x hx => ?_⟩
  by_cases hlt : k < rs.length
  · rw [List.getElem?_append_left hlt] at hx
    rw [List.drop_append_of_le_length (by omega), List.take_append_of_le_length (by rw [List.length_drop]; omega)]
    exact Rep.mono hsub _ _ _ (Rep.keeps hkeep _ _ _ (h.2 k x hx))
  · rw [List.getElem?_append_right (by omega)] at hx
    have hk0 : k - rs.length = 0 := by
      rcases Nat.eq_zero_or_pos (k - rs.length) with h0 | h0
      · exact h0
      · rw [List.getElem?_eq_none (by simp; omega)] at hx; cases hx
    rw [hk0] at hx
    simp at hx
    subst hx
    have hk : k * 9 = cs.length := by omega
    rw [hk, List.drop_left, List.take_of_length_le (by omega)]
    exact Rep.mono hsub _ _ _ (Rep.keeps hkeep _ _ _ (Rep.mono hsub2 _ _ _ hr))


theorem NdRow.setCell {w : World} {base d : Nat} {v : Value} {rs : List Nd} {cs : List Value} (h : NdRow w base d v rs cs) {p : Addr} (hp : p.block < base) (u : Value) : NdRow (w.setCell p u) base d v rs cs :=
  h.keeps (by simp [World.setCell]) (fun b hb _ => heap_setCell_ne (by omega))

/-- In the loop of nodeOf: the result's block, the block of 'out', its runes, its parts. -/
structure NdAt (w : World) (B X Z : Nat) (nd : Nd) (rv : Value) (d : Nat) (nds : List Nd) (v : Value) (cs : List Value) : Prop where
  le : B < X ∧ X < Z ∧ Z ≤ w.heap.size
  res : ∃ cells, w.heap[B]? = some (.cells cells 36 (0, 0)) ∧ cells.size = 9
  out : w.heap[X]? = some (.cells #[.int .i64 nd.op, .bool nd.fold, .bool nd.lazy, .int .i64 nd.mn, .int .i64 nd.mx, .int .i64 nd.cap, .string nd.name, rv, v] 36 (0, 0))
  runes : Runes w rv nd.runes
  lies : ∀ j, rv.ownBlock = some j → B < j ∧ j < Z ∧ j ≠ X
  row : NdRow w Z d v nds cs

theorem NdAt.below {w w' : World} {B X Z d : Nat} {nd : Nd} {rv v : Value} {nds : List Nd} {cs : List Value} (h : NdAt w B X Z nd rv d nds v cs) (hb : Below w.heap.size w w') : NdAt w' B X Z nd rv d nds v cs := by
  obtain ⟨h1, h2, h3⟩ := h.le
  obtain ⟨cells, hr, hz⟩ := h.res
  have := hb.size
  exact ⟨⟨h1, h2, by omega⟩, ⟨cells, by rw [hb.block B (by omega)]; exact hr, hz⟩, by rw [hb.block X (by omega)]; exact h.out,
    RowN.keeps (S := fun b => b < Z) h.runes (fun b hb' => hb.block b (by omega)) (fun k hk => .inr (h.lies k hk).2.1), h.lies, h.row.keeps hb.size (fun b _ hl => hb.block b hl)⟩

theorem NdAt.snoc {w w2 : World} {B X Z d B1 n gg cap2 H : Nat} {nd s : Nd} {rv v : Value} {nds : List Nd} {cs news : List Value} (h : NdAt w B X Z nd rv d nds v cs) (hn : nds.length = n) (hB1 : Z ≤ B1) (hvB : ∀ k, v.ownBlock = some k → k < B1) (hr : Rep w (fun b => B1 ≤ b ∧ b < w.heap.size) d s news) (hnl : news.length = 9)
    (hg : w.grownBy w2 v.ownBlock) (hown : w2.ownsRow Z 36 9 (.slice (some ⟨gg, 0, none⟩) (n + 1) cap2) (n + 1) (cs ++ news)) (hat : v.ownBlock = some gg ∨ gg = H) (hH : w.heap.size ≤ H) :
    NdAt (w2.setCell ⟨X, 8, none⟩ (.slice (some ⟨gg, 0, none⟩) (n + 1) cap2)) B X Z nd rv d (nds ++ [s]) (.slice (some ⟨gg, 0, none⟩) (n + 1) cap2) (cs ++ news) := by
  obtain ⟨h1, h2, h3⟩ := h.le
  have hap : ∀ b, b < Z → some b ≠ v.ownBlock := fun b hb e => by have := (h.row.1.lt b e.symm).1; omega
  have k : ∀ b, b < Z → w2.heap[b]? = w.heap[b]? := fun b hb => hg.block b (by omega) (hap b hb)
  obtain ⟨cells, hrs, hz⟩ := h.res
  refine ⟨⟨h1, h2, by have := hg.size; simp [World.setCell]; omega⟩, ⟨cells, ?_, hz⟩, ?_, ?_, h.lies, ?_⟩
  · rw [heap_setCell_ne (by simp; omega), k B (by omega)]; exact hrs
  · rw [heap_setCell_at ((k X (by omega)).trans h.out)]; rfl
  · exact RowN.keeps (S := fun b => b < Z ∧ b ≠ X) h.runes (fun b hb' => by rw [heap_setCell_ne (by simp; omega), k b hb'.1]) (fun k hk => .inr (h.lies k hk).2)
  · exact (NdRow.snoc h.row hn hB1 hvB hr hnl hg hown hat hH).setCell (by simp; omega) _

theorem nd_next {w1 w2 : World} {B X Z d Y k gg cap2 cI : Nat} {aI : Option Addr} {o' : Obj} {nd s : Nd} {rv : Value} {nds : List Nd} {cs news : List Value} (h : NdAt w1 B X Z nd rv d nds (.slice aI k cI) cs) (hn : nds.length = k) (hX : Z ≤ Y)
    (hvB : ∀ j, (Value.slice aI k cI).ownBlock = some j → j < Y) (hr : Rep w1 (fun b => Y ≤ b ∧ b < w1.heap.size) d s news) (hnl : news.length = 9) (hg : (w1.alloc o').grownBy w2 (Value.slice aI k cI).ownBlock) (hown : w2.ownsRow Z 36 9 (.slice (some ⟨gg, 0, none⟩) (k + 1) cap2) (k + 1) (cs ++ news))
    (hat : (Value.slice aI k cI).ownBlock = some gg ∨ gg = w1.heap.size + 1) : NdAt (w2.setCell ⟨X, 8, none⟩ (.slice (some ⟨gg, 0, none⟩) (k + 1) cap2)) B X Z nd rv d (nds ++ [s]) (.slice (some ⟨gg, 0, none⟩) (k + 1) cap2) (cs ++ news) :=
  NdAt.snoc (h.below (below1 w1 o')) hn hX hvB (Rep.mono (fun b hb => ⟨hb.1, by have := hb.2; simp; omega⟩) _ _ _ (hr.alloc (fun b hb => hb.2) o')) hnl hg hown hat (by simp)

theorem nd_below {w wr w1 w2 : World} {o' : Obj} {B X Z j n : Nat} {cs : List Value} {vI u : Value} (hbel : Below B w wr) (hb1 : Below wr.drew.heap.size wr.drew w1) (hle : B ≤ X ∧ X < Z ∧ Z ≤ wr.heap.size) (hown : w1.ownsRow Z 36 9 vI n cs)
    (hgrow : (w1.alloc o').grownBy w2 vI.ownBlock) : Below B w (w2.setCell ⟨X, j, none⟩ u) := by
  have h1 : Below B w w1 := hbel.trans (((Below.refl B wr).drew).trans (hb1.mono (by simp; omega)))
  have hz := hb1.size
  simp at hz
  exact ((h1.alloc (by omega) o').grown hgrow (by simp; omega) (fun j hj => by have := (hown.lt j hj).1; omega)).setCell (by simp; omega) _

/-- The loop is through: the nine cells of 'out' are a node. -/
theorem NdAt.rep {w : World} {B X Z d k cI : Nat} {aI : Option Addr} {nd : Nd} {rv : Value} {cs : List Value} (h : NdAt w B X Z nd rv d nd.subs (.slice aI k cI) cs) (hk : nd.subs.length = k) (hfit : Fits nd) :
    Rep w (fun b => B < b ∧ b < w.heap.size) (d + 1) nd [.int .i64 nd.op, .bool nd.fold, .bool nd.lazy, .int .i64 nd.mn, .int .i64 nd.mx, .int .i64 nd.cap, .string nd.name, rv, .slice aI k cI] := by
  subst hk
  obtain ⟨h1, h2, h3⟩ := h.le
  have hin : In (fun b => B < b ∧ b < w.heap.size) rv := fun k hk => .inr (by have := h.lies k hk; omega)
  have hl : cs.length = nd.subs.length * 9 := h.row.1.1
  by_cases h0 : nd.subs = []
  · exact ⟨rv, aI, cI, 0, 0, fun _ => [], rfl, hfit, h.runes, hin, fun hne => absurd h0 hne, fun k s hks => by rw [h0] at hks; simp at hks⟩
  · obtain ⟨g, cap', hv', hbg, hlt⟩ := h.row.1.form (List.length_pos_iff.2 h0)
    injection hv' with e1 e2 e3
    refine ⟨rv, aI, cI, g, 0, fun k => (cs.drop (k * 9)).take 9, rfl, hfit, h.runes, hin, fun _ => ⟨e1, by omega, hlt⟩, fun k s hks => ⟨?_, ?_⟩⟩
    · intro j u hu
      have hj : j < 9 := by
        rcases Nat.lt_or_ge j 9 with hj | hj
        · exact hj
        · rw [List.getElem?_eq_none (by rw [List.length_take]; omega)] at hu; cases hu
      rw [List.getElem?_take_of_lt hj, List.getElem?_drop] at hu
      have hc := World.ownsRow.cells h.row.1 (g := g) (by rw [e1]; rfl) _ u hu
      rw [show ((⟨g, 0, none⟩ : Addr).add (k * 9 + j)) = ⟨g, 0 + k * 9 + j, none⟩ from by unfold Addr.add; split <;> simp_all <;> omega] at hc
      exact hc
    · exact Rep.mono (fun b hb => ⟨by have := hb.1; omega, hb.2.1⟩) _ _ _ (h.row.2 k s hks)

theorem Keeps.setCell {S : Nat → Prop} {w w' : World} (h : Keeps S w w') {p : Addr} (hp : ∀ b, S b → p.block ≠ b) (u : Value) : Keeps S w (w'.setCell p u) := fun b hb => (heap_setCell_ne (hp b hb)).trans (h b hb)
theorem nine_cells {α : Type} {a : Array α} (h : a.size = 9) : ∃ r0 r1 r2 r3 r4 r5 r6 r7 r8, a = #[r0, r1, r2, r3, r4, r5, r6, r7, r8] := by
  obtain ⟨l⟩ := a
  match l, h with
  | [r0, r1, r2, r3, r4, r5, r6, r7, r8], _ => exact ⟨r0, r1, r2, r3, r4, r5, r6, r7, r8, rfl⟩
theorem Rep.form {w : World} {S : Nat → Prop} {d : Nat} {nd : Nd} {cs : List Value} (h : Rep w S d nd cs) : ∃ (ro : Option Addr) (rc : Nat) (so : Option Addr) (sc : Nat), cs = [.int .i64 nd.op, .bool nd.fold, .bool nd.lazy, .int .i64 nd.mn, .int .i64 nd.mx, .int .i64 nd.cap, .string nd.name, .slice ro nd.runes.length rc, .slice so nd.subs.length sc] := by
  cases d with
  | zero => cases h
  | succ d => obtain ⟨ro, rc, so, sc, e, _⟩ := h.open; exact ⟨ro, rc, so, sc, e⟩

theorem Try.info36 : (Try.prog.info? 36).map (fun i => (i.zero.map (·.cells.size), i.size, i.bytes)) = some (some 9, 9, 104) := by kernel_rfl

/-- append of a row onto nil, at a step of a region that draws its order: the world written out. -/
theorem step_append_nil {P : Program} {w : World} {ops : Array Oper} {o : Oper} {a : Act} {K : Act → World → Prop} {Q : Exit → Act → World → Prop} {E : Prop} (hgd : o.guard = none) (s x : Operand) (t : TypeId)
    (ho : o.op = .call { callee := .builtin .append, args := #[s, x], argTypes := #[t, t] })
    (e : TypeId) (i : TypeInfo) (z : Value) (bytes : Nat) (ht : P.underlying t = some (.slice e)) (hi : P.info? e = some i) (hz : i.zero = some z)
    (hsize : i.size = 1) (hby : i.bytes = bytes) (hs : a.eval s = .slice none 0 0)
    (ad : Addr) (m c : Nat) (news : List Value) (hx : a.eval x = .slice (some ad) m c) (hl : news.length = m) (hnews : ∀ j u, news[j]? = some u → w.cell? (ad.add j) = some u)
    (hm : 0 < m) (h63 : m ≤ maxLen) (hfit : m * bytes ≤ 281474976710656)
    (h : ∀ (H cap : Nat) (pad : Array Value), w.heap.size = H → m ≤ cap → cap ≤ maxLen → K (a.put o.dst (.slice (some ⟨H, 0, none⟩) m cap)) (w.drew.alloc (.cells (news.toArray ++ pad) e))) :
    if Region.wanted o (yielded ops a.tmps) = true then Oper.wp P o a w K Q else E := by
  have hw : Region.wanted o (yielded ops a.tmps) = true := by simp [Region.wanted, hgd]
  rw [if_pos hw]
  subst hby
  have hr := run_append_nil (P := P) w t o.type e i z ht hi hz ad m c news (by rw [hsize, hl, Nat.mul_one]) hnews hm (by simp only [maxLen] at h63; omega) hfit
  unfold Oper.wp execOp
  simp only [ho, resolve, invoke, builtin, Sem.run_bind, Sem.run_pure, Result.andThen_ok, List.map_toArray, List.map_cons, List.map_nil, hs, hx, hr]
  exact h _ _ _ rfl (grownCap_ge w m 0 e) (grownCap_le_maxLen w m 0 e h63)

/-- append of nothing onto nil. -/
theorem step_append_none {P : Program} {w : World} {ops : Array Oper} {o : Oper} {a : Act} {K : Act → World → Prop} {Q : Exit → Act → World → Prop} {E : Prop} (hgd : o.guard = none) (s x : Operand) (t : TypeId)
    (ho : o.op = .call { callee := .builtin .append, args := #[s, x], argTypes := #[t, t] })
    (e : TypeId) (i : TypeInfo) (ht : P.underlying t = some (.slice e)) (hi : P.info? e = some i) (hs : a.eval s = .slice none 0 0)
    (ad : Option Addr) (c : Nat) (hx : a.eval x = .slice ad 0 c)
    (h : K (a.put o.dst (.slice none 0 0)) w) :
    if Region.wanted o (yielded ops a.tmps) = true then Oper.wp P o a w K Q else E := by
  have hw : Region.wanted o (yielded ops a.tmps) = true := by simp [Region.wanted, hgd]
  rw [if_pos hw]
  have hr : (Builtin.append_ #[t, t] o.type #[.slice none 0 0, .slice ad 0 c]).run P w = .ok (.slice none 0 0) w := by
    cases ad <;> simp [Builtin.append_, run_underlying ht, sizeOf, typeInfo, hi, Builtin.lenOf, Builtin.firstCells, loadCells, loadCellsFrom]
  unfold Oper.wp execOp
  simp only [ho, resolve, invoke, builtin, Sem.run_bind, Sem.run_pure, Result.andThen_ok, List.map_toArray, List.map_cons, List.map_nil, hs, hx, hr]
  exact h

/-- Runes in a row that was made. -/
theorem runes_made {w : World} {g cap m : Nat} {zs : List Int} {pad : Array Value} (h : w.heap[g]? = some (.cells ((zs.map (Value.int .i32)).toArray ++ pad) 21 (0, 0))) (hm : zs.length = m) (h1 : m ≤ cap) (h2 : cap ≤ maxLen) : Runes w (.slice (some ⟨g, 0, none⟩) m cap) zs := by
  subst hm
  refine ⟨by simp, .inr ⟨_, cap, rfl, h1, h2, fun j u hu => ?_⟩⟩
  have hadd : (⟨g, 0, none⟩ : Addr).add j = ⟨g, j, none⟩ := by unfold Addr.add; split <;> simp_all
  rw [hadd, cell_of_row w g j _ 21 (0, 0) h]
  have hj : j < (zs.map (Value.int .i32)).length := (List.getElem?_eq_some_iff.1 hu).1
  rw [Array.getElem?_append_left (by simpa using hj)]
  simpa using hu
end Go.Proofs.Ytejhffcjamdffaa
