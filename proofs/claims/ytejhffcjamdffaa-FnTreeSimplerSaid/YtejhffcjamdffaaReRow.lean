/-
  A row of expressions of the call's own ('ReRow'): one more, what of it stays; the expression of a tree ('ofF'). No conditions beside those typed.
-/
import Derived.Test.YtejhffcjamdffaaRe
import Derived.Test.YtejhffcjamdffaaOk
import Derived.Test.YtejhffcjamdffaaLarge
import Derived.Test.YtejhffcjamdffaaAppend
import Derived.Test.YtejhffcjamdffaaProgMem
namespace Go.Proofs.Ytejhffcjamdffaa
open Go.RowKit

/-- The expression of a tree. -/
def ofF : Nat → Nd → Rx
  | 0, _ => .mk 0 0 0 []
  | d + 1, nd =>
    if nd.op = 2 then .mk 1 0 0 []
    else if nd.op = 3 then .mk 3 0 0 (nd.runes.map fun _ => .mk 2 0 0 [])
    else if nd.op = 4 ∨ nd.op = 5 ∨ nd.op = 6 then .mk 2 0 0 []
    else if 7 ≤ nd.op ∧ nd.op ≤ 12 then .mk 7 0 0 []
    else if nd.op = 13 then .mk 6 nd.mn nd.mx (nd.subs.map (ofF d))
    else if nd.op = 14 then .mk 5 0 (-1) (nd.subs.map (ofF d))
    else if nd.op = 15 then .mk 5 1 (-1) (nd.subs.map (ofF d))
    else if nd.op = 16 then .mk 5 0 1 (nd.subs.map (ofF d))
    else if nd.op = 17 then .mk 5 nd.mn nd.mx (nd.subs.map (ofF d))
    else if nd.op = 18 then .mk 3 nd.mn nd.mx (nd.subs.map (ofF d))
    else if nd.op = 19 then .mk 4 nd.mn nd.mx (nd.subs.map (ofF d))
    else .mk 0 nd.mn nd.mx (nd.subs.map (ofF d))

theorem cell_at {w : World} {b : Nat} {cs : Array Value} {t : TypeId} {fr : Nat × Nat} (h : w.heap[b]? = some (.cells cs t fr)) (j : Nat) : w.cell? ⟨b, j, none⟩ = cs[j]? := cell_of_row w b j cs t fr h
theorem frozen_at {w : World} {b : Nat} {cs : Array Value} {t : TypeId} (h : w.heap[b]? = some (.cells cs t (0, 0))) (j : Nat) : w.frozen? ⟨b, j, none⟩ = false := by simp [World.frozen?, h]

/-- The blocks from 'base' on, but for the row of v. -/
def Beside (w : World) (base : Nat) (v : Value) (b : Nat) : Prop := base ≤ b ∧ b < w.heap.size ∧ v.ownBlock ≠ some b

/-- A row of expressions. -/
def ReRow (w : World) (base d : Nat) (v : Value) (rs : List Rx) (cs : List Value) : Prop :=
  w.ownsRow base 63 10 v rs.length cs ∧ ∀ k r, rs[k]? = some r → ReRep w (Beside w base v) d r ((cs.drop (k * 10)).take 10)

theorem ReRow.nil (w : World) (base d : Nat) : ReRow w base d (.slice none 0 0) [] [] := ⟨World.ownsRow_nil _ _ _ _, fun k r h => by simp at h⟩

/-- What was there stays while nothing of it is written. -/
theorem ReRow.keeps {w w' : World} {base d : Nat} {v : Value} {rs : List Rx} {cs : List Value} (h : ReRow w base d v rs cs) (hs : w.heap.size ≤ w'.heap.size) (hk : ∀ b, base ≤ b → b < w.heap.size → w'.heap[b]? = w.heap[b]?) : ReRow w' base d v rs cs := by
  refine ⟨⟨h.1.1, ?_⟩, fun k r hr => ?_⟩
  · rcases h.1.2 with h2 | ⟨g, cap, cur, rfl, h4, h5, h6⟩
    · exact .inl h2
    · exact .inr ⟨g, cap, cur, rfl, h4, by rw [hk g h4 (Array.getElem?_eq_some_iff.1 h5).1]; exact h5, h6⟩
  · exact ReRep.mono (fun b hb => ⟨hb.1, Nat.lt_of_lt_of_le hb.2.1 hs, hb.2.2⟩) _ _ _ (ReRep.keeps (fun b hb => hk b hb.1 hb.2.1) _ _ _ (h.2 k r hr))

/-- One expression more: it was made behind block B1, where the row was made ahead of it. -/
theorem ReRow.snoc {w w' : World} {base d B1 n g cap : Nat} {v : Value} {rs : List Rx} {r : Rx} {cs news : List Value} {H : Nat} (h : ReRow w base d v rs cs) (hn : rs.length = n) (hB1 : base ≤ B1) (hvB : ∀ k, v.ownBlock = some k → k < B1) (hr : ReRep w (fun b => B1 ≤ b ∧ b < w.heap.size) d r news) (hnl : news.length = 10)
    (hg : w.grownBy w' v.ownBlock) (hown : w'.ownsRow base 63 10 (.slice (some ⟨g, 0, none⟩) (n + 1) cap) (n + 1) (cs ++ news)) (hat : v.ownBlock = some g ∨ g = H) (hH : w.heap.size ≤ H) :
    ReRow w' base d (.slice (some ⟨g, 0, none⟩) (n + 1) cap) (rs ++ [r]) (cs ++ news) := by
  have hl : cs.length = rs.length * 10 := h.1.1
  have hkeep : Keeps (Beside w base v) w w' := fun b hb => hg.block b hb.2.1 (fun e => hb.2.2 e.symm)
  have hsub : ∀ b, Beside w base v b → Beside w' base (.slice (some ⟨g, 0, none⟩) (n + 1) cap) b := fun b hb => by
    refine ⟨hb.1, Nat.lt_of_lt_of_le hb.2.1 hg.size, fun e => ?_⟩
    simp only [Value.ownBlock, Option.some.injEq] at e
    subst e
    rcases hat with hat | hat
    · exact hb.2.2 hat
    · have := hb.2.1; omega
  have hsub2 : ∀ b, (B1 ≤ b ∧ b < w.heap.size) → Beside w base v b := fun b hb => ⟨by omega, hb.2, fun e => by have := hvB b e; omega⟩
  refine ⟨by rw [List.length_append, hn]; exact hown, fun k x hx => ?_⟩
  by_cases hlt : k < rs.length
  · rw [List.getElem?_append_left hlt] at hx
    rw [List.drop_append_of_le_length (by omega), List.take_append_of_le_length (by rw [List.length_drop]; omega)]
    exact ReRep.mono hsub _ _ _ (ReRep.keeps hkeep _ _ _ (h.2 k x hx))
  · rw [List.getElem?_append_right (by omega)] at hx
    have hk0 : k - rs.length = 0 := by
      rcases Nat.eq_zero_or_pos (k - rs.length) with h0 | h0
      · exact h0
      · rw [List.getElem?_eq_none (by simp; omega)] at hx; cases hx
    rw [hk0] at hx
    simp at hx
    subst hx
    have hk : k * 10 = cs.length := by omega
    rw [hk, List.drop_left, List.take_of_length_le (by omega)]
    exact ReRep.mono hsub _ _ _ (ReRep.keeps hkeep _ _ _ (ReRep.mono hsub2 _ _ _ hr))

/-- The ten cells of an expression over a row that the call owns. -/
theorem ReRow.rep {w : World} {base d B : Nat} {v : Value} {rs : List Rx} {cs : List Value} {kind mn mx cap what : Int} {lazy neg : Bool} {name : ByteArray} {eo : Option Addr} {en ec : Nat} (h : ReRow w base d v rs cs) (hB : B ≤ base) (hl : rs.length ≤ 1353264501504) :
    ∃ ao c, v = .slice ao rs.length c ∧ ReRep w (fun b => B ≤ b ∧ b < w.heap.size) (d + 1) (.mk kind mn mx rs) [.int .i64 kind, .slice eo en ec, .bool neg, .int .i64 mn, .int .i64 mx, .bool lazy, .int .i64 cap, .string name, .int .i64 what, v] := by
  obtain ⟨ao, c, hv⟩ := owns_slice h.1
  refine ⟨ao, c, hv, ?_⟩
  by_cases h0 : rs = []
  · refine ⟨eo, en, ec, neg, lazy, cap, what, name, ao, c, 0, 0, fun _ => [], by rw [hv]; rfl, hl, fun hne => absurd h0 hne, fun k s hs => ?_⟩
    have hs' : rs[k]? = some s := hs
    rw [h0] at hs'; simp at hs'
  · obtain ⟨g, cap', hv', hbg, hlt⟩ := h.1.form (List.length_pos_iff.2 h0)
    rw [hv] at hv'
    injection hv' with e1 e2 e3
    refine ⟨eo, en, ec, neg, lazy, cap, what, name, ao, c, g, 0, fun k => (cs.drop (k * 10)).take 10, by rw [hv]; rfl, hl, fun _ => ⟨e1, by omega, hlt⟩, fun k s hs => ⟨?_, ?_⟩⟩
    · intro j u hu
      have hj : j < 10 := by
        rcases Nat.lt_or_ge j 10 with hj | hj
        · exact hj
        · rw [List.getElem?_eq_none (by rw [List.length_take]; omega)] at hu; cases hu
      rw [List.getElem?_take_of_lt hj, List.getElem?_drop] at hu
      have hc := World.ownsRow.cells h.1 (g := g) (by rw [hv, e1]; rfl) _ u hu
      rw [show ((⟨g, 0, none⟩ : Addr).add (k * 10 + j)) = ⟨g, 0 + k * 10 + j, none⟩ from by unfold Addr.add; split <;> simp_all <;> omega] at hc
      exact hc
    · exact ReRep.mono (fun b hb => ⟨Nat.le_trans hB hb.1, hb.2.1⟩) _ _ _ (h.2 k s hs)
end Go.Proofs.Ytejhffcjamdffaa
