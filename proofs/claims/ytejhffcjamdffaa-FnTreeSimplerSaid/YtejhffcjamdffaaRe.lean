/-
  Expressions of the specification in memory: 'Rx' as plain data; 'ReRep': ten cells hold an expression, its parts lie in blocks of which S holds. No conditions beside those typed.
-/
import Derived.Test.YtejhffcjamdffaaNode
import Derived.Deep.AppendLies
namespace Go.Proofs.Ytejhffcjamdffaa
open Go.RowKit

/-- An expression: its kind, its bounds, its parts. -/
inductive Rx where
  | mk (kind mn mx : Int) (subs : List Rx)
def Rx.kind : Rx → Int | .mk k _ _ _ => k
def Rx.mn : Rx → Int | .mk _ m _ _ => m
def Rx.mx : Rx → Int | .mk _ _ m _ => m
def Rx.subs : Rx → List Rx | .mk _ _ _ s => s

/-- The ten cells hold an expression, at most d deep; its parts lie in blocks of which S holds. -/
def ReRep (w : World) (S : Nat → Prop) : Nat → Rx → List Value → Prop
  | 0, _, _ => False
  | d + 1, rx, cs => ∃ (eo : Option Addr) (en ec : Nat) (neg lazy : Bool) (cap what : Int) (name : ByteArray) (ao : Option Addr) (c b off : Nat) (f : Nat → List Value),
      cs = [.int .i64 rx.kind, .slice eo en ec, .bool neg, .int .i64 rx.mn, .int .i64 rx.mx, .bool lazy, .int .i64 cap, .string name, .int .i64 what, .slice ao rx.subs.length c] ∧
      rx.subs.length ≤ 1353264501504 ∧ (rx.subs ≠ [] → ao = some ⟨b, off, none⟩ ∧ S b) ∧ ∀ k s, rx.subs[k]? = some s → Cells w b (off + k * 10) (f k) ∧ ReRep w S d s (f k)

theorem ReRep.keeps {S : Nat → Prop} {w w' : World} (hk : Keeps S w w') : ∀ (d : Nat) (rx : Rx) (cs : List Value), ReRep w S d rx cs → ReRep w' S d rx cs := by
  intro d
  induction d with
  | zero => intro rx cs h; exact h
  | succ d ih =>
    intro rx cs h
    obtain ⟨eo, en, ec, neg, lazy, cap, what, name, ao, c, b, off, f, rfl, hl, hne, hs⟩ := h
    refine ⟨eo, en, ec, neg, lazy, cap, what, name, ao, c, b, off, f, rfl, hl, hne, fun k s hks => ?_⟩
    have hn : rx.subs ≠ [] := fun h0 => by rw [h0] at hks; simp at hks
    exact ⟨(hs k s hks).1.keeps hk (hne hn).2, ih _ _ (hs k s hks).2⟩

theorem ReRep.mono {S S' : Nat → Prop} {w : World} (hS : ∀ b, S b → S' b) : ∀ (d : Nat) (rx : Rx) (cs : List Value), ReRep w S d rx cs → ReRep w S' d rx cs := by
  intro d
  induction d with
  | zero => intro rx cs h; exact h
  | succ d ih =>
    intro rx cs h
    obtain ⟨eo, en, ec, neg, lazy, cap, what, name, ao, c, b, off, f, rfl, hl, hne, hs⟩ := h
    exact ⟨eo, en, ec, neg, lazy, cap, what, name, ao, c, b, off, f, rfl, hl, fun h0 => ⟨(hne h0).1, hS _ (hne h0).2⟩, fun k s hks => ⟨(hs k s hks).1, ih _ _ (hs k s hks).2⟩⟩

/-- The cells of an expression, written out. -/
theorem ReRep.form {S : Nat → Prop} {w : World} {d : Nat} {rx : Rx} {cs : List Value} (h : ReRep w S d rx cs) :
    ∃ (eo : Option Addr) (en ec : Nat) (neg lazy : Bool) (cap what : Int) (name : ByteArray) (ao : Option Addr) (c : Nat),
      cs = [.int .i64 rx.kind, .slice eo en ec, .bool neg, .int .i64 rx.mn, .int .i64 rx.mx, .bool lazy, .int .i64 cap, .string name, .int .i64 what, .slice ao rx.subs.length c] := by
  cases d with
  | zero => cases h
  | succ d =>
    obtain ⟨eo, en, ec, neg, lazy, cap, what, name, ao, c, b, off, f, rfl, _⟩ := h
    exact ⟨eo, en, ec, neg, lazy, cap, what, name, ao, c, rfl⟩

/-- An expression whose cells lie in memory: each cell. -/
theorem ReRep.cells {S : Nat → Prop} {w : World} {d : Nat} {rx : Rx} {cs : List Value} {b o : Nat} (h : ReRep w S d rx cs) (hc : Cells w b o cs) :
    ∃ (eo : Option Addr) (en ec : Nat) (neg lazy : Bool) (cap what : Int) (name : ByteArray) (ao : Option Addr) (c : Nat),
      cs = [.int .i64 rx.kind, .slice eo en ec, .bool neg, .int .i64 rx.mn, .int .i64 rx.mx, .bool lazy, .int .i64 cap, .string name, .int .i64 what, .slice ao rx.subs.length c] ∧
      w.cell? ⟨b, o, none⟩ = some (.int .i64 rx.kind) ∧ w.cell? ⟨b, o + 1, none⟩ = some (.slice eo en ec) ∧ w.cell? ⟨b, o + 2, none⟩ = some (.bool neg) ∧ w.cell? ⟨b, o + 3, none⟩ = some (.int .i64 rx.mn) ∧
      w.cell? ⟨b, o + 4, none⟩ = some (.int .i64 rx.mx) ∧ w.cell? ⟨b, o + 5, none⟩ = some (.bool lazy) ∧ w.cell? ⟨b, o + 6, none⟩ = some (.int .i64 cap) ∧ w.cell? ⟨b, o + 7, none⟩ = some (.string name) ∧
      w.cell? ⟨b, o + 8, none⟩ = some (.int .i64 what) ∧ w.cell? ⟨b, o + 9, none⟩ = some (.slice ao rx.subs.length c) := by
  obtain ⟨eo, en, ec, neg, lazy, cap, what, name, ao, c, rfl⟩ := h.form
  exact ⟨eo, en, ec, neg, lazy, cap, what, name, ao, c, rfl, hc 0 _ rfl, hc 1 _ rfl, hc 2 _ rfl, hc 3 _ rfl, hc 4 _ rfl, hc 5 _ rfl, hc 6 _ rfl, hc 7 _ rfl, hc 8 _ rfl, hc 9 _ rfl⟩

theorem ReRep.open {S : Nat → Prop} {w : World} {d : Nat} {rx : Rx} {cs : List Value} (h : ReRep w S (d + 1) rx cs) :
    ∃ (eo : Option Addr) (en ec : Nat) (neg lazy : Bool) (cap what : Int) (name : ByteArray) (ao : Option Addr) (c : Nat),
      cs = [.int .i64 rx.kind, .slice eo en ec, .bool neg, .int .i64 rx.mn, .int .i64 rx.mx, .bool lazy, .int .i64 cap, .string name, .int .i64 what, .slice ao rx.subs.length c] ∧ rx.subs.length ≤ 1353264501504 ∧
      (rx.subs = [] ∨ ∃ b off, ao = some ⟨b, off, none⟩ ∧ S b ∧ ∀ k s, rx.subs[k]? = some s → ∃ cs', Cells w b (off + k * 10) cs' ∧ ReRep w S d s cs') := by
  obtain ⟨eo, en, ec, neg, lazy, cap, what, name, ao, c, b, off, f, rfl, hl, hne, hs⟩ := h
  refine ⟨eo, en, ec, neg, lazy, cap, what, name, ao, c, rfl, hl, ?_⟩
  by_cases h0 : rx.subs = []
  · exact .inl h0
  · exact .inr ⟨b, off, (hne h0).1, (hne h0).2, fun k s hks => ⟨f k, hs k s hks⟩⟩

theorem ReRep.alloc {S : Nat → Prop} {w : World} {d : Nat} {rx : Rx} {cs : List Value} (h : ReRep w S d rx cs) (hS : ∀ b, S b → b < w.heap.size) (o : Obj) : ReRep (w.alloc o) S d rx cs :=
  ReRep.keeps (Keeps.of_below (below1 w o) hS) _ _ _ h
end Go.Proofs.Ytejhffcjamdffaa
