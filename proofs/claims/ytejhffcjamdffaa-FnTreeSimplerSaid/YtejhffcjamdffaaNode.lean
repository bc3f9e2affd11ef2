/-
  Nodes of a tree in memory: 'Rep': nine cells hold a node, its parts lie in blocks of which S holds; what stays of it while those blocks stay. No conditions beside those typed.
-/
import Derived.Test.YtejhffcjamdffaaMem
namespace Go.Proofs.Ytejhffcjamdffaa
open Go.RowKit

/-- A node as plain data. -/
inductive Nd where
  | mk (op : Int) (fold lazy : Bool) (mn mx cap : Int) (name : ByteArray) (runes : List Int) (subs : List Nd)

def Nd.op : Nd → Int | .mk op _ _ _ _ _ _ _ _ => op
def Nd.fold : Nd → Bool | .mk _ f _ _ _ _ _ _ _ => f
def Nd.lazy : Nd → Bool | .mk _ _ l _ _ _ _ _ _ => l
def Nd.mn : Nd → Int | .mk _ _ _ m _ _ _ _ _ => m
def Nd.mx : Nd → Int | .mk _ _ _ _ m _ _ _ _ => m
def Nd.cap : Nd → Int | .mk _ _ _ _ _ c _ _ _ => c
def Nd.name : Nd → ByteArray | .mk _ _ _ _ _ _ n _ _ => n
def Nd.runes : Nd → List Int | .mk _ _ _ _ _ _ _ r _ => r
def Nd.subs : Nd → List Nd | .mk _ _ _ _ _ _ _ _ s => s

/-- What came in, or is as large as what came in: no slice, no string of more than 2^47 - 4096 bytes. -/
def Fits (nd : Nd) : Prop := nd.subs.length * 104 ≤ 140737488351232 ∧ nd.runes.length * 4 ≤ 140737488351232 ∧ nd.name.size ≤ 140737488351232

/-- The slice v is empty or lies in a block of which S holds. -/
def In (S : Nat → Prop) (v : Value) : Prop := ∀ k, v.ownBlock = some k → (∃ ao c, v = .slice ao 0 c) ∨ S k
theorem In.mono {S S' : Nat → Prop} {v : Value} (h : In S v) (hS : ∀ b, S b → S' b) : In S' v := fun k hk => (h k hk).imp id (hS k)

/-- The cells from ⟨b, o⟩ on hold the list. -/
def Cells (w : World) (b o : Nat) (cs : List Value) : Prop := ∀ j u, cs[j]? = some u → w.cell? ⟨b, o + j, none⟩ = some u

/-- The blocks of which S holds are as they were. -/
def Keeps (S : Nat → Prop) (w w' : World) : Prop := ∀ b, S b → w'.heap[b]? = w.heap[b]?

/-- The nine cells hold a node, at most d deep; its parts lie in blocks of which S holds. -/
def Rep (w : World) (S : Nat → Prop) : Nat → Nd → List Value → Prop
  | 0, _, _ => False
  | d + 1, nd, cs => ∃ (rv : Value) (ao : Option Addr) (c b off : Nat) (f : Nat → List Value),
      cs = [.int .i64 nd.op, .bool nd.fold, .bool nd.lazy, .int .i64 nd.mn, .int .i64 nd.mx, .int .i64 nd.cap, .string nd.name, rv, .slice ao nd.subs.length c] ∧
      Fits nd ∧ Runes w rv nd.runes ∧ In S rv ∧ (nd.subs ≠ [] → ao = some ⟨b, off, none⟩ ∧ S b) ∧ ∀ k s, nd.subs[k]? = some s → Cells w b (off + k * 9) (f k) ∧ Rep w S d s (f k)

theorem Keeps.cell {S : Nat → Prop} {w w' : World} (h : Keeps S w w') {a : Addr} (ha : S a.block) : w'.cell? a = w.cell? a := World.cell?_of_block (h _ ha)

theorem Keeps.of_below {S : Nat → Prop} {B : Nat} {w w' : World} (h : Below B w w') (hS : ∀ b, S b → b < B) : Keeps S w w' := fun b hb => h.block b (hS b hb)
theorem Keeps.refl (S : Nat → Prop) (w : World) : Keeps S w w := fun _ _ => rfl
theorem Keeps.trans {S : Nat → Prop} {a b c : World} (h : Keeps S a b) (k : Keeps S b c) : Keeps S a c := fun x hx => (k x hx).trans (h x hx)
theorem Keeps.mono {S S' : Nat → Prop} {a b : World} (h : Keeps S a b) (hS : ∀ x, S' x → S x) : Keeps S' a b := fun x hx => h x (hS x hx)

theorem RowN.keeps {w w' : World} {S : Nat → Prop} {size n : Nat} {v : Value} {xs : List Value} (h : RowN w size v n xs) (hk : Keeps S w w') (hS : In S v) : RowN w' size v n xs := by
  refine ⟨h.1, ?_⟩
  rcases h.2 with h2 | ⟨a, cap, rfl, h3, h4, h5⟩
  · exact .inl h2
  · refine .inr ⟨a, cap, rfl, h3, h4, fun j u hu => ?_⟩
    rcases hS _ rfl with ⟨ao, c, e⟩ | hS
    · injection e with _ e2 _
      have hx := h.1
      rw [e2, Nat.zero_mul] at hx
      rw [List.eq_nil_of_length_eq_zero hx] at hu
      simp at hu
    · rw [hk.cell (by rw [add_block]; exact hS)]
      exact h5 j u hu

theorem Cells.keeps {w w' : World} {S : Nat → Prop} {b o : Nat} {cs : List Value} (h : Cells w b o cs) (hk : Keeps S w w') (hS : S b) : Cells w' b o cs := fun j u hu => by
  rw [hk.cell (a := ⟨b, o + j, none⟩) hS]; exact h j u hu

theorem Rep.keeps {S : Nat → Prop} {w w' : World} (hk : Keeps S w w') : ∀ (d : Nat) (nd : Nd) (cs : List Value), Rep w S d nd cs → Rep w' S d nd cs := by
  intro d
  induction d with
  | zero => intro nd cs h; exact h
  | succ d ih =>
    intro nd cs h
    obtain ⟨rv, ao, c, b, off, f, rfl, hfit, hr, hrb, hne, hs⟩ := h
    refine ⟨rv, ao, c, b, off, f, rfl, hfit, RowN.keeps hr hk hrb, hrb, hne, fun k s hks => ?_⟩
    have hn : nd.subs ≠ [] := fun h0 => by rw [h0] at hks; simp at hks
    exact ⟨(hs k s hks).1.keeps hk (hne hn).2, ih _ _ (hs k s hks).2⟩

theorem Rep.mono {S S' : Nat → Prop} {w : World} (hS : ∀ b, S b → S' b) : ∀ (d : Nat) (nd : Nd) (cs : List Value), Rep w S d nd cs → Rep w S' d nd cs := by
  intro d
  induction d with
  | zero => intro nd cs h; exact h
  | succ d ih =>
    intro nd cs h
    obtain ⟨rv, ao, c, b, off, f, rfl, hfit, hr, hrb, hne, hs⟩ := h
    exact ⟨rv, ao, c, b, off, f, rfl, hfit, hr, hrb.mono hS, fun h0 => ⟨(hne h0).1, hS _ (hne h0).2⟩, fun k s hks => ⟨(hs k s hks).1, ih _ _ (hs k s hks).2⟩⟩

/-- A node whose cells lie in memory: each cell, its value written out. -/
theorem Rep.cells {S : Nat → Prop} {w : World} {d : Nat} {nd : Nd} {cs : List Value} {b o : Nat} (h : Rep w S d nd cs) (hc : Cells w b o cs) :
    ∃ (ro : Option Addr) (rc : Nat) (so : Option Addr) (sc : Nat), cs = [.int .i64 nd.op, .bool nd.fold, .bool nd.lazy, .int .i64 nd.mn, .int .i64 nd.mx, .int .i64 nd.cap, .string nd.name, .slice ro nd.runes.length rc, .slice so nd.subs.length sc] ∧
      w.cell? ⟨b, o, none⟩ = some (.int .i64 nd.op) ∧ w.cell? ⟨b, o + 1, none⟩ = some (.bool nd.fold) ∧ w.cell? ⟨b, o + 2, none⟩ = some (.bool nd.lazy) ∧ w.cell? ⟨b, o + 3, none⟩ = some (.int .i64 nd.mn) ∧
      w.cell? ⟨b, o + 4, none⟩ = some (.int .i64 nd.mx) ∧ w.cell? ⟨b, o + 5, none⟩ = some (.int .i64 nd.cap) ∧ w.cell? ⟨b, o + 6, none⟩ = some (.string nd.name) ∧
      w.cell? ⟨b, o + 7, none⟩ = some (.slice ro nd.runes.length rc) ∧ w.cell? ⟨b, o + 8, none⟩ = some (.slice so nd.subs.length sc) := by
  cases d with
  | zero => cases h
  | succ d =>
    obtain ⟨rv, ao, c, b', off, f, rfl, hfit, hr, hrb, hne, hs⟩ := h
    obtain ⟨ro, rc, rfl⟩ := rowN_slice hr
    exact ⟨ro, rc, ao, c, rfl, hc 0 _ rfl, hc 1 _ rfl, hc 2 _ rfl, hc 3 _ rfl, hc 4 _ rfl, hc 5 _ rfl, hc 6 _ rfl, hc 7 _ rfl, hc 8 _ rfl⟩

theorem Rep.alloc {S : Nat → Prop} {w : World} {d : Nat} {nd : Nd} {cs : List Value} (h : Rep w S d nd cs) (hS : ∀ b, S b → b < w.heap.size) (o : Obj) : Rep (w.alloc o) S d nd cs :=
  Rep.keeps (Keeps.of_below (below1 w o) hS) _ _ _ h
theorem lt_below {S : Nat → Prop} {w w' : World} (hS : ∀ b, S b → b < w.heap.size) (hb : w.heap.size ≤ w'.heap.size) : ∀ b, S b → b < w'.heap.size := fun b h => Nat.lt_of_lt_of_le (hS b h) hb

/-- A node whose parts are told. -/
theorem Rep.open {S : Nat → Prop} {w : World} {d : Nat} {nd : Nd} {cs : List Value} (h : Rep w S (d + 1) nd cs) :
    ∃ (ro : Option Addr) (rc : Nat) (so : Option Addr) (sc : Nat), cs = [.int .i64 nd.op, .bool nd.fold, .bool nd.lazy, .int .i64 nd.mn, .int .i64 nd.mx, .int .i64 nd.cap, .string nd.name, .slice ro nd.runes.length rc, .slice so nd.subs.length sc] ∧
      Fits nd ∧ Runes w (.slice ro nd.runes.length rc) nd.runes ∧ In S (.slice ro nd.runes.length rc) ∧
      (nd.subs = [] ∨ ∃ b off, so = some ⟨b, off, none⟩ ∧ S b ∧ ∀ k s, nd.subs[k]? = some s → ∃ cs', Cells w b (off + k * 9) cs' ∧ Rep w S d s cs') := by
  obtain ⟨rv, ao, c, b', off, f, rfl, hfit, hr, hrb, hne, hs⟩ := h
  obtain ⟨ro, rc, rfl⟩ := rowN_slice hr
  refine ⟨ro, rc, ao, c, rfl, hfit, hr, hrb, ?_⟩
  by_cases h0 : nd.subs = []
  · exact .inl h0
  · exact .inr ⟨b', off, (hne h0).1, (hne h0).2, fun k s hks => ⟨f k, hs k s hks⟩⟩
end Go.Proofs.Ytejhffcjamdffaa
