/-
  What the specification's walk keeps in memory: a row of marks for each instruction, and one of the places where it matches. No conditions beside those typed.
-/
import Derived.Test.YtejhffcjamdffaaPlain
import Derived.Test.YtejhffcjamdffaaOfOut
namespace Go.Proofs.Ytejhffcjamdffaa
open Go.RowKit

/-- A row of marks, all of it. -/
def MarksAt (w : World) (b : Nat) (m : List Bool) : Prop := w.heap[b]? = some (.cells (m.map Value.bool).toArray 4 (0, 0))
theorem MarksAt.cell {w : World} {b : Nat} {l : List Bool} (h : MarksAt w b l) {c : Nat} {s : Bool} (hc : l[c]? = some s) : w.cell? ⟨b, c, none⟩ = some (.bool s) := by
  rw [cell_at h, List.getElem?_toArray, List.getElem?_map, hc]; rfl
theorem MarksAt.set {w : World} {b : Nat} {l : List Bool} (h : MarksAt w b l) (c : Nat) (s : Bool) : MarksAt (w.setCell ⟨b, c, none⟩ (.bool s)) b (l.set c s) := by
  unfold MarksAt
  rw [heap_setCell_at h, List.map_set]
  simp
theorem MarksAt.lt {w : World} {b : Nat} {l : List Bool} (h : MarksAt w b l) : b < w.heap.size := (Array.getElem?_eq_some_iff.1 h).1

/-- How many places are not marked yet. -/
def unseen (rows : List (List Bool)) : Nat := (rows.map fun r => r.count false).sum

theorem sum_set : ∀ (l : List Nat) (k x y : Nat), l[k]? = some x → (l.set k y).sum + x = l.sum + y := by
  intro l
  induction l with
  | nil => intro k x y h; simp at h
  | cons a l ih =>
    intro k x y h
    cases k with
    | zero => simp at h; subst h; simp; omega
    | succ k =>
      simp only [List.getElem?_cons_succ] at h
      have := ih k x y h
      simp only [List.set_cons_succ, List.sum_cons]
      omega

theorem count_set : ∀ (r : List Bool) (p : Nat), r[p]? = some false → (r.set p true).count false + 1 = r.count false := by
  intro r
  induction r with
  | nil => intro p h; simp at h
  | cons a r ih =>
    intro p h
    cases p with
    | zero => simp at h; subst h; simp
    | succ p =>
      simp only [List.getElem?_cons_succ] at h
      have := ih p h
      simp only [List.set_cons_succ, List.count_cons]
      omega

theorem unseen_set {rows : List (List Bool)} {k p : Nat} {r : List Bool} (hk : rows[k]? = some r) (hp : r[p]? = some false) : unseen (rows.set k (r.set p true)) + 1 = unseen rows := by
  unfold unseen
  rw [List.map_set]
  have h1 := sum_set (rows.map fun r => r.count false) k (r.count false) ((r.set p true).count false) (by rw [List.getElem?_map, hk]; rfl)
  have h2 := count_set r p hp
  omega

structure WalkAt (w : World) (base g o n T : Nat) (bs : List Nat) (rows : List (List Bool)) (out : List Bool) : Prop where
  hbs : bs.length = n
  hrows : rows.length = n
  wide : ∀ r, r ∈ rows → r.length = T
  cells : ∀ (k b : Nat), bs[k]? = some b → w.cell? ⟨g, k, none⟩ = some (.slice (some ⟨b, 0, none⟩) T T)
  marks : ∀ (k b : Nat) (r : List Bool), bs[k]? = some b → rows[k]? = some r → MarksAt w b r
  nodup : ∀ (j k : Nat) (b : Nat), bs[j]? = some b → bs[k]? = some b → j = k
  far : ∀ b, b ∈ bs → base ≤ b ∧ b ≠ g ∧ b ≠ o
  outAt : MarksAt w o out
  outLen : out.length = T
  og : o ≠ g ∧ base ≤ o ∧ base ≤ g ∧ g < w.heap.size

theorem WalkAt.below {w w' : World} {base g o n T : Nat} {bs : List Nat} {rows : List (List Bool)} {out : List Bool} (h : WalkAt w base g o n T bs rows out) (hb : Below w.heap.size w w') : WalkAt w' base g o n T bs rows out :=
  ⟨h.hbs, h.hrows, h.wide, fun k b hk => (hb.cell (p := ⟨g, k, none⟩) h.og.2.2.2).trans (h.cells k b hk), fun k b r hk hr => (hb.block b (h.marks k b r hk hr).lt).trans (h.marks k b r hk hr), h.nodup, h.far,
    (hb.block o h.outAt.lt).trans h.outAt, h.outLen, ⟨h.og.1, h.og.2.1, h.og.2.2.1, Nat.lt_of_lt_of_le h.og.2.2.2 hb.size⟩⟩

theorem setCell_size (w : World) (a : Addr) (u : Value) : (w.setCell a u).heap.size = w.heap.size := by simp [World.setCell]

theorem WalkAt.mark {w : World} {base g o n T : Nat} {bs : List Nat} {rows : List (List Bool)} {out : List Bool} (h : WalkAt w base g o n T bs rows out) {k b : Nat} {r : List Bool} (hk : bs[k]? = some b) (hr : rows[k]? = some r) (p : Nat) :
    WalkAt (w.setCell ⟨b, p, none⟩ (.bool true)) base g o n T bs (rows.set k (r.set p true)) out := by
  have hf := h.far b (List.mem_of_getElem? hk)
  refine ⟨h.hbs, by rw [List.length_set]; exact h.hrows, fun r' hr' => ?_, fun j b' hj => ?_, fun j b' r' hj hr' => ?_, h.nodup, h.far, ?_, h.outLen, ⟨h.og.1, h.og.2.1, h.og.2.2.1, by rw [setCell_size]; exact h.og.2.2.2⟩⟩
  · rcases List.mem_or_eq_of_mem_set hr' with h1 | h1
    · exact h.wide r' h1
    · rw [h1, List.length_set]; exact h.wide r (List.mem_of_getElem? hr)
  · rw [World.cell?_of_block (heap_setCell_ne (by simpa using hf.2.1))]
    exact h.cells j b' hj
  · by_cases hjk : j = k
    · subst hjk
      rw [hk] at hj
      injection hj with hj
      subst hj
      rw [List.getElem?_set_self (List.getElem?_eq_some_iff.1 hr).1] at hr'
      injection hr' with hr'
      subst hr'
      exact (h.marks _ _ _ hk hr).set p true
    · rw [List.getElem?_set_ne (fun e => hjk e.symm)] at hr'
      have hne : b ≠ b' := fun e => hjk (by subst e; exact h.nodup j k b hj hk)
      unfold MarksAt
      rw [heap_setCell_ne (by simpa using hne)]
      exact h.marks j b' r' hj hr'
  · unfold MarksAt
    rw [heap_setCell_ne (by simpa using hf.2.2)]
    exact h.outAt

theorem WalkAt.hit {w : World} {base g o n T : Nat} {bs : List Nat} {rows : List (List Bool)} {out : List Bool} (h : WalkAt w base g o n T bs rows out) (p : Nat) :
    WalkAt (w.setCell ⟨o, p, none⟩ (.bool true)) base g o n T bs rows (out.set p true) := by
  refine ⟨h.hbs, h.hrows, h.wide, fun j b' hj => ?_, fun j b' r' hj hr' => ?_, h.nodup, h.far, h.outAt.set p true, by rw [List.length_set]; exact h.outLen, ⟨h.og.1, h.og.2.1, h.og.2.2.1, by rw [setCell_size]; exact h.og.2.2.2⟩⟩
  · rw [World.cell?_of_block (heap_setCell_ne (by simpa using h.og.1))]
    exact h.cells j b' hj
  · have hf := h.far b' (List.mem_of_getElem? hj)
    unfold MarksAt
    rw [heap_setCell_ne (by simpa using fun e => hf.2.2 e.symm)]
    exact h.marks j b' r' hj hr'

/-- What is marked anew as a match is reached. -/
def NewHits (is : List I) (t : List Int) (k p : Nat) (out out' : List Bool) : Prop := ∀ e, out'[e]? = some true → out[e]? = some true ∨ Reach is t k p e

/-- Of what was there nothing turns but the marks. -/
def Kept (bs : List Nat) (o : Nat) (w w' : World) : Prop := w.heap.size ≤ w'.heap.size ∧ ∀ x, x < w.heap.size → x ∉ bs → x ≠ o → w'.heap[x]? = w.heap[x]?
theorem Kept.refl (bs : List Nat) (o : Nat) (w : World) : Kept bs o w w := ⟨Nat.le_refl _, fun _ _ _ _ => rfl⟩
theorem Kept.trans {bs : List Nat} {o : Nat} {a b c : World} (h : Kept bs o a b) (h' : Kept bs o b c) : Kept bs o a c :=
  ⟨Nat.le_trans h.1 h'.1, fun x hx h1 h2 => (h'.2 x (Nat.lt_of_lt_of_le hx h.1) h1 h2).trans (h.2 x hx h1 h2)⟩
theorem Kept.of_below {bs : List Nat} {o : Nat} {w w' : World} (h : Below w.heap.size w w') : Kept bs o w w' := ⟨h.size, fun x hx _ _ => h.block x hx⟩
theorem Kept.mark {bs : List Nat} {o b : Nat} (w : World) (hb : b ∈ bs) (p : Nat) (u : Value) : Kept bs o w (w.setCell ⟨b, p, none⟩ u) :=
  ⟨by rw [setCell_size]; exact Nat.le_refl _, fun x _ h1 _ => heap_setCell_ne (fun e => h1 (by subst e; exact hb))⟩
theorem Kept.hit {bs : List Nat} {o : Nat} (w : World) (p : Nat) (u : Value) : Kept bs o w (w.setCell ⟨o, p, none⟩ u) :=
  ⟨by rw [setCell_size]; exact Nat.le_refl _, fun x _ _ h2 => heap_setCell_ne (fun e => h2 e.symm)⟩
/-- A new block is none of the marks. -/
theorem WalkAt.fresh {w : World} {base g o n T : Nat} {bs : List Nat} {rows : List (List Bool)} {out : List Bool} (h : WalkAt w base g o n T bs rows out) {x : Nat} (hx : w.heap.size ≤ x) : x ∉ bs ∧ x ≠ o := by
  refine ⟨fun hm => ?_, fun e => ?_⟩
  · obtain ⟨j, hj, hj2⟩ := List.getElem_of_mem hm
    have hr : j < rows.length := by rw [h.hrows, ← h.hbs]; exact hj
    have := (h.marks j x (rows[j]) (by rw [List.getElem?_eq_getElem hj, hj2]) (List.getElem?_eq_getElem hr)).lt
    omega
  · have := h.outAt.lt
    omega

def WalkPost (base g o n T : Nat) (bs : List Nat) (rows : List (List Bool)) (out : List Bool) (is : List I) (t : List Int) (k p : Nat) (w : World) (e : Ending) (w' : World) : Prop :=
  e = .returned (.tuple #[]) ∧ (∃ rows' out', WalkAt w' base g o n T bs rows' out' ∧ unseen rows' ≤ unseen rows ∧ NewHits is t k p out out') ∧ Below base w w' ∧ Kept bs o w w'
end Go.Proofs.Ytejhffcjamdffaa
