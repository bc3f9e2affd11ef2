/-
  The contract of the specification's walk: each place that it marks anew is reached. Conditions: right instructions, at most sixty; at most a thousand runes.
-/
import Derived.Test.YtejhffcjamdffaaWalkMem
import Derived.Test.YtejhffcjamdffaaProg1
import Derived.Test.YtejhffcjamdffaaProg2
import Derived.Deep.RegionHeld3
import Derived.Deep.QuietTactic
import Derived.BigQuiet
namespace Go.Proofs.Ytejhffcjamdffaa
open Go.RowKit

/-- What is asked of walk where at most m places are not marked yet. -/
def WalkIH (is : List I) (ts : List Int) (lv tv : Value) (base g o n gc : Nat) (bs : List Nat) (m : Nat) : Prop := ∀ (k p : Nat) (rows : List (List Bool)) (out : List Bool) (w : World), unseen rows ≤ m → k < n → p ≤ ts.length → WalkAt w base g o n (ts.length + 1) bs rows out → Insts w base lv is → Runes w tv ts → base ≤ w.heap.size →
    Calls Try.prog 61 #[lv, .int .i64 k, tv, .int .i64 p, .slice (some ⟨g, 0, none⟩) n gc, .slice (some ⟨o, 0, none⟩) (ts.length + 1 : Nat) (ts.length + 1 : Nat)] w (WalkPost base g o n (ts.length + 1) bs rows out is ts k p w)

/-- What is known inside a call of walk, and stays. -/
structure WalkIn (is : List I) (ts : List Int) (lv tv : Value) (base n : Nat) (w : World) : Prop where
  ins : Insts w base lv is
  run : Runes w tv ts
  bd : Wd base tv
  len : is.length = n
  few : n ≤ 60
  short : ts.length ≤ 1000
  ok : ∀ i, i ∈ is → InstP n i

theorem WalkIn.below {is : List I} {ts : List Int} {lv tv : Value} {base n : Nat} {w w' : World} (h : WalkIn is ts lv tv base n w) (hb : Below base w w') : WalkIn is ts lv tv base n w' :=
  ⟨h.ins.below hb, RowN.belowW h.run hb h.bd, h.bd, h.len, h.few, h.short, h.ok⟩

theorem hits_mono {is : List I} {ts : List Int} {k p k' p' : Nat} {out out' : List Bool} (h : NewHits is ts k' p' out out') (hr : ∀ e, Reach is ts k' p' e → Reach is ts k p e) : NewHits is ts k p out out' := fun e he => (h e he).imp id (hr e)
theorem hits_trans {is : List I} {ts : List Int} {k p : Nat} {o1 o2 o3 : List Bool} (h : NewHits is ts k p o1 o2) (h' : NewHits is ts k p o2 o3) : NewHits is ts k p o1 o3 := fun e he => by
  rcases h' e he with h1 | h1
  · exact h e h1
  · exact .inr h1

theorem ret_tuple : Ending.returned (.tuple #[]) = Ending.returned (.tuple #[]) := rfl

set_option maxRecDepth 100000 in
set_option maxHeartbeats 4000000 in
/-- It was there before. -/
theorem walk_seen (lv tv : Value) (k p g gc b o n T c : Nat) (w : World) (hk : k < n) (hp : p < T)
    (hg : w.cell? ⟨g, k, none⟩ = some (.slice (some ⟨b, 0, none⟩) T T)) (hb : w.cell? ⟨b, p, none⟩ = some (.bool true)) :
    Calls Try.prog 61 #[lv, .int .i64 k, tv, .int .i64 p, .slice (some ⟨g, 0, none⟩) n gc, .slice (some ⟨o, 0, none⟩) T c] w fun e w' => e = .returned (.tuple #[]) ∧ w = w' := by
  go_enter Try.func61, Try.ntmps61
  go_wp2
  exact bodyPost_ret (results_none rfl _ _ _) rfl ⟨rfl, rfl⟩

/-- A right instruction in memory: what its out leads to. -/
theorem out_of {n : Nat} {i : I} (hi : InstP n i) (h4 : i.op ≠ 4) (h5 : i.op ≠ 5) : ∃ q : Nat, i.out = (q : Int) ∧ q < n ∧ i.out.toNat = q := by
  have h := hi.out h4 h5
  exact ⟨i.out.toNat, by omega, by omega, rfl⟩

/-- The state behind the mark that a call of walk lays. -/
structure WalkOn (is : List I) (ts : List Int) (lv tv : Value) (base g o n gc m : Nat) (bs : List Nat) (k p : Nat) (rows : List (List Bool)) (out : List Bool) (w : World) (i : I) : Prop where
  get : is[k]? = some i
  inn : WalkIn is ts lv tv base n w
  place : p ≤ ts.length
  row : unseen rows ≤ m
  at' : WalkAt w base g o n (ts.length + 1) bs rows out
  size : base ≤ w.heap.size
  ih : WalkIH is ts lv tv base g o n gc bs m

/-- A call that goes on. -/
theorem WalkOn.call {is : List I} {ts : List Int} {lv tv : Value} {base g o n gc m k p : Nat} {bs : List Nat} {rows : List (List Bool)} {out : List Bool} {w : World} {i : I} (h : WalkOn is ts lv tv base g o n gc m bs k p rows out w i)
    {w' : World} {rows' : List (List Bool)} {out' : List Bool} (hb : Below base w w') (hu : unseen rows' ≤ unseen rows) (hat : WalkAt w' base g o n (ts.length + 1) bs rows' out') (q p' : Nat) (hq : q < n) (hp : p' ≤ ts.length) :
    Calls Try.prog 61 #[lv, .int .i64 q, tv, .int .i64 p', .slice (some ⟨g, 0, none⟩) n gc, .slice (some ⟨o, 0, none⟩) (ts.length + 1 : Nat) (ts.length + 1 : Nat)] w' (WalkPost base g o n (ts.length + 1) bs rows' out' is ts q p' w') :=
  h.ih q p' rows' out' w' (by have := h.row; omega) hq hp hat (h.inn.below hb).ins (h.inn.below hb).run (Nat.le_trans h.size hb.size)
end Go.Proofs.Ytejhffcjamdffaa
