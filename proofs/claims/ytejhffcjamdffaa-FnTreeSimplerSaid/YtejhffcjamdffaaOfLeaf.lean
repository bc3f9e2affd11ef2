/-
  The contract of Of at operators without parts, but for a row of runes. No conditions beside those typed.
-/
import Derived.Test.YtejhffcjamdffaaReRow
namespace Go.Proofs.Ytejhffcjamdffaa
open Go.RowKit

theorem ReRep.leaf {w : World} {S : Nat → Prop} {d : Nat} {kind mn mx cap what : Int} {lazy neg : Bool} {name : ByteArray} {eo : Option Addr} {en ec : Nat} :
    ReRep w S (d + 1) (.mk kind mn mx []) [.int .i64 kind, .slice eo en ec, .bool neg, .int .i64 mn, .int .i64 mx, .bool lazy, .int .i64 cap, .string name, .int .i64 what, .slice none 0 0] :=
  ⟨eo, en, ec, neg, lazy, cap, what, name, none, 0, 0, 0, fun _ => [], rfl, by simp [Rx.subs], fun h => absurd rfl h, fun k s h => by simp [Rx.subs] at h⟩

/-- What a leaf's walk ends in. -/
def LeafPost (d : Nat) (kind : Int) (w : World) (e : Ending) (w' : World) : Prop := (∃ cs', e = .returned (.agg cs'.toArray) ∧ ReRep w' (fun b => w.heap.size ≤ b ∧ b < w'.heap.size) (d + 1) (.mk kind 0 0 []) cs') ∧ Below w.heap.size w w'

set_option maxRecDepth 100000 in
set_option maxHeartbeats 8000000 in
theorem of_leaf2 (d : Nat) (fold lazy : Bool) (mn mx cap : Int) (name : ByteArray) (ro so : Option Addr) (rn rc sn sc : Nat) (w : World) :
    Calls Try.prog 42 #[.agg #[.int .i64 2, .bool fold, .bool lazy, .int .i64 mn, .int .i64 mx, .int .i64 cap, .string name, .slice ro rn rc, .slice so sn sc]] w (LeafPost d 1 w) := by
  go_enter Try.func42, Try.ntmps42
  go_wp2
  refine bodyPost_ret (v := .agg #[.int .i64 1, .slice none 0 0, .bool false, .int .i64 0, .int .i64 0, .bool false, .int .i64 0, .string { data := #[] }, .int .i64 0, .slice none 0 0]) (by simp [results, Try.results42, go_sem]) rfl ⟨⟨[.int .i64 1, .slice none 0 0, .bool false, .int .i64 0, .int .i64 0, .bool false, .int .i64 0, .string { data := #[] }, .int .i64 0, .slice none 0 0], rfl, ReRep.leaf⟩, ?_⟩
  repeat (refine Below.setCell ?_ (by simp <;> omega) _)
  exact below2 w _ _

set_option maxRecDepth 100000 in
set_option maxHeartbeats 8000000 in
theorem of_leaf4 (d : Nat) (fold lazy : Bool) (mn mx cap : Int) (name : ByteArray) (ro so : Option Addr) (rn rc sn sc : Nat) (w : World) :
    Calls Try.prog 42 #[.agg #[.int .i64 4, .bool fold, .bool lazy, .int .i64 mn, .int .i64 mx, .int .i64 cap, .string name, .slice ro rn rc, .slice so sn sc]] w (LeafPost d 2 w) := by
  go_enter Try.func42, Try.ntmps42
  go_wp2
  refine bodyPost_ret (v := .agg #[.int .i64 2, .slice (some ⟨w.heap.size + 2, 0, none⟩) 1 1, .bool false, .int .i64 0, .int .i64 0, .bool false, .int .i64 0, .string { data := #[] }, .int .i64 0, .slice none 0 0]) (by simp [results, Try.results42, go_sem]) rfl ⟨⟨[.int .i64 2, .slice (some ⟨w.heap.size + 2, 0, none⟩) 1 1, .bool false, .int .i64 0, .int .i64 0, .bool false, .int .i64 0, .string { data := #[] }, .int .i64 0, .slice none 0 0], rfl, ReRep.leaf⟩, ?_⟩
  repeat (refine Below.setCell ?_ (by simp <;> omega) _)
  exact below3 w _ _ _

set_option maxRecDepth 100000 in
set_option maxHeartbeats 8000000 in
theorem of_leaf5 (d : Nat) (fold lazy : Bool) (mn mx cap : Int) (name : ByteArray) (ro so : Option Addr) (rn rc sn sc : Nat) (w : World) :
    Calls Try.prog 42 #[.agg #[.int .i64 5, .bool fold, .bool lazy, .int .i64 mn, .int .i64 mx, .int .i64 cap, .string name, .slice ro rn rc, .slice so sn sc]] w (LeafPost d 2 w) := by
  go_enter Try.func42, Try.ntmps42
  go_wp2
  refine bodyPost_ret (v := .agg #[.int .i64 2, .slice (some ⟨w.heap.size + 3, 0, none⟩) 1 1, .bool true, .int .i64 0, .int .i64 0, .bool false, .int .i64 0, .string { data := #[] }, .int .i64 0, .slice none 0 0]) (by simp [results, Try.results42, go_sem]) rfl ⟨⟨[.int .i64 2, .slice (some ⟨w.heap.size + 3, 0, none⟩) 1 1, .bool true, .int .i64 0, .int .i64 0, .bool false, .int .i64 0, .string { data := #[] }, .int .i64 0, .slice none 0 0], rfl, ReRep.leaf⟩, ?_⟩
  repeat (refine Below.setCell ?_ (by simp <;> omega) _)
  exact (below3 w _ _ _).alloc (by simp <;> omega) _

set_option maxRecDepth 100000 in
set_option maxHeartbeats 8000000 in
theorem of_leaf6 (d : Nat) (fold lazy : Bool) (mn mx cap : Int) (name : ByteArray) (ro so : Option Addr) (rn rc sn sc : Nat) (w : World) :
    Calls Try.prog 42 #[.agg #[.int .i64 6, .bool fold, .bool lazy, .int .i64 mn, .int .i64 mx, .int .i64 cap, .string name, .slice ro rn rc, .slice so sn sc]] w (LeafPost d 2 w) := by
  go_enter Try.func42, Try.ntmps42
  go_wp2
  refine bodyPost_ret (v := .agg #[.int .i64 2, .slice none 0 0, .bool true, .int .i64 0, .int .i64 0, .bool false, .int .i64 0, .string { data := #[] }, .int .i64 0, .slice none 0 0]) (by simp [results, Try.results42, go_sem]) rfl ⟨⟨[.int .i64 2, .slice none 0 0, .bool true, .int .i64 0, .int .i64 0, .bool false, .int .i64 0, .string { data := #[] }, .int .i64 0, .slice none 0 0], rfl, ReRep.leaf⟩, ?_⟩
  repeat (refine Below.setCell ?_ (by simp <;> omega) _)
  exact below2 w _ _

set_option maxRecDepth 100000 in
set_option maxHeartbeats 8000000 in
theorem of_leaf7 (d : Nat) (fold lazy : Bool) (mn mx cap : Int) (name : ByteArray) (ro so : Option Addr) (rn rc sn sc : Nat) (w : World) :
    Calls Try.prog 42 #[.agg #[.int .i64 7, .bool fold, .bool lazy, .int .i64 mn, .int .i64 mx, .int .i64 cap, .string name, .slice ro rn rc, .slice so sn sc]] w (LeafPost d 7 w) := by
  go_enter Try.func42, Try.ntmps42
  go_wp2
  refine bodyPost_ret (v := .agg #[.int .i64 7, .slice none 0 0, .bool false, .int .i64 0, .int .i64 0, .bool false, .int .i64 0, .string { data := #[] }, .int .i64 0, .slice none 0 0]) (by simp [results, Try.results42, go_sem]) rfl ⟨⟨[.int .i64 7, .slice none 0 0, .bool false, .int .i64 0, .int .i64 0, .bool false, .int .i64 0, .string { data := #[] }, .int .i64 0, .slice none 0 0], rfl, ReRep.leaf⟩, ?_⟩
  repeat (refine Below.setCell ?_ (by simp <;> omega) _)
  exact below2 w _ _

set_option maxRecDepth 100000 in
set_option maxHeartbeats 8000000 in
theorem of_leaf8 (d : Nat) (fold lazy : Bool) (mn mx cap : Int) (name : ByteArray) (ro so : Option Addr) (rn rc sn sc : Nat) (w : World) :
    Calls Try.prog 42 #[.agg #[.int .i64 8, .bool fold, .bool lazy, .int .i64 mn, .int .i64 mx, .int .i64 cap, .string name, .slice ro rn rc, .slice so sn sc]] w (LeafPost d 7 w) := by
  go_enter Try.func42, Try.ntmps42
  go_wp2
  refine bodyPost_ret (v := .agg #[.int .i64 7, .slice none 0 0, .bool false, .int .i64 0, .int .i64 0, .bool false, .int .i64 0, .string { data := #[] }, .int .i64 1, .slice none 0 0]) (by simp [results, Try.results42, go_sem]) rfl ⟨⟨[.int .i64 7, .slice none 0 0, .bool false, .int .i64 0, .int .i64 0, .bool false, .int .i64 0, .string { data := #[] }, .int .i64 1, .slice none 0 0], rfl, ReRep.leaf⟩, ?_⟩
  repeat (refine Below.setCell ?_ (by simp <;> omega) _)
  exact below2 w _ _

set_option maxRecDepth 100000 in
set_option maxHeartbeats 8000000 in
theorem of_leaf9 (d : Nat) (fold lazy : Bool) (mn mx cap : Int) (name : ByteArray) (ro so : Option Addr) (rn rc sn sc : Nat) (w : World) :
    Calls Try.prog 42 #[.agg #[.int .i64 9, .bool fold, .bool lazy, .int .i64 mn, .int .i64 mx, .int .i64 cap, .string name, .slice ro rn rc, .slice so sn sc]] w (LeafPost d 7 w) := by
  go_enter Try.func42, Try.ntmps42
  go_wp2
  refine bodyPost_ret (v := .agg #[.int .i64 7, .slice none 0 0, .bool false, .int .i64 0, .int .i64 0, .bool false, .int .i64 0, .string { data := #[] }, .int .i64 2, .slice none 0 0]) (by simp [results, Try.results42, go_sem]) rfl ⟨⟨[.int .i64 7, .slice none 0 0, .bool false, .int .i64 0, .int .i64 0, .bool false, .int .i64 0, .string { data := #[] }, .int .i64 2, .slice none 0 0], rfl, ReRep.leaf⟩, ?_⟩
  repeat (refine Below.setCell ?_ (by simp <;> omega) _)
  exact below2 w _ _

set_option maxRecDepth 100000 in
set_option maxHeartbeats 8000000 in
theorem of_leaf10 (d : Nat) (fold lazy : Bool) (mn mx cap : Int) (name : ByteArray) (ro so : Option Addr) (rn rc sn sc : Nat) (w : World) :
    Calls Try.prog 42 #[.agg #[.int .i64 10, .bool fold, .bool lazy, .int .i64 mn, .int .i64 mx, .int .i64 cap, .string name, .slice ro rn rc, .slice so sn sc]] w (LeafPost d 7 w) := by
  go_enter Try.func42, Try.ntmps42
  go_wp2
  refine bodyPost_ret (v := .agg #[.int .i64 7, .slice none 0 0, .bool false, .int .i64 0, .int .i64 0, .bool false, .int .i64 0, .string { data := #[] }, .int .i64 3, .slice none 0 0]) (by simp [results, Try.results42, go_sem]) rfl ⟨⟨[.int .i64 7, .slice none 0 0, .bool false, .int .i64 0, .int .i64 0, .bool false, .int .i64 0, .string { data := #[] }, .int .i64 3, .slice none 0 0], rfl, ReRep.leaf⟩, ?_⟩
  repeat (refine Below.setCell ?_ (by simp <;> omega) _)
  exact below2 w _ _

set_option maxRecDepth 100000 in
set_option maxHeartbeats 8000000 in
theorem of_leaf11 (d : Nat) (fold lazy : Bool) (mn mx cap : Int) (name : ByteArray) (ro so : Option Addr) (rn rc sn sc : Nat) (w : World) :
    Calls Try.prog 42 #[.agg #[.int .i64 11, .bool fold, .bool lazy, .int .i64 mn, .int .i64 mx, .int .i64 cap, .string name, .slice ro rn rc, .slice so sn sc]] w (LeafPost d 7 w) := by
  go_enter Try.func42, Try.ntmps42
  go_wp2
  refine bodyPost_ret (v := .agg #[.int .i64 7, .slice none 0 0, .bool false, .int .i64 0, .int .i64 0, .bool false, .int .i64 0, .string { data := #[] }, .int .i64 4, .slice none 0 0]) (by simp [results, Try.results42, go_sem]) rfl ⟨⟨[.int .i64 7, .slice none 0 0, .bool false, .int .i64 0, .int .i64 0, .bool false, .int .i64 0, .string { data := #[] }, .int .i64 4, .slice none 0 0], rfl, ReRep.leaf⟩, ?_⟩
  repeat (refine Below.setCell ?_ (by simp <;> omega) _)
  exact below2 w _ _

set_option maxRecDepth 100000 in
set_option maxHeartbeats 8000000 in
theorem of_leaf12 (d : Nat) (fold lazy : Bool) (mn mx cap : Int) (name : ByteArray) (ro so : Option Addr) (rn rc sn sc : Nat) (w : World) :
    Calls Try.prog 42 #[.agg #[.int .i64 12, .bool fold, .bool lazy, .int .i64 mn, .int .i64 mx, .int .i64 cap, .string name, .slice ro rn rc, .slice so sn sc]] w (LeafPost d 7 w) := by
  go_enter Try.func42, Try.ntmps42
  go_wp2
  refine bodyPost_ret (v := .agg #[.int .i64 7, .slice none 0 0, .bool false, .int .i64 0, .int .i64 0, .bool false, .int .i64 0, .string { data := #[] }, .int .i64 5, .slice none 0 0]) (by simp [results, Try.results42, go_sem]) rfl ⟨⟨[.int .i64 7, .slice none 0 0, .bool false, .int .i64 0, .int .i64 0, .bool false, .int .i64 0, .string { data := #[] }, .int .i64 5, .slice none 0 0], rfl, ReRep.leaf⟩, ?_⟩
  repeat (refine Below.setCell ?_ (by simp <;> omega) _)
  exact below2 w _ _

/-- At each of them. -/
theorem of_leaf (S : Nat → Prop) (d : Nat) (nd : Nd) (cs : List Value) (w : World) (h : Rep w S (d + 1) nd cs) (h2 : 2 ≤ nd.op) (h3 : nd.op ≠ 3) (h12 : nd.op ≤ 12) :
    Calls Try.prog 42 #[.agg cs.toArray] w fun e w' => (∃ cs', e = .returned (.agg cs'.toArray) ∧ ReRep w' (fun b => w.heap.size ≤ b ∧ b < w'.heap.size) (d + 2) (ofF (d + 1) nd) cs') ∧ Below w.heap.size w w' := by
  obtain ⟨ro, rc, so, sc, rfl, _⟩ := h.open
  have hop : nd.op = 2 ∨ nd.op = 4 ∨ nd.op = 5 ∨ nd.op = 6 ∨ nd.op = 7 ∨ nd.op = 8 ∨ nd.op = 9 ∨ nd.op = 10 ∨ nd.op = 11 ∨ nd.op = 12 := by omega
  rcases hop with hop | hop | hop | hop | hop | hop | hop | hop | hop | hop
  · rw [show ofF (d + 1) nd = .mk 1 0 0 [] from by simp [ofF, hop], hop]; exact of_leaf2 (d + 1) _ _ _ _ _ _ _ _ _ _ _ _ w
  · rw [show ofF (d + 1) nd = .mk 2 0 0 [] from by simp [ofF, hop], hop]; exact of_leaf4 (d + 1) _ _ _ _ _ _ _ _ _ _ _ _ w
  · rw [show ofF (d + 1) nd = .mk 2 0 0 [] from by simp [ofF, hop], hop]; exact of_leaf5 (d + 1) _ _ _ _ _ _ _ _ _ _ _ _ w
  · rw [show ofF (d + 1) nd = .mk 2 0 0 [] from by simp [ofF, hop], hop]; exact of_leaf6 (d + 1) _ _ _ _ _ _ _ _ _ _ _ _ w
  · rw [show ofF (d + 1) nd = .mk 7 0 0 [] from by simp [ofF, hop], hop]; exact of_leaf7 (d + 1) _ _ _ _ _ _ _ _ _ _ _ _ w
  · rw [show ofF (d + 1) nd = .mk 7 0 0 [] from by simp [ofF, hop], hop]; exact of_leaf8 (d + 1) _ _ _ _ _ _ _ _ _ _ _ _ w
  · rw [show ofF (d + 1) nd = .mk 7 0 0 [] from by simp [ofF, hop], hop]; exact of_leaf9 (d + 1) _ _ _ _ _ _ _ _ _ _ _ _ w
  · rw [show ofF (d + 1) nd = .mk 7 0 0 [] from by simp [ofF, hop], hop]; exact of_leaf10 (d + 1) _ _ _ _ _ _ _ _ _ _ _ _ w
  · rw [show ofF (d + 1) nd = .mk 7 0 0 [] from by simp [ofF, hop], hop]; exact of_leaf11 (d + 1) _ _ _ _ _ _ _ _ _ _ _ _ w
  · rw [show ofF (d + 1) nd = .mk 7 0 0 [] from by simp [ofF, hop], hop]; exact of_leaf12 (d + 1) _ _ _ _ _ _ _ _ _ _ _ _ w
end Go.Proofs.Ytejhffcjamdffaa
