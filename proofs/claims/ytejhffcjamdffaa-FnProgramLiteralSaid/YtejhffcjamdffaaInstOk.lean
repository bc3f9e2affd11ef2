/-
  The contract of the specification's instOk: true of right instructions alone. No conditions beside those typed.
-/
import Derived.Test.YtejhffcjamdffaaPlain
import Derived.Test.YtejhffcjamdffaaPairsFew
namespace Go.Proofs.Ytejhffcjamdffaa
open Go.RowKit

theorem ok_of {n : Nat} {i : I} (ops : 0 ≤ i.op ∧ i.op ≤ 10 ∧ i.op ≠ 1) (out : i.op ≠ 4 → i.op ≠ 5 → 0 ≤ i.out ∧ i.out < n) (outz : i.op = 4 ∨ i.op = 5 → i.out = 0)
    (arg0 : i.op = 0 → 0 ≤ i.arg ∧ i.arg < n) (arg2 : i.op = 2 → 0 ≤ i.arg ∧ i.arg < 100) (arg3 : i.op = 3 → i.arg = 1 ∨ i.arg = 2 ∨ i.arg = 4 ∨ i.arg = 8 ∨ i.arg = 16 ∨ i.arg = 32) (argz : 4 ≤ i.op → i.arg = 0)
    (runes : i.op ≠ 7 → i.op ≠ 8 → i.runes.length = 0) (runes7 : i.op = 7 → 2 ≤ i.runes.length ∧ i.runes.length ≤ 16) (runes8 : i.op = 8 → ∃ z, i.runes = [z] ∧ 0 ≤ z ∧ z ≤ 1114111) : InstP n i :=
  ⟨ops, out, outz, arg0, arg2, arg3, argz, fun h h' => List.length_eq_zero_iff.1 (runes h h'), runes7, runes8⟩

theorem below_dr {B : Nat} {a w : World} (h : Below B a w) (m : Nat) : Below B a (w.drewN m) := ⟨h.os, h.tape, h.output, h.size, h.block⟩

/-- A Boolean, true of right instructions alone. -/
def OkInst (n : Nat) (i : I) (w : World) (e : Ending) (w' : World) : Prop := (∃ b : Bool, e = .returned (.bool b) ∧ (b = true → InstP n i)) ∧ Below w.heap.size w w'

/-- Classes of operators of instructions. -/
theorem inst_classes (o : Int) : o = 0 ∨ o = 2 ∨ o = 3 ∨ o = 4 ∨ o = 5 ∨ o = 7 ∨ o = 8 ∨ o = 6 ∨ o = 9 ∨ o = 10 ∨
    ((o == 0) = false ∧ (o == 2) = false ∧ (o == 3) = false ∧ (o == 4) = false ∧ (o == 5) = false ∧ (o == 7) = false ∧ (o == 8) = false ∧ (o == 6) = false ∧ (o == 9) = false ∧ (o == 10) = false) := by
  simp only [beq_eq_false_iff_ne, ne_eq]
  omega

set_option maxRecDepth 100000 in
set_option maxHeartbeats 4000000 in
theorem instok_plain (o u a : Int) (zs : List Int) (ro : Option Addr) (l rc n : Nat) (w : World) (hl : l = zs.length) (ho : o = 0 ∨ o = 2 ∨ o = 3 ∨ o = 4 ∨ o = 5 ∨ o = 6 ∨ o = 9 ∨ o = 10) :
    Calls Try.prog 58 #[.agg #[.int .i64 o, .int .i64 u, .int .i64 a, .slice ro l rc], .int .i64 n] w (OkInst n ⟨o, u, a, zs⟩ w) := by
  have HL : Hid (zs.length = l) := hl.symm
  clear hl
  rcases ho with rfl | rfl | rfl | rfl | rfl | rfl | rfl | rfl
  all_goals as_aux_lemma =>
    go_enter Try.func58, Try.ntmps58
    go_wp2
    all_goals
      go_ret
      refine ⟨⟨_, rfl, fun h => ?_⟩, below1 w _⟩
      first
        | contradiction
        | (have hz := HL.out
           simp at h
           refine ok_of ?_ ?_ ?_ ?_ ?_ ?_ ?_ ?_ ?_ ?_ <;> dsimp only <;> omega)
end Go.Proofs.Ytejhffcjamdffaa
