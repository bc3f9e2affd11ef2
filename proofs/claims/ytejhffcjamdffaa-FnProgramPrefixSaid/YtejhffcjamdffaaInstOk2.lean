/-
  The contract of the specification's instOk at instructions that take runes; at any one. No conditions beside those typed.
-/
import Derived.Test.YtejhffcjamdffaaInstOk
namespace Go.Proofs.Ytejhffcjamdffaa
open Go.RowKit

set_option maxRecDepth 100000 in
set_option maxHeartbeats 4000000 in
theorem instok_none (o u a : Int) (zs : List Int) (ro : Option Addr) (l rc n : Nat) (w : World) (ho : (o == 0) = false ∧ (o == 2) = false ∧ (o == 3) = false ∧ (o == 4) = false ∧ (o == 5) = false ∧ (o == 7) = false ∧ (o == 8) = false ∧ (o == 6) = false ∧ (o == 9) = false ∧ (o == 10) = false) :
    Calls Try.prog 58 #[.agg #[.int .i64 o, .int .i64 u, .int .i64 a, .slice ro l rc], .int .i64 n] w (OkInst n ⟨o, u, a, zs⟩ w) := by
  obtain ⟨h0, h2, h3, h4, h5, h7, h8, h6, h9, h10⟩ := ho
  by_cases hu : 0 ≤ u
  · go_enter Try.func58, Try.ntmps58
    go_wp2
    go_ret
    exact ⟨⟨_, rfl, fun h => by cases h⟩, below1 w _⟩
  · have hu' : decide (0 ≤ u) = false := by simpa using hu
    go_enter Try.func58, Try.ntmps58
    go_wp2
    go_ret
    exact ⟨⟨_, rfl, fun h => by cases h⟩, below1 w _⟩

set_option maxRecDepth 100000 in
set_option maxHeartbeats 4000000 in
theorem instok_seven (u a : Int) (zs : List Int) (rv : Value) (n : Nat) (w : World) (hr : Runes w rv zs) (hb : Wd w.heap.size rv) (hl : zs.length * 4 ≤ 140737488351232) :
    Calls Try.prog 58 #[.agg #[.int .i64 7, .int .i64 u, .int .i64 a, rv], .int .i64 n] w (OkInst n ⟨7, u, a, zs⟩ w) := by
  obtain ⟨ro, rc, rfl⟩ := rowN_slice hr
  have HR := Lib.hid hr
  have HBd := Lib.hid hb
  clear hr hb
  generalize hL : zs.length = l at *
  have HL := Lib.hid hL
  clear hL
  go_enter Try.func58, Try.ntmps58
  go_wp2_with (go_at_call 78; refine (pairs_few _ zs _ (RowN.belowW HR.out (below1 w _) HBd.out) (by rw [HL.out]; omega)).mono ?_; rintro e w1 ⟨⟨b1, rfl, hb1⟩, m, rfl⟩)
  all_goals
    go_ret
    first
      | (refine ⟨⟨_, rfl, fun h => ?_⟩, below1 w _⟩
         contradiction)
      | (refine ⟨⟨_, rfl, fun h => ?_⟩, below_dr (below1 w _) _⟩
         have hz := HL.out
         have hf := hb1 h
         refine ok_of ?_ ?_ ?_ ?_ ?_ ?_ ?_ ?_ ?_ ?_ <;> dsimp only <;> omega)

set_option maxRecDepth 100000 in
set_option maxHeartbeats 4000000 in
theorem instok_eight (u a : Int) (zs : List Int) (rv : Value) (n : Nat) (w : World) (hr : Runes w rv zs) (hb : Wd w.heap.size rv) (hl : zs.length * 4 ≤ 140737488351232) :
    Calls Try.prog 58 #[.agg #[.int .i64 8, .int .i64 u, .int .i64 a, rv], .int .i64 n] w (OkInst n ⟨8, u, a, zs⟩ w) := by
  obtain ⟨ao, cap, rfl, hz⟩ := hr.open
  have HB : Hid (zs.length = 1 → ∃ b off z, ao = some ⟨b, off, none⟩ ∧ b < w.heap.size ∧ zs = [z] ∧ w.cell? ⟨b, off, none⟩ = some (.int .i32 z)) := fun h1 => by
    rcases hz with h0 | ⟨b, off, rfl, hc⟩
    · rw [h0] at h1; cases h1
    · match zs, h1, hc with
      | [z], _, hc => exact ⟨b, off, z, rfl, hb.lt (by simp), rfl, by have := hc 0 z rfl; simpa using this⟩
  clear hr hb hz
  generalize hL : zs.length = l at *
  have HL := Lib.hid hL
  clear hL
  by_cases h1 : l = 1
  · obtain ⟨b, off, z, rfl, hlt, hz, hc⟩ := HB.out h1
    subst h1
    have HZ := Lib.hid hz
    clear HB hz
    go_enter Try.func58, Try.ntmps58
    go_wp2_with (go_at_call 77; refine (strange_any _ _).mono ?_; rintro e w1 ⟨rfl, rfl⟩)
    all_goals
      go_ret
      refine ⟨⟨_, rfl, fun h => ?_⟩, below1 w _⟩
      first
        | contradiction
        | (have hs : strangeB z = false := by simpa using h
           simp only [strangeB, Bool.or_eq_false_iff, decide_eq_false_iff_not] at hs
           have hz2 := HL.out
           refine ok_of ?_ ?_ ?_ ?_ ?_ ?_ ?_ ?_ ?_ ?_ <;> dsimp only <;> first | omega | exact fun _ => ⟨z, HZ.out, by omega, by omega⟩)
  · have hb : ((l : Int) == 1) = false := by simp; omega
    clear HB
    go_enter Try.func58, Try.ntmps58
    go_wp2_with fail
    all_goals
      go_ret
      refine ⟨⟨_, rfl, fun h => ?_⟩, below1 w _⟩
      contradiction

theorem instok_any (i : I) (rv : Value) (n : Nat) (w : World) (hr : Runes w rv i.runes) (hb : Wd w.heap.size rv) (hl : i.runes.length * 4 ≤ 140737488351232) :
    Calls Try.prog 58 #[.agg #[.int .i64 i.op, .int .i64 i.out, .int .i64 i.arg, rv], .int .i64 n] w (OkInst n i w) := by
  obtain ⟨o, u, a, zs⟩ := i
  dsimp only at *
  obtain ⟨ro, rc, rfl⟩ := rowN_slice hr
  rcases inst_classes o with h | h | h | h | h | h | h | h | h | h | h
  all_goals first
    | exact instok_none o u a zs ro _ rc n w h
    | (subst h; exact instok_seven u a zs _ n w hr hb hl)
    | (subst h; exact instok_eight u a zs _ n w hr hb hl)
    | exact instok_plain o u a zs ro _ rc n w rfl (by omega)
end Go.Proofs.Ytejhffcjamdffaa
