/-
  The ways of the specification's walk behind its mark. Conditions: as WalkOn has them.
-/
import Derived.Test.YtejhffcjamdffaaWalk
namespace Go.Proofs.Ytejhffcjamdffaa
open Go.RowKit

/-- The world behind the mark, and what the walk reads there. -/
structure Marked (is : List I) (ts : List Int) (lv tv : Value) (base g o n gc m : Nat) (bs : List Nat) (k p : Nat) (rows : List (List Bool)) (out : List Bool) (w : World) (i : I) (b bl off lc : Nat) (ro : Option Addr) (rc : Nat) : Prop where
  kn : k < n
  pT : p < ts.length + 1
  cg : w.cell? ⟨g, k, none⟩ = some (.slice (some ⟨b, 0, none⟩) (ts.length + 1 : Nat) (ts.length + 1 : Nat))
  cb : w.cell? ⟨b, p, none⟩ = some (.bool false)
  fb : w.frozen? ⟨b, p, none⟩ = false
  lve : lv = .slice (some ⟨bl, off, none⟩) n lc
  c0 : w.cell? ⟨bl, off + k * 4, none⟩ = some (.int .i64 i.op)
  c1 : w.cell? ⟨bl, off + k * 4 + 1, none⟩ = some (.int .i64 i.out)
  c2 : w.cell? ⟨bl, off + k * 4 + 2, none⟩ = some (.int .i64 i.arg)
  c3 : w.cell? ⟨bl, off + k * 4 + 3, none⟩ = some (.slice ro i.runes.length rc)
  run : Runes w (.slice ro i.runes.length rc) i.runes
  rbd : Wd base (.slice ro i.runes.length rc)
  ne : b ≠ bl
  ob : MarksAt w o out
  on : ∀ W, w.setCell ⟨b, p, none⟩ (.bool true) = W → ∃ rows1, unseen rows1 + 1 = unseen rows ∧ WalkOn is ts lv tv base g o n gc m bs k p rows1 out W i ∧ Below base w W ∧ Kept bs o w W

set_option maxRecDepth 100000 in
set_option maxHeartbeats 4000000 in
/-- An instruction that passes on. -/
theorem walk_pass {is : List I} {ts : List Int} {lv tv : Value} {base g o n gc m k p b bl off lc rc : Nat} {bs : List Nat} {rows : List (List Bool)} {out : List Bool} {w : World} {i : I} {ro : Option Addr}
    (h : Marked is ts lv tv base g o n gc m bs k p rows out w i b bl off lc ro rc) (ho : i.op = 2 ∨ i.op = 6) :
    Calls Try.prog 61 #[lv, .int .i64 k, tv, .int .i64 p, .slice (some ⟨g, 0, none⟩) n gc, .slice (some ⟨o, 0, none⟩) (ts.length + 1 : Nat) (ts.length + 1 : Nat)] w (WalkPost base g o n (ts.length + 1) bs rows out is ts k p w) := by
  obtain ⟨rows1, hu, hon, hbel, hkept⟩ := h.on _ rfl
  have hi := hon.inn.ok i (List.mem_of_getElem? hon.get)
  obtain ⟨q, hq, hqn, hqt⟩ := out_of hi (by omega) (by omega)
  have kn := h.kn
  have pT := h.pT
  have cg := h.cg
  have cb := h.cb
  have fb := h.fb
  have lve := h.lve
  have c0 := h.c0
  have c1 := h.c1
  have c2 := h.c2
  have c3 := h.c3
  have ne := h.ne
  have HCall : Hid (∀ ob : Obj, Calls Try.prog 61 #[lv, .int .i64 q, tv, .int .i64 p, .slice (some ⟨g, 0, none⟩) n gc, .slice (some ⟨o, 0, none⟩) (ts.length + 1 : Nat) (ts.length + 1 : Nat)] ((w.setCell ⟨b, p, none⟩ (.bool true)).alloc ob) (WalkPost base g o n (ts.length + 1) bs rows1 out is ts q p ((w.setCell ⟨b, p, none⟩ (.bool true)).alloc ob))) := fun ob =>
    hon.call ((Below.refl base _).alloc hon.size ob) (Nat.le_refl _) (hon.at'.below (below1 _ ob)) q p hqn hon.place
  have HReach : Hid (∀ e, Reach is ts q p e → Reach is ts k p e) := fun e he => .pass hon.get ho (by rw [hqt]; exact he)
  have HBel := Lib.hid hbel
  have HU := Lib.hid hu
  have HKp := Lib.hid hkept
  have HSz := Lib.hid hon.size
  rw [hq] at c1
  subst lve
  generalize hT : ts.length + 1 = T at *
  clear h hon hi hq hqt hbel hu hT hkept
  rcases ho with ho | ho
  all_goals
    rw [ho] at c0
    clear ho
    go_enter Try.func61, Try.ntmps61
    go_wp2_with (go_at_call 61; refine (HCall.out _).mono ?_; rintro e w1 ⟨rfl, ⟨rows', out', hat, hle, hhit⟩, hb1, hk1⟩)
    refine bodyPost_ret (results_none rfl _ _ _) rfl ⟨rfl, ⟨rows', out', hat, by have := HU.out; omega, hits_mono hhit HReach.out⟩, HBel.out.trans (((Below.refl base _).alloc HSz.out _).trans hb1), HKp.out.trans ((Kept.of_below (below1 _ _)).trans hk1)⟩
end Go.Proofs.Ytejhffcjamdffaa
