/-
  The contracts of the package's op and skipNop over a right program in memory. No conditions beside those typed.
-/
import Derived.Test.YtejhffcjamdffaaPlainPref
import Derived.Test.YtejhffcjamdffaaEqQ
import Derived.Test.YtejhffcjamdffaaInstOk
import Derived.Deep.LoopGhost
namespace Go.Proofs.Ytejhffcjamdffaa
open Go.RowKit

/-- A right program of the package in memory below block B. -/
structure PkAt (w : World) (B g gr cap : Nat) (start : Int) (is : List I) : Prop where
  gB : g < B
  grB : gr < B
  c0 : w.cell? ⟨g, 0, none⟩ = some (.slice (some ⟨gr, 0, none⟩) is.length cap)
  c1 : w.cell? ⟨g, 1, none⟩ = some (.int .i64 start)
  cells : ∀ (k : Nat) (i : I), is[k]? = some i → ∃ ro rc, w.cell? ⟨gr, k * 4, none⟩ = some (.int .u8 i.op) ∧ w.cell? ⟨gr, k * 4 + 1, none⟩ = some (.int .u32 i.out) ∧ w.cell? ⟨gr, k * 4 + 2, none⟩ = some (.int .u32 i.arg) ∧ w.cell? ⟨gr, k * 4 + 3, none⟩ = some (.slice ro i.runes.length rc) ∧ Runes w (.slice ro i.runes.length rc) i.runes ∧ Wd B (.slice ro i.runes.length rc)
  ok : ∀ i, i ∈ is → InstP is.length i
  few : is.length ≤ 60

theorem PkAt.below {w w' : World} {B g gr cap : Nat} {start : Int} {is : List I} (h : PkAt w B g gr cap start is) (hb : Below B w w') : PkAt w' B g gr cap start is :=
  ⟨h.gB, h.grB, (hb.cell (p := ⟨g, 0, none⟩) h.gB).trans h.c0, (hb.cell (p := ⟨g, 1, none⟩) h.gB).trans h.c1, fun k i hk => by
    obtain ⟨ro, rc, d0, d1, d2, d3, hr, hw⟩ := h.cells k i hk
    exact ⟨ro, rc, (hb.cell (p := ⟨gr, _, none⟩) h.grB).trans d0, (hb.cell (p := ⟨gr, _, none⟩) h.grB).trans d1, (hb.cell (p := ⟨gr, _, none⟩) h.grB).trans d2, (hb.cell (p := ⟨gr, _, none⟩) h.grB).trans d3, RowN.belowW hr hb hw, hw⟩, h.ok, h.few⟩

/-- What progOf has laid. -/
theorem PkAt.of {w : World} {base g : Nat} {start : Int} {is : List I} (h : ProgAt w base g start is) (hok : ∀ i, i ∈ is → InstP is.length i) (hf : is.length ≤ 60) (hne : is ≠ []) : ∃ gr cap, PkAt w w.heap.size g gr cap start is := by
  obtain ⟨v, cs, hg, hrow⟩ := h
  obtain ⟨gr, cap, rfl, hc⟩ := hrow.cells hne
  obtain ⟨gr', cap', hv, _, hlt⟩ := hrow.1.form (List.length_pos_iff.2 hne)
  injection hv with e1 _ _
  injection e1 with e1
  injection e1 with e1 _ _
  subst e1
  refine ⟨gr, cap, (Array.getElem?_eq_some_iff.1 hg).1, hlt, by rw [cell_of_row w _ _ _ _ _ hg]; rfl, by rw [cell_of_row w _ _ _ _ _ hg]; rfl, fun k i hk => ?_, hok, hf⟩
  obtain ⟨rv, d0, d1, d2, d3, hown⟩ := hc k i hk
  have hi := hok i (List.mem_of_getElem? hk)
  obtain ⟨ro, rc, rfl⟩ := owns_slice hown
  have ho := hi.ops
  have e1 : IntKind.u8.wrap i.op = i.op := small_u8 ho.1 (by omega)
  have e2 : IntKind.u32.wrap i.out = i.out := by
    by_cases h45 : i.op = 4 ∨ i.op = 5
    · rw [hi.outz h45]; rfl
    · have := hi.out (by omega) (by omega)
      exact small_u32 this.1 (by omega)
  have e3 : IntKind.u32.wrap i.arg = i.arg := by
    by_cases h4 : 4 ≤ i.op
    · rw [hi.argz h4]; rfl
    · have hx : i.op = 0 ∨ i.op = 2 ∨ i.op = 3 := by omega
      rcases hx with h0 | h0 | h0
      · have := hi.arg0 h0
        exact small_u32 this.1 (by omega)
      · have := hi.arg2 h0
        exact small_u32 this.1 (by omega)
      · have := hi.arg3 h0
        exact small_u32 (by omega) (by omega)
  rw [e1] at d0
  rw [e2] at d1
  rw [e3] at d2
  exact ⟨ro, rc, d0, d1, d2, d3, RowN.of_owns hown, (Bd.of_owns hown).wd⟩

def opM (o : Int) : Int := if o = 8 ∨ o = 9 ∨ o = 10 then 7 else o

set_option maxHeartbeats 2000000 in
theorem op_any (b off : Nat) (o : Int) (w : World) (c0 : w.cell? ⟨b, off, none⟩ = some (.int .u8 o)) :
    Calls Try.prog 84 #[.pointer (some ⟨b, off, none⟩)] w fun e w' => e = .returned (.int .u8 (opM o)) ∧ w = w' := by
  by_cases h8 : o = 8
  · subst h8
    go_enter Try.func84, Try.ntmps84
    go_wp2
    go_ret
    exact ⟨rfl, rfl⟩
  by_cases h9 : o = 9
  · subst h9
    go_enter Try.func84, Try.ntmps84
    go_wp2
    go_ret
    exact ⟨rfl, rfl⟩
  by_cases h10 : o = 10
  · subst h10
    go_enter Try.func84, Try.ntmps84
    go_wp2
    go_ret
    exact ⟨rfl, rfl⟩
  have e8 : (o == 8) = false := by simpa using h8
  have e9 : (o == 9) = false := by simpa using h9
  have e10 : (o == 10) = false := by simpa using h10
  have HO : Hid (opM o = o) := if_neg (by omega)
  clear h8 h9 h10
  go_enter Try.func84, Try.ntmps84
  go_wp2
  go_ret
  exact ⟨ret_int HO.out.symm, rfl⟩

set_option maxRecDepth 100000 in
set_option maxHeartbeats 4000000 in
theorem skip_any (is : List I) (start : Int) (f k q B g gr cap : Nat) (w : World) (h : PkAt w B g gr cap start is) (hs : skipN is f k = some q) :
    Calls Try.prog 83 #[.pointer (some ⟨g, 0, none⟩), .int .u32 k] w (Quiet (.pointer (some ⟨gr, q * 4, none⟩)) w) := by
  have hk := (skip_lt is f k q hs).1
  have c0 := h.c0
  have hfew := h.few
  have HC := Lib.hid h.cells
  have HOk := Lib.hid h.ok
  have HS := Lib.hid hs
  clear h hs
  generalize hN : is.length = n at *
  have HN := Lib.hid hN
  clear hN
  go_enter Try.func83, Try.ntmps83
  go_wp2
  go_loopg [5] f (fun j p wr => ∃ k' m : Nat, p = .pointer (some ⟨gr, k' * 4, none⟩) ∧ k' < n ∧ Hid (skipN is j k' = some q) ∧ w.drewN m = wr)
  case atStart => exact ⟨k, 0, rfl, hk, HS.out, rfl⟩
  case round =>
    obtain ⟨k', m, rfl, hk', hsk, rfl⟩ := hrel
    cases gk with
    | zero => exact absurd hsk.out (by simp [skipN])
    | succ j =>
      obtain ⟨i, hik⟩ : ∃ i, is[k']? = some i := ⟨is[k']'(by rw [HN.out]; exact hk'), List.getElem?_eq_getElem _⟩
      obtain ⟨ro, rc, d0, d1, d2, d3, _, _⟩ := HC.out k' i hik
      have hi := HOk.out i (List.mem_of_getElem? hik)
      have hsk2 := hsk.out
      rw [skipN, hik] at hsk2
      dsimp only at hsk2
      clear hsk d2 d3
      by_cases h26 : i.op = 6 ∨ i.op = 2
      · rw [if_pos h26] at hsk2
        have hout := hi.out (by omega) (by omega)
        obtain ⟨q2, hq2⟩ : ∃ q2 : Nat, i.out = (q2 : Int) := ⟨i.out.toNat, by omega⟩
        rw [hq2] at d1 hsk2
        rw [Int.toNat_natCast] at hsk2
        have hlt2 : q2 < n := by have := hout.2; omega
        have b0 : (0 : Int) ≤ (q2 : Int) := by omega
        have b1 : (q2 : Int) < (n : Int) := by omega
        have HSk := Lib.hid hsk2
        clear hik hi hout hq2 hsk2
        rcases h26 with ho | ho
        all_goals
          rw [ho] at d0
          clear ho
          go_wp2_with fail
          go_quiet (fail)
          go_wp2
          go_roundg j
          case measure => omega
          case rel => exact ⟨q2, m + nq, rfl, hlt2, HSk.out, by rw [World.drewN_drewN]⟩
      · rw [if_neg h26] at hsk2
        injection hsk2 with hsk2
        subst hsk2
        have e6 : (i.op == 6) = false := by simp; omega
        have e2 : (i.op == 2) = false := by simp; omega
        generalize i.op = o at *
        clear hik hi h26
        go_wp2
        go_ret
        exact ⟨rfl, m, rfl⟩
end Go.Proofs.Ytejhffcjamdffaa
