/-
  The contract of the package's StartCond over a program in memory: it returns what the plain function 'scond' returns where that comes to an end. No conditions beside those typed.
-/
import Derived.Test.YtejhffcjamdffaaProgOf
import Derived.Deep.LoopGhost
namespace Go.Proofs.Ytejhffcjamdffaa
open Go.RowKit

/-- The conditions from instruction pc on, as the package gathers them; none where the way does not end within so many steps, or leaves the program. -/
def scond (is : List I) : Nat → Nat → Int → Option Int
  | 0, _, _ => none
  | f + 1, pc, flag => match is[pc]? with
    | none => none
    | some i =>
      if IntKind.u8.wrap i.op = 3 then scond is f (IntKind.u32.wrap i.out).toNat (bits BinOp.or IntKind.u8 flag (IntKind.u8.wrap (IntKind.u32.wrap i.arg)))
      else if IntKind.u8.wrap i.op = 5 then some 255
      else if IntKind.u8.wrap i.op = 2 ∨ IntKind.u8.wrap i.op = 6 then scond is f (IntKind.u32.wrap i.out).toNat flag
      else some flag

theorem scond_lt {is : List I} {f k : Nat} {flag r : Int} (h : scond is f k flag = some r) : k < is.length := by
  cases f with
  | zero => simp [scond] at h
  | succ f =>
    by_cases hlt : k < is.length
    · exact hlt
    · rw [scond, List.getElem?_eq_none (by omega)] at h; cases h

theorem u32_bd (n : Int) : 0 ≤ IntKind.u32.wrap n ∧ IntKind.u32.wrap n < 4294967296 := by
  simp [IntKind.wrap, IntKind.bits, IntKind.signed]
  omega

theorem InstRow.cells {w : World} {base : Nat} {v : Value} {is : List I} {cs : List Value} (h : InstRow w base v is cs) (hne : is ≠ []) :
    ∃ gr cap, v = .slice (some ⟨gr, 0, none⟩) is.length cap ∧ ∀ k i, is[k]? = some i → ∃ rv, w.cell? ⟨gr, k * 4, none⟩ = some (.int .u8 (IntKind.u8.wrap i.op)) ∧ w.cell? ⟨gr, k * 4 + 1, none⟩ = some (.int .u32 (IntKind.u32.wrap i.out)) ∧
      w.cell? ⟨gr, k * 4 + 2, none⟩ = some (.int .u32 (IntKind.u32.wrap i.arg)) ∧ w.cell? ⟨gr, k * 4 + 3, none⟩ = some rv ∧ OwnRunes w base rv i.runes := by
  have hpos : 0 < is.length := List.length_pos_iff.2 hne
  obtain ⟨gr, cap, rfl, _, _⟩ := h.1.form hpos
  refine ⟨gr, cap, rfl, fun k i hi => ?_⟩
  have hcell : ∀ j u, cs[j]? = some u → w.cell? ⟨gr, j, none⟩ = some u := fun j u hu => by
    have := World.ownsRow.cells h.1 (g := gr) rfl j u hu
    rw [show ((⟨gr, 0, none⟩ : Addr).add j) = ⟨gr, j, none⟩ from by unfold Addr.add; split <;> simp_all] at this
    exact this
  obtain ⟨rv, h0, h1, h2, h3, h4⟩ := h.2 k i hi
  exact ⟨rv, hcell _ _ h0, hcell _ _ h1, hcell _ _ h2, hcell _ _ h3, h4⟩

set_option maxRecDepth 100000 in
set_option maxHeartbeats 4000000 in
theorem start_cond (is : List I) (start r : Int) (fuel base g : Nat) (w : World) (hn : is.length ≤ 1000) (h : ProgAt w base g start is) (hs : scond is fuel (IntKind.u32.wrap start).toNat 0 = some r) :
    Calls Try.prog 51 #[.pointer (some ⟨g, 0, none⟩)] w fun e w' => e = .returned (.int .u8 r) ∧ w = w' := by
  obtain ⟨v, cs, hg, hrow⟩ := h
  obtain ⟨p, hp⟩ : ∃ p : Nat, p = (IntKind.u32.wrap start).toNat := ⟨_, rfl⟩
  have hp' : IntKind.u32.wrap start = (p : Int) := by have := u32_bd start; omega
  rw [← hp] at hs
  have hne : is ≠ [] := by
    rintro rfl
    cases fuel with
    | zero => simp [scond] at hs
    | succ f => simp [scond] at hs
  have hlt : p < is.length := by
    cases fuel with
    | zero => simp [scond] at hs
    | succ f =>
      by_cases hlt : p < is.length
      · exact hlt
      · rw [scond, List.getElem?_eq_none (by omega)] at hs; cases hs
  obtain ⟨gr, cap, rfl, hc⟩ := hrow.cells hne
  have c0 : w.cell? ⟨g, 0, none⟩ = some (.slice (some ⟨gr, 0, none⟩) is.length cap) := by rw [cell_of_row w _ _ _ _ _ hg]; rfl
  have c1 : w.cell? ⟨g, 1, none⟩ = some (.int .i64 start) := by rw [cell_of_row w _ _ _ _ _ hg]; rfl
  have HC := Lib.hid hc
  have HP : Hid (p = (IntKind.u32.wrap start).toNat) := hp
  have HS := Lib.hid hs
  clear hc hp hg hrow hs
  generalize hN : is.length = n at *
  have HN := Lib.hid hN
  clear hN
  go_enter Try.func51, Try.ntmps51
  go_wp2
  go_step3
  go_wp2
  go_step3
  go_wp2
  go_loopg [3, 4, 5] fuel (fun f fl pc q wr => ∃ (k : Nat) (flag : Int), fl = .int .u8 flag ∧ pc = .int .u32 k ∧ q = .pointer (some ⟨gr, k * 4, none⟩) ∧ k < n ∧ scond is f k flag = some r ∧ w = wr)
  case atStart => exact ⟨p, 0, rfl, rfl, rfl, hlt, HS.out, rfl⟩
  case round =>
    obtain ⟨k, flag, rfl, rfl, rfl, hk, hsc, rfl⟩ := hrel
    cases gk with
    | zero => simp [scond] at hsc
    | succ f =>
      have hget : ∃ i, is[k]? = some i := ⟨is[k]'(by rw [HN.out]; exact hk), List.getElem?_eq_getElem _⟩
      obtain ⟨i, hik⟩ := hget
      obtain ⟨rv, d0, d1, d2, d3, _⟩ := HC.out k i hik
      rw [scond, hik] at hsc
      dsimp only at hsc
      obtain ⟨q, hq⟩ : ∃ q : Nat, IntKind.u32.wrap i.out = (q : Int) := ⟨(IntKind.u32.wrap i.out).toNat, by have := u32_bd i.out; omega⟩
      rw [hq] at d1 hsc
      rw [Int.toNat_natCast] at hsc
      generalize IntKind.u8.wrap i.op = o at *
      generalize IntKind.u32.wrap i.arg = m at *
      clear hik hq hne
      by_cases h3 : o = 3
      · subst h3
        rw [if_pos rfl] at hsc
        have hqn : q < n := by rw [← HN.out]; exact scond_lt hsc
        have HSC := Lib.hid hsc
        clear hsc
        go_wp2
        go_roundg f
        case measure => omega
        case rel => exact ⟨q, _, rfl, rfl, rfl, hqn, HSC.out, rfl⟩
      · rw [if_neg h3] at hsc
        have e3 : (o == 3) = false := by simp [h3]
        clear h3
        by_cases h5 : o = 5
        · subst h5
          rw [if_pos rfl] at hsc
          have HSC := Lib.hid hsc
          clear hsc
          go_wp2
          rw [Exit.noGoto_ret]
          go_ret
          have e := HSC.out
          injection e with e
          exact ⟨ret_int e, rfl⟩
        · rw [if_neg h5] at hsc
          have e5 : (o == 5) = false := by simp [h5]
          clear h5
          by_cases h26 : o = 2 ∨ o = 6
          · rw [if_pos h26] at hsc
            have hqn : q < n := by rw [← HN.out]; exact scond_lt hsc
            have HSC := Lib.hid hsc
            clear hsc
            rcases h26 with rfl | rfl
            all_goals
              go_wp2
              go_roundg f
              case measure => omega
              case rel => exact ⟨q, _, rfl, rfl, rfl, hqn, HSC.out, rfl⟩
          · rw [if_neg h26] at hsc
            have e2 : (o == 2) = false := by simp; omega
            have e6 : (o == 6) = false := by simp; omega
            have HSC := Lib.hid hsc
            clear hsc h26
            go_wp2
            rw [Exit.noGoto_ret]
            go_ret
            have e := HSC.out
            injection e with e
            exact ⟨ret_int e, rfl⟩

theorem Insts.slice {w : World} {B : Nat} {v : Value} {is : List I} (h : Insts w B v is) : ∃ ao cap, v = .slice ao is.length cap := let ⟨ao, cap, hv, _⟩ := h; ⟨ao, cap, hv⟩

set_option maxHeartbeats 1000000 in
theorem program_cond (is : List I) (start r : Int) (fuel : Nat) (v : Value) (w : World) (h : Insts w w.heap.size v is) (hl : is.length ≤ 1000) (hr : ∀ i ∈ is, i.runes.length ≤ 1000000) (hs : scond is fuel (IntKind.u32.wrap start).toNat 0 = some r) :
    Calls Try.prog 19 #[v, .int .i64 start] w fun e w' => e = .returned (.int .i64 (wrap64 r)) ∧ Below w.heap.size w w' := by
  have H := Lib.hid h
  have HR := Lib.hid hr
  have HS := Lib.hid hs
  clear h hr hs
  go_enter Try.func19, Try.ntmps19
  go_wp2_with (first
    | (go_at_call 50; refine (prog_of is start _ _ H.out hl HR.out).mono ?_; rintro e w1 ⟨rfl, hprog, hbel⟩; have HP := Lib.hid hprog; have HB := Lib.hid hbel; clear hprog hbel)
    | (go_at_call 51; refine (start_cond is start r fuel _ _ _ hl HP.out HS.out).mono ?_; rintro e w2 ⟨rfl, rfl⟩))
  go_ret
  exact ⟨rfl, HB.out⟩
end Go.Proofs.Ytejhffcjamdffaa
