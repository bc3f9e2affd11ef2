/-
  The contract of (*Regexp).Equal at right trees: what 'eqF' says; it only reads, and draws. No conditions beside those typed.
-/
import Derived.Test.YtejhffcjamdffaaEqWays2
import Derived.Test.YtejhffcjamdffaaEqFunc
import Derived.Test.YtejhffcjamdffaaMaxCap
import Derived.Test.YtejhffcjamdffaaSameTree2
namespace Go.Proofs.Ytejhffcjamdffaa
open Go.RowKit

theorem below_drewN {B : Nat} {a w : World} (h : Below B a w) (m : Nat) : Below B a (w.drewN m) := ⟨h.os, h.tape, h.output, h.size, h.block⟩

theorem bits1 (nd : Nd) : bits BinOp.and IntKind.u16 (flagsF nd) 1 = if nd.fold then 1 else 0 := by
  unfold flagsF
  cases nd.fold <;> cases nd.lazy <;> decide
theorem bits32 (nd : Nd) : bits BinOp.and IntKind.u16 (flagsF nd) 32 = if nd.lazy then 32 else 0 := by
  unfold flagsF
  cases nd.fold <;> cases nd.lazy <;> decide
theorem fold_eq (a b : Nd) : (bits BinOp.and IntKind.u16 (flagsF a) 1 == bits BinOp.and IntKind.u16 (flagsF b) 1) = (a.fold == b.fold) := by
  rw [bits1, bits1]
  cases a.fold <;> cases b.fold <;> decide
theorem lazy_ne (a b : Nd) : (bits BinOp.and IntKind.u16 (flagsF a) 32 != bits BinOp.and IntKind.u16 (flagsF b) 32) = !(a.lazy == b.lazy) := by
  rw [bits32, bits32]
  cases a.lazy <;> cases b.lazy <;> decide

theorem RgsAt.keeps {w w' : World} {S : Nat → Prop} {d : Nat} {so : Option Addr} {ss : List Nd} (h : RgsAt w S d so ss) (hk : Keeps S w w') : RgsAt w' S d so ss := by
  rcases h with h0 | ⟨b, off, e, hb, hs⟩
  · exact .inl h0
  · exact .inr ⟨b, off, e, hb, fun k s hks => by
      obtain ⟨g', h1, h2⟩ := hs k s hks
      exact ⟨g', (hk.cell (a := ⟨b, off + k, none⟩) hb).trans h1, Rg.keeps hk _ _ _ h2⟩⟩

theorem allP_one {p : Nd → Nd → Bool} {l1 l2 : List Nd} {x y : Nd} (h1 : l1 = [x]) (h2 : l2 = [y]) : allP p l1 l2 = p x y := by
  rw [h1, h2]; simp [allP]

/-- The one part of a node, in memory. -/
theorem RgsAt.one {w : World} {S : Nat → Prop} {d : Nat} {so : Option Addr} {ss : List Nd} (h : RgsAt w S d so ss) (hl : ss.length = 1) : ∃ s b off g, ss = [s] ∧ so = some ⟨b, off, none⟩ ∧ w.cell? ⟨b, off, none⟩ = some (.pointer (some ⟨g, 0, none⟩)) ∧ Rg w S d s g := by
  obtain ⟨s, rfl⟩ : ∃ s, ss = [s] := by
    match ss, hl with
    | [s], _ => exact ⟨s, rfl⟩
  obtain ⟨b, off, e, g, hc, hr⟩ := h.get (k := 0) rfl
  exact ⟨s, b, off, g, rfl, e, hc, hr⟩

theorem equal_step (S : Nat → Prop) (d : Nat) (IH : EqIH S d) (a b : Nd) (ga gb : Nat) (w : World) (h1 : Rg w S (d + 1) a ga) (h2 : Rg w S (d + 1) b gb) (k1 : OkF (d + 1) a) (k2 : OkF (d + 1) b) :
    Calls Try.prog 65 #[.pointer (some ⟨ga, 0, none⟩), .pointer (some ⟨gb, 0, none⟩)] w (Quiet (.bool (eqF (d + 1) a b)) w) := by
  obtain ⟨ro, so, rc, sc, hg, hobj, hfit, hr, hrb, hs⟩ := h1.open
  obtain ⟨qo, tt, qc, tc, jg, jobj, jfit, jr, jrb, js⟩ := h2.open
  have hs' : RgsAt w S d so a.subs := hs
  have js' : RgsAt w S d tt b.subs := js
  obtain ⟨c0, c1, c2, c3, c4, c5, c6, c7, c8, c9, c10⟩ := rg_cells hobj
  obtain ⟨d0, d1, d2, d3, d4, d5, d6, d7, d8, d9, d10⟩ := rg_cells jobj
  have ra := k1.1.range
  have rb := k2.1.range
  rw [show a.op % 256 = a.op from by omega] at c0
  rw [show b.op % 256 = b.op from by omega] at d0
  rw [eqF]
  by_cases hop : a.op = b.op
  · rw [← hop] at d0
    rw [decide_eq_true hop, Bool.true_and]
    have hone : ∀ s t pa pb, Rg w S d s pa → Rg w S d t pb → OkF d s → OkF d t → ∀ m, Calls Try.prog 65 #[.pointer (some ⟨pa, 0, none⟩), .pointer (some ⟨pb, 0, none⟩)] (w.drewN m) (Quiet (.bool (eqF d s t)) (w.drewN m)) := fun s t pa pb q1 q2 o1 o2 m =>
      IH s t pa pb _ (Rg.keeps (keeps_drewN S w m) _ _ _ q1) (Rg.keeps (keeps_drewN S w m) _ _ _ q2) o1 o2
    by_cases c3' : a.op = 3 ∨ a.op = 4
    · rw [if_pos c3']
      cases hf : (a.fold == b.fold) with
      | false =>
        rw [Bool.false_and]
        exact eq_lit_no a.op (flagsF a) (flagsF b) ga gb w c3' (by rw [fold_eq]; exact hf) c0 d0 c1 d1
      | true =>
        rw [Bool.true_and]
        refine eq_lit_yes a.op (flagsF a) (flagsF b) ga gb _ _ (decide (a.runes = b.runes)) w c3' (by rw [fold_eq]; exact hf) c0 d0 c1 d1 c4 d4 ?_
        have q1 := hfit.2.1
        have q2 := jfit.2.1
        exact fun m => equal_runes_q _ _ a.runes b.runes _ (RowN.keeps hr (keeps_drewN S w m) hrb) (RowN.keeps jr (keeps_drewN S w m) jrb) (by omega) (by omega)
    rw [if_neg c3']
    by_cases c18 : a.op = 18 ∨ a.op = 19
    · rw [if_pos c18]
      refine eq_many a.op ga gb _ _ _ w c18 c0 d0 c2 d2 ?_
      exact fun m => equalrg_any S d IH so tt sc tc a.subs b.subs _ (hs'.keeps (keeps_drewN S w m)) (js'.keeps (keeps_drewN S w m)) k1.2 k2.2 hfit.1
    rw [if_neg c18]
    by_cases c14 : a.op = 14 ∨ a.op = 15 ∨ a.op = 16
    · rw [if_pos c14]
      cases hl : (a.lazy == b.lazy) with
      | false =>
        rw [Bool.false_and]
        exact eq_one_no a.op (flagsF a) (flagsF b) ga gb w c14 (by rw [lazy_ne, hl]; rfl) c0 d0 c1 d1
      | true =>
        rw [Bool.true_and]
        have l1 : a.subs.length = 1 := k1.1.one (by omega) (by omega)
        have l2 : b.subs.length = 1 := k2.1.one (by omega) (by omega)
        rw [l1] at c2
        rw [l2] at d2
        obtain ⟨s, bs, os, pa, e1, rfl, cs, rs⟩ := hs'.one l1
        obtain ⟨t, bt, ot, pb, e2, rfl, ct, rt⟩ := js'.one l2
        rw [allP_one e1 e2]
        exact eq_one_yes a.op (flagsF a) (flagsF b) ga gb bs os sc pa bt ot tc pb _ w c14 (by rw [lazy_ne, hl]; rfl) c0 d0 c1 d1 c2 d2 cs ct (hone s t pa pb rs rt (k1.2 s (by rw [e1]; simp)) (k2.2 t (by rw [e2]; simp)))
    rw [if_neg c14]
    by_cases c17 : a.op = 17
    · rw [if_pos c17]
      rw [c17] at c0 d0
      cases hl : (a.lazy == b.lazy) with
      | false =>
        simp only [Bool.false_and]
        exact eq_rep_no1 (flagsF a) (flagsF b) ga gb w (by rw [lazy_ne, hl]; rfl) c0 d0 c1 d1
      | true =>
        rw [Bool.true_and]
        by_cases hm : a.mn = b.mn
        · rw [decide_eq_true hm, Bool.true_and]
          by_cases hx : a.mx = b.mx
          · rw [decide_eq_true hx, Bool.true_and]
            have l1 : a.subs.length = 1 := k1.1.one (by omega) (by omega)
            have l2 : b.subs.length = 1 := k2.1.one (by omega) (by omega)
            rw [l1] at c2
            rw [l2] at d2
            obtain ⟨s, bs, os, pa, e1, rfl, cs, rs⟩ := hs'.one l1
            obtain ⟨t, bt, ot, pb, e2, rfl, ct, rt⟩ := js'.one l2
            rw [allP_one e1 e2]
            exact eq_rep_yes (flagsF a) (flagsF b) a.mn b.mn a.mx b.mx ga gb bs os sc pa bt ot tc pb _ w (by rw [lazy_ne, hl]; rfl) (by simp [hm]) (by simp [hx]) c0 d0 c1 d1 c7 d7 c8 d8 c2 d2 cs ct (hone s t pa pb rs rt (k1.2 s (by rw [e1]; simp)) (k2.2 t (by rw [e2]; simp)))
          · rw [decide_eq_false hx, Bool.false_and]
            exact eq_rep_no3 (flagsF a) (flagsF b) a.mn b.mn a.mx b.mx ga gb w (by rw [lazy_ne, hl]; rfl) (by simp [hm]) (by simpa using hx) c0 d0 c1 d1 c7 d7 c8 d8
        · rw [decide_eq_false hm, Bool.false_and, Bool.false_and]
          exact eq_rep_no2 (flagsF a) (flagsF b) a.mn b.mn ga gb w (by rw [lazy_ne, hl]; rfl) (by simpa using hm) c0 d0 c1 d1 c7 d7
    rw [if_neg c17]
    by_cases c13 : a.op = 13
    · rw [if_pos c13]
      rw [c13] at c0 d0
      by_cases hp : a.cap = b.cap
      · rw [decide_eq_true hp, Bool.true_and]
        by_cases hn : a.name = b.name
        · rw [decide_eq_true hn, Bool.true_and]
          have l1 : a.subs.length = 1 := k1.1.one (by omega) (by omega)
          have l2 : b.subs.length = 1 := k2.1.one (by omega) (by omega)
          rw [l1] at c2
          rw [l2] at d2
          obtain ⟨s, bs, os, pa, e1, rfl, cs, rs⟩ := hs'.one l1
          obtain ⟨t, bt, ot, pb, e2, rfl, ct, rt⟩ := js'.one l2
          rw [allP_one e1 e2]
          exact eq_cap_yes a.cap b.cap a.name b.name ga gb bs os sc pa bt ot tc pb _ w (by simp [hp]) (by simp [hn]) c0 d0 c9 d9 c10 d10 c2 d2 cs ct (hone s t pa pb rs rt (k1.2 s (by rw [e1]; simp)) (k2.2 t (by rw [e2]; simp)))
        · rw [decide_eq_false hn, Bool.false_and]
          exact eq_cap_no2 a.cap b.cap a.name b.name ga gb w (by simp [hp]) (by
            have h : a.name.toList ≠ b.name.toList := fun h => hn (toList_inj h)
            simpa using h) c0 d0 c9 d9 c10 d10
      · rw [decide_eq_false hp, Bool.false_and, Bool.false_and]
        exact eq_cap_no1 a.cap b.cap ga gb w (by simpa using hp) c0 d0 c9 d9
    rw [if_neg c13]
    by_cases c10' : a.op = 10
    · have f1 : flagsF a = 0 := by
        unfold flagsF
        rw [show a.fold = false from by cases hf : a.fold with | false => rfl | true => have := k1.1.top.fold hf; omega, show a.lazy = false from by cases hf : a.lazy with | false => rfl | true => have := k1.1.top.lazy hf; omega]
        rfl
      have f2 : flagsF b = 0 := by
        unfold flagsF
        rw [show b.fold = false from by cases hf : b.fold with | false => rfl | true => have := k2.1.top.fold hf; omega, show b.lazy = false from by cases hf : b.lazy with | false => rfl | true => have := k2.1.top.lazy hf; omega]
        rfl
      rw [c10'] at c0 d0
      rw [f1] at c1
      rw [f2] at d1
      exact eq_ten ga gb w c0 d0 c1 d1
    · exact eq_pass a.op ga gb w (by simp; omega) (by simp; omega) (by simp; omega) (by simp; omega) (by simp; omega) (by simp; omega) (by simp; omega) (by simp; omega) (by simp; omega) (by simp; omega) c0 d0
  · rw [decide_eq_false hop, Bool.false_and]
    exact eq_other a.op b.op ga gb w (by simpa using hop) c0 d0

theorem equal_any (S : Nat → Prop) (d : Nat) : EqIH S d := by
  induction d with
  | zero => intro a b ga gb w h; cases h
  | succ d ih => intro a b ga gb w h1 h2 k1 k2; exact equal_step S d ih a b ga gb w h1 h2 k1 k2
end Go.Proofs.Ytejhffcjamdffaa
