/-
  The walk of the law FnProgramCond. Conditions: what came in lies in memory that was there, within the form's own reach.
-/
import Derived.Test.YtejhffcjamdffaaReached2
import Derived.Test.YtejhffcjamdffaaProgOk
namespace Go.Proofs.Ytejhffcjamdffaa
open Go.RowKit

/-- A program and a text that came in. -/
structure CameIn (is : List I) (ts : List Int) (lv tv : Value) (w : World) : Prop where
  ins : Insts w w.heap.size lv is
  run : Runes w tv ts
  bd : Wd w.heap.size tv
  many : is.length * 48 ≤ 140737488351232
  each : ∀ i, i ∈ is → i.runes.length * 4 ≤ 140737488351232
  long : ts.length * 4 ≤ 140737488351232

theorem CameIn.insts {is : List I} {ts : List Int} {lv tv : Value} {w w' : World} (h : CameIn is ts lv tv w) (hb : Below w.heap.size w w') : Insts w' w'.heap.size lv is := (h.ins.below hb).mono hb.size
theorem CameIn.runes {is : List I} {ts : List Int} {lv tv : Value} {w w' : World} (h : CameIn is ts lv tv w) (hb : Below w.heap.size w w') : Runes w' tv ts := RowN.belowW h.run hb h.bd

set_option maxRecDepth 100000 in
set_option maxHeartbeats 4000000 in
theorem law_cond_no (is : List I) (ts : List Int) (lv tv : Value) (start z : Int) (w : World) (h : CameIn is ts lv tv w) (hP : ¬ ProgP is start) :
    Calls Try.prog 8 #[lv, .int .i64 start, tv, .int .u8 z] w fun e w' => e = .returned (.bool true) ∧ Below w.heap.size w w' := by
  obtain ⟨la, lc, rfl⟩ := h.ins.slice
  obtain ⟨ta, tc, rfl, _⟩ := h.run.open
  have H := Lib.hid h
  have HP := Lib.hid hP
  have hlong := h.long
  have C24 := Lib.hid (fits2_any is _ w h.ins h.many)
  have C25 : Hid (∀ w', Below w.heap.size w w' → Calls Try.prog 25 #[.slice la is.length lc, .int .i64 start] w' (OkProg is start w')) := fun w' hb => progok_any is start _ w' (h.insts hb) h.many h.each
  clear h hP
  generalize is.length = n at *
  generalize ts.length = L at *
  go_enter Try.func8, Try.ntmps8
  go_wp2_with (first
    | (go_at_call 24
       refine C24.out.mono ?_
       rintro e w1 ⟨⟨b1, rfl⟩, hb1⟩
       have HB1 := Lib.hid hb1
       clear hb1)
    | (go_at_call 25
       refine (C25.out _ HB1.out).mono ?_
       rintro e w2 ⟨⟨b2, rfl, h2⟩, hb2⟩
       have HB2 := Lib.hid (HB1.out.trans (hb2.mono HB1.out.size))
       have HO2 := Lib.hid h2
       clear hb2 h2)
    | (go_at_call 26
       exfalso
       exact HP.out (HO2.out (by simp_all))))
  all_goals
    go_ret
    first
      | exact ⟨rfl, HB2.out⟩
      | exact ⟨rfl, HB1.out⟩

/-- What StartCond tells of a right program. -/
theorem told_of {is : List I} {s : Nat} (hP : ProgP is (s : Int)) : ∃ r : Nat, r < 256 ∧ scond is (is.length + 1) s 0 = some (r : Int) ∧ (∀ (ts : List Int) (p e : Nat), Reach is ts s p e → r &&& hereN ts p = r) ∧ (∀ i, is[s]? = some i → i.op = 3 → r &&& i.arg.toNat ≠ 0) := by
  have hs : s < is.length := by have := hP.start.2; omega
  obtain ⟨r, hr⟩ := cond_ends is is.length s 0 (hP.ends s hs)
  obtain ⟨h1, h2⟩ := scond_of is hP.len hP.inst _ s 0 r (by decide) hr
  exact ⟨r, h2, h1, fun ts p e he => cond_reach hP.inst he _ 0 r hr (Nat.zero_and _), fun i hi h3 => cond_first (hP.inst i (List.mem_of_getElem? hi)) hi h3 hr⟩

theorem ends_slice {is : List I} {ts : List Int} {k p : Nat} {w w' : World} {e : Ending} (h : Ends is ts k p w e w') : ∃ (ao : Option Addr) (c : Nat) (es : List Nat), e = .returned (.slice ao es.length c) ∧ w'.ownsRow w.heap.size 3 1 (.slice ao es.length c) es.length (es.map fun x : Nat => Value.int .i64 (x : Int)) ∧ (∀ x, x ∈ es → Reach is ts k p x ∧ x ≤ ts.length) ∧ Below w.heap.size w w' := by
  obtain ⟨⟨v, es, he, hown, hes⟩, hb⟩ := h
  obtain ⟨ao, c, rfl⟩ := owns_slice hown
  exact ⟨ao, c, es, he, hown, hes, hb⟩

set_option maxRecDepth 100000 in
set_option maxHeartbeats 4000000 in
theorem law_cond_yes (is : List I) (ts : List Int) (lv tv : Value) (s : Nat) (z : Int) (w : World) (h : CameIn is ts lv tv w) (hP : ProgP is (s : Int)) (hz0 : 0 ≤ z) (hz1 : z < 256) :
    Calls Try.prog 8 #[lv, .int .i64 s, tv, .int .u8 z] w fun e w' => e = .returned (.bool true) ∧ Below w.heap.size w w' := by
  have hsn : s < is.length := by have := hP.start.2; omega
  have h60 := hP.len
  obtain ⟨r, hr256, hsc, hreach, hfirst⟩ := told_of hP
  obtain ⟨la, lc, hlv, hlx⟩ := h.ins
  have hne : is ≠ [] := by rintro rfl; simp at hsn
  obtain ⟨bl, off, rfl, hbl, hcells⟩ := hlx hne
  obtain ⟨i, hik⟩ : ∃ i, is[s]? = some i := ⟨is[s]'hsn, List.getElem?_eq_getElem _⟩
  obtain ⟨rv, k0, k1, k2, k3, hrunes, _⟩ := hcells s i hik
  obtain ⟨ro, rc, rfl⟩ := rowN_slice hrunes
  have hi := hP.inst i (List.mem_of_getElem? hik)
  obtain ⟨ta, tc, htv, _⟩ := h.run.open
  subst hlv
  subst htv
  have hlong := h.long
  have HCell : Hid (∀ w', Below w.heap.size w w' → w'.cell? ⟨bl, off + s * 4, none⟩ = some (.int .i64 i.op) ∧ w'.cell? ⟨bl, off + s * 4 + 1, none⟩ = some (.int .i64 i.out) ∧ w'.cell? ⟨bl, off + s * 4 + 2, none⟩ = some (.int .i64 i.arg) ∧ w'.cell? ⟨bl, off + s * 4 + 3, none⟩ = some (.slice ro i.runes.length rc)) := fun w' hb =>
    ⟨(hb.cell (p := ⟨bl, off + s * 4, none⟩) hbl).trans k0, (hb.cell (p := ⟨bl, off + s * 4 + 1, none⟩) hbl).trans k1, (hb.cell (p := ⟨bl, off + s * 4 + 2, none⟩) hbl).trans k2, (hb.cell (p := ⟨bl, off + s * 4 + 3, none⟩) hbl).trans k3⟩
  have C24 := Lib.hid (fits2_any is _ w h.ins h.many)
  have C25 : Hid (∀ w', Below w.heap.size w w' → Calls Try.prog 25 #[.slice (some ⟨bl, off, none⟩) is.length lc, .int .i64 s] w' (OkProg is s w')) := fun w' hb => progok_any is s _ w' (h.insts hb) h.many h.each
  have C26 : Hid (∀ w', Below w.heap.size w w' → Calls Try.prog 26 #[.slice ta ts.length tc] w' (LenPost ts w')) := fun w' hb => lengthy_any _ ts w' (h.runes hb) (by omega)
  have C19 : Hid (∀ w', Below w.heap.size w w' → Calls Try.prog 19 #[.slice (some ⟨bl, off, none⟩) is.length lc, .int .i64 s] w' fun e w'' => e = .returned (.int .i64 (r : Int)) ∧ Below w'.heap.size w' w'') := fun w' hb => by
    have h1 := program_cond is s r (is.length + 1) _ w' (h.insts hb) (by omega) (fun i hi => by have := (hP.inst i hi).few; omega) (by rw [small_u32 (by omega) (by omega), Int.toNat_natCast]; exact hsc)
    rw [IntWalk.wrap64_in _ ⟨by omega, by omega⟩] at h1
    exact h1
  have C28 : Hid (∀ w' p, Below w.heap.size w w' → p ≤ ts.length → ts.length ≤ 24 → Calls Try.prog 28 #[.slice (some ⟨bl, off, none⟩) is.length lc, .int .i64 s, .slice ta ts.length tc, .int .i64 p] w' (Ends is ts s p w')) := fun w' p hb hp hl =>
    reached_any is ts _ _ s p w' (h.insts hb) (h.runes hb) (h.bd.mono hb.size) hsn hp h60 (by omega) hP.inst
  have C29 : Hid (∀ w' p, Below w.heap.size w w' → p ≤ ts.length → ts.length ≤ 24 → Calls Try.prog 29 #[.slice ta ts.length tc, .int .i64 p] w' fun e w'' => e = .returned (.int .i64 (hereN ts p)) ∧ Below w'.heap.size w' w'') := fun w' p hb hp hl =>
    here_any _ ts p w' (h.runes hb) hp (by omega)
  have HR : Hid (∀ p e, Reach is ts s p e → bits BinOp.and IntKind.i64 (r : Int) (hereN ts p : Int) = (r : Int)) := fun p e he => by
    have hh := here_lt ts p
    rw [and_i64 r (hereN ts p) hr256 (by omega), hreach ts p e he]
  have hop : (i.op = 3 ∧ (bits BinOp.and IntKind.i64 (r : Int) i.arg == 0) = false) ∨ ((i.op == 3) = false ∧ True) := by
    by_cases h3 : i.op = 3
    · left
      refine ⟨h3, ?_⟩
      have ha := arg_lt hi h3
      have h1 := hfirst i hik h3
      rw [ha.2, and_i64 r i.arg.toNat hr256 (by omega)]
      simp only [beq_eq_false_iff_ne, ne_eq]
      omega
    · right
      exact ⟨by simpa using h3, trivial⟩
  generalize is.length = n at *
  generalize hL : ts.length = L at *
  have HL := Lib.hid hL
  clear h hP hsc hreach hfirst hlx hcells hik k0 k1 k2 k3 hrunes hi hL hne
  obtain ⟨o, ho⟩ : ∃ o, i.op = o := ⟨_, rfl⟩
  rw [ho] at HCell hop
  clear ho
  rcases hop with ⟨rfl, hbit⟩ | ⟨h3, _⟩
  all_goals
    go_enter Try.func8, Try.ntmps8
    go_wp2_with (first
      | (go_at_call 24
         refine C24.out.mono ?_
         rintro e w1 ⟨⟨b1, rfl⟩, hb1⟩
         have HB := Lib.hid hb1
         clear hb1)
      | (go_at_call 25
         refine (C25.out _ HB.out).mono ?_
         rintro e w2 ⟨⟨b2, rfl, _⟩, hb2⟩
         have hB := HB.out.trans (hb2.mono HB.out.size)
         clear hb2 HB
         have HB := Lib.hid hB
         clear hB)
      | (go_at_call 26
         refine (C26.out _ HB.out).mono ?_
         rintro e w3 ⟨⟨b3, rfl, h3'⟩, rfl⟩
         have HLn := Lib.hid h3'
         clear h3')
      | (go_at_call 19
         refine (C19.out _ HB.out).mono ?_
         rintro e w4 ⟨rfl, hb4⟩
         have hB := HB.out.trans (hb4.mono HB.out.size)
         clear hb4 HB
         obtain ⟨c0, c1, c2, c3⟩ := HCell.out w4 hB
         have HB := Lib.hid hB
         clear hB)
      | (go_at_call 27
         have hl24 := (HLn.out (by simp_all)).1
         rw [HL.out] at hl24
         refine (place_any ta L tc z _ hz0 hz1 (by omega)).mono ?_
         rintro e w5 ⟨⟨p, rfl, hp⟩, rfl⟩)
      | (go_at_call 28
         refine (C28.out _ p (HB.out.alloc HB.out.size _) hp hl24).mono ?_
         intro e w6 hends
         obtain ⟨ea, ec, es, rfl, _, hes, hb6⟩ := ends_slice hends
         have HB6 : Hid (Below w.heap.size w w6) := (HB.out.alloc HB.out.size _).trans (hb6.mono (by have := HB.out.size; simp; omega))
         have HEs : Hid (es.length ≠ 0 → bits BinOp.and IntKind.i64 (r : Int) (hereN ts p : Int) = (r : Int)) := fun h0 => by
           cases es with
           | nil => exact absurd rfl h0
           | cons x es => exact HR.out p x (hes x (by simp)).1
         clear hends hes hb6
         generalize es.length = q at *)
      | (go_at_call 29
         refine (C29.out _ p HB6.out hp hl24).mono ?_
         rintro e w7 ⟨rfl, hb7⟩))
    all_goals
      go_ret
      first
        | exact ⟨rfl, HB6.out⟩
        | exact ⟨rfl, HB.out⟩
        | (have hq : q ≠ 0 := by
             rintro rfl
             simp_all
           have hb := HEs.out hq
           exact ⟨ret_bool (by rw [hb]; simp), HB6.out.trans (hb7.mono HB6.out.size)⟩)

theorem law_cond (is : List I) (ts : List Int) (lv tv : Value) (start z : Int) (w : World) (h : CameIn is ts lv tv w) (hz0 : 0 ≤ z) (hz1 : z < 256) :
    Calls Try.prog 8 #[lv, .int .i64 start, tv, .int .u8 z] w fun e w' => e = .returned (.bool true) ∧ Below w.heap.size w w' := by
  by_cases hP : ProgP is start
  · obtain ⟨s, rfl⟩ : ∃ s : Nat, start = (s : Int) := ⟨start.toNat, by have := hP.start.1; omega⟩
    exact law_cond_yes is ts lv tv s z w h hP hz0 hz1
  · exact law_cond_no is ts lv tv start z w h hP
end Go.Proofs.Ytejhffcjamdffaa
