/-
  The contract of the specification's walk: each place that it marks anew is reached. Conditions: right instructions, at most sixty; at most a thousand runes.
-/
import Derived.Test.YtejhffcjamdffaaWalkWays4
namespace Go.Proofs.Ytejhffcjamdffaa
open Go.RowKit

theorem walk_any (is : List I) (ts : List Int) (lv tv : Value) (base g o gc : Nat) (bs : List Nat) (hbd : Wd base tv) (h60 : is.length ≤ 60) (hts : ts.length ≤ 1000) (hok : ∀ i, i ∈ is → InstP is.length i) : ∀ m, WalkIH is ts lv tv base g o is.length gc bs m := by
  intro m
  induction m with
  | zero =>
    intro k p rows out w hm hk hp hat hins hrun hbase
    have hkr : k < rows.length := by rw [hat.hrows]; exact hk
    have hkb : k < bs.length := by rw [hat.hbs]; exact hk
    have hr : rows[k]? = some (rows[k]) := List.getElem?_eq_getElem hkr
    have hb : bs[k]? = some (bs[k]) := List.getElem?_eq_getElem hkb
    have hw := hat.wide _ (List.mem_of_getElem? hr)
    have hs : (rows[k])[p]? = some ((rows[k])[p]'(by rw [hw]; omega)) := List.getElem?_eq_getElem _
    cases hx : (rows[k])[p]'(by rw [hw]; omega) with
    | false =>
      rw [hx] at hs
      have := unseen_set hr hs
      omega
    | true =>
      rw [hx] at hs
      exact (walk_seen lv tv k p g gc _ o is.length (ts.length + 1) _ w hk (by omega) (hat.cells k _ hb) ((hat.marks k _ _ hb hr).cell hs)).mono fun e w' ⟨he, hw'⟩ => by
        subst hw'
        exact ⟨he, ⟨rows, out, hat, Nat.le_refl _, fun e h => .inl h⟩, Below.refl _ _, Kept.refl _ _ _⟩
  | succ m ih =>
    intro k p rows out w hm hk hp hat hins hrun hbase
    have hkr : k < rows.length := by rw [hat.hrows]; exact hk
    have hkb : k < bs.length := by rw [hat.hbs]; exact hk
    have hr : rows[k]? = some (rows[k]) := List.getElem?_eq_getElem hkr
    have hb : bs[k]? = some (bs[k]) := List.getElem?_eq_getElem hkb
    have hw := hat.wide _ (List.mem_of_getElem? hr)
    have hs : (rows[k])[p]? = some ((rows[k])[p]'(by rw [hw]; omega)) := List.getElem?_eq_getElem _
    cases hx : (rows[k])[p]'(by rw [hw]; omega) with
    | true =>
      rw [hx] at hs
      exact (walk_seen lv tv k p g gc _ o is.length (ts.length + 1) _ w hk (by omega) (hat.cells k _ hb) ((hat.marks k _ _ hb hr).cell hs)).mono fun e w' ⟨he, hw'⟩ => by
        subst hw'
        exact ⟨he, ⟨rows, out, hat, Nat.le_refl _, fun e h => .inl h⟩, Below.refl _ _, Kept.refl _ _ _⟩
    | false =>
      rw [hx] at hs
      have hu := unseen_set hr hs
      have hfar := hat.far _ (List.mem_of_getElem? hb)
      have hmk := hat.marks k _ _ hb hr
      obtain ⟨la, lc, rfl, hl⟩ := hins
      have hne : is ≠ [] := by rintro rfl; simp at hk
      obtain ⟨bl, off, rfl, hbl, hc⟩ := hl hne
      obtain ⟨i, hik⟩ : ∃ i, is[k]? = some i := ⟨is[k]'hk, List.getElem?_eq_getElem _⟩
      obtain ⟨rv, c0, c1, c2, c3, hrunes, hrbd⟩ := hc k i hik
      obtain ⟨ro, rc, rfl⟩ := rowN_slice hrunes
      have hbel : Below base w (w.setCell ⟨bs[k], p, none⟩ (.bool true)) := (Below.refl base w).setCell hfar.1 _
      have hM : Marked is ts (.slice (some ⟨bl, off, none⟩) is.length lc) tv base g o is.length gc m bs k p rows out w i (bs[k]) bl off lc ro rc :=
        { kn := hk
          pT := by omega
          cg := hat.cells k _ hb
          cb := hmk.cell hs
          fb := frozen_at hmk p
          lve := rfl
          c0 := c0
          c1 := c1
          c2 := c2
          c3 := c3
          run := hrunes
          rbd := hrbd
          ne := by omega
          ob := hat.outAt
          on := fun W hW => by
            subst hW
            exact ⟨_, hu, ⟨hik, WalkIn.below ⟨⟨_, lc, rfl, fun _ => ⟨bl, off, rfl, hbl, hc⟩⟩, hrun, hbd, rfl, h60, hts, hok⟩ hbel, hp, by omega, hat.mark hb hr p, by rw [setCell_size]; exact hbase, ih⟩, hbel, Kept.mark w (List.mem_of_getElem? hb) p _⟩ }
      have hi := hok i (List.mem_of_getElem? hik)
      have ho := hi.ops
      have hcase : i.op = 0 ∨ (i.op = 2 ∨ i.op = 6) ∨ i.op = 3 ∨ i.op = 4 ∨ i.op = 5 ∨ 7 ≤ i.op := by omega
      rcases hcase with h | h | h | h | h | h
      · exact walk_alt hM h
      · exact walk_pass hM h
      · by_cases h0 : hereN ts p &&& i.arg.toNat = 0
        · exact walk_cond_no hM h h0
        · exact walk_cond_yes hM h h0
      · exact walk_match hM h
      · exact walk_fail hM h
      · by_cases hpl : p < ts.length
        · exact walk_rune hM h hpl
        · exact walk_rune_end hM h (by omega)
end Go.Proofs.Ytejhffcjamdffaa
