/-
  The contract of the package's Prefix over a right program in memory: what 'prefN' tells. No conditions beside those typed.
-/
import Derived.Test.YtejhffcjamdffaaSkip
import Derived.Test.YtejhffcjamdffaaBuilder
import Derived.Deep.RegionHeld3
namespace Go.Proofs.Ytejhffcjamdffaa
open Go.RowKit

def PrefPost (ps : List Int) (wh : Bool) (w : World) (e : Ending) (w' : World) : Prop := e = .returned (.tuple #[.string ⟨(encs ps).toArray⟩, .bool wh]) ∧ Below w.heap.size w w'

set_option maxRecDepth 100000 in
set_option maxHeartbeats 4000000 in
/-- No rune at the beginning. -/
theorem prefix_none (is : List I) (s G q g gr cap : Nat) (w : World) (i : I) (h : PkAt w w.heap.size g gr cap (s : Int) is) (hs : skipN is G s = some q) (hik : is[q]? = some i) (h8 : i.op ≠ 8) :
    Calls Try.prog 70 #[.pointer (some ⟨g, 0, none⟩)] w (PrefPost [] (decide (i.op = 4)) w) := by
  have hsn := (skip_lt is G s q hs).1
  have hi := h.ok i (List.mem_of_getElem? hik)
  have hfew := h.few
  obtain ⟨ro, rc, d0, d1, d2, d3, _, _⟩ := h.cells q i hik
  have c1 := h.c1
  have HSk := Lib.hid (skip_any is (s : Int) G s q _ g gr cap w h hs)
  have e1 : IntKind.u32.wrap (s : Int) = (s : Int) := small_u32 (by omega) (by omega)
  have hcase : (opM i.op != 7) = true ∨ ((opM i.op != 7) = false ∧ ((i.runes.length : Int) != 1) = true) := by
    have ho := hi.ops
    by_cases h7 : i.op = 7 ∨ i.op = 9 ∨ i.op = 10
    · right
      have hm : opM i.op = 7 := by
        unfold opM
        rcases h7 with h7 | h7 | h7 <;> rw [h7] <;> rfl
      refine ⟨by rw [hm]; rfl, ?_⟩
      simp only [bne_iff_ne, ne_eq]
      rcases h7 with h7 | h7 | h7
      · have := hi.runes7 h7; omega
      · rw [hi.runes (by omega) (by omega)]; simp
      · rw [hi.runes (by omega) (by omega)]; simp
    · left
      have hm : opM i.op = i.op := if_neg (by omega)
      rw [hm]
      simp only [bne_iff_ne, ne_eq]
      omega
  have HO : Hid ((i.op == 4) = decide (i.op = 4)) := by
    show _ = _
    by_cases h4 : i.op = 4 <;> simp [h4]
  have HOp : Hid (∀ m, Calls Try.prog 84 #[.pointer (some ⟨gr, q * 4, none⟩)] (w.drewN m) fun e w' => e = .returned (.int .u8 (opM i.op)) ∧ w.drewN m = w') := fun m => op_any gr (q * 4) i.op _ d0
  generalize decide (i.op = 4) = wh at *
  generalize opM i.op = om at *
  generalize i.op = o at *
  clear h hs hik hi h8
  rcases hcase with hc | ⟨hc, hl⟩
  all_goals
    go_enter Try.func70, Try.ntmps70
    go_wp2_with (first
      | (go_at_call 83
         refine HSk.out.mono ?_
         rintro e w1 ⟨rfl, m, rfl⟩)
      | (go_at_call 84
         refine (HOp.out _).mono ?_
         rintro e w2 ⟨rfl, rfl⟩))
    go_quiet (fail)
    go_wp2
    go_ret2
    exact ⟨by rw [← HO.out]; rfl, below_dr (below_dr (Below.refl _ _) _) _⟩

/-- The one rune of an instruction that takes one, in memory. -/
theorem PkAt.rune {w : World} {B g gr cap : Nat} {start : Int} {is : List I} (h : PkAt w B g gr cap start is) {k : Nat} {i : I} (hk : is[k]? = some i) (h8 : i.op = 8) : ∃ rb roff rc z, i.runes = [z] ∧ 0 ≤ z ∧ z ≤ 1114111 ∧ w.cell? ⟨gr, k * 4 + 3, none⟩ = some (.slice (some ⟨rb, roff, none⟩) 1 rc) ∧ w.cell? ⟨rb, roff, none⟩ = some (.int .i32 z) := by
  obtain ⟨ro, rc, _, _, _, d3, hr, _⟩ := h.cells k i hk
  obtain ⟨z, hz, hz0, hz1⟩ := (h.ok i (List.mem_of_getElem? hk)).runes8 h8
  rw [hz] at d3 hr
  obtain ⟨ao, cap', hv, hc⟩ := hr.open
  injection hv with e1 e2 e3
  subst e1
  rcases hc with h0 | ⟨b, off, rfl, hcell⟩
  · cases h0
  · exact ⟨b, off, rc, z, hz, hz0, hz1, d3, by have := hcell 0 z rfl; simpa using this⟩

/-- Where Prefix's loop stands. -/
def PrefIn (is : List I) (G F B b gr n : Nat) (ps : List Int) (wh : Bool) (w0 : World) (f : Nat) (p : Value) (wr : World) : Prop :=
  ∃ (k : Nat) (acc rest : List Int), p = .pointer (some ⟨gr, k * 4, none⟩) ∧ k < n ∧ prefN is G f k = some (rest, wh) ∧ ps = acc ++ rest ∧ acc.length + f ≤ F ∧ Lib.IsBuilderF 123 5 B b (Lib.byteCells (encs acc)) wr ∧ Below B w0 wr

set_option maxRecDepth 100000 in
set_option maxHeartbeats 4000000 in
/-- A rune at the beginning. -/
theorem prefix_some (is : List I) (s G F q g gr cap : Nat) (w : World) (i : I) (ps : List Int) (wh : Bool) (h : PkAt w w.heap.size g gr cap (s : Int) is) (hs : skipN is G s = some q) (hik : is[q]? = some i) (h8 : i.op = 8) (hp : prefN is G F q = some (ps, wh)) (hF : F ≤ 1000) :
    Calls Try.prog 70 #[.pointer (some ⟨g, 0, none⟩)] w (PrefPost ps wh w) := by
  have hsn := (skip_lt is G s q hs).1
  have hqn := (skip_lt is G s q hs).2
  have hfew := h.few
  obtain ⟨ro, rc, d0, d1, d2, x3, x4, x5⟩ := h.cells q i hik
  obtain ⟨rb, roff, rc', z, hz, x6, x7, d3, dz⟩ := h.rune hik h8
  have c1 := h.c1
  have HPk := Lib.hid h
  have HSk := Lib.hid (skip_any is (s : Int) G s q _ g gr cap w h hs)
  have e1 : IntKind.u32.wrap (s : Int) = (s : Int) := small_u32 (by omega) (by omega)
  have HP := Lib.hid hp
  rw [h8] at d0
  have HOp : Hid (∀ m, Calls Try.prog 84 #[.pointer (some ⟨gr, q * 4, none⟩)] (w.drewN m) fun e w' => e = .returned (.int .u8 7) ∧ w.drewN m = w') := fun m => op_any gr (q * 4) 8 _ d0
  generalize hN : is.length = n at *
  have HN := Lib.hid hN
  clear h hs hik h8 hp hz hN dz x3 x4 x5 x6 x7
  go_enter Try.func70, Try.ntmps70
  go_wp2_with (first
    | (go_at_call 83
       refine HSk.out.mono ?_
       rintro e w1 ⟨rfl, m, rfl⟩)
    | (go_at_call 84
       refine (HOp.out _).mono ?_
       rintro e w2 ⟨rfl, rfl⟩))
  clear d0 d1 d2 d3 c1 HOp HSk
  go_loopg [4] F (fun f p wr => PrefIn is G F w.heap.size w.heap.size gr n ps wh w f p wr)
  case atStart => exact ⟨q, [], ps, rfl, hqn, HP.out, rfl, by simp, .inl ⟨Nat.le_refl _, .slice none 0 0, heap_alloc_new _ _, ⟨rfl, .inl ⟨rfl, rfl⟩⟩, by simp [Value.ownBlock]⟩, (below_dr (Below.refl _ _) m).alloc (Nat.le_refl _) _⟩
  case round =>
    obtain ⟨k, acc, rest, rfl, hk, hpf, hps, hlen, hbl, hbel⟩ := hrel
    cases gk with
    | zero => exact absurd hpf (by simp [prefN])
    | succ f =>
      obtain ⟨j, hjk⟩ : ∃ j, is[k]? = some j := ⟨is[k]'(by rw [HN.out]; exact hk), List.getElem?_eq_getElem _⟩
      have hpk := HPk.out.below hbel
      have hj := hpk.ok j (List.mem_of_getElem? hjk)
      obtain ⟨xo, xc, y0, y1, y2, y3, y4, y5⟩ := hpk.cells k j hjk
      rw [prefN, hjk] at hpf
      dsimp only at hpf
      have hszb := hbel.size
      by_cases h8 : j.op = 8
      · obtain ⟨sb, soff, sc, u, hu, hu0, hu1, g3, gu⟩ := hpk.rune hjk h8
        have harg := hj.argz (by omega)
        rw [h8] at y0
        rw [harg] at y2
        have HOp : Hid (Calls Try.prog 84 #[.pointer (some ⟨gr, k * 4, none⟩)] wr fun e w' => e = .returned (.int .u8 7) ∧ wr = w') := op_any gr (k * 4) 8 _ y0
        have eb : bits BinOp.and IntKind.u16 0 1 = 0 := by decide
        rw [hu, List.headD_cons] at hpf
        by_cases hue : u = 65533
        · rw [if_neg (fun h => h.2 hue)] at hpf
          injection hpf with hpf
          injection hpf with hr hw
          have hps' : ps = acc := by rw [hps, ← hr, List.append_nil]
          have hw' : wh = false := by rw [← hw, h8]; rfl
          subst hps'
          subst hw'
          subst hue
          have HBl := Lib.hid hbl
          have HBel := Lib.hid hbel
          have HSz := Lib.hid hszb
          have hgrB := HPk.out.grB
          clear hbl hbel hszb hps hr hw hlen hjk hpk hj y3 y4 y5 hu hu0 hu1 harg
          go_wp2_with (go_at_call 84; refine HOp.out.mono ?_; rintro e w2 ⟨rfl, rfl⟩)
          go_region_held3 (fun w' => w'.cell? ⟨gr, k * 4, none⟩ = some (.int .u8 8))
            (go_keep)
            (first
              | (go_at_call 86
                 refine (Try.Builder_String_any_f w.heap.size w.heap.size (encs ps) _ (show Lib.IsBuilderF 123 5 w.heap.size w.heap.size _ (World.drew _) from HBl.out) HSz.out).mono ?_
                 rintro e w1 ⟨rfl, _, hb1⟩
                 have g0 : w1.cell? ⟨gr, k * 4, none⟩ = some (.int .u8 8) := (hb1.cell (p := ⟨gr, k * 4, none⟩) hgrB).trans y0
                 have HB1 := Lib.hid hb1
                 clear hb1))
          all_goals
            go_wp2
            go_ret2
            exact ⟨rfl, HBel.out.drew.trans HB1.out⟩
        · rw [if_pos ⟨h8, hue⟩] at hpf
          have hneu : (u != 65533) = true := by simpa using hue
          have hout := hj.out (by omega) (by omega)
          obtain ⟨q2, hq2⟩ : ∃ q2 : Nat, j.out = (q2 : Int) := ⟨j.out.toNat, by omega⟩
          rw [hq2, Int.toNat_natCast] at hpf
          rw [hq2] at y1
          cases hsk : skipN is G q2 with
          | none => rw [hsk] at hpf; cases hpf
          | some k2 =>
            rw [hsk] at hpf
            dsimp only at hpf
            cases hx : prefN is G f k2 with
            | none => rw [hx] at hpf; cases hpf
            | some x =>
              rw [hx] at hpf
              simp only [Option.map_some] at hpf
              injection hpf with hpf
              injection hpf with hr hw
              have hk2 := (skip_lt is G q2 k2 hsk).2
              rw [HN.out] at hk2
              have hel := encs_length acc
              have HBl := Lib.hid hbl
              have HBel := Lib.hid hbel
              have HSz := Lib.hid hszb
              have hgrB := HPk.out.grB
              have HW : Hid (Calls Try.prog 85 #[.pointer (some ⟨w.heap.size, 0, none⟩), .int .i32 u] wr (Holds w.heap.size w.heap.size (Lib.byteCells (encs acc) ++ Lib.runeCells u) wr)) :=
                write_rune w.heap.size w.heap.size _ u (by omega) (by omega) wr hbl (by rw [cells_length]; omega) hszb
              have HK : Hid (∀ w', Below w.heap.size wr w' → Calls Try.prog 83 #[.pointer (some ⟨g, 0, none⟩), .int .u32 q2] w' (Quiet (.pointer (some ⟨gr, k2 * 4, none⟩)) w')) := fun w' hb => skip_any is (s : Int) G q2 k2 _ g gr cap w' (hpk.below hb) hsk
              have HNx : Hid (∀ w', Lib.IsBuilderF 123 5 w.heap.size w.heap.size (Lib.byteCells (encs acc) ++ Lib.runeCells u) w' → Below w.heap.size w w' → PrefIn is G F w.heap.size w.heap.size gr n ps wh w f (.pointer (some ⟨gr, k2 * 4, none⟩)) w') := fun w' hb1 hb2 =>
                ⟨k2, acc ++ [u], x.1, rfl, hk2, by rw [hx, ← hw], by rw [hps, ← hr]; simp, by simp only [List.length_append, List.length_singleton]; omega, by rw [cells_snoc]; exact hb1, hb2⟩
              clear hbl hbel hszb hps hr hw hlen hjk hpk hj y3 y4 y5 hu hu0 hu1 harg hsk hx hel hout hq2
              go_wp2_with (first
                | (go_at_call 84
                   refine HOp.out.mono ?_
                   rintro e w2 ⟨rfl, rfl⟩)
                | (go_at_call 85
                   refine HW.out.mono ?_
                   rintro e w1 ⟨⟨x1, rfl⟩, hbd1, hb1⟩
                   have g1 := (hb1.cell (p := ⟨gr, k * 4 + 1, none⟩) hgrB).trans y1
                   have HBd1 := Lib.hid hbd1
                   have HB1 := Lib.hid hb1
                   clear hbd1 hb1)
                | (go_at_call 83
                   refine (HK.out _ HB1.out).mono ?_
                   rintro e w3 ⟨rfl, m2, rfl⟩))
              go_roundg f
              case measure => omega
              case rel => exact HNx.out _ (.inr HBd1.out) (below_dr (HBel.out.trans HB1.out) _)
      · have HOp : Hid (Calls Try.prog 84 #[.pointer (some ⟨gr, k * 4, none⟩)] wr fun e w' => e = .returned (.int .u8 (opM j.op)) ∧ wr = w') := op_any gr (k * 4) j.op _ y0
        rw [if_neg (fun h => h8 h.1)] at hpf
        injection hpf with hpf
        injection hpf with hr hw
        have hps' : ps = acc := by rw [hps, ← hr, List.append_nil]
        subst hps'
        have hcase : (opM j.op == 7) = false ∨ ((opM j.op == 7) = true ∧ ((j.runes.length : Int) == 1) = false) := by
          have ho := hj.ops
          by_cases h7 : j.op = 7 ∨ j.op = 9 ∨ j.op = 10
          · right
            have hm : opM j.op = 7 := by
              unfold opM
              rcases h7 with h7 | h7 | h7 <;> rw [h7] <;> rfl
            refine ⟨by rw [hm]; rfl, ?_⟩
            simp only [beq_eq_false_iff_ne, ne_eq]
            rcases h7 with h7 | h7 | h7
            · have := hj.runes7 h7; omega
            · rw [hj.runes (by omega) (by omega)]; simp
            · rw [hj.runes (by omega) (by omega)]; simp
          · left
            have hm : opM j.op = j.op := if_neg (by omega)
            rw [hm]
            simp only [beq_eq_false_iff_ne, ne_eq]
            omega
        have HO : Hid ((j.op == 4) = wh) := by
          show _ = _
          rw [← hw]
          by_cases h4 : j.op = 4 <;> simp [h4]
        have HBl := Lib.hid hbl
        have HBel := Lib.hid hbel
        have HSz := Lib.hid hszb
        have hgrB := HPk.out.grB
        clear hbl hbel hszb hps hr hw hlen hjk hpk hj y4 y5 h8
        generalize opM j.op = om at *
        generalize j.op = o at *
        rcases hcase with hc | ⟨hc, hl⟩
        all_goals
          go_wp2_with (go_at_call 84; refine HOp.out.mono ?_; rintro e w2 ⟨rfl, rfl⟩)
          go_region_held3 (fun w' => w'.cell? ⟨gr, k * 4, none⟩ = some (.int .u8 o))
            (go_keep)
            (first
              | (go_at_call 86
                 refine (Try.Builder_String_any_f w.heap.size w.heap.size (encs ps) _ (show Lib.IsBuilderF 123 5 w.heap.size w.heap.size _ (World.drew _) from HBl.out) HSz.out).mono ?_
                 rintro e w1 ⟨rfl, _, hb1⟩
                 have g0 : w1.cell? ⟨gr, k * 4, none⟩ = some (.int .u8 o) := (hb1.cell (p := ⟨gr, k * 4, none⟩) hgrB).trans y0
                 have HB1 := Lib.hid hb1
                 clear hb1))
          all_goals
            go_wp2
            go_ret2
            exact ⟨by rw [← HO.out]; rfl, HBel.out.drew.trans HB1.out⟩
end Go.Proofs.Ytejhffcjamdffaa
