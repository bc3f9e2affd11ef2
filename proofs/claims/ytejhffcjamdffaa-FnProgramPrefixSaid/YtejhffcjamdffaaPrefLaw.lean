/-
  The walk of the law FnProgramPrefix. Conditions: what came in lies in memory that was there, within the form's own reach.
-/
import Derived.Test.YtejhffcjamdffaaCondLaw
import Derived.Test.YtejhffcjamdffaaProgPrefix
import Derived.Test.YtejhffcjamdffaaBegins3
namespace Go.Proofs.Ytejhffcjamdffaa
open Go.RowKit

set_option maxRecDepth 100000 in
set_option maxHeartbeats 4000000 in
theorem law_prefix_no (is : List I) (ts : List Int) (lv tv : Value) (start z : Int) (w : World) (h : CameIn is ts lv tv w) (hP : ¬ ProgP is start) :
    Calls Try.prog 12 #[lv, .int .i64 start, tv, .int .u8 z] w fun e w' => e = .returned (.bool true) ∧ Below w.heap.size w w' := by
  obtain ⟨la, lc, rfl⟩ := h.ins.slice
  obtain ⟨ta, tc, rfl, _⟩ := h.run.open
  have H := Lib.hid h
  have HP := Lib.hid hP
  have hlong := h.long
  have C24 := Lib.hid (fits2_any is _ w h.ins h.many)
  have C25 : Hid (∀ w', Below w.heap.size w w' → Calls Try.prog 25 #[.slice la is.length lc, .int .i64 start] w' (OkProg is start w')) := fun w' hb => progok_any is start _ w' (h.insts hb) h.many h.each
  clear h hP
  generalize is.length = n at *
  generalize ts.length = L at *
  go_enter Try.func12, Try.ntmps12
  go_wp2_with (first
    | (go_at_call 24
       refine C24.out.mono ?_
       rintro e w1 ⟨⟨b1, rfl⟩, hb1⟩
       have HB1 := Lib.hid hb1
       clear hb1)
    | (go_at_call 25
       refine (C25.out _ HB1.out).mono ?_
       rintro e w2 ⟨⟨b2, rfl, h2⟩, hb2⟩
       have HB2 := Lib.hid (HB1.out.trans (hb2.mono HB1.out.size))
       have HO2 := Lib.hid h2
       clear hb2 h2)
    | (go_at_call 26
       exfalso
       exact HP.out (HO2.out (by simp_all))))
  all_goals
    go_ret
    first
      | exact ⟨rfl, HB2.out⟩
      | exact ⟨rfl, HB1.out⟩


theorem rest_ne (b : ByteArray) : ∀ (n i : Nat) (r : List UInt8), b.size - i = n → r ≠ [] → ByteArray.toList.loop b i r ≠ [] := by
  intro n
  induction n with
  | zero =>
    intro i r h hr
    rw [ByteArray.toList.loop, if_neg (by omega)]
    simpa using hr
  | succ n ih =>
    intro i r h _
    rw [ByteArray.toList.loop, if_pos (by omega)]
    exact ih _ _ (by omega) (by simp)

theorem empty_of {s : ByteArray} (h : s.toList = []) : s = ByteArray.empty := by
  have h0 : s.size = 0 := by
    rcases Nat.eq_zero_or_pos s.size with h0 | h0
    · exact h0
    · rw [ByteArray.toList, ByteArray.toList.loop, if_pos h0] at h
      exact absurd h (rest_ne s _ _ _ rfl (by simp))
  cases s with
  | mk d =>
    have h2 : d = #[] := Array.eq_empty_of_size_eq_zero h0
    rw [h2]; rfl

theorem tl_isEmpty (l : List UInt8) (h : l ≠ []) : (⟨l.toArray⟩ : ByteArray).toList.isEmpty = false := by
  have h1 : (⟨l.toArray⟩ : ByteArray).toList ≠ [] := fun h2 => h (by
    have h3 := congrArg (fun b : ByteArray => b.data.toList) (empty_of h2)
    simpa using h3)
  cases h3 : (⟨l.toArray⟩ : ByteArray).toList with
  | nil => exact absurd h3 h1
  | cons _ _ => rfl

theorem pref_len {is : List I} {g : Nat} : ∀ f q ps wh, prefN is g f q = some (ps, wh) → ps.length ≤ f := by
  intro f
  induction f with
  | zero => intro q ps wh h; cases h
  | succ f ih =>
    intro q ps wh h
    rw [prefN] at h
    cases hk : is[q]? with
    | none => rw [hk] at h; cases h
    | some i =>
      rw [hk] at h
      dsimp only at h
      by_cases h8 : i.op = 8 ∧ i.runes.headD 0 ≠ 65533
      · rw [if_pos h8] at h
        cases hx : skipN is g i.out.toNat with
        | none => rw [hx] at h; cases h
        | some k =>
          rw [hx] at h
          dsimp only at h
          cases hy : prefN is g f k with
          | none => rw [hy] at h; cases h
          | some y =>
            rw [hy] at h
            simp only [Option.map_some] at h
            injection h with h
            injection h with e1 _
            have := ih k y.1 y.2 hy
            rw [← e1]
            simp only [List.length_cons]
            omega
      · rw [if_neg h8] at h
        injection h with h
        injection h with e1 _
        rw [← e1]
        simp

/-- What all that is matched begins with, as the runes of the prefix's text. -/
theorem begins_of {is : List I} {ts us ps : List Int} {s q g f : Nat} {wh : Bool} {PS : ByteArray} (hPS : PS = ⟨(encs ps).toArray⟩) (hsk : skipN is g s = some q) (hpf : prefN is g f q = some (ps, wh)) (hv : ts.any oddB = false) (hus : Conv.runesFrom PS PS.size 0 #[] = #[] ++ (us.map (Value.int .i32)).toArray) (p x : Nat) (hr : Reach is ts s p x) :
    p + us.length ≤ x ∧ (∀ j z, us[j]? = some z → ts[p + j]? = some z) ∧ (wh = true → x = p + us.length) := by
  obtain ⟨h1, h2, h3⟩ := pref_reach g f q p x ps wh hpf (skip_reach _ _ _ _ _ hsk hr)
  have hval : ∀ r, r ∈ ps → validB r = true := fun r hm => by
    obtain ⟨j, hj⟩ := List.getElem?_of_mem hm
    have h4 := List.mem_of_getElem? (h2 j r hj)
    cases hb : validB r with
    | true => rfl
    | false =>
      exfalso
      have h5 : ts.any oddB = true := List.any_eq_true.2 ⟨r, h4, by unfold oddB; rw [hb]; rfl⟩
      rw [h5] at hv
      cases hv
  have hlen : ps.length ≤ PS.size := by
    rw [hPS]
    show ps.length ≤ (encs ps).toArray.size
    rw [List.size_toArray]
    clear hpf hsk hus h1 h2 h3 hr hPS hval
    induction ps with
    | nil => simp [encs]
    | cons a l ih =>
      have hl := Lib.runeCells_le a
      rw [Lib.runeCells_length] at hl
      have h0 : encs (a :: l) = Lib.encodeRune a ++ encs l := rfl
      rw [h0, List.length_append, List.length_cons]
      omega
  have h6 := runes_encs ps hval [] PS.size #[] hlen
  rw [List.nil_append, ← hPS] at h6
  have h7 : (us.map (Value.int .i32)).toArray = (ps.map (Value.int .i32)).toArray := by
    have h8 : #[] ++ (us.map (Value.int .i32)).toArray = #[] ++ (ps.map (Value.int .i32)).toArray := hus.symm.trans h6
    simpa using h8
  have h8 : us.map (Value.int .i32) = ps.map (Value.int .i32) := by simpa using h7
  have h9 : us = ps := (List.map_inj_right (fun a b h => by injection h)).1 h8
  rw [h9]
  exact ⟨h1, h2, h3⟩

/-- The first rune, where it is one. -/
theorem first_rune {is : List I} {s q : Nat} {i : I} {ps : List Int} {wh : Bool} {z : Int} {g f : Nat} (hik : is[s]? = some i) (h8 : i.op = 8) (hz : i.runes = [z]) (hne : z ≠ 65533) (hsk : skipN is g s = some q) (hpf : prefN is g f q = some (ps, wh)) : encs ps ≠ [] := by
  have hq : q = s := by
    cases g with
    | zero => cases hsk
    | succ g =>
      rw [skipN, hik] at hsk
      dsimp only at hsk
      rw [if_neg (by omega)] at hsk
      injection hsk with hsk
      exact hsk.symm
  subst hq
  cases f with
  | zero => cases hpf
  | succ f =>
    rw [prefN, hik] at hpf
    dsimp only at hpf
    rw [if_pos ⟨h8, by rw [hz]; exact hne⟩, hz] at hpf
    cases hx : skipN is g i.out.toNat with
    | none => rw [hx] at hpf; cases hpf
    | some k =>
      rw [hx] at hpf
      dsimp only at hpf
      cases hy : prefN is g f k with
      | none => rw [hy] at hpf; cases hpf
      | some y =>
        rw [hy] at hpf
        simp only [Option.map_some, List.headD_cons] at hpf
        injection hpf with hpf
        injection hpf with e1 _
        rw [← e1]
        have hl := Lib.runeCells_le z
        rw [Lib.runeCells_length] at hl
        intro h0
        have h1 : encs (z :: y.1) = Lib.encodeRune z ++ encs y.1 := rfl
        rw [h1] at h0
        have h2 := congrArg List.length h0
        simp at h2
        rw [h2.1] at hl
        simp at hl

theorem runes_drew {w : World} {v : Value} {zs : List Int} (h : Runes w v zs) : Runes w.drew v zs := h
theorem HRl2 {CS : Array Value} {m : Nat} {us : List Int} (h : ∀ (W W0 : World), Runes (W.alloc (.cells (CS ++ Array.replicate (grownCap W0 m 0 21 - m) (.int .i32 0)) 21)) (.slice (some ⟨W.heap.size, 0, none⟩) m (grownCap W0 m 0 21)) us) (w4 W W0 : World) (hW : W.heap.size = w4.heap.size + 1) :
    Runes (W.alloc (.cells (CS ++ Array.replicate (grownCap W0 m 0 21 - m) (.int .i32 0)) 21)) (.slice (some ⟨w4.heap.size + 1, 0, none⟩) m (grownCap W0 m 0 21)) us := by
  rw [← hW]; exact h W W0

set_option maxRecDepth 100000 in
set_option maxHeartbeats 4000000 in
theorem law_prefix_yes (is : List I) (ts : List Int) (lv tv : Value) (s : Nat) (z : Int) (w : World) (h : CameIn is ts lv tv w) (hP : ProgP is (s : Int)) (hz0 : 0 ≤ z) (hz1 : z < 256) :
    Calls Try.prog 12 #[lv, .int .i64 s, tv, .int .u8 z] w fun e w' => e = .returned (.bool true) ∧ Below w.heap.size w w' := by
  have hsn : s < is.length := by have := hP.start.2; omega
  have h60 := hP.len
  obtain ⟨q, ps, wh, hsk, hpf⟩ := prefix_of hP
  obtain ⟨la, lc, hlv, hlx⟩ := h.ins
  have hne : is ≠ [] := by rintro rfl; simp at hsn
  obtain ⟨bl, off, rfl, hbl, hcells⟩ := hlx hne
  obtain ⟨i, hik⟩ : ∃ i, is[s]? = some i := ⟨is[s]'hsn, List.getElem?_eq_getElem _⟩
  obtain ⟨rv, k0, k1, k2, k3, hrunes, hwdr⟩ := hcells s i hik
  obtain ⟨ro, rc, rfl⟩ := rowN_slice hrunes
  have hi := hP.inst i (List.mem_of_getElem? hik)
  obtain ⟨ta, tc, htv, _⟩ := h.run.open
  subst hlv
  subst htv
  have hlong := h.long
  have HCell : Hid (∀ w', Below w.heap.size w w' → w'.cell? ⟨bl, off + s * 4, none⟩ = some (.int .i64 i.op) ∧ w'.cell? ⟨bl, off + s * 4 + 1, none⟩ = some (.int .i64 i.out) ∧ w'.cell? ⟨bl, off + s * 4 + 2, none⟩ = some (.int .i64 i.arg) ∧ w'.cell? ⟨bl, off + s * 4 + 3, none⟩ = some (.slice ro i.runes.length rc)) := fun w' hb =>
    ⟨(hb.cell (p := ⟨bl, off + s * 4, none⟩) hbl).trans k0, (hb.cell (p := ⟨bl, off + s * 4 + 1, none⟩) hbl).trans k1, (hb.cell (p := ⟨bl, off + s * 4 + 2, none⟩) hbl).trans k2, (hb.cell (p := ⟨bl, off + s * 4 + 3, none⟩) hbl).trans k3⟩
  have C24 := Lib.hid (fits2_any is _ w h.ins h.many)
  have C25 : Hid (∀ w', Below w.heap.size w w' → Calls Try.prog 25 #[.slice (some ⟨bl, off, none⟩) is.length lc, .int .i64 s] w' (OkProg is s w')) := fun w' hb => progok_any is s _ w' (h.insts hb) h.many h.each
  have C26 : Hid (∀ w', Below w.heap.size w w' → Calls Try.prog 26 #[.slice ta ts.length tc] w' (LenPost ts w')) := fun w' hb => lengthy_any _ ts w' (h.runes hb) (by omega)
  have C28 : Hid (∀ w' p, Below w.heap.size w w' → p ≤ ts.length → ts.length ≤ 24 → Calls Try.prog 28 #[.slice (some ⟨bl, off, none⟩) is.length lc, .int .i64 s, .slice ta ts.length tc, .int .i64 p] w' (Ends is ts s p w')) := fun w' p hb hp hl =>
    reached_any is ts _ _ s p w' (h.insts hb) (h.runes hb) (h.bd.mono hb.size) hsn hp h60 (by omega) hP.inst
  have hpl := pref_len _ _ _ _ hpf
  have hel := encs_length ps
  obtain ⟨PS, hPS⟩ : ∃ PS : ByteArray, PS = ⟨(encs ps).toArray⟩ := ⟨_, rfl⟩
  have hsz : PS.size = (encs ps).length := by rw [hPS]; exact List.size_toArray
  obtain ⟨us, hus, hul⟩ := runes_some PS PS.size 0 #[]
  have hsz2 : (Conv.runesFrom PS PS.size 0 #[]).size = us.length := by rw [hus]; simp
  have KC : ∀ w : World, (convert 9 26 (.string PS)).run Try.prog w = .ok (.slice (some ⟨w.heap.size, 0, none⟩) us.length (grownCap w us.length 0 21)) (w.drew.alloc (.cells ((us.map (Value.int .i32)).toArray ++ Array.replicate (grownCap w us.length 0 21 - us.length) (.int .i32 0)) 21)) := fun w => by
    have h1 := run_runes_of_string (P := Try.prog) w 9 26 21 PS Try.underlying9 Try.underlying26 Try.underlying21 (by rw [hsz2]; omega)
    rw [hsz2, hus] at h1
    simpa using h1
  have C39 : Hid (∀ w', Below w.heap.size w w' → Calls Try.prog 39 #[.slice (some ⟨bl, off, none⟩) is.length lc, .int .i64 s] w' (fun e w'' => e = .returned (.tuple #[.string PS, .bool wh]) ∧ Below w'.heap.size w' w'')) := fun w' hb => by
    have h1 := progprefix_any is s _ w' ps wh q (h.insts hb) hP hsk hpf
    exact h1.mono fun e w'' ⟨he, hb⟩ => ⟨by rw [he, hPS], hb⟩
  have HBg : Hid (∀ p x, ts.any oddB = false → Reach is ts s p x → p + us.length ≤ x ∧ (∀ j z, us[j]? = some z → ts[p + j]? = some z) ∧ (wh = true → x = p + us.length)) := fun p x hv hr => begins_of hPS hsk hpf hv hus p x hr
  have HRun := Lib.hid h.run
  have HRunB : Hid (∀ w', Below w.heap.size w w' → Runes w' (.slice ta ts.length tc) ts) := fun w' hb => h.runes hb
  have hop : ((i.op == 8) = false ∧ True) ∨ (i.op = 8 ∧ ∃ (rb roff : Nat) (u : Int), ro = some ⟨rb, roff, none⟩ ∧ i.runes.length = 1 ∧ Hid (∀ w', Below w.heap.size w w' → w'.cell? ⟨rb, roff, none⟩ = some (.int .i32 u)) ∧ ((validB u = false ∧ True) ∨ (validB u = true ∧ (u != 65533) = false) ∨ (validB u = true ∧ (u != 65533) = true ∧ PS.toList.isEmpty = false ∧ (PS.toList == []) = false))) := by
    by_cases h8 : i.op = 8
    · right
      obtain ⟨u, hu, _, _⟩ := hi.runes8 h8
      refine ⟨h8, ?_⟩
      obtain ⟨ao, cap', hv, hcc⟩ := hrunes.open
      injection hv with e1 _ _
      subst e1
      rcases hcc with h0 | ⟨rb, roff, rfl, hcu⟩
      · rw [hu] at h0; cases h0
      have hlt : rb < w.heap.size := hwdr.lt (by rw [hu]; simp)
      have hcell := hcu 0 u (by rw [hu]; rfl)
      simp only [Nat.add_zero] at hcell
      refine ⟨rb, roff, u, rfl, by rw [hu]; rfl, fun w' hb => (hb.cell (p := ⟨rb, roff, none⟩) hlt).trans hcell, ?_⟩
      cases hvu : validB u with
      | false => exact .inl ⟨rfl, trivial⟩
      | true =>
        right
        by_cases hu3 : u = 65533
        · exact .inl ⟨rfl, by simp [hu3]⟩
        · right
          have hne0 := first_rune hik h8 hu hu3 hsk hpf
          have hem : PS.toList.isEmpty = false := by rw [hPS]; exact tl_isEmpty _ hne0
          refine ⟨rfl, by simpa using hu3, hem, ?_⟩
          cases hx : PS.toList with
          | nil => rw [hx] at hem; cases hem
          | cons _ _ => rfl
    · left
      exact ⟨by simpa using h8, trivial⟩
  have hul2 : us.length ≤ 1000 := by omega
  generalize is.length = n at *
  generalize hL : ts.length = L at *
  have HL := Lib.hid hL
  clear h hP hlx hcells hik k0 k1 k2 k3 hrunes hi hL hne hus hul hsz hsz2 hPS hsk hpf hel hpl HRun
  obtain ⟨o, ho⟩ : ∃ o, i.op = o := ⟨_, rfl⟩
  rw [ho] at HCell hop
  clear ho
  obtain ⟨m, hm⟩ : ∃ m, us.length = m := ⟨_, rfl⟩
  have HM := Lib.hid hm
  have HRl : Hid (∀ (W W0 : World), Runes (W.alloc (.cells ((us.map (Value.int .i32)).toArray ++ Array.replicate (grownCap W0 m 0 21 - m) (.int .i32 0)) 21)) (.slice (some ⟨W.heap.size, 0, none⟩) m (grownCap W0 m 0 21)) us) := fun W W0 => by
    have h1 := runes_laid W us (grownCap W0 m 0 21) (by rw [hm]; exact grownCap_ge _ _ _ _) (grownCap_le_maxLen _ _ _ _ (by unfold maxLen; omega))
    rw [hm] at h1
    exact h1
  rw [hm] at KC hul2 HBg
  clear hm
  generalize (us.map (Value.int .i32)).toArray = CS at *
  rcases hop with ⟨h8, _⟩ | ⟨rfl, rb, roff, u, rfl, hl1, HU, hu⟩
  · go_enter Try.func12, Try.ntmps12
    go_wp2_with (first
      | (go_at_call 24
         refine C24.out.mono ?_
         rintro e w1 ⟨⟨b1, rfl⟩, hb1⟩
         have HB := Lib.hid hb1
         clear hb1)
      | (go_at_call 25
         refine (C25.out _ HB.out).mono ?_
         rintro e w2 ⟨⟨b2, rfl, _⟩, hb2⟩
         have hB := HB.out.trans (hb2.mono HB.out.size)
         clear hb2 HB
         have HB := Lib.hid hB
         clear hB)
      | (go_at_call 26
         refine (C26.out _ HB.out).mono ?_
         rintro e w3 ⟨⟨b3, rfl, h3'⟩, rfl⟩
         have HLn := Lib.hid h3'
         clear h3')
      | (go_at_call 39
         refine (C39.out _ HB.out).mono ?_
         rintro e w4 ⟨rfl, hb4⟩
         have hB := HB.out.trans (hb4.mono HB.out.size)
         clear hb4 HB
         obtain ⟨c0, c1, c2, c3⟩ := HCell.out w4 hB
         have HB := Lib.hid hB
         clear hB)
      | (go_at_call 27
         have hl24 := HLn.out (by simp_all)
         rw [HL.out] at hl24
         have HVal := Lib.hid hl24.2
         have hl25 := hl24.1
         clear hl24
         refine (place_any ta L tc z _ hz0 hz1 (by omega)).mono ?_
         rintro e w5 ⟨⟨p, rfl, hp⟩, rfl⟩)
      | (go_at_call 28
         refine (C28.out _ p (((HB.out.alloc HB.out.size _).alloc (by have := HB.out.size; simp; omega) _).drew) hp hl25).mono ?_
         intro e w6 hends
         obtain ⟨ea, ec, es, rfl, hown6, hes, hb6⟩ := ends_slice hends
         have HB6 : Hid (Below w.heap.size w w6) := (((HB.out.alloc HB.out.size _).alloc (by have := HB.out.size; simp; omega) _).drew).trans (hb6.mono (by have := HB.out.size; simp; omega))
         have hr := fun W W0 hW => HRl2 HRl.out w4 W W0 hW
         have HC40 := Lib.hid (begins_any _ ta ea _ tc ec p _ m L es.length wh ts us es w6 HM.out HL.out rfl (RowN.below (runes_drew (hr _ _ (by simp))) hb6 (fun k hk => by simp [Value.ownBlock] at hk; simp; omega)) (HRunB.out w6 HB6.out) hown6 hp (by omega) (fun x hx => by
           have h1 := hes x hx
           have h2 := HBg.out p x HVal.out h1.1
           exact ⟨h2.1, by have h3 := h1.2; rw [HL.out] at h3; exact h3, h2.2⟩))
         clear hends hes hb6 hown6 hr)
      | (go_at_call 40
         refine HC40.out.mono ?_
         rintro e w7 ⟨rfl, q7, rfl⟩))
    all_goals
      go_ret
      first
        | exact ⟨rfl, below_dr HB6.out _⟩
        | exact ⟨rfl, HB.out⟩
  · rw [hl1] at HCell
    have C38 : Hid (∀ w', Calls Try.prog 38 #[.int .i32 u] w' fun e w'' => e = .returned (.bool (validB u)) ∧ w' = w'') := fun w' => valid_any u w'
    clear hwdr hl1
    rcases hu with ⟨h1, _⟩ | ⟨h1, hu3⟩ | ⟨h1, hu3, hp1, hp2⟩
    all_goals
      rw [h1] at C38
      clear h1
      go_enter Try.func12, Try.ntmps12
      go_wp2_with (first
        | (go_at_call 24
           refine C24.out.mono ?_
           rintro e w1 ⟨⟨b1, rfl⟩, hb1⟩
           have HB := Lib.hid hb1
           clear hb1)
        | (go_at_call 25
           refine (C25.out _ HB.out).mono ?_
           rintro e w2 ⟨⟨b2, rfl, _⟩, hb2⟩
           have hB := HB.out.trans (hb2.mono HB.out.size)
           clear hb2 HB
           have HB := Lib.hid hB
           clear hB)
        | (go_at_call 26
           refine (C26.out _ HB.out).mono ?_
           rintro e w3 ⟨⟨b3, rfl, h3'⟩, rfl⟩
           have HLn := Lib.hid h3'
           clear h3')
        | (go_at_call 39
           refine (C39.out _ HB.out).mono ?_
           rintro e w4 ⟨rfl, hb4⟩
           have hB := HB.out.trans (hb4.mono HB.out.size)
           clear hb4 HB
           obtain ⟨c0, c1, c2, c3⟩ := HCell.out w4 hB
           have cu : ∀ ob : Obj, (w4.alloc ob).cell? ⟨rb, roff, none⟩ = some (.int .i32 u) := fun ob => World.cell?_alloc_of _ _ _ (HU.out w4 hB)
           have HB := Lib.hid hB
           clear hB)
        | (go_at_call 27
           have hl24 := HLn.out (by simp_all)
           rw [HL.out] at hl24
           have HVal := Lib.hid hl24.2
           have hl25 := hl24.1
           clear hl24
           refine (place_any ta L tc z _ hz0 hz1 (by omega)).mono ?_
           rintro e w5 ⟨⟨p, rfl, hp⟩, rfl⟩)
        | (go_at_call 38
           refine (C38.out _).mono ?_
           rintro e w8 ⟨rfl, rfl⟩)
        | (go_at_call 28
           refine (C28.out _ p (((HB.out.alloc HB.out.size _).alloc (by have := HB.out.size; simp; omega) _).drew) hp hl25).mono ?_
           intro e w6 hends
           obtain ⟨ea, ec, es, rfl, hown6, hes, hb6⟩ := ends_slice hends
           have HB6 : Hid (Below w.heap.size w w6) := (((HB.out.alloc HB.out.size _).alloc (by have := HB.out.size; simp; omega) _).drew).trans (hb6.mono (by have := HB.out.size; simp; omega))
           have hr := fun W W0 hW => HRl2 HRl.out w4 W W0 hW
           have HC40 := Lib.hid (begins_any _ ta ea _ tc ec p _ m L es.length wh ts us es w6 HM.out HL.out rfl (RowN.below (runes_drew (hr _ _ (by simp))) hb6 (fun k hk => by simp [Value.ownBlock] at hk; simp; omega)) (HRunB.out w6 HB6.out) hown6 hp (by omega) (fun x hx => by
             have h1 := hes x hx
             have h2 := HBg.out p x HVal.out h1.1
             exact ⟨h2.1, by have h3 := h1.2; rw [HL.out] at h3; exact h3, h2.2⟩))
           clear hends hes hb6 hown6 hr)
        | (go_at_call 40
           refine HC40.out.mono ?_
           rintro e w7 ⟨rfl, q7, rfl⟩))
      all_goals
        go_ret
        first
          | exact ⟨rfl, below_dr HB6.out _⟩
          | exact ⟨rfl, HB.out⟩

theorem law_prefix (is : List I) (ts : List Int) (lv tv : Value) (start z : Int) (w : World) (h : CameIn is ts lv tv w) (hz0 : 0 ≤ z) (hz1 : z < 256) :
    Calls Try.prog 12 #[lv, .int .i64 start, tv, .int .u8 z] w fun e w' => e = .returned (.bool true) ∧ Below w.heap.size w w' := by
  by_cases hP : ProgP is start
  · obtain ⟨s, rfl⟩ : ∃ s : Nat, start = (s : Int) := ⟨start.toNat, by have := hP.start.1; omega⟩
    exact law_prefix_yes is ts lv tv s z w h hP hz0 hz1
  · exact law_prefix_no is ts lv tv start z w h hP
end Go.Proofs.Ytejhffcjamdffaa
