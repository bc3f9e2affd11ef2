/-
  The walk of the law FnProgramConds. Condition: the slice holds bytes in memory that was there.
-/
import Derived.Test.YtejhffcjamdffaaCond
import Derived.Test.YtejhffcjamdffaaOwnInsts
import Derived.Test.YtejhffcjamdffaaBits
namespace Go.Proofs.Ytejhffcjamdffaa
open Go.RowKit

def bitN (z : Int) : Nat := if z % 6 = 0 then 1 else if z % 6 = 1 then 2 else if z % 6 = 2 then 4 else if z % 6 = 3 then 8 else if z % 6 = 4 then 16 else 32
def condI (j : Nat) (z : Int) : I := { op := 3, out := (j : Int) + 1, arg := bitN z, runes := [] }
def condsK (zs : List Int) (k : Nat) : List I := (List.range k).map fun j => condI j (zs.getD j 0)
def wantN (zs : List Int) : Nat → Nat
  | 0 => 0
  | k + 1 => wantN zs k ||| bitN (zs.getD k 0)

theorem bitN_lt (z : Int) : bitN z < 64 := by
  unfold bitN
  (repeat' split) <;> decide
theorem wantN_lt (zs : List Int) (k : Nat) : wantN zs k < 64 := by
  induction k with
  | zero => simp [wantN]
  | succ k ih => exact Nat.or_lt_two_pow (n := 6) ih (bitN_lt _)
theorem condsK_succ (zs : List Int) (k : Nat) : condsK zs (k + 1) = condsK zs k ++ [condI k (zs.getD k 0)] := by
  simp [condsK, List.range_succ]
theorem condsK_length (zs : List Int) (k : Nat) : (condsK zs k).length = k := by simp [condsK]
theorem condsK_get (zs : List Int) (k j : Nat) (h : j < k) : (condsK zs k)[j]? = some (condI j (zs.getD j 0)) := by
  simp [condsK, h]

theorem scond_conds (zs : List Int) (n : Nat) (last : I) (hn : n ≤ 50) (r : Int) (hl : scond (condsK zs n ++ [last]) 1 n (wantN zs n) = some r) :
    ∀ d j, j + d = n → scond (condsK zs n ++ [last]) (d + 1) j (wantN zs j) = some r := by
  intro d
  induction d with
  | zero =>
              intro j hj
              have hjn : j = n := by omega
              subst hjn
              exact hl
  | succ d ih =>
    intro j hj
    have hget : (condsK zs n ++ [last])[j]? = some (condI j (zs.getD j 0)) := by
      rw [List.getElem?_append_left (by rw [condsK_length]; omega), condsK_get zs n j (by omega)]
    rw [scond, hget]
    dsimp only
    have h3 : IntKind.u8.wrap (condI j (zs.getD j 0)).op = 3 := rfl
    rw [if_pos h3]
    have ho : (IntKind.u32.wrap (condI j (zs.getD j 0)).out).toNat = j + 1 := by
      show (IntKind.u32.wrap ((j : Int) + 1)).toNat = j + 1
      have := wrap_u32 (j + 1) (by omega)
      rw [show ((j : Int) + 1) = ((j + 1 : Nat) : Int) from by omega, this]
      omega
    have hb := bitN_lt (zs.getD j 0)
    have hw := wantN_lt zs j
    have ha : bits BinOp.or IntKind.u8 (wantN zs j) (IntKind.u8.wrap (IntKind.u32.wrap (condI j (zs.getD j 0)).arg)) = (wantN zs (j + 1) : Nat) := by
      show bits BinOp.or IntKind.u8 (wantN zs j) (IntKind.u8.wrap (IntKind.u32.wrap ((bitN (zs.getD j 0) : Nat) : Int))) = _
      rw [wrap_u32 _ (by omega), wrap_u8 _ (by omega), or_u8 _ _ (by omega) (by omega)]
      rfl
    rw [ho, ha]
    exact ih (j + 1) (by omega)

def lastI (fails : Bool) : I := { op := if fails then 5 else 4, out := 0, arg := 0, runes := [] }

theorem scond_all (zs : List Int) (n : Nat) (fails : Bool) (hn : n ≤ 50) : scond (condsK zs n ++ [lastI fails]) (n + 1) 0 0 = some (if fails then 255 else (wantN zs n : Int)) := by
  have h := scond_conds zs n (lastI fails) hn (if fails then 255 else (wantN zs n : Int)) (by
    rw [scond, List.getElem?_append_right (by rw [condsK_length]; omega), condsK_length, Nat.sub_self]
    cases fails <;> rfl) n 0 (by omega)
  exact h

theorem conds_next {wr w2 : World} {B k : Nat} {m : Nat} {z : Int} {zs : List Int} {cs : List Value} {v v' : Value} {o : Obj} (hS : condsK zs (k + 1) = condsK zs k ++ [condI k z]) (hm : bitN z = m) (h : OwnInsts wr B v (condsK zs k) cs) (hg : (wr.alloc o).grownBy w2 v.ownBlock)
    (hown : w2.ownsRow B 28 4 v' (k + 1) (cs ++ [.int .i64 3, .int .i64 ((k : Int) + 1), .int .i64 m, .slice none 0 0])) : ∃ cs', OwnInsts w2 B v' (condsK zs (k + 1)) cs' := by
  rw [hS]
  refine ⟨_, OwnInsts.snoc (i := condI k z) (rv := .slice none 0 0) (h.below (below1 wr o)) (World.ownsRow_nil _ _ _ _) hg ?_⟩
  rw [condsK_length]
  subst hm
  exact hown

theorem conds_last {wr w2 : World} {B n : Nat} {fails : Bool} {zs : List Int} {cs : List Value} {v v' : Value} {o : Obj} (h : OwnInsts wr B v (condsK zs n) cs) (hg : (wr.alloc o).grownBy w2 v.ownBlock)
    (hown : w2.ownsRow B 28 4 v' (n + 1) (cs ++ [.int .i64 (lastI fails).op, .int .i64 0, .int .i64 0, .slice none 0 0])) : Insts w2 w2.heap.size v' (condsK zs n ++ [lastI fails]) := by
  refine OwnInsts.insts (base := B) (cs := cs ++ [.int .i64 (lastI fails).op, .int .i64 0, .int .i64 0, .slice none 0 0]) ?_
  refine OwnInsts.snoc (i := lastI fails) (rv := .slice none 0 0) (h.below (below1 wr o)) (World.ownsRow_nil _ _ _ _) hg ?_
  rw [condsK_length]
  exact hown
theorem conds_runes (zs : List Int) (n : Nat) (fails : Bool) : ∀ i ∈ condsK zs n ++ [lastI fails], i.runes.length ≤ 1000000 := by
  intro i hi
  rcases List.mem_append.1 hi with h | h
  · simp only [condsK, List.mem_map] at h
    obtain ⟨j, _, rfl⟩ := h
    simp [condI]
  · simp only [List.mem_singleton] at h
    subst h
    simp [lastI]
theorem want_wrap (zs : List Int) (n : Nat) : wrap64 (wantN zs n : Int) = wantN zs n := by
  have := wantN_lt zs n
  exact IntWalk.wrap64_in _ ⟨by omega, by omega⟩

theorem mod6 (z : Int) : z % 6 = 0 ∨ z % 6 = 1 ∨ z % 6 = 2 ∨ z % 6 = 3 ∨ z % 6 = 4 ∨ z % 6 = 5 := by omega

set_option maxRecDepth 100000 in
set_option maxHeartbeats 4000000 in
theorem law_conds (zs : List Int) (fails : Bool) (ao : Option Addr) (cap : Nat) (w : World) (hm : zs.length ≤ 9223372036854775807) (hz : ∀ z ∈ zs, 0 ≤ z)
    (hc : zs ≠ [] → ∃ b off, ao = some ⟨b, off, none⟩ ∧ b < w.heap.size ∧ ∀ j, j < zs.length → w.cell? ⟨b, off + j, none⟩ = some (.int .u8 (zs.getD j 0))) :
    Calls Try.prog 6 #[.slice ao zs.length cap, .bool fails] w fun e w' => e = .returned (.bool true) ∧ Below w.heap.size w w' := by
  obtain ⟨i0, hi, hz0, hz1, hz2⟩ := info_parts Try.info28
  have HC := Lib.hid hc
  have HZ := Lib.hid hz
  generalize hN : zs.length = n at *
  have HN := Lib.hid hN
  clear hc hz hN
  by_cases h1 : 50 < n
  · by_cases h2 : 2147483647 < n
    · go_enter Try.func6, Try.ntmps6
      go_wp2
      go_ret
      exact ⟨rfl, Below.refl _ _⟩
    · go_enter Try.func6, Try.ntmps6
      go_wp2
      go_ret
      exact ⟨rfl, Below.refl _ _⟩
  · go_enter Try.func6, Try.ntmps6
    go_wp2
    go_loopw [5, 6, 18] (fun l wa i wr => ∃ k : Nat, k ≤ n ∧ i = .int .i64 k ∧ wa = .int .i64 (wantN zs k : Nat) ∧ (∃ cs, OwnInsts wr w.heap.size l (condsK zs k) cs) ∧ Below w.heap.size w wr) (fun _ _ i _ => n - (intOf i).toNat)
    case atStart => exact ⟨0, Nat.zero_le _, rfl, rfl, ⟨[], World.ownsRow_made w #[] 0 (Nat.le_refl _) (by decide) rfl, fun k i h => by simp [condsK] at h⟩, below1 w _⟩
    case round =>
      obtain ⟨k, hk, rfl, rfl, ⟨cs, hown⟩, hbel⟩ := hrel
      by_cases hkn : k < n
      · have hne : zs ≠ [] := by rintro rfl; have := HN.out; simp at this; omega
        obtain ⟨b, off, rfl, hb, hcell⟩ := HC.out hne
        have hc := (hbel.cell (p := ⟨b, off + k, none⟩) hb).trans (hcell k hkn)
        have hz : 0 ≤ zs.getD k 0 := HZ.out _ (by rw [List.getD, List.getElem?_eq_getElem (by rw [HN.out]; exact hkn)]; exact List.getElem_mem _)
        have HS := Lib.hid (condsK_succ zs k)
        have HW : Hid (wantN zs (k + 1) = wantN zs k ||| bitN (zs.getD k 0)) := rfl
        have hw := wantN_lt zs k
        obtain ⟨v, ca, hv⟩ := owns_slice hown.1
        rw [condsK_length] at hv
        subst hv
        have HO := Lib.hid hown
        have HOwn : Hid (wr.ownsRow w.heap.size 28 4 (.slice v k ca) k cs) := by have h := hown.1; rw [condsK_length] at h; exact h
        generalize zs.getD k 0 = z at *
        clear hown hcell hne
        have hsz := hbel.size
        rcases mod6 z with h6 | h6 | h6 | h6 | h6 | h6
        all_goals
          go_wp2_with (at_builtin; refine wpList_append_lies _ rfl _ _ _ rfl w.heap.size 28 i0 _ 4 48 Try.underlying31 hi hz0 hz1 hz2 rfl (by omega) (.slice v k ca) k cs rfl (HOwn.out.alloc _) ⟨wr.heap.size, 0, none⟩ 1 1 _ rfl ?_ (World.news_of_block (t := 28) (fr := (0, 0)) (heap_alloc_new wr _)) ?_ (by omega) (by unfold maxLen; omega) (by omega) (by simp; omega) (wr.heap.size + 1) (by simp) ?_)
          · simp [Value.oneCell']
          · intro g cap1 w2 hown2 hgrow hat hlt2
            have hB2 := (hbel.alloc hsz (.cells #[.int .i64 3, .int .i64 ((k : Int) + 1), .int .i64 _, .slice none 0 0] 28)).grown hgrow (by simp; omega) (fun j hj => (HOwn.out.lt j hj).1)
            have hnext := conds_next (m := bitN z) HS.out rfl HO.out hgrow (by simp only [bitN, h6]; exact hown2)
            have HNx := Lib.hid hnext
            have HB2 := Lib.hid hB2
            clear hnext hB2 hown2 hgrow hat hlt2 HO HOwn HS hbel
            go_wp2
            go_roundw
            case rel =>
              refine ⟨k + 1, by omega, by go_num, ?_, HNx.out, HB2.out⟩
              rw [HW.out]
              simp only [bitN, h6]
              have hw' : wantN zs k < 256 := by omega
              refine congrArg (Value.int .i64) ?_
              first
                | exact or_i64 _ 1 hw' (by decide)
                | exact or_i64 _ 2 hw' (by decide)
                | exact or_i64 _ 4 hw' (by decide)
                | exact or_i64 _ 8 hw' (by decide)
                | exact or_i64 _ 16 hw' (by decide)
                | exact or_i64 _ 32 hw' (by decide)
            case measure => simp [intOf]; omega
      · have hkn' : k = n := by omega
        subst hkn'
        obtain ⟨v, ca, hv⟩ := owns_slice hown.1
        rw [condsK_length] at hv
        subst hv
        have HO := Lib.hid hown
        have HOwn : Hid (wr.ownsRow w.heap.size 28 4 (.slice v k ca) k cs) := by have h := hown.1; rw [condsK_length] at h; exact h
        clear hown
        have hsz := hbel.size
        have HA := Lib.hid (scond_all zs k fails (by omega))
        cases fails
        all_goals
          go_wp2_with (first
            | (at_builtin; refine wpList_append_lies _ rfl _ _ _ rfl w.heap.size 28 i0 _ 4 48 Try.underlying31 hi hz0 hz1 hz2 rfl (by omega) (.slice v k ca) k cs rfl (HOwn.out.alloc _) ⟨wr.heap.size, 0, none⟩ 1 1 _ rfl ?_ (World.news_of_block (t := 28) (fr := (0, 0)) (heap_alloc_new wr _)) ?_ (by omega) (by unfold maxLen; omega) (by omega) (by simp; omega) (wr.heap.size + 1) (by simp) ?_)
            | (go_at_call 19; fail))
          · simp [Value.oneCell']
          · intro g cap1 w2 hown2 hgrow hat hlt2
            have hB2 := (hbel.alloc hsz (.cells #[.int .i64 _, .int .i64 0, .int .i64 0, .slice none 0 0] 28)).grown hgrow (by simp; omega) (fun j hj => (HOwn.out.lt j hj).1)
            first
              | have hnext := conds_last (fails := true) HO.out hgrow hown2
              | have hnext := conds_last (fails := false) HO.out hgrow hown2
            have HNx := Lib.hid hnext
            have HB2 := Lib.hid hB2
            clear hnext hB2 hown2 hgrow hat hlt2 HO HOwn hbel
            go_wp2_with (go_at_call 19; refine (program_cond _ 0 _ (k + 1) _ _ HNx.out (by simp [condsK_length]; omega) (conds_runes _ _ _) HA.out).mono ?_; rintro e w3 ⟨rfl, hb3⟩)
            go_ret
            refine ⟨ret_bool ?_, HB2.out.trans (hb3.mono HB2.out.size)⟩
            first
              | (rw [want_wrap]; simp; done)
              | (rw [show wrap64 255 = 255 from IntWalk.wrap64_in _ ⟨by decide, by decide⟩]; rfl)
end Go.Proofs.Ytejhffcjamdffaa
