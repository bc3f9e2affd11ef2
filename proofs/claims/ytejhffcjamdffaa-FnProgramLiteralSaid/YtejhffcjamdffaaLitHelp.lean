/-
  What the law FnProgramLiteral calls beside ProgramPrefix: the search for an odd rune; the row of instructions; the word of the runes. No conditions beside those typed.
-/
import Derived.Test.YtejhffcjamdffaaLitPlain
import Derived.Test.YtejhffcjamdffaaOwnInsts
import Derived.Test.YtejhffcjamdffaaProgPrefix
namespace Go.Proofs.Ytejhffcjamdffaa
open Go.RowKit

def badB (r : Int) : Bool := !validB r || decide (r = 65533)

theorem bad_any (r : Int) (w : World) : Calls Try.prog 37 #[.int .i32 r] w fun e w' => e = .returned (.bool (badB r)) ∧ w = w' := by
  have HO : Hid (badB r = (!validB r || decide (r = 65533))) := rfl
  have HV : Hid (∀ w, Calls Try.prog 38 #[.int .i32 r] w fun e w' => e = .returned (.bool (validB r)) ∧ w = w') := valid_any r
  have hv : validB r = true ∨ validB r = false := by cases validB r <;> simp
  have hd : r = 65533 ∨ r ≠ 65533 := by omega
  generalize badB r = x at *
  generalize validB r = y at *
  rcases hv with rfl | rfl
  · rcases hd with rfl | hd
    · go_enter Try.func37, Try.ntmps37
      go_wp2_with (go_at_call 38; refine (HV.out _).mono ?_; rintro e w' ⟨rfl, rfl⟩)
      go_ret
      exact ⟨ret_bool (by rw [HO.out]; rfl), rfl⟩
    · go_enter Try.func37, Try.ntmps37
      go_wp2_with (go_at_call 38; refine (HV.out _).mono ?_; rintro e w' ⟨rfl, rfl⟩)
      go_ret
      exact ⟨ret_bool (by rw [HO.out]; simp [hd]), rfl⟩
  · go_enter Try.func37, Try.ntmps37
    go_wp2_with (go_at_call 38; refine (HV.out _).mono ?_; rintro e w' ⟨rfl, rfl⟩)
    go_ret
    exact ⟨ret_bool (by rw [HO.out]; rfl), rfl⟩

set_option maxRecDepth 100000 in
set_option maxHeartbeats 4000000 in
theorem index_bad (v : Value) (zs : List Int) (w : World) (h : Runes w v zs) (hl : zs.length ≤ 9223372036854775807) :
    Calls Try.prog 69 #[v, .func (.func 37) #[] #[]] w (IdxPost badB zs w) := by
  obtain ⟨ao, cap, rfl, hz⟩ := h.open
  have HZ := Lib.hid hz
  clear h hz
  generalize hN : zs.length = n at *
  have HN := Lib.hid hN
  clear hN
  go_enter Try.func69, Try.ntmps69
  go_wp2
  go_loop [8] (fun i => ∃ k : Nat, k ≤ n ∧ i = .int .i64 k ∧ Hid ((zs.take k).any badB = false)) (fun i => n - (intOf i).toNat)
  case atStart => exact ⟨0, Nat.zero_le _, rfl, rfl⟩
  case round =>
    obtain ⟨k, hk, rfl, HA⟩ := hrel
    by_cases hkn : k < n
    · obtain ⟨z, hks⟩ : ∃ z, zs[k]? = some z := ⟨zs[k]'(by rw [HN.out]; exact hkn), List.getElem?_eq_getElem _⟩
      rcases HZ.out with h0 | ⟨b, off, rfl, hc⟩
      · rw [h0] at hks; simp at hks
      · have c0 := hc k z hks
        have HK := Lib.hid hks
        clear hc hks
        have hz : badB z = true ∨ badB z = false := by cases badB z <;> simp
        rcases hz with hz | hz
        · go_wp2_with (go_at_call 37; refine (bad_any _ _).mono ?_; rintro e w' ⟨rfl, rfl⟩)
          go_ret
          exact ⟨_, rfl, by rw [any_of_get _ _ _ _ HK.out hz]; simp, rfl⟩
        · go_wp2_with (go_at_call 37; refine (bad_any _ _).mono ?_; rintro e w' ⟨rfl, rfl⟩)
          go_round
          case rel => exact ⟨k + 1, by omega, by go_num, any_take_succ _ _ _ _ HK.out HA.out hz⟩
          case measure => simp [intOf]; omega
    · have hkn' : k = n := by omega
      go_wp2
      go_ret
      refine ⟨_, rfl, ?_, rfl⟩
      have hA := HA.out
      rw [List.take_of_length_le (by rw [HN.out, hkn']; exact Nat.le_refl _)] at hA
      rw [hA]; rfl

theorem contains_bad (v : Value) (zs : List Int) (w : World) (h : Runes w v zs) (hl : zs.length ≤ 9223372036854775807) :
    Calls Try.prog 36 #[v, .func (.func 37) #[] #[]] w fun e w' => e = .returned (.bool (zs.any badB)) ∧ w = w' := by
  have H := Lib.hid h
  clear h
  go_enter Try.func36, Try.ntmps36
  go_wp2_with (go_at_call 69; refine (index_bad _ zs _ H.out hl).mono ?_; rintro e w' ⟨i, rfl, hi, rfl⟩; have HI := Lib.hid hi; clear hi)
  go_ret
  exact ⟨ret_bool HI.out, rfl⟩

theorem lit_next {wr w2 : World} {B k : Nat} {z : Int} {zs : List Int} {cs : List Value} {v v' : Value} {o : Obj} (hS : litsK zs (k + 1) = litsK zs k ++ [litI k z]) (hB : B ≤ wr.heap.size) (h : OwnInsts wr B v (litsK zs k) cs) (hg : ((wr.alloc (.cells #[.int .i32 z] 21)).alloc o).grownBy w2 v.ownBlock)
    (hown : w2.ownsRow B 28 4 v' (k + 1) (cs ++ [.int .i64 8, .int .i64 ((k : Int) + 1), .int .i64 0, .slice (some ⟨wr.heap.size, 0, none⟩) 1 1])) : ∃ cs', OwnInsts w2 B v' (litsK zs (k + 1)) cs' := by
  rw [hS]
  refine ⟨_, OwnInsts.snoc (i := litI k z) (rv := .slice (some ⟨wr.heap.size, 0, none⟩) 1 1) ((h.below (below1 wr _)).below (below1 _ o)) ?_ hg ?_⟩
  · refine owns_below (w := wr.alloc (.cells #[.int .i32 z] 21)) ?_ (below1 _ o) (fun g hg => ?_)
    · exact ⟨rfl, .inr ⟨wr.heap.size, 1, _, rfl, hB, heap_alloc_new wr _, Nat.le_refl _, by decide, rfl, rfl⟩⟩
    · have : g = wr.heap.size := by simpa [Value.ownBlock] using hg.symm
      subst this
      show _ < (wr.heap.push _).size
      simp
  · rw [litsK_length]
    exact hown

theorem lit_last {wr w2 : World} {B : Nat} {zs : List Int} {cs : List Value} {v v' : Value} {o : Obj} (h : OwnInsts wr B v (litsK zs zs.length) cs) (hg : (wr.alloc o).grownBy w2 v.ownBlock)
    (hown : w2.ownsRow B 28 4 v' (zs.length + 1) (cs ++ [.int .i64 4, .int .i64 0, .int .i64 0, .slice none 0 0])) : Insts w2 w2.heap.size v' (litP zs) := by
  refine OwnInsts.insts (base := B) (cs := cs ++ [.int .i64 4, .int .i64 0, .int .i64 0, .slice none 0 0]) ?_
  refine OwnInsts.snoc (i := endI) (rv := .slice none 0 0) (h.below (below1 wr o)) (World.ownsRow_nil _ _ _ _) hg ?_
  rw [litsK_length]
  exact hown

/-- The word of right runes. -/
theorem conv_right (v : Value) (zs : List Int) (w : World) (h : Runes w v zs) (hv : ∀ z, z ∈ zs → validB z = true) : (convert 26 9 v).run Try.prog w = .ok (.string ⟨(encs zs).toArray⟩) w := by
  rcases h.2 with ⟨rfl, h0⟩ | ⟨a, cap, rfl, h1, h2, h3⟩
  · have hz : zs = [] := List.length_eq_zero_iff.1 h0
    subst hz
    exact run_convert_runes_nil w 26 9 21 0 0 Try.underlying26 Try.underlying21 Try.underlying9
  · rw [run_convert_runes w 26 9 21 a zs.length cap zs (Nat.le_refl _) Try.underlying26 Try.underlying21 Try.underlying9 (fun j hj => by
      have := h3 j (.int .i32 (zs.getD j 0)) (by rw [List.getElem?_map, List.getElem?_eq_getElem hj, List.getD, List.getElem?_eq_getElem hj]; rfl)
      exact this), List.take_length, runesBytes_right zs hv]

theorem not_bad {zs : List Int} (h : zs.any badB = false) : (∀ z, z ∈ zs → validB z = true) ∧ ∀ z, z ∈ zs → z ≠ 65533 := by
  rw [List.any_eq_false] at h
  refine ⟨fun z hz => ?_, fun z hz he => ?_⟩
  · have := h z hz
    cases hv : validB z
    · simp [badB, hv] at this
    · rfl
  · have := h z hz
    simp [badB, he] at this

theorem lit_call (zs : List Int) (v : Value) (w : World) (h : Insts w w.heap.size v (litP zs)) (hl : zs.length ≤ 50) (hb : zs.any badB = false) :
    Calls Try.prog 39 #[v, .int .i64 0] w fun e w' => e = .returned (.tuple #[.string ⟨(encs zs).toArray⟩, .bool true]) ∧ Below w.heap.size w w' := by
  obtain ⟨hv, hne⟩ := not_bad hb
  refine progprefix_any (litP zs) 0 v w zs true 0 h (lit_ok zs hl hv) (lit_skip zs 0 _ (Nat.zero_le _)) ?_
  rw [litP_length]
  have h1 := lit_pref zs (zs.length + 1) hne zs.length 0 (by omega)
  rw [List.drop_zero] at h1
  exact pref_mono _ _ _ _ _ h1 _ (by omega)
end Go.Proofs.Ytejhffcjamdffaa
