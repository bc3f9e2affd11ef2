/-
  The contract of the laws' begins where all ends begin with the prefix: true. No conditions beside those typed.
-/
import Derived.Test.YtejhffcjamdffaaEqQ
namespace Go.Proofs.Ytejhffcjamdffaa
open Go.RowKit

theorem add_add (a : Addr) (p j : Nat) : (a.add p).add j = a.add (p + j) := by
  unfold Addr.add
  by_cases hp : p = 0
  · subst hp; simp
  · by_cases hj : j = 0
    · subst hj; simp
    · simp [hp, hj, Nat.add_assoc]

/-- A part of a text. -/
theorem part_runes {w : World} {a : Addr} {tc : Nat} {ts us : List Int} (h : Runes w (.slice (some a) ts.length tc) ts) (p : Nat) (hu : ∀ j z, us[j]? = some z → ts[p + j]? = some z) (hm : us.length ≤ tc - p) : Runes w (.slice (some (a.add p)) us.length (tc - p)) us := by
  refine ⟨by simp, .inr ⟨a.add p, tc - p, rfl, hm, ?_, fun j u hj => ?_⟩⟩
  · rcases h.2 with ⟨h1, _⟩ | ⟨a', cap, hv, _, h2, _⟩
    · cases h1
    · injection hv with _ _ e3
      subst e3
      omega
  · rcases h.2 with ⟨h1, _⟩ | ⟨a', cap, hv, _, _, h3⟩
    · cases h1
    · injection hv with e1 _ _
      injection e1 with e1
      subst e1
      rw [add_add]
      refine h3 (p + j) u ?_
      rw [List.getElem?_map] at hj ⊢
      cases hz : us[j]? with
      | none => rw [hz] at hj; cases hj
      | some z =>
        rw [hz] at hj
        rw [hu j z hz]
        exact hj

/-- An empty part. -/
theorem none_runes (w : World) (a : Addr) (c : Nat) (hc : c ≤ maxLen) : Runes w (.slice (some a) 0 c) [] :=
  ⟨rfl, .inr ⟨a, c, rfl, Nat.zero_le _, hc, fun j u h => by simp at h⟩⟩

/-- A slice of places. -/
def PlacesAt (w : World) (eb : Nat) (es : List Nat) : Prop := ∀ (k x : Nat), es[k]? = some x → w.cell? ⟨eb, k, none⟩ = some (.int .i64 (x : Int))

set_option maxRecDepth 100000 in
set_option maxHeartbeats 4000000 in
/-- The place lies within the text's capacity. -/
theorem begins_in (a : Addr) (tc p pc eb ec m n : Nat) (po : Option Addr) (wh : Bool) (ts us : List Int) (es : List Nat) (w : World) (hus : us.length = m) (hes : es.length = n) (hps : Runes w (.slice po m pc) us) (hts : Runes w (.slice (some a) ts.length tc) ts) (hpl : PlacesAt w eb es) (hpc : p < tc) (hL : ts.length ≤ tc) (hs : ts.length ≤ 1000) (hn : n ≤ 9223372036854775807)
    (hall : ∀ x, x ∈ es → ∃ d, x = p + d ∧ m ≤ d ∧ p + d ≤ ts.length ∧ (wh = true → d = m) ∧ ∀ j z, us[j]? = some z → ts[p + j]? = some z) :
    Calls Try.prog 40 #[.slice po m pc, .bool wh, .slice (some a) ts.length tc, .int .i64 p, .slice (some ⟨eb, 0, none⟩) n ec] w (Quiet (.bool true) w) := by
  have HAll := Lib.hid hall
  have HPl := Lib.hid hpl
  have HEs := Lib.hid hes
  have HP := Lib.hid hps
  have HT := Lib.hid hts
  have HUs := Lib.hid hus
  clear hall hpl hes hps hts hus
  obtain ⟨L, hLe⟩ : ∃ L, ts.length = L := ⟨_, rfl⟩
  have HLe := Lib.hid hLe
  rw [hLe]
  rw [hLe] at hL hs
  clear hLe
  go_enter Try.func40, Try.ntmps40
  go_wp2
  go_loopw [16] (fun i wr => ∃ k : Nat, k ≤ n ∧ i = .int .i64 k ∧ (∃ q, w.drewN q = wr)) (fun i _ => n - (intOf i).toNat)
  case atStart => exact ⟨0, Nat.zero_le _, rfl, ⟨0, rfl⟩⟩
  case round =>
    obtain ⟨k, hk, rfl, ⟨q, rfl⟩⟩ := hrel
    by_cases hkn : k < n
    · obtain ⟨x, hx⟩ : ∃ x, es[k]? = some x := ⟨es[k]'(by rw [HEs.out]; exact hkn), List.getElem?_eq_getElem _⟩
      obtain ⟨d, rfl, hmd, hpd, hwd, hjz⟩ := HAll.out x (List.mem_of_getElem? hx)
      rw [HLe.out] at hpd
      have c0 := HPl.out k _ hx
      have HEq : Hid (∀ z, Calls Try.prog 67 #[.slice (some (a.add p)) m (tc - p), .slice po m pc] (w.drewN z) (Quiet (.bool true) (w.drewN z))) := fun z => by
        have h1 := part_runes HT.out p hjz (by rw [HUs.out]; omega)
        rw [HUs.out] at h1
        have h2 := equal_runes_q (.slice (some (a.add p)) m (tc - p)) (.slice po m pc) us us (w.drewN z) h1 HP.out (by rw [HUs.out]; omega) (by rw [HUs.out]; omega)
        rw [decide_eq_true rfl] at h2
        exact h2
      clear hx hjz
      cases wh
      · go_wp2_with (go_at_call 67; refine (HEq.out _).mono ?_; rintro e w1 ⟨rfl, q1, rfl⟩)
        go_roundw
        case rel => exact ⟨k + 1, by omega, by go_num, q + q1, rfl⟩
        case measure => simp [intOf]; omega
      · obtain rfl : d = m := hwd rfl
        clear hwd
        go_wp2_with (go_at_call 67; refine (HEq.out _).mono ?_; rintro e w1 ⟨rfl, q1, rfl⟩)
        go_roundw
        case rel => exact ⟨k + 1, by omega, by go_num, q + q1, rfl⟩
        case measure => simp [intOf]; omega
    · go_wp2
      go_ret
      exact ⟨rfl, q, rfl⟩
set_option maxRecDepth 100000 in
set_option maxHeartbeats 4000000 in
/-- No ends. -/
theorem begins_nil (po tq eo : Option Addr) (m pc L tc p ec : Nat) (wh : Bool) (w : World) :
    Calls Try.prog 40 #[.slice po m pc, .bool wh, .slice tq L tc, .int .i64 p, .slice eo 0 ec] w (Quiet (.bool true) w) := by
  go_enter Try.func40, Try.ntmps40
  go_wp2
  go_rounds 1
  go_ret
  exact ⟨rfl, 0, rfl⟩

set_option maxRecDepth 100000 in
set_option maxHeartbeats 4000000 in
/-- The place is the end of the text's capacity. -/
theorem begins_end (a : Addr) (tc pc eb ec n : Nat) (po : Option Addr) (wh : Bool) (es : List Nat) (w : World) (hes : es.length = n) (hps : Runes w (.slice po 0 pc) []) (hpl : PlacesAt w eb es) (hs : tc ≤ 1000) (hn : n ≤ 9223372036854775807) (hall : ∀ x, x ∈ es → x = tc) :
    Calls Try.prog 40 #[.slice po 0 pc, .bool wh, .slice (some a) tc tc, .int .i64 tc, .slice (some ⟨eb, 0, none⟩) n ec] w (Quiet (.bool true) w) := by
  have HAll := Lib.hid hall
  have HPl := Lib.hid hpl
  have HEs := Lib.hid hes
  have HEq : Hid (∀ z, Calls Try.prog 67 #[.slice (some a) 0 0, .slice po 0 pc] (w.drewN z) (Quiet (.bool true) (w.drewN z))) := fun z =>
    equal_runes_q (.slice (some a) 0 0) (.slice po 0 pc) [] [] (w.drewN z) (none_runes _ a 0 (Nat.zero_le _)) hps (by simp) (by simp)
  clear hall hpl hes hps
  go_enter Try.func40, Try.ntmps40
  go_wp2
  go_loopw [16] (fun i wr => ∃ k : Nat, k ≤ n ∧ i = .int .i64 k ∧ (∃ q, w.drewN q = wr)) (fun i _ => n - (intOf i).toNat)
  case atStart => exact ⟨0, Nat.zero_le _, rfl, ⟨0, rfl⟩⟩
  case round =>
    obtain ⟨k, hk, rfl, ⟨q, rfl⟩⟩ := hrel
    by_cases hkn : k < n
    · obtain ⟨x, hx⟩ : ∃ x, es[k]? = some x := ⟨es[k]'(by rw [HEs.out]; exact hkn), List.getElem?_eq_getElem _⟩
      obtain rfl : x = tc := HAll.out x (List.mem_of_getElem? hx)
      have c0 := HPl.out k _ hx
      clear hx
      cases wh
      all_goals
        go_wp2_with (go_at_call 67; refine (HEq.out _).mono ?_; rintro e w1 ⟨rfl, q1, rfl⟩)
        go_roundw
        case rel => exact ⟨k + 1, by omega, by go_num, q + q1, rfl⟩
        case measure => simp [intOf]; omega
    · go_wp2
      go_ret
      exact ⟨rfl, q, rfl⟩

set_option maxRecDepth 100000 in
set_option maxHeartbeats 4000000 in
/-- The text is nil. -/
theorem begins_none (pc eb ec n : Nat) (po : Option Addr) (wh : Bool) (es : List Nat) (w : World) (hes : es.length = n) (hps : Runes w (.slice po 0 pc) []) (hpl : PlacesAt w eb es) (hn : n ≤ 9223372036854775807) (hall : ∀ x, x ∈ es → x = 0) :
    Calls Try.prog 40 #[.slice po 0 pc, .bool wh, .slice none 0 0, .int .i64 (0 : Nat), .slice (some ⟨eb, 0, none⟩) n ec] w (Quiet (.bool true) w) := by
  have HAll := Lib.hid hall
  have HPl := Lib.hid hpl
  have HEs := Lib.hid hes
  have HEq : Hid (∀ z, Calls Try.prog 67 #[.slice none 0 0, .slice po 0 pc] (w.drewN z) (Quiet (.bool true) (w.drewN z))) := fun z =>
    equal_runes_q (.slice none 0 0) (.slice po 0 pc) [] [] (w.drewN z) ⟨rfl, .inl ⟨rfl, rfl⟩⟩ hps (by simp) (by simp)
  clear hall hpl hes hps
  simp only [Int.natCast_zero] at *
  go_enter Try.func40, Try.ntmps40
  go_wp2
  go_loopw [16] (fun i wr => ∃ k : Nat, k ≤ n ∧ i = .int .i64 k ∧ (∃ q, w.drewN q = wr)) (fun i _ => n - (intOf i).toNat)
  case atStart => exact ⟨0, Nat.zero_le _, rfl, ⟨0, rfl⟩⟩
  case round =>
    obtain ⟨k, hk, rfl, ⟨q, rfl⟩⟩ := hrel
    by_cases hkn : k < n
    · obtain ⟨x, hx⟩ : ∃ x, es[k]? = some x := ⟨es[k]'(by rw [HEs.out]; exact hkn), List.getElem?_eq_getElem _⟩
      obtain rfl : x = 0 := HAll.out x (List.mem_of_getElem? hx)
      have c0 := HPl.out k _ hx
      simp only [Int.natCast_zero] at c0
      clear hx
      cases wh
      all_goals
        go_wp2_with (go_at_call 67; refine (HEq.out _).mono ?_; rintro e w1 ⟨rfl, q1, rfl⟩)
        go_roundw
        case rel => exact ⟨k + 1, by omega, by go_num, q + q1, rfl⟩
        case measure => simp [intOf]; omega
    · go_wp2
      go_ret
      exact ⟨rfl, q, rfl⟩
end Go.Proofs.Ytejhffcjamdffaa
