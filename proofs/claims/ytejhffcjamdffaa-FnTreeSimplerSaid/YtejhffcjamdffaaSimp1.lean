/-
  The walks of simplify1 and of (*Regexp).Simplify, way by way, where they hand back the very node. No conditions beside those typed.
-/
import Derived.Test.YtejhffcjamdffaaEqQ
import Derived.Test.YtejhffcjamdffaaMaxCap
import Derived.Test.YtejhffcjamdffaaSimpPlain
import Derived.Lib.Builder
namespace Go.Proofs.Ytejhffcjamdffaa
open Go.RowKit

theorem quiet_here {P : Program} {f : FuncId} {args : Array Value} {w : World} {a n : Nat} {v : Value} (h : ∀ m, Calls P f args (w.drewN m) (Quiet v (w.drewN m))) :
    Calls P f args (w.drewN (a + n)) fun e w'' => e = .returned v ∧ ∃ m, w'' = w.drewN (a + m) :=
  (h (a + n)).mono fun _ _ ⟨he, m, hm⟩ => ⟨he, n + m, by rw [hm, World.drewN_drewN, Nat.add_assoc]⟩

theorem Try.info113 : (Try.prog.info? 113).isSome = true := by kernel_rfl
theorem ptr_eql : ∀ (w : World) (a : Addr), (binOp .eql 80 (.pointer (some a)) (.pointer (some a))).run Try.prog w = .ok (.bool true) w := fun w a => by
  obtain ⟨j, hj⟩ := Option.isSome_iff_exists.1 Try.info113
  exact run_eql_ptr_same w a Try.underlying80 hj
theorem ptr_neq : ∀ (w : World) (a : Addr), (binOp .neq 80 (.pointer (some a)) (.pointer (some a))).run Try.prog w = .ok (.bool false) w := fun w a => by
  obtain ⟨j, hj⟩ := Option.isSome_iff_exists.1 Try.info113
  exact Lib.run_neq_ptr_same w a Try.underlying80 hj

set_option maxRecDepth 100000 in
set_option maxHeartbeats 4000000 in
theorem simp1_any (op sop fl : Int) (g gs b off sc : Nat) (w : World) (c0 : w.cell? ⟨g, 0, none⟩ = some (.int .u8 op)) (c1 : w.cell? ⟨g, 1, none⟩ = some (.int .u16 fl)) (c2 : w.cell? ⟨g, 2, none⟩ = some (.slice (some ⟨b, off, none⟩) 1 sc))
    (p0 : w.cell? ⟨b, off, none⟩ = some (.pointer (some ⟨gs, 0, none⟩))) (q0 : w.cell? ⟨gs, 0, none⟩ = some (.int .u8 sop)) (h2 : (sop == 2) = false) (hne : (op == sop) = false) :
    Calls Try.prog 89 #[.int .u8 op, .int .u16 fl, .pointer (some ⟨gs, 0, none⟩), .pointer (some ⟨g, 0, none⟩)] w (Quiet (.pointer (some ⟨g, 0, none⟩)) w) := by
  have e1 := ptr_eql
  have e2 := ptr_neq
  go_enter Try.func89, Try.ntmps89
  go_wp2
  go_ret
  exact ⟨rfl, 0, rfl⟩

set_option maxRecDepth 100000 in
set_option maxHeartbeats 4000000 in
theorem simp_leaf (o : Int) (g : Nat) (w : World) (h13 : (o == 13) = false) (h18 : (o == 18) = false) (h19 : (o == 19) = false) (h14 : (o == 14) = false) (h15 : (o == 15) = false) (h16 : (o == 16) = false) (h17 : (o == 17) = false) (c0 : w.cell? ⟨g, 0, none⟩ = some (.int .u8 o)) :
    Calls Try.prog 75 #[.pointer (some ⟨g, 0, none⟩)] w (Quiet (.pointer (some ⟨g, 0, none⟩)) w) := by
  go_enter Try.func75, Try.ntmps75
  go_wp2
  go_ret
  exact ⟨rfl, 0, rfl⟩

set_option maxRecDepth 100000 in
set_option maxHeartbeats 4000000 in
theorem simp_rep (o sop fl : Int) (g gs b off sc : Nat) (w : World) (ho : o = 14 ∨ o = 15 ∨ o = 16) (c0 : w.cell? ⟨g, 0, none⟩ = some (.int .u8 o)) (c1 : w.cell? ⟨g, 1, none⟩ = some (.int .u16 fl)) (c2 : w.cell? ⟨g, 2, none⟩ = some (.slice (some ⟨b, off, none⟩) 1 sc))
    (p0 : w.cell? ⟨b, off, none⟩ = some (.pointer (some ⟨gs, 0, none⟩))) (q0 : w.cell? ⟨gs, 0, none⟩ = some (.int .u8 sop)) (h2 : (sop == 2) = false) (hne : (o == sop) = false)
    (IH : Hid (Calls Try.prog 75 #[.pointer (some ⟨gs, 0, none⟩)] w (Quiet (.pointer (some ⟨gs, 0, none⟩)) w))) :
    Calls Try.prog 75 #[.pointer (some ⟨g, 0, none⟩)] w (Quiet (.pointer (some ⟨g, 0, none⟩)) w) := by
  have HC : Hid (∀ m, Calls Try.prog 89 #[.int .u8 o, .int .u16 fl, .pointer (some ⟨gs, 0, none⟩), .pointer (some ⟨g, 0, none⟩)] (w.drewN m) (Quiet (.pointer (some ⟨g, 0, none⟩)) (w.drewN m))) := fun m =>
    simp1_any o sop fl g gs b off sc _ (by simpa using c0) (by simpa using c1) (by simpa using c2) (by simpa using p0) (by simpa using q0) h2 hne
  rcases ho with rfl | rfl | rfl
  all_goals
    go_enter Try.func75, Try.ntmps75
    go_wp2_with (go_at_call 75; refine IH.out.mono ?_; rintro e w' ⟨rfl, m, rfl⟩)
    go_quiet ((go_at_call 89; exact quiet_here HC.out))
    go_wp2
    go_ret
    exact ⟨rfl, _, World.drewN_drewN _ _ _⟩

set_option maxRecDepth 100000 in
set_option maxHeartbeats 4000000 in
theorem simp_many (o : Int) (g n sc : Nat) (so : Option Addr) (w : World) (ho : o = 13 ∨ o = 18 ∨ o = 19) (hn : n ≤ 1353264501504) (c0 : w.cell? ⟨g, 0, none⟩ = some (.int .u8 o)) (c2 : w.cell? ⟨g, 2, none⟩ = some (.slice so n sc))
    (IH : Hid (∀ k, k < n → ∃ b off gs, so = some ⟨b, off, none⟩ ∧ w.cell? ⟨b, off + k, none⟩ = some (.pointer (some ⟨gs, 0, none⟩)) ∧ ∀ m, Calls Try.prog 75 #[.pointer (some ⟨gs, 0, none⟩)] (w.drewN m) (Quiet (.pointer (some ⟨gs, 0, none⟩)) (w.drewN m)))) :
    Calls Try.prog 75 #[.pointer (some ⟨g, 0, none⟩)] w (Quiet (.pointer (some ⟨g, 0, none⟩)) w) := by
  have e1 := ptr_eql
  have e2 := ptr_neq
  rcases ho with rfl | rfl | rfl
  all_goals
    go_enter Try.func75, Try.ntmps75
    go_wp2
    go_loopw [3, 32] (fun r i wr => ∃ k : Nat, k ≤ n ∧ i = .int .i64 k ∧ r = .pointer (some ⟨g, 0, none⟩) ∧ (∃ m, w.drewN m = wr)) (fun _ i _ => n - (intOf i).toNat)
    case atStart => exact ⟨0, Nat.zero_le _, rfl, rfl, 0, rfl⟩
    case round =>
      obtain ⟨k, hk, rfl, rfl, m, rfl⟩ := hrel
      by_cases hkn : k < n
      · obtain ⟨b, off, gs, rfl, p0, hcall⟩ := IH.out k hkn
        have HC := Lib.hid (hcall m)
        clear hcall
        go_wp2_with (go_at_call 75; refine HC.out.mono ?_; rintro e w' ⟨rfl, m', rfl⟩)
        go_roundw
        case rel => exact ⟨k + 1, by omega, by go_num, rfl, m + m', rfl⟩
        case measure => simp [intOf]; omega
      · go_wp2
        go_ret
        exact ⟨rfl, m, rfl⟩

/-- What is asked of Simplify at depth d. -/
def SimpIH (S : Nat → Prop) (d : Nat) : Prop := ∀ (nd : Nd) (g : Nat) (w : World), Rg w S d nd g → OkF d nd → SmF d nd →
    Calls Try.prog 75 #[.pointer (some ⟨g, 0, none⟩)] w (Quiet (.pointer (some ⟨g, 0, none⟩)) w)

theorem keeps_draw (S : Nat → Prop) (w : World) (m : Nat) : Keeps S w (w.drewN m) := fun b _ => by
  induction m with
  | zero => rfl
  | succ m ih => exact ih

/-- Simplify hands back the very node. -/
theorem simp_any (S : Nat → Prop) (d : Nat) : SimpIH S d := by
  induction d with
  | zero => intro nd g w h; cases h
  | succ d ih =>
    intro nd g w h hok hsm
    obtain ⟨ro, so, rc, sc, hg, hobj, hfit, hr, hrb, hs⟩ := h.open
    obtain ⟨c0, c1, c2, c3, c4, c5, c6, c7, c8, c9, c10⟩ := rg_cells hobj
    have hrange := hok.1.range
    rw [show nd.op % 256 = nd.op from by omega] at c0
    have h17 := hsm.1
    have hone : ∀ s gs, s ∈ nd.subs → Rg w S d s gs → ∀ m, Calls Try.prog 75 #[.pointer (some ⟨gs, 0, none⟩)] (w.drewN m) (Quiet (.pointer (some ⟨gs, 0, none⟩)) (w.drewN m)) := fun s gs hm hrg m =>
      ih s gs _ (Rg.keeps (keeps_draw S w m) _ _ _ hrg) (hok.2 s hm) (hsm.2.2 s hm)
    by_cases h12 : nd.op ≤ 12
    · exact simp_leaf nd.op g w (by simp; omega) (by simp; omega) (by simp; omega) (by simp; omega) (by simp; omega) (by simp; omega) (by simp; omega) c0
    by_cases hrep : 14 ≤ nd.op ∧ nd.op ≤ 16
    · have hl := hok.1.one (by omega) (by omega)
      obtain ⟨s, hsub⟩ := List.length_eq_one_iff.1 hl
      have hm : s ∈ nd.subs := by rw [hsub]; simp
      rcases hs with h0 | ⟨b, off, rfl, hb, hs⟩
      · rw [h0] at hl; cases hl
      · obtain ⟨gs, hc, hrg⟩ := hs 0 s (by rw [hsub]; rfl)
        have hsm2 := hsm.2.1 hrep.1 hrep.2 s hm
        have hoks := hok.2 s hm
        rw [hl] at c2
        cases d with
        | zero => cases hoks
        | succ e =>
          obtain ⟨ro', so', rc', sc', hg', hobj', _⟩ := hrg.open
          have q0 := (rg_cells hobj').1
          have hrange' := hoks.1.range
          rw [show s.op % 256 = s.op from by omega] at q0
          exact simp_rep nd.op s.op _ g gs b off sc w (by omega) c0 c1 c2 hc q0 (by simp; omega) (by simp; omega) (Lib.hid (hone s gs hm hrg 0))
    · refine simp_many nd.op g nd.subs.length sc so w (by omega) (by have := hfit.1; omega) c0 c2 (Lib.hid fun k hk => ?_)
      obtain ⟨s, hks⟩ := get_of_lt rfl hk
      rcases hs with h0 | ⟨b, off, rfl, hb, hs⟩
      · rw [h0] at hks; simp at hks
      · obtain ⟨gs, hc, hrg⟩ := hs k s hks
        exact ⟨b, off, gs, rfl, hc, hone s gs (List.mem_of_getElem? hks) hrg⟩
end Go.Proofs.Ytejhffcjamdffaa
