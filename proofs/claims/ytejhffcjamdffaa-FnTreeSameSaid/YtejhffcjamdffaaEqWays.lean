/-
  The walk of (*Regexp).Equal, way by way, out of the cells of both nodes. No conditions beside those typed.
-/
import Derived.Test.YtejhffcjamdffaaEqQ
namespace Go.Proofs.Ytejhffcjamdffaa
open Go.RowKit

theorem quiet_at {P : Program} {f : FuncId} {args : Array Value} {w : World} {a n : Nat} {v : Value} (h : ∀ m, Calls P f args (w.drewN m) (Quiet v (w.drewN m))) :
    Calls P f args (w.drewN (a + n)) fun e w'' => e = .returned v ∧ ∃ m, w'' = w.drewN (a + m) :=
  (h (a + n)).mono fun _ _ ⟨he, m, hm⟩ => ⟨he, n + m, by rw [hm, World.drewN_drewN, Nat.add_assoc]⟩

set_option maxRecDepth 100000 in
set_option maxHeartbeats 4000000 in
theorem eq_other (o o' : Int) (ga gb : Nat) (w : World) (ho : (o != o') = true) (c0 : w.cell? ⟨ga, 0, none⟩ = some (.int .u8 o)) (d0 : w.cell? ⟨gb, 0, none⟩ = some (.int .u8 o')) :
    Calls Try.prog 65 #[.pointer (some ⟨ga, 0, none⟩), .pointer (some ⟨gb, 0, none⟩)] w (Quiet (.bool false) w) := by
  go_enter Try.func65, Try.ntmps65
  go_wp2_with fail
  go_quiet (fail)
  go_wp2
  go_ret
  exact ⟨rfl, nq, rfl⟩

set_option maxRecDepth 100000 in
set_option maxHeartbeats 4000000 in
theorem eq_pass (o : Int) (ga gb : Nat) (w : World) (h10 : (o == 10) = false) (h3 : (o == 3) = false) (h4 : (o == 4) = false) (h19 : (o == 19) = false) (h18 : (o == 18) = false) (h14 : (o == 14) = false) (h15 : (o == 15) = false) (h16 : (o == 16) = false) (h17 : (o == 17) = false) (h13 : (o == 13) = false)
    (c0 : w.cell? ⟨ga, 0, none⟩ = some (.int .u8 o)) (d0 : w.cell? ⟨gb, 0, none⟩ = some (.int .u8 o)) :
    Calls Try.prog 65 #[.pointer (some ⟨ga, 0, none⟩), .pointer (some ⟨gb, 0, none⟩)] w (Quiet (.bool true) w) := by
  go_enter Try.func65, Try.ntmps65
  go_wp2_with fail
  go_quiet (fail)
  go_wp2
  go_ret
  exact ⟨rfl, nq, rfl⟩

set_option maxRecDepth 100000 in
set_option maxHeartbeats 4000000 in
theorem eq_ten (ga gb : Nat) (w : World) (c0 : w.cell? ⟨ga, 0, none⟩ = some (.int .u8 10)) (d0 : w.cell? ⟨gb, 0, none⟩ = some (.int .u8 10)) (c1 : w.cell? ⟨ga, 1, none⟩ = some (.int .u16 0)) (d1 : w.cell? ⟨gb, 1, none⟩ = some (.int .u16 0)) :
    Calls Try.prog 65 #[.pointer (some ⟨ga, 0, none⟩), .pointer (some ⟨gb, 0, none⟩)] w (Quiet (.bool true) w) := by
  go_enter Try.func65, Try.ntmps65
  go_wp2_with fail
  go_quiet (fail)
  go_wp2_with fail
  go_quiet (fail)
  go_wp2
  go_ret
  exact ⟨rfl, _, World.drewN_drewN _ _ _⟩

set_option maxRecDepth 100000 in
set_option maxHeartbeats 4000000 in
theorem eq_lit_no (o fa fb : Int) (ga gb : Nat) (w : World) (ho : o = 3 ∨ o = 4) (hf : (bits BinOp.and IntKind.u16 fa 1 == bits BinOp.and IntKind.u16 fb 1) = false)
    (c0 : w.cell? ⟨ga, 0, none⟩ = some (.int .u8 o)) (d0 : w.cell? ⟨gb, 0, none⟩ = some (.int .u8 o))
    (c1 : w.cell? ⟨ga, 1, none⟩ = some (.int .u16 fa)) (d1 : w.cell? ⟨gb, 1, none⟩ = some (.int .u16 fb)) :
    Calls Try.prog 65 #[.pointer (some ⟨ga, 0, none⟩), .pointer (some ⟨gb, 0, none⟩)] w (Quiet (.bool false) w) := by
  rcases ho with rfl | rfl
  all_goals
    go_enter Try.func65, Try.ntmps65
    go_wp2_with fail
    go_quiet (fail)
    go_wp2_with fail
    go_quiet (fail)
    go_wp2
    go_ret
    exact ⟨rfl, _, World.drewN_drewN _ _ _⟩

set_option maxRecDepth 100000 in
set_option maxHeartbeats 4000000 in
theorem eq_lit_yes (o fa fb : Int) (ga gb : Nat) (va vb : Value) (r : Bool) (w : World) (ho : o = 3 ∨ o = 4) (hf : (bits BinOp.and IntKind.u16 fa 1 == bits BinOp.and IntKind.u16 fb 1) = true)
    (c0 : w.cell? ⟨ga, 0, none⟩ = some (.int .u8 o)) (d0 : w.cell? ⟨gb, 0, none⟩ = some (.int .u8 o))
    (c1 : w.cell? ⟨ga, 1, none⟩ = some (.int .u16 fa)) (d1 : w.cell? ⟨gb, 1, none⟩ = some (.int .u16 fb))
    (c4 : w.cell? ⟨ga, 4, none⟩ = some va) (d4 : w.cell? ⟨gb, 4, none⟩ = some vb) (HC : Hid (∀ m, Calls Try.prog 67 #[va, vb] (w.drewN m) (Quiet (.bool r) (w.drewN m)))) :
    Calls Try.prog 65 #[.pointer (some ⟨ga, 0, none⟩), .pointer (some ⟨gb, 0, none⟩)] w (Quiet (.bool r) w) := by
  rcases ho with rfl | rfl
  all_goals
    go_enter Try.func65, Try.ntmps65
    go_wp2_with fail
    go_quiet (fail)
    go_wp2_with fail
    go_quiet ((go_at_call 67; exact quiet_at HC.out))
    go_wp2
    go_ret
    exact ⟨rfl, _, World.drewN_drewN _ _ _⟩

set_option maxRecDepth 100000 in
set_option maxHeartbeats 4000000 in
theorem eq_many (o : Int) (ga gb : Nat) (va vb : Value) (r : Bool) (w : World) (ho : o = 18 ∨ o = 19)
    (c0 : w.cell? ⟨ga, 0, none⟩ = some (.int .u8 o)) (d0 : w.cell? ⟨gb, 0, none⟩ = some (.int .u8 o))
    (c2 : w.cell? ⟨ga, 2, none⟩ = some va) (d2 : w.cell? ⟨gb, 2, none⟩ = some vb) (HC : Hid (∀ m, Calls Try.prog 81 #[va, vb, .func (.func 65) #[] #[]] (w.drewN m) (Quiet (.bool r) (w.drewN m)))) :
    Calls Try.prog 65 #[.pointer (some ⟨ga, 0, none⟩), .pointer (some ⟨gb, 0, none⟩)] w (Quiet (.bool r) w) := by
  rcases ho with rfl | rfl
  all_goals
    go_enter Try.func65, Try.ntmps65
    go_wp2_with fail
    go_quiet (fail)
    go_wp2_with fail
    go_quiet ((go_at_call 81; exact quiet_at HC.out))
    go_wp2
    go_ret
    exact ⟨rfl, _, World.drewN_drewN _ _ _⟩

set_option maxRecDepth 100000 in
set_option maxHeartbeats 4000000 in
theorem eq_one_no (o fa fb : Int) (ga gb : Nat) (w : World) (ho : o = 14 ∨ o = 15 ∨ o = 16) (hf : (bits BinOp.and IntKind.u16 fa 32 != bits BinOp.and IntKind.u16 fb 32) = true)
    (c0 : w.cell? ⟨ga, 0, none⟩ = some (.int .u8 o)) (d0 : w.cell? ⟨gb, 0, none⟩ = some (.int .u8 o))
    (c1 : w.cell? ⟨ga, 1, none⟩ = some (.int .u16 fa)) (d1 : w.cell? ⟨gb, 1, none⟩ = some (.int .u16 fb)) :
    Calls Try.prog 65 #[.pointer (some ⟨ga, 0, none⟩), .pointer (some ⟨gb, 0, none⟩)] w (Quiet (.bool false) w) := by
  rcases ho with rfl | rfl | rfl
  all_goals
    go_enter Try.func65, Try.ntmps65
    go_wp2_with fail
    go_quiet (fail)
    go_wp2_with fail
    go_quiet (fail)
    go_wp2
    go_ret
    exact ⟨rfl, _, World.drewN_drewN _ _ _⟩

set_option maxRecDepth 100000 in
set_option maxHeartbeats 4000000 in
theorem eq_one_yes (o fa fb : Int) (ga gb ba oa ca pa bb ob cb pb : Nat) (r : Bool) (w : World) (ho : o = 14 ∨ o = 15 ∨ o = 16) (hf : (bits BinOp.and IntKind.u16 fa 32 != bits BinOp.and IntKind.u16 fb 32) = false)
    (c0 : w.cell? ⟨ga, 0, none⟩ = some (.int .u8 o)) (d0 : w.cell? ⟨gb, 0, none⟩ = some (.int .u8 o))
    (c1 : w.cell? ⟨ga, 1, none⟩ = some (.int .u16 fa)) (d1 : w.cell? ⟨gb, 1, none⟩ = some (.int .u16 fb))
    (c2 : w.cell? ⟨ga, 2, none⟩ = some (.slice (some ⟨ba, oa, none⟩) 1 ca)) (d2 : w.cell? ⟨gb, 2, none⟩ = some (.slice (some ⟨bb, ob, none⟩) 1 cb)) (cs : w.cell? ⟨ba, oa, none⟩ = some (.pointer (some ⟨pa, 0, none⟩))) (ds : w.cell? ⟨bb, ob, none⟩ = some (.pointer (some ⟨pb, 0, none⟩)))
    (HC : Hid (∀ m, Calls Try.prog 65 #[.pointer (some ⟨pa, 0, none⟩), .pointer (some ⟨pb, 0, none⟩)] (w.drewN m) (Quiet (.bool r) (w.drewN m)))) :
    Calls Try.prog 65 #[.pointer (some ⟨ga, 0, none⟩), .pointer (some ⟨gb, 0, none⟩)] w (Quiet (.bool r) w) := by
  cases r
  all_goals
    rcases ho with rfl | rfl | rfl
    all_goals as_aux_lemma =>
      go_enter Try.func65, Try.ntmps65
      go_wp2_with fail
      go_quiet (fail)
      go_wp2_with fail
      go_quiet ((go_at_call 65; exact quiet_at HC.out))
      go_wp2
      go_ret
      exact ⟨rfl, _, World.drewN_drewN _ _ _⟩

end Go.Proofs.Ytejhffcjamdffaa
