/-
  The walk of (*Regexp).Equal at repetitions with bounds and at groups, out of the cells of both nodes. No conditions beside those typed.
-/
import Derived.Test.YtejhffcjamdffaaEqWays
namespace Go.Proofs.Ytejhffcjamdffaa
open Go.RowKit

set_option maxRecDepth 100000 in
set_option maxHeartbeats 4000000 in
theorem eq_rep_no1 (fa fb : Int) (ga gb : Nat) (w : World) (hf : (bits BinOp.and IntKind.u16 fa 32 != bits BinOp.and IntKind.u16 fb 32) = true)
    (c0 : w.cell? ⟨ga, 0, none⟩ = some (.int .u8 17)) (d0 : w.cell? ⟨gb, 0, none⟩ = some (.int .u8 17))
    (c1 : w.cell? ⟨ga, 1, none⟩ = some (.int .u16 fa)) (d1 : w.cell? ⟨gb, 1, none⟩ = some (.int .u16 fb)) :
    Calls Try.prog 65 #[.pointer (some ⟨ga, 0, none⟩), .pointer (some ⟨gb, 0, none⟩)] w (Quiet (.bool false) w) := by
  go_enter Try.func65, Try.ntmps65
  go_wp2_with fail
  go_quiet (fail)
  go_wp2_with fail
  go_quiet (fail)
  go_wp2
  go_ret
  exact ⟨rfl, _, World.drewN_drewN _ _ _⟩

set_option maxRecDepth 100000 in
set_option maxHeartbeats 4000000 in
theorem eq_rep_no2 (fa fb ma mb : Int) (ga gb : Nat) (w : World) (hf : (bits BinOp.and IntKind.u16 fa 32 != bits BinOp.and IntKind.u16 fb 32) = false) (hm : (ma != mb) = true)
    (c0 : w.cell? ⟨ga, 0, none⟩ = some (.int .u8 17)) (d0 : w.cell? ⟨gb, 0, none⟩ = some (.int .u8 17))
    (c1 : w.cell? ⟨ga, 1, none⟩ = some (.int .u16 fa)) (d1 : w.cell? ⟨gb, 1, none⟩ = some (.int .u16 fb))
    (c6 : w.cell? ⟨ga, 7, none⟩ = some (.int .i64 ma)) (d6 : w.cell? ⟨gb, 7, none⟩ = some (.int .i64 mb)) :
    Calls Try.prog 65 #[.pointer (some ⟨ga, 0, none⟩), .pointer (some ⟨gb, 0, none⟩)] w (Quiet (.bool false) w) := by
  go_enter Try.func65, Try.ntmps65
  go_wp2_with fail
  go_quiet (fail)
  go_wp2_with fail
  go_quiet (fail)
  go_wp2
  go_ret
  exact ⟨rfl, _, World.drewN_drewN _ _ _⟩

set_option maxRecDepth 100000 in
set_option maxHeartbeats 4000000 in
theorem eq_rep_no3 (fa fb ma mb xa xb : Int) (ga gb : Nat) (w : World) (hf : (bits BinOp.and IntKind.u16 fa 32 != bits BinOp.and IntKind.u16 fb 32) = false) (hm : (ma != mb) = false) (hx : (xa != xb) = true)
    (c0 : w.cell? ⟨ga, 0, none⟩ = some (.int .u8 17)) (d0 : w.cell? ⟨gb, 0, none⟩ = some (.int .u8 17))
    (c1 : w.cell? ⟨ga, 1, none⟩ = some (.int .u16 fa)) (d1 : w.cell? ⟨gb, 1, none⟩ = some (.int .u16 fb))
    (c6 : w.cell? ⟨ga, 7, none⟩ = some (.int .i64 ma)) (d6 : w.cell? ⟨gb, 7, none⟩ = some (.int .i64 mb))
    (c7 : w.cell? ⟨ga, 8, none⟩ = some (.int .i64 xa)) (d7 : w.cell? ⟨gb, 8, none⟩ = some (.int .i64 xb)) :
    Calls Try.prog 65 #[.pointer (some ⟨ga, 0, none⟩), .pointer (some ⟨gb, 0, none⟩)] w (Quiet (.bool false) w) := by
  go_enter Try.func65, Try.ntmps65
  go_wp2_with fail
  go_quiet (fail)
  go_wp2_with fail
  go_quiet (fail)
  go_wp2
  go_ret
  exact ⟨rfl, _, World.drewN_drewN _ _ _⟩

set_option maxRecDepth 100000 in
set_option maxHeartbeats 4000000 in
theorem eq_rep_yes (fa fb ma mb xa xb : Int) (ga gb ba oa ca pa bb ob cb pb : Nat) (r : Bool) (w : World) (hf : (bits BinOp.and IntKind.u16 fa 32 != bits BinOp.and IntKind.u16 fb 32) = false) (hm : (ma != mb) = false) (hx : (xa != xb) = false)
    (c0 : w.cell? ⟨ga, 0, none⟩ = some (.int .u8 17)) (d0 : w.cell? ⟨gb, 0, none⟩ = some (.int .u8 17))
    (c1 : w.cell? ⟨ga, 1, none⟩ = some (.int .u16 fa)) (d1 : w.cell? ⟨gb, 1, none⟩ = some (.int .u16 fb))
    (c6 : w.cell? ⟨ga, 7, none⟩ = some (.int .i64 ma)) (d6 : w.cell? ⟨gb, 7, none⟩ = some (.int .i64 mb))
    (c7 : w.cell? ⟨ga, 8, none⟩ = some (.int .i64 xa)) (d7 : w.cell? ⟨gb, 8, none⟩ = some (.int .i64 xb))
    (c2 : w.cell? ⟨ga, 2, none⟩ = some (.slice (some ⟨ba, oa, none⟩) 1 ca)) (d2 : w.cell? ⟨gb, 2, none⟩ = some (.slice (some ⟨bb, ob, none⟩) 1 cb)) (cs : w.cell? ⟨ba, oa, none⟩ = some (.pointer (some ⟨pa, 0, none⟩))) (ds : w.cell? ⟨bb, ob, none⟩ = some (.pointer (some ⟨pb, 0, none⟩)))
    (HC : Hid (∀ m, Calls Try.prog 65 #[.pointer (some ⟨pa, 0, none⟩), .pointer (some ⟨pb, 0, none⟩)] (w.drewN m) (Quiet (.bool r) (w.drewN m)))) :
    Calls Try.prog 65 #[.pointer (some ⟨ga, 0, none⟩), .pointer (some ⟨gb, 0, none⟩)] w (Quiet (.bool r) w) := by
  cases r
  all_goals as_aux_lemma =>
    go_enter Try.func65, Try.ntmps65
    go_wp2_with fail
    go_quiet (fail)
    go_wp2_with fail
    go_quiet ((go_at_call 65; exact quiet_at HC.out))
    go_wp2
    go_ret
    exact ⟨rfl, _, World.drewN_drewN _ _ _⟩

set_option maxRecDepth 100000 in
set_option maxHeartbeats 4000000 in
theorem eq_cap_no1 (pa' pb' : Int) (ga gb : Nat) (w : World) (hp : (pa' != pb') = true)
    (c0 : w.cell? ⟨ga, 0, none⟩ = some (.int .u8 13)) (d0 : w.cell? ⟨gb, 0, none⟩ = some (.int .u8 13))
    (c9 : w.cell? ⟨ga, 9, none⟩ = some (.int .i64 pa')) (d9 : w.cell? ⟨gb, 9, none⟩ = some (.int .i64 pb')) :
    Calls Try.prog 65 #[.pointer (some ⟨ga, 0, none⟩), .pointer (some ⟨gb, 0, none⟩)] w (Quiet (.bool false) w) := by
  go_enter Try.func65, Try.ntmps65
  go_wp2_with fail
  go_quiet (fail)
  go_wp2_with fail
  go_quiet (fail)
  go_wp2
  go_ret
  exact ⟨rfl, _, World.drewN_drewN _ _ _⟩

set_option maxRecDepth 100000 in
set_option maxHeartbeats 4000000 in
theorem eq_cap_no2 (pa' pb' : Int) (na nb : ByteArray) (ga gb : Nat) (w : World) (hp : (pa' != pb') = false) (hn : (na.toList == nb.toList) = false)
    (c0 : w.cell? ⟨ga, 0, none⟩ = some (.int .u8 13)) (d0 : w.cell? ⟨gb, 0, none⟩ = some (.int .u8 13))
    (c9 : w.cell? ⟨ga, 9, none⟩ = some (.int .i64 pa')) (d9 : w.cell? ⟨gb, 9, none⟩ = some (.int .i64 pb'))
    (c10 : w.cell? ⟨ga, 10, none⟩ = some (.string na)) (d10 : w.cell? ⟨gb, 10, none⟩ = some (.string nb)) :
    Calls Try.prog 65 #[.pointer (some ⟨ga, 0, none⟩), .pointer (some ⟨gb, 0, none⟩)] w (Quiet (.bool false) w) := by
  go_enter Try.func65, Try.ntmps65
  go_wp2_with fail
  go_quiet (fail)
  go_wp2_with fail
  go_quiet (fail)
  go_wp2
  go_ret
  exact ⟨rfl, _, World.drewN_drewN _ _ _⟩

set_option maxRecDepth 100000 in
set_option maxHeartbeats 4000000 in
theorem eq_cap_yes (pa' pb' : Int) (na nb : ByteArray) (ga gb ba oa ca pa bb ob cb pb : Nat) (r : Bool) (w : World) (hp : (pa' != pb') = false) (hn : (na.toList == nb.toList) = true)
    (c0 : w.cell? ⟨ga, 0, none⟩ = some (.int .u8 13)) (d0 : w.cell? ⟨gb, 0, none⟩ = some (.int .u8 13))
    (c9 : w.cell? ⟨ga, 9, none⟩ = some (.int .i64 pa')) (d9 : w.cell? ⟨gb, 9, none⟩ = some (.int .i64 pb'))
    (c10 : w.cell? ⟨ga, 10, none⟩ = some (.string na)) (d10 : w.cell? ⟨gb, 10, none⟩ = some (.string nb))
    (c2 : w.cell? ⟨ga, 2, none⟩ = some (.slice (some ⟨ba, oa, none⟩) 1 ca)) (d2 : w.cell? ⟨gb, 2, none⟩ = some (.slice (some ⟨bb, ob, none⟩) 1 cb)) (cs : w.cell? ⟨ba, oa, none⟩ = some (.pointer (some ⟨pa, 0, none⟩))) (ds : w.cell? ⟨bb, ob, none⟩ = some (.pointer (some ⟨pb, 0, none⟩)))
    (HC : Hid (∀ m, Calls Try.prog 65 #[.pointer (some ⟨pa, 0, none⟩), .pointer (some ⟨pb, 0, none⟩)] (w.drewN m) (Quiet (.bool r) (w.drewN m)))) :
    Calls Try.prog 65 #[.pointer (some ⟨ga, 0, none⟩), .pointer (some ⟨gb, 0, none⟩)] w (Quiet (.bool r) w) := by
  cases r
  all_goals as_aux_lemma =>
    go_enter Try.func65, Try.ntmps65
    go_wp2_with fail
    go_quiet (fail)
    go_wp2_with fail
    go_quiet ((go_at_call 65; exact quiet_at HC.out))
    go_wp2
    go_ret
    exact ⟨rfl, _, World.drewN_drewN _ _ _⟩

end Go.Proofs.Ytejhffcjamdffaa
