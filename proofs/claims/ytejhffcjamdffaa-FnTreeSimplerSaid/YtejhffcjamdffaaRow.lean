/-
  The last step of the row of a law: whatever its arguments are, they read behind the call as before where below the old blocks nothing has turned. No conditions beside those typed.
-/
import Derived.Test.YtejhffcjamdffaaRows
import Derived.Below
import Derived.Carry
import Derived.ProofKit
import Derived.OpenShut
namespace Go.Proofs.Ytejhffcjamdffaa
open Go.RowKit Go.WideShapes Go.ChangeShapes

theorem Try.own : ownKnob Try.prog.godebug = none := by kernel_rfl
theorem Try.laidOut : laidOutB Try.prog = true := by kernel_rfl

theorem trodAll_below {H : Type} {enc : TypeId × Value → H} {W W' : World} (hb : Below W.heap.size W W') : ∀ (ts : List TypeId) (vs : List Value) (ds : List (DataW H)) (ps : List MemPlace),
    (∀ t ∈ ts, Try.prog.readableRec t = true ∧ t < Try.prog.types.size) → DataW.TrodAll enc Try.prog W 0 (fun _ => true) true ts vs ds ps → (∀ x ∈ ps, x.block < W.heap.size) →
    DataW.TrodAll enc Try.prog W' 0 (fun b => decide (b < W.heap.size)) true ts vs ds ps
  | [], [], [], _, _, h, _ => h
  | t :: ts, v :: vs, d :: ds, ps, hr, h, hlt => by
    obtain ⟨p, q, h1, h2, rfl⟩ := h
    refine ⟨p, q, Below.trod Try.laidOut (hr t (by simp)).1 (hr t (by simp)).2 h1 hb (fun x hx => hlt x (by simp [hx])), trodAll_below hb ts vs ds q (fun t ht => hr t (by simp [ht])) h2 (fun x hx => hlt x (by simp [hx])), rfl⟩
  | [], _ :: _, _, _, _, h, _ => by cases h
  | [], [], _ :: _, _, _, h, _ => by cases h
  | _ :: _, [], _, _, _, h, _ => by cases h
  | _ :: _, _ :: _, [], _, _, h, _ => by cases h

/-- The law returned true, and below the old blocks nothing has turned. -/
theorem law_post {H : Type} {enc : TypeId × Value → H} {fn : Func} {s : ChangeSpec} {W W' : World} {args : Array Value} {ds : List (DataW H)} {before : List MemPlace}
    (hW : DataW.Whole enc Try.prog fn.params.toList s.vars false W args.toList ds [] before) (hv : s.vars = []) (hres : (s.fn H (ds ++ [])).results = [.lit (.bool true)]) (hargs : (s.fn H (ds ++ [])).args = ds) (hvs : (s.fn H (ds ++ [])).vars = [])
    (hrt : fn.resultTypes = #[4]) (hread : ∀ t ∈ fn.params.toList, Try.prog.readableRec t = true ∧ t < Try.prog.types.size) (hb : Below W.heap.size W W') :
    s.post enc Try.prog fn false true false false W args (.bool true) W' := by
  have hlt : ∀ x ∈ before, x.block < W.heap.size := fun x hx => hW.lt x hx
  have hW' := hW
  obtain ⟨p, q, hA, hV, rfl, _, _⟩ := hW
  rw [hv] at hV
  have hq : q = [] := hV
  subst hq
  rw [List.append_nil] at hlt
  refine ⟨ds, [], _, [], p, [], hW', ?_, ?_, ?_, hb.frame _, fun h => by cases h⟩
  · rw [hres, hrt]
    exact trodAll_cons_mk (shut_bool Try.underlying4 true) trodAll_mk0
  · rw [hargs]
    exact trodAll_below hb _ _ _ _ hread hA hlt
  · rw [hv, hvs]
    rfl
end Go.Proofs.Ytejhffcjamdffaa
