/-
  FnProgramLiteral: for every row of runes the law returns true and leaves its argument and all memory as they were. No conditions.
-/
import Derived.Test.YtejhffcjamdffaaLitLaw
import Derived.Test.YtejhffcjamdffaaOpen
import Derived.Test.YtejhffcjamdffaaRow
namespace Go.Proofs.Ytejhffcjamdffaa.fnProgramLiteral
open Go.ChangeShapes Go.WideShapes Go.ChangeAt Go.RowKit

set_option maxRecDepth 100000 in
theorem lifted (os : Os) (started : os.Started) (H : Type) (enc : TypeId × Value → H) :
    ReturnsInHanded {} Try.checked os 11 .any (Rows.fnProgramLiteralSpec.pre6 enc Try.prog Try.f11 Rows.fnProgramLiteralRow.domain false) (Rows.fnProgramLiteralSpec.post enc Try.prog Try.f11 false true false false) := by
  refine returnsInHanded_of_change_sized (C := Try.checked) Try.own started (by kernel_rfl) Try.func11
    (ChangeSpec.witness6 (enc := enc) (C := Try.checked) false ⟨#[], #[.slice none 0 0], []⟩ 8 (by kernel_rfl) (by kernel_rfl) (by kernel_rfl) (by kernel_rfl)) ?_
  intro W base args ds gs before hval0 hW hcnd hsz _
  have hval : ∀ (j : Nat) t v, Try.f11.params[j]? = some t → args[j]? = some v → Value.okWide Try.prog W .any base t v := hval0
  have hW' := hW
  obtain ⟨p, q, hA0, hV, rfl, hfz, hnd⟩ := hW
  have hA : DataW.TrodAll enc Try.prog W 0 (fun _ => true) true Try.f11.params.toList args.toList ds p := hA0
  rw [Try.params11] at hA hval
  obtain ⟨v0, vs0, d0, ds0, p0, q0, hargs, rfl, rfl, h0, r0⟩ := trodAll_cons hA
  obtain ⟨rfl, rfl, rfl⟩ := trodAll_nil r0
  obtain rfl : args = #[v0] := by cases args; simp_all
  obtain ⟨rfl, rfl⟩ := trodVars_none hV
  obtain ⟨a0, l0, c0, rfl⟩ := okWide_slice Try.underlying26 (hval 0 26 v0 rfl rfl)
  obtain ⟨f0, hf0⟩ := h0
  have hw : ∀ n, n ∈ d0.weights Try.prog 26 → n ≤ reachBytes := fun n hn => by
    have hsz' : (DataW.weightsEach Try.prog (Try.f11.params.toList ++ Rows.fnProgramLiteralSpec.plain.varTypes Try.prog) ([d0] ++ [])).all (· ≤ reachBytes) = true := hsz
    rw [Try.params11] at hsz'
    have h1 := List.all_eq_true.1 hsz' n (by
      simp only [List.cons_append, List.nil_append, DataW.weightsEach, List.mem_append]
      exact .inl hn)
    simpa using h1
  obtain ⟨ts, hruns, hin, hlong⟩ := runes_of_trod (v := .slice a0 l0 c0) hf0 hw
  obtain ⟨ao, cap, hv⟩ : ∃ ao cap, Value.slice a0 l0 c0 = .slice ao ts.length cap := by
    obtain ⟨ao, cap, e, _⟩ := hruns.open
    exact ⟨ao, cap, e⟩
  injection hv with e1 e2 e3
  subst e2
  refine (law_literal ts a0 c0 W (by omega) hruns (show Wd W.heap.size (.slice a0 _ c0) from hin)).mono fun e W' ⟨he, hg⟩ => ?_
  subst he
  exact ⟨_, rfl, law_post hW' rfl rfl rfl rfl rfl (by
    intro t ht
    rw [Try.params11] at ht
    simp at ht
    subst ht
    exact ⟨by kernel_rfl, of_decide_eq_true (by kernel_rfl)⟩) hg⟩

theorem over : Rows.fnProgramLiteralRow.holds Try.pinned (OpenSpec.ofChange Rows.fnProgramLiteralSpec) :=
  OpenClaim.holds_of_wide 11 Try.f11 rfl rfl rfl rfl rfl rfl rfl ⟨rfl, rfl, rfl, rfl, rfl⟩ rfl rfl rfl rfl rfl (by kernel_rfl) Try.func11 (by kernel_rfl)
    (of_decide_eq_true (by kernel_rfl)) (by unfold Func.isWrapper; first | (rw [if_pos (by decide +kernel)]; kernel_rfl) | (rw [if_neg (by decide +kernel)]; exact ⟨rfl, rfl⟩))
    (fun os started H enc _ => lifted os started H enc)

theorem proved : Rows.FnProgramLiteralSaid :=
  over
#print axioms proved
end Go.Proofs.Ytejhffcjamdffaa.fnProgramLiteral
