/-
  FnProgramPrefix: for every list of instructions, every start, every text and every number the law returns true and leaves its arguments and all memory as they were. No conditions.
-/
import Derived.Test.YtejhffcjamdffaaPrefLaw
import Derived.Test.YtejhffcjamdffaaOpenProg
import Derived.Test.YtejhffcjamdffaaRow
namespace Go.Proofs.Ytejhffcjamdffaa.fnProgramPrefix
open Go.ChangeShapes Go.WideShapes Go.ChangeAt Go.RowKit

set_option maxRecDepth 100000 in
theorem lifted (os : Os) (started : os.Started) (H : Type) (enc : TypeId × Value → H) :
    ReturnsInHanded {} Try.checked os 12 .any (Rows.fnProgramPrefixSpec.pre6 enc Try.prog Try.f12 Rows.fnProgramPrefixRow.domain false) (Rows.fnProgramPrefixSpec.post enc Try.prog Try.f12 false true false false) := by
  refine returnsInHanded_of_change_sized (C := Try.checked) Try.own started (by kernel_rfl) Try.func12
    (ChangeSpec.witness6 (enc := enc) (C := Try.checked) false ⟨#[], #[.slice none 0 0, .int .i64 0, .slice none 0 0, .int .u8 0], []⟩ 8 (by kernel_rfl) (by kernel_rfl) (by kernel_rfl) (by kernel_rfl)) ?_
  intro W base args ds gs before hval0 hW hcnd hsz _
  have hval : ∀ (j : Nat) t v, Try.f12.params[j]? = some t → args[j]? = some v → Value.okWide Try.prog W .any base t v := hval0
  have hW' := hW
  obtain ⟨p, q, hA0, hV, rfl, hfz, hnd⟩ := hW
  have hA : DataW.TrodAll enc Try.prog W 0 (fun _ => true) true Try.f12.params.toList args.toList ds p := hA0
  rw [Try.params12] at hA hval
  obtain ⟨v0, vs0, d0, ds0, p0, q0, hargs, rfl, rfl, h0, r0⟩ := trodAll_cons hA
  obtain ⟨v1, vs1, d1, ds1, p1, q1, rfl, rfl, rfl, h1, r1⟩ := trodAll_cons r0
  obtain ⟨v2, vs2, d2, ds2, p2, q2, rfl, rfl, rfl, h2, r2⟩ := trodAll_cons r1
  obtain ⟨v3, vs3, d3, ds3, p3, q3, rfl, rfl, rfl, h3, r3⟩ := trodAll_cons r2
  obtain ⟨rfl, rfl, rfl⟩ := trodAll_nil r3
  obtain rfl : args = #[v0, v1, v2, v3] := by cases args; simp_all
  obtain ⟨rfl, rfl⟩ := trodVars_none hV
  obtain ⟨start, rfl, rfl, rfl, _⟩ := open_int Try.underlying3 (hval 1 3 v1 rfl rfl) h1
  obtain ⟨z, rfl, rfl, rfl, wz⟩ := open_int Try.underlying5 (hval 3 5 v3 rfl rfl) h3
  obtain ⟨a0, l0, c0, rfl⟩ := okWide_slice Try.underlying31 (hval 0 31 v0 rfl rfl)
  obtain ⟨a2, l2, c2, rfl⟩ := okWide_slice Try.underlying26 (hval 2 26 v2 rfl rfl)
  obtain ⟨f0, hf0⟩ := h0
  obtain ⟨f2, hf2⟩ := h2
  have hw : ∀ n, n ∈ d0.weights Try.prog 31 ∨ n ∈ d2.weights Try.prog 26 → n ≤ reachBytes := fun n hn => by
    have hsz' : (DataW.weightsEach Try.prog (Try.f12.params.toList ++ Rows.fnProgramPrefixSpec.plain.varTypes Try.prog) ([d0, .lit (.int .i64 start), d2, .lit (.int .u8 z)] ++ [])).all (· ≤ reachBytes) = true := hsz
    rw [Try.params12] at hsz'
    have h1 := List.all_eq_true.1 hsz' n (by
      simp only [List.cons_append, List.nil_append, DataW.weightsEach, List.mem_append]
      rcases hn with hn | hn
      · exact .inl hn
      · exact .inr (.inr (.inl hn)))
    simpa using h1
  obtain ⟨is, hins, hmany, heach⟩ := insts_of_trod W f0 (.slice a0 l0 c0) _ hf0 (fun n hn => hw n (.inl hn))
  obtain ⟨ts, hruns, hin, hlong⟩ := runes_of_trod (v := .slice a2 l2 c2) hf2 (fun n hn => hw n (.inr hn))
  have hb := bounds_u8 wz
  refine (law_prefix is ts (.slice a0 l0 c0) (.slice a2 l2 c2) start z W ⟨hins, hruns, in_wd hin, hmany, heach, hlong⟩ hb.1 (by have := hb.2; omega)).mono fun e W' ⟨he, hg⟩ => ?_
  subst he
  exact ⟨_, rfl, law_post hW' rfl rfl rfl rfl rfl (by
    intro t ht
    rw [Try.params12] at ht
    simp at ht
    rcases ht with rfl | rfl | rfl | rfl <;> exact ⟨by kernel_rfl, of_decide_eq_true (by kernel_rfl)⟩) hg⟩

theorem over : Rows.fnProgramPrefixRow.holds Try.pinned (OpenSpec.ofChange Rows.fnProgramPrefixSpec) :=
  OpenClaim.holds_of_wide 12 Try.f12 rfl rfl rfl rfl rfl rfl rfl ⟨rfl, rfl, rfl, rfl, rfl⟩ rfl rfl rfl rfl rfl (by kernel_rfl) Try.func12 (by kernel_rfl)
    (of_decide_eq_true (by kernel_rfl)) (by unfold Func.isWrapper; first | (rw [if_pos (by decide +kernel)]; kernel_rfl) | (rw [if_neg (by decide +kernel)]; exact ⟨rfl, rfl⟩))
    (fun os started H enc _ => lifted os started H enc)

theorem proved : Rows.FnProgramPrefixSaid :=
  over
#print axioms proved
end Go.Proofs.Ytejhffcjamdffaa.fnProgramPrefix
