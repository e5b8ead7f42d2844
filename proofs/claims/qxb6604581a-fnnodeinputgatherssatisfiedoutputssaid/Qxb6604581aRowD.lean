import Derived.Test.Qxb6604581aRows
import Derived.Test.Qxb6604581aLawE
import Derived.Test.Qxb6604581aOpenB
namespace Go.Proofs.Qxb6604581a
open Go.ChangeShapes Go.WideShapes Go.ChangeAt Go.RowKit
set_option linter.unusedVariables false

set_option maxRecDepth 100000 in
theorem lifted5 (os : Os) (started : os.Started) (H : Type) (enc : TypeId × Value → H) :
    ReturnsInHanded {} Try.checked os 5 .any (Rows.fnNodeInputGathersSatisfiedOutputsSpec.pre6 enc Try.prog Try.f5 Rows.fnNodeInputGathersSatisfiedOutputsRow.domain false) (Rows.fnNodeInputGathersSatisfiedOutputsSpec.post enc Try.prog Try.f5 false true false false) := by
  refine returnsInHanded_of_change (C := Try.checked) own started (by kernel_rfl) Try.func5
    (ChangeSpec.witness6 (enc := enc) (C := Try.checked) false ⟨#[], #[.slice none 0 0, .slice none 0 0, .slice none 0 0], []⟩ 8 (by kernel_rfl) (by kernel_rfl) (by kernel_rfl) (by kernel_rfl)) ?_
  intro W base args ds gs before hval0 hW hcnd _
  have hval : ∀ (j : Nat) t v, Try.f5.params[j]? = some t → args[j]? = some v → Value.okWide Try.prog W .any base t v := hval0
  have hW' := hW
  obtain ⟨p, q, hA0, hV, rfl, hfz, hnd⟩ := hW
  have hA : DataW.TrodAll enc Try.prog W 0 (fun _ => true) true Try.f5.params.toList args.toList ds p := hA0
  rw [Try.params5] at hA hval
  obtain ⟨v0, vs0, d0, ds0, p0, q0, hargs, rfl, rfl, h0, r0⟩ := trodAll_cons hA
  obtain ⟨v1, vs1, d1, ds1, p1, q1, rfl, rfl, rfl, h1, r1⟩ := trodAll_cons r0
  obtain ⟨v2, vs2, d2, ds2, p2, q2, rfl, rfl, rfl, h2, r2⟩ := trodAll_cons r1
  obtain ⟨rfl, rfl, rfl⟩ := trodAll_nil r2
  obtain rfl : args = #[v0, v1, v2] := by cases args; simp_all
  obtain ⟨rfl, rfl⟩ := trodVars_none hV
  obtain ⟨a0, len0, cap0, rfl⟩ := okWide_slice Try.underlying40 (hval 0 40 v0 rfl rfl)
  obtain ⟨a1, len1, cap1, rfl⟩ := okWide_slice Try.underlying41 (hval 1 41 v1 rfl rfl)
  obtain ⟨a2, len2, cap2, rfl⟩ := okWide_slice Try.underlying42 (hval 2 42 v2 rfl rfl)
  have k0 := h0
  have k1 := h1
  have k2 := h2
  have lt0 : ∀ x ∈ p0, x.block < W.heap.size := by obtain ⟨m, hm⟩ := k0; exact DataW.trod_lt m _ _ _ hm
  have lt1 : ∀ x ∈ p1, x.block < W.heap.size := by obtain ⟨m, hm⟩ := k1; exact DataW.trod_lt m _ _ _ hm
  have lt2 : ∀ x ∈ p2, x.block < W.heap.size := by obtain ⟨m, hm⟩ := k2; exact DataW.trod_lt m _ _ _ hm
  obtain ⟨Nd, Wh, So, hL, hWh⟩ : ∃ Nd Wh So, LinksAt W a0 len0 Nd Wh So ∧ ∀ i, i < len0 → 0 ≤ Wh i := by
    obtain ⟨fuel, hf⟩ := h0
    obtain ⟨a, l, c, Nd, Wh, So, hcs, hn, hL, hWh⟩ := open_links hf
    simp [Value.cells] at hcs
    obtain ⟨rfl, rfl, rfl⟩ := hcs
    exact ⟨Nd, Wh, So, hL, hWh⟩
  obtain ⟨A, N, C, I, S, hm1, hOu, hNm⟩ : ∃ A N C I S, len1 ≤ maxLen ∧ OutsAt W a1 len1 A N C I S ∧ ∀ x, x < len1 → N x ≤ maxLen := by
    obtain ⟨fuel, hf⟩ := h1
    obtain ⟨a, l, c, A, N, C, I, S, hcs, hn, hOu, hNm⟩ := open_outs hf
    simp [Value.cells] at hcs
    obtain ⟨rfl, rfl, rfl⟩ := hcs
    exact ⟨A, N, C, I, S, hn, hOu, hNm⟩
  obtain ⟨O, hOc, hO⟩ : ∃ O : Nat → Int, ValsAt W a2 len2 (fun i => .int .u8 (O i)) ∧ ∀ i, i < len2 → 0 ≤ O i := by
    obtain ⟨fuel, hf⟩ := h2
    obtain ⟨a, l, c, O, hcs, hOc, hO⟩ := open_u8s hf
    simp [Value.cells] at hcs
    obtain ⟨rfl, rfl, rfl⟩ := hcs
    exact ⟨O, hOc, hO⟩
  clear hA0 hval0
  refine (law5 a0 a1 a2 len0 cap0 len1 cap1 len2 cap2 Nd Wh O So A N C I S W hm1 hNm hWh hO ⟨hL, hOu, hOc⟩).mono fun e W' ⟨he, bel⟩ => ?_
  subst he
  exact ⟨_, rfl, _, _, _, [], _, [], hW', trodAll_mk1 (shut_bool Try.underlying4 _), trodAll_mk3 (Below.trod laidOut (by kernel_rfl) (of_decide_eq_true (by kernel_rfl)) k0 bel lt0) (Below.trod laidOut (by kernel_rfl) (of_decide_eq_true (by kernel_rfl)) k1 bel lt1) (Below.trod laidOut (by kernel_rfl) (of_decide_eq_true (by kernel_rfl)) k2 bel lt2), rfl, bel.frame _, fun h => by cases h⟩

theorem over5 : Rows.fnNodeInputGathersSatisfiedOutputsRow.holds Try.pinned (OpenSpec.ofChange Rows.fnNodeInputGathersSatisfiedOutputsSpec) :=
  OpenClaim.holds_of_wide 5 Try.f5 rfl rfl rfl rfl rfl rfl rfl ⟨rfl, rfl, rfl, rfl, rfl⟩ rfl rfl rfl rfl rfl (by kernel_rfl) Try.func5 (by kernel_rfl)
    (of_decide_eq_true (by kernel_rfl)) (by unfold Func.isWrapper; first | (rw [if_pos (by decide +kernel)]; kernel_rfl) | (rw [if_neg (by decide +kernel)]; exact ⟨rfl, rfl⟩))
    (fun os started H enc _ => lifted5 os started H enc)

/-- THE STATEMENT -/
theorem fnNodeInputGathersSatisfiedOutputs_proved : Rows.FnNodeInputGathersSatisfiedOutputsSaid := over5
end Go.Proofs.Qxb6604581a
