/- The proof of the given statement on FnMatchesOwnPattern. -/
import Derived.Test.Qxb6602028aRows
import Derived.Test.Qxb6602028aMatch
import Derived.WalkKit
import Derived.ProofKit
import Derived.ChangeOld
import Derived.Below
import Derived.Carry
import Derived.Deep.Slices
namespace Go.Proofs.Qxb6602028a
open Go.ChangeShapes Go.WideShapes Go.ChangeAt Go.RowKit
open Go.Deep (choose_lt open_slice1)
set_option linter.unusedVariables false

theorem own : ownKnob Try.prog.godebug = none := by kernel_rfl
theorem laidOut : laidOutB Try.prog = true := by kernel_rfl
theorem cells9 : Try.prog.cellsOf 9 = 1 := by kernel_rfl

theorem open_strs {H : Type} {enc : TypeId × Value → H} {w : World} {base : Nat} {spare : Nat → Bool} {held : Bool} {fuel : Nat} {cs : List Value} {x : DataW H × List MemPlace} (h : DataW.trod enc Try.prog w base spare held fuel 25 cs = some x) :
    ∃ a len cap I, cs = [.slice a len cap] ∧ len ≤ maxLen ∧ StrsAt w a len I := by
  rcases open_slice1 Try.underlying25 cells9 h with ⟨rfl, _⟩ | ⟨a, len, cap, m, n, V, D, Pl, rfl, hb, hl, hm, hmm, rfl, hx⟩
  · exact ⟨_, _, _, fun _ => ByteArray.empty, rfl, Nat.zero_le _, fun _ h => absurd h (Nat.not_lt_zero _)⟩
  have hlm : len ≤ m := by rw [hmm]; split <;> omega
  have each : ∀ i, i < len → ∃ q : ByteArray, w.cell? (a.add i) = some (.string q) := by
    intro i hi
    obtain ⟨h1, h2⟩ := hx i (by omega)
    obtain ⟨s, e, _⟩ := DataW.trod_string Try.underlying9 h2
    simp only [List.cons.injEq, and_true] at e
    exact ⟨s, by rw [h1, e]⟩
  obtain ⟨q, hq⟩ := choose_lt each
  refine ⟨_, _, _, q, rfl, by omega, fun i hi => ?_⟩
  obtain ⟨b, off, spot⟩ := a
  have hspot : spot = none := by simpa [Addr.add] using World.cell?_spot (hq 0 (by omega))
  subst hspot
  exact ⟨b, off, rfl, by have := hq i hi; rwa [add_plain] at this⟩

set_option maxRecDepth 100000 in
theorem lifted8 (os : Os) (started : os.Started) (H : Type) (enc : TypeId × Value → H) :
    ReturnsInHanded {} Try.checked os 8 .any (Rows.fnMatchesOwnPatternSpec.pre6 enc Try.prog Try.f8 Rows.fnMatchesOwnPatternRow.domain false) (Rows.fnMatchesOwnPatternSpec.post enc Try.prog Try.f8 false true false false) := by
  refine returnsInHanded_of_change (C := Try.checked) own started (by kernel_rfl) Try.func8
    (ChangeSpec.witness6 (enc := enc) (C := Try.checked) false ⟨#[], #[.slice none 0 0], []⟩ 8 (by kernel_rfl) (by kernel_rfl) (by kernel_rfl) (by kernel_rfl)) ?_
  intro W base args ds gs before hval0 hW hcnd _
  have hval : ∀ (j : Nat) t v, Try.f8.params[j]? = some t → args[j]? = some v → Value.okWide Try.prog W .any base t v := hval0
  have hW' := hW
  obtain ⟨p, q, hA0, hV, rfl, hfz, hnd⟩ := hW
  have hA : DataW.TrodAll enc Try.prog W 0 (fun _ => true) true Try.f8.params.toList args.toList ds p := hA0
  rw [Try.params8] at hA hval
  obtain ⟨v0, vs0, d0, ds0, p0, q0, hargs, rfl, rfl, h0, r0⟩ := trodAll_cons hA
  obtain ⟨rfl, rfl, rfl⟩ := trodAll_nil r0
  obtain rfl : args = #[v0] := by cases args; simp_all
  obtain ⟨rfl, rfl⟩ := trodVars_none hV
  obtain ⟨a0, len0, cap0, rfl⟩ := okWide_slice Try.underlying25 (hval 0 25 v0 rfl rfl)
  have k0 := h0
  have lt0 : ∀ x ∈ p0, x.block < W.heap.size := by obtain ⟨m, hm⟩ := k0; exact DataW.trod_lt m _ _ _ hm
  obtain ⟨I, hn, hS⟩ : ∃ I, len0 ≤ maxLen ∧ StrsAt W a0 len0 I := by
    obtain ⟨fuel, hf⟩ := h0
    obtain ⟨a, l, c, I, hcs, hn, hS⟩ := open_strs hf
    simp [Value.cells] at hcs
    obtain ⟨rfl, rfl, rfl⟩ := hcs
    exact ⟨I, hn, hS⟩
  clear hA0 hval0
  refine (walk8 a0 len0 cap0 I W hn hS).mono fun e W' ⟨he, bel⟩ => ?_
  subst he
  exact ⟨_, rfl, _, _, _, [], _, [], hW', trodAll_mk1 (shut_bool Try.underlying4 _), trodAll_mk1 (Below.trod laidOut (by kernel_rfl) (of_decide_eq_true (by kernel_rfl)) k0 bel lt0), rfl, bel.frame _, fun h => by cases h⟩

theorem over8 : Rows.fnMatchesOwnPatternRow.holds Try.pinned (OpenSpec.ofChange Rows.fnMatchesOwnPatternSpec) :=
  OpenClaim.holds_of_wide 8 Try.f8 rfl rfl rfl rfl rfl rfl rfl ⟨rfl, rfl, rfl, rfl, rfl⟩ rfl rfl rfl rfl rfl (by kernel_rfl) Try.func8 (by kernel_rfl)
    (of_decide_eq_true (by kernel_rfl)) (by unfold Func.isWrapper; first | (rw [if_pos (by decide +kernel)]; kernel_rfl) | (rw [if_neg (by decide +kernel)]; exact ⟨rfl, rfl⟩))
    (fun os started H enc _ => lifted8 os started H enc)

/-- THE STATEMENT -/
theorem fnMatchesOwnPattern_proved : Rows.FnMatchesOwnPatternSaid := over8
end Go.Proofs.Qxb6602028a
