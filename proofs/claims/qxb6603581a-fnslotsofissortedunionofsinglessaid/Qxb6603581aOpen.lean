/- The arguments of the seat's laws, opened: a slice of slices of bytes. -/
import Derived.Test.Qxb6603581aRows
import Derived.Test.Qxb6603581aBase
import Derived.WalkKit
import Derived.ProofKit
import Derived.ChangeOld
import Derived.Below
import Derived.Carry
import Derived.Deep.Slices
namespace Go.Proofs.Qxb6603581a
open Go.ChangeShapes Go.WideShapes Go.ChangeAt Go.RowKit
open Go.Deep (choose_lt open_slice1)
set_option linter.unusedVariables false

theorem own : ownKnob Try.prog.godebug = none := by kernel_rfl
theorem laidOut : laidOutB Try.prog = true := by kernel_rfl
theorem cells5 : Try.prog.cellsOf 5 = 1 := by kernel_rfl
theorem cells28 : Try.prog.cellsOf 28 = 1 := by kernel_rfl

section
variable {H : Type} {enc : TypeId × Value → H} {w : World} {base : Nat} {spare : Nat → Bool} {held : Bool}

theorem open_bytes {fuel : Nat} {cs : List Value} {x : DataW H × List MemPlace} (h : DataW.trod enc Try.prog w base spare held fuel 28 cs = some x) :
    ∃ a len cap V, cs = [.slice a len cap] ∧ BytesAt w a len V := by
  rcases open_slice1 Try.underlying28 cells5 h with ⟨rfl, _⟩ | ⟨a, len, cap, m, n, V, D, Pl, rfl, hb, hl, hm, hmm, rfl, hx⟩
  · exact ⟨_, _, _, fun _ => 0, rfl, fun _ h => absurd h (Nat.not_lt_zero _)⟩
  have hlm : len ≤ m := by rw [hmm]; split <;> omega
  have each : ∀ i, i < len → ∃ q : Int, w.cell? (a.add i) = some (.int .u8 q) := by
    intro i hi
    obtain ⟨h1, h2⟩ := hx i (by omega)
    obtain ⟨s, e, _⟩ := DataW.trod_int Try.underlying5 h2
    simp only [List.cons.injEq, and_true] at e
    exact ⟨s, by rw [h1, e]⟩
  obtain ⟨q, hq⟩ := choose_lt each
  refine ⟨_, _, _, q, rfl, fun i hi => ?_⟩
  obtain ⟨b, off, spot⟩ := a
  have hspot : spot = none := by simpa [Addr.add] using World.cell?_spot (hq 0 (by omega))
  subst hspot
  exact ⟨b, off, rfl, by have := hq i hi; rwa [add_plain] at this⟩

theorem open_keys {fuel : Nat} {cs : List Value} {x : DataW H × List MemPlace} (h : DataW.trod enc Try.prog w base spare held fuel 22 cs = some x) :
    ∃ a len cap A N C V, cs = [.slice a len cap] ∧ len ≤ maxLen ∧ KeysAt w a len A N C V := by
  rcases open_slice1 Try.underlying22 cells28 h with ⟨rfl, _⟩ | ⟨a, len, cap, m, n, V, D, Pl, rfl, hb, hl, hm, hmm, rfl, hx⟩
  · exact ⟨_, _, _, fun _ => .none, fun _ => 0, fun _ => 0, fun _ _ => 0, rfl, Nat.zero_le _, fun _ h => absurd h (Nat.not_lt_zero _), fun _ h => absurd h (Nat.not_lt_zero _)⟩
  have hlm : len ≤ m := by rw [hmm]; split <;> omega
  have each : ∀ i, i < len → ∃ q : Option Addr × Nat × Nat × (Nat → Int), w.cell? (a.add i) = some (.slice q.1 q.2.1 q.2.2.1) ∧ BytesAt w q.1 q.2.1 q.2.2.2 := by
    intro i hi
    obtain ⟨h1, h2⟩ := hx i (by omega)
    obtain ⟨a', l', c', V', e, hB⟩ := open_bytes h2
    simp only [List.cons.injEq, and_true] at e
    exact ⟨(a', l', c', V'), by rw [h1, e], hB⟩
  obtain ⟨q, hq⟩ := choose_lt each
  refine ⟨_, _, _, fun i => (q i).1, fun i => (q i).2.1, fun i => (q i).2.2.1, fun i => (q i).2.2.2, rfl, by omega, fun i hi => ?_, fun i hi => (hq i hi).2⟩
  obtain ⟨b, off, spot⟩ := a
  have hspot : spot = none := by simpa [Addr.add] using World.cell?_spot (hq 0 (by omega)).1
  subst hspot
  exact ⟨b, off, rfl, by have := (hq i hi).1; rwa [add_plain] at this⟩
end
end Go.Proofs.Qxb6603581a
