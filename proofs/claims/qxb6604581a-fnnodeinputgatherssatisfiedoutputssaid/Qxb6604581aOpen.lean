import Derived.Test.Qxb6604581aBase
import Derived.WalkKit
import Derived.ProofKit
import Derived.ChangeOld
import Derived.Below
import Derived.Carry
import Derived.ChangeSame
import Derived.Deep.Slices
namespace Go.Proofs.Qxb6604581a
open Go.ChangeShapes Go.WideShapes Go.ChangeAt Go.RowKit
open Go.Deep (choose_lt open_slice)
set_option linter.unusedVariables false

theorem own : ownKnob Try.prog.godebug = none := by kernel_rfl
theorem laidOut : laidOutB Try.prog = true := by kernel_rfl
theorem cells38 : Try.prog.cellsOf 38 = 2 := by kernel_rfl
theorem cells9 : Try.prog.cellsOf 9 = 1 := by kernel_rfl
theorem cells35 : Try.prog.cellsOf 35 = 1 := by kernel_rfl
theorem cells3 : Try.prog.cellsOf 3 = 1 := by kernel_rfl

section
variable {H : Type} {enc : TypeId × Value → H} {P : Program} {w : World} {base : Nat} {spare : Nat → Bool} {held : Bool}

theorem trod_float {t : TypeId} {fuel : Nat} {cs : List Value} {x : DataW H × List MemPlace} {k : FloatKind} (ht : P.underlying t = some (.float k)) (h : DataW.trod enc P w base spare held fuel t cs = some x) : ∃ n, cs = [.float k n] := by
  cases fuel with
  | zero => simp [DataW.trod] at h
  | succ n =>
    unfold DataW.trod at h
    rw [ht] at h
    split at h <;> simp_all

set_option maxRecDepth 100000 in
/-- A []Cand that came in. -/
theorem open_cands {fuel : Nat} {cs : List Value} {x : DataW H × List MemPlace} (h : DataW.trod enc Try.prog w base spare held fuel 22 cs = some x) :
    ∃ a len cap I S, cs = [.slice a len cap] ∧ len ≤ maxLen ∧ CandsAt w a len I S ∧ ∀ i, i < len → (I i).size ≤ maxLen := by
  rcases open_slice Try.underlying22 h with ⟨rfl, _⟩ | ⟨a, len, cap, m, n, D, Pl, rfl, hb, hl, hm, hmm, rfl, hx⟩
  · exact ⟨_, _, _, fun _ => ByteArray.empty, fun _ => 0, rfl, Nat.zero_le _, CandsAt.mk0, fun _ h => absurd h (Nat.not_lt_zero _)⟩
  have hlm : len ≤ m := by rw [hmm]; split <;> omega
  have each : ∀ i, i < len → ∃ q : ByteArray × Nat, w.cell? (a.add (i * 2)) = some (.string q.1) ∧ w.cell? (a.add (i * 2 + 1)) = some (.float .f64 q.2) ∧ q.1.size ≤ maxLen := by
    intro i hi
    obtain ⟨cs', h1, h2⟩ := hx i (by omega)
    rw [cells38] at h1
    obtain ⟨_, hlen, hcell⟩ := World.cells?_some h1
    obtain ⟨y0, y1, k, _, _, g0, g1⟩ := trod_struct2 Try.underlying38 h2
    match cs', hlen with
    | [v0, v1], _ =>
      simp only [cells9, cells35] at g0 g1
      simp only [List.drop_zero, List.drop_succ_cons, List.take_succ_cons, List.take_zero] at g0 g1
      obtain ⟨s, e0, _, hs⟩ := DataW.trod_string Try.underlying9 g0
      obtain ⟨f, e1⟩ := trod_float Try.underlying35 g1
      simp only [List.cons.injEq, and_true] at e0 e1
      subst e0; subst e1
      have c0 := hcell 0 (by omega)
      have c1 := hcell 1 (by omega)
      rw [Deep.add_add] at c0 c1
      exact ⟨(s, f), by simpa using c0, by simpa using c1, hs⟩
  obtain ⟨q, hq⟩ := choose_lt each
  refine ⟨_, _, _, fun i => (q i).1, fun i => (q i).2, rfl, by omega, ?_, fun i hi => (hq i hi).2.2⟩
  intro i hi
  obtain ⟨b, off, spot⟩ := a
  have hspot : spot = none := by simpa [Addr.add] using World.cell?_spot (hq 0 (by omega)).1
  subst hspot
  refine ⟨b, off, rfl, ?_, ?_⟩
  · have := (hq i hi).1; rwa [add_plain] at this
  · have := (hq i hi).2.1; rwa [add_plain] at this

/-- A []int that came in. -/
theorem open_intsAt {fuel : Nat} {cs : List Value} {x : DataW H × List MemPlace} (h : DataW.trod enc Try.prog w base spare held fuel 23 cs = some x) :
    ∃ a len cap Z, cs = [.slice a len cap] ∧ len ≤ maxLen ∧ IntsAt w a len Z := by
  rcases open_ints Try.underlying23 Try.underlying3 cells3 h with ⟨rfl, _⟩ | ⟨a, len, cap, zs, rfl, _, hl, hm, hz, _, hcell, hwz⟩
  · exact ⟨_, _, _, fun _ => 0, rfl, Nat.zero_le _, fun _ h => absurd h (Nat.not_lt_zero _)⟩
  have hlz : len ≤ zs.length := by rw [hz]; split <;> omega
  refine ⟨_, _, _, fun i => zs.getD i 0, rfl, by omega, fun i hi => ?_⟩
  obtain ⟨b, off, spot⟩ := a
  have hspot : spot = none := by simpa [Addr.add] using World.cell?_spot (hcell 0 (by omega))
  subst hspot
  exact ⟨b, off, rfl, by have := hcell i (by omega); rwa [add_plain] at this⟩
end

end Go.Proofs.Qxb6604581a
