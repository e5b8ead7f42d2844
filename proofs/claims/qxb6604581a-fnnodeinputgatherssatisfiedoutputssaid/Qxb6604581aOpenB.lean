import Derived.Test.Qxb6604581aOpen
import Derived.Test.Qxb6604581aLawC
import Derived.Deep.Strs
namespace Go.Proofs.Qxb6604581a
open Go.ChangeShapes Go.WideShapes Go.ChangeAt Go.RowKit
open Go.Deep (choose_lt open_slice open_slice1 trod_struct3)
set_option linter.unusedVariables false

theorem cells59 : Try.prog.cellsOf 59 = 3 := by kernel_rfl
theorem cells5 : Try.prog.cellsOf 5 = 1 := by kernel_rfl
theorem cells4 : Try.prog.cellsOf 4 = 1 := by kernel_rfl
theorem cells22 : Try.prog.cellsOf 22 = 1 := by kernel_rfl

theorem u8_nonneg {n : Int} (h : (Lit.int .u8 n).wf = true) : 0 ≤ n := by
  have h' : IntKind.u8.min ≤ n ∧ n ≤ IntKind.u8.max := by simpa [Lit.wf] using h
  have e : IntKind.u8.min = 0 := by decide
  omega

section
variable {H : Type} {enc : TypeId × Value → H} {w : World} {base : Nat} {spare : Nat → Bool} {held : Bool}

theorem trod_bool {P : Program} {t : TypeId} {fuel : Nat} {cs : List Value} {x : DataW H × List MemPlace} (ht : P.underlying t = some .bool) (h : DataW.trod enc P w base spare held fuel t cs = some x) : ∃ b, cs = [.bool b] := by
  cases fuel with
  | zero => simp [DataW.trod] at h
  | succ n =>
    unfold DataW.trod at h
    rw [ht] at h
    split at h <;> simp_all

set_option maxRecDepth 100000 in
theorem open_links {fuel : Nat} {cs : List Value} {x : DataW H × List MemPlace} (h : DataW.trod enc Try.prog w base spare held fuel 40 cs = some x) :
    ∃ a len cap Nd Wh So, cs = [.slice a len cap] ∧ len ≤ maxLen ∧ LinksAt w a len Nd Wh So ∧ ∀ i, i < len → 0 ≤ Wh i := by
  rcases open_slice Try.underlying40 h with ⟨rfl, _⟩ | ⟨a, len, cap, m, n, D, Pl, rfl, hb, hl, hm, hmm, rfl, hx⟩
  · exact ⟨_, _, _, fun _ => 0, fun _ => 0, fun _ => false, rfl, Nat.zero_le _, fun _ h => absurd h (Nat.not_lt_zero _), fun _ h => absurd h (Nat.not_lt_zero _)⟩
  have hlm : len ≤ m := by rw [hmm]; split <;> omega
  have each : ∀ i, i < len → ∃ q : Int × Int × Bool, w.cell? (a.add (i * 3)) = some (.int .i64 q.1) ∧ w.cell? (a.add (i * 3 + 1)) = some (.int .u8 q.2.1) ∧ w.cell? (a.add (i * 3 + 2)) = some (.bool q.2.2) ∧ 0 ≤ q.2.1 := by
    intro i hi
    obtain ⟨cs', h1, h2⟩ := hx i (by omega)
    rw [cells59] at h1
    obtain ⟨_, hlen, hcell⟩ := World.cells?_some h1
    obtain ⟨y0, y1, y2, k, _, _, g0, g1, g2⟩ := trod_struct3 Try.underlying59 h2
    match cs', hlen with
    | [v0, v1, v2], _ =>
      simp only [cells3, cells5, cells4] at g0 g1 g2
      simp only [List.drop_zero, List.drop_succ_cons, List.take_succ_cons, List.take_zero] at g0 g1 g2
      obtain ⟨a0, e0, _, _⟩ := DataW.trod_int Try.underlying3 g0
      obtain ⟨a1, e1, _, hw1⟩ := DataW.trod_int Try.underlying5 g1
      obtain ⟨a2, e2⟩ := trod_bool Try.underlying4 g2
      simp only [List.cons.injEq, and_true] at e0 e1 e2
      subst e0; subst e1; subst e2
      have c0 := hcell 0 (by omega)
      have c1 := hcell 1 (by omega)
      have c2 := hcell 2 (by omega)
      rw [Deep.add_add] at c0 c1 c2
      exact ⟨(a0, a1, a2), by simpa using c0, by simpa using c1, by simpa using c2, u8_nonneg hw1⟩
  obtain ⟨q, hq⟩ := choose_lt each
  refine ⟨_, _, _, fun i => (q i).1, fun i => (q i).2.1, fun i => (q i).2.2, rfl, by omega, ?_, fun i hi => (hq i hi).2.2.2⟩
  intro i hi
  obtain ⟨b, off, spot⟩ := a
  have hspot : spot = none := by simpa [Addr.add] using World.cell?_spot (hq 0 (by omega)).1
  subst hspot
  refine ⟨b, off, rfl, ?_, ?_, ?_⟩
  · have := (hq i hi).1; rwa [add_plain] at this
  · have := (hq i hi).2.1; rwa [add_plain] at this
  · have := (hq i hi).2.2.1; rwa [add_plain] at this

theorem open_u8s {fuel : Nat} {cs : List Value} {x : DataW H × List MemPlace} (h : DataW.trod enc Try.prog w base spare held fuel 42 cs = some x) :
    ∃ (a : Option Addr) (len cap : Nat) (Z : Nat → Int), cs = [.slice a len cap] ∧ ValsAt w a len (fun i => .int .u8 (Z i)) ∧ ∀ i, i < len → 0 ≤ Z i := by
  rcases open_ints Try.underlying42 Try.underlying5 cells5 h with ⟨rfl, _⟩ | ⟨a, len, cap, zs, rfl, _, hl, hm, hz, _, hcell, hwz⟩
  · exact ⟨_, _, _, fun _ => 0, rfl, fun _ h => absurd h (Nat.not_lt_zero _), fun _ h => absurd h (Nat.not_lt_zero _)⟩
  have hlz : len ≤ zs.length := by rw [hz]; split <;> omega
  refine ⟨_, _, _, fun i => zs.getD i 0, rfl, fun i hi => ?_, fun i hi => ?_⟩
  · obtain ⟨b, off, spot⟩ := a
    have hspot : spot = none := by simpa [Addr.add] using World.cell?_spot (hcell 0 (by omega))
    subst hspot
    exact ⟨b, off, rfl, by have := hcell i (by omega); rwa [add_plain] at this⟩
  · refine u8_nonneg (hwz _ ?_)
    have hi' : i < zs.length := by omega
    simp only [List.getD_eq_getElem?_getD, List.getElem?_eq_getElem hi', Option.getD_some]
    exact List.getElem_mem hi'

theorem open_outs {fuel : Nat} {cs : List Value} {x : DataW H × List MemPlace} (h : DataW.trod enc Try.prog w base spare held fuel 41 cs = some x) :
    ∃ a len cap A N C I S, cs = [.slice a len cap] ∧ len ≤ maxLen ∧ OutsAt w a len A N C I S ∧ ∀ x, x < len → N x ≤ maxLen := by
  rcases open_slice1 Try.underlying41 cells22 h with ⟨rfl, _⟩ | ⟨a, len, cap, m, n, V, D, Pl, rfl, hb, hl, hm, hmm, rfl, hx⟩
  · exact ⟨_, _, _, fun _ => none, fun _ => 0, fun _ => 0, fun _ _ => ByteArray.empty, fun _ _ => 0, rfl, Nat.zero_le _, ⟨fun _ h => absurd h (Nat.not_lt_zero _), fun _ h => absurd h (Nat.not_lt_zero _)⟩, fun _ h => absurd h (Nat.not_lt_zero _)⟩
  have hlm : len ≤ m := by rw [hmm]; split <;> omega
  have each : ∀ i, i < len → ∃ q : Option Addr × Nat × Nat × (Nat → ByteArray) × (Nat → Nat), w.cell? (a.add i) = some (.slice q.1 q.2.1 q.2.2.1) ∧ q.2.1 ≤ maxLen ∧ CandsAt w q.1 q.2.1 q.2.2.2.1 q.2.2.2.2 := by
    intro i hi
    obtain ⟨h1, h2⟩ := hx i (by omega)
    obtain ⟨a', l', c', I, S, e, hm', hC, _⟩ := open_cands h2
    simp only [List.cons.injEq, and_true] at e
    exact ⟨(a', l', c', I, S), by rw [h1, e], hm', hC⟩
  obtain ⟨q, hq⟩ := choose_lt each
  refine ⟨_, _, _, fun i => (q i).1, fun i => (q i).2.1, fun i => (q i).2.2.1, fun i => (q i).2.2.2.1, fun i => (q i).2.2.2.2, rfl, by omega, ⟨?_, fun i hi => (hq i hi).2.2⟩, fun i hi => (hq i hi).2.1⟩
  intro i hi
  obtain ⟨b, off, spot⟩ := a
  have hspot : spot = none := by simpa [Addr.add] using World.cell?_spot (hq 0 (by omega)).1
  subst hspot
  exact ⟨b, off, rfl, by have := (hq i hi).1; rwa [add_plain] at this⟩
end
end Go.Proofs.Qxb6604581a
