import Derived.Test.Qxb6604581aNodeA
namespace Go.Proofs.Qxb6604581a
open Go.RowKit
set_option linter.unusedVariables false

/-- What zzAfterOK tells where it says yes. -/
def AfterOK (n0 n1 n2 : Nat) (Nd Wh : Nat → Int) (O : Nat → Int) : Prop :=
  ∀ i, i < n0 → 0 ≤ Nd i ∧ Nd i < n1 ∧ Nd i < n2 ∧ Wh i ≤ 2 ∧ O (Nd i).toNat ≤ 2

def AfterEnd (n0 n1 n2 : Nat) (Nd Wh : Nat → Int) (O : Nat → Int) (e : Ending) : Prop := ∃ r, e = .returned (.bool r) ∧ (r = true → AfterOK n0 n1 n2 Nd Wh O)
theorem AfterEnd.no (n0 n1 n2 : Nat) (Nd Wh : Nat → Int) (O : Nat → Int) : AfterEnd n0 n1 n2 Nd Wh O (.returned (.bool false)) := ⟨_, rfl, fun h => by cases h⟩

/-- The counts, whatever they are, in block C. -/
def CountRow (w wr : World) (C m : Nat) : Prop := Below C w wr ∧ w.heap.size = C ∧ ∃ f : Nat → Int, wr.rowIs C 3 m (fun j => .int .i64 (f j))

theorem bel_alloc {w wr : World} (h : Below w.heap.size w wr) (o : Obj) : Below w.heap.size w (wr.alloc o) := h.alloc h.size o

set_option maxHeartbeats 1000000 in
theorem after19 (a0 a1 a2 : Option Addr) (n0 c0 n1 c1 n2 c2 : Nat) (Nd Wh O : Nat → Int) (So : Nat → Bool) (w : World) (h0 : n0 ≤ maxLen) (hn1 : n1 ≤ 65536) (hn2 : n2 ≤ 65536) (hL : LinksAt w a0 n0 Nd Wh So) (hO : ValsAt w a2 n2 (fun i => .int .u8 (O i))) :
    Calls Try.prog 19 #[.slice a0 n0 c0, .slice a1 n1 c1, .slice a2 n2 c2] w fun e w' => Below w.heap.size w w' ∧ AfterEnd n0 n1 n2 Nd Wh O e := by
  unfold maxLen at h0
  have hmk := run_make_row' (P := Try.prog) 23 3 (.int .i64 0) 8 Try.underlying23 Try.info3 rfl .i64 .i64 n1 (by omega) (by omega)
  go_enter Try.func19, Try.ntmps19
  go_wp2
  clear hmk
  go_loopw [8] (fun i wr => ∃ (k : Nat), k ≤ n0 ∧ i = .int .i64 k ∧ CountRow w wr w.heap.size n1 ∧ Hid (AfterOK k n1 n2 Nd Wh O)) (fun i _ => n0 - (intOf i).toNat)
  case atStart => exact ⟨0, Nat.zero_le _, rfl, ⟨(Below.refl _ _).alloc (Nat.le_refl _) _, rfl, fun _ => 0, World.rowIs_made w _ n1 3⟩, fun i hi => absurd hi (Nat.not_lt_zero _)⟩
  case round =>
    obtain ⟨k, hk, rfl, ⟨hbel, _, f, hrow⟩, H⟩ := hrel
    by_cases hlt : k < n0
    · obtain ⟨b, off, rfl, hcN, hcW, hcS⟩ := (hL.below hbel) k hlt
      by_cases hneg : Nd k < 0
      · go_wp2_with fail
        go_ret
        exact ⟨bel_alloc hbel _, AfterEnd.no _ _ _ _ _ _⟩
      obtain ⟨x, hx⟩ : ∃ x : Nat, Nd k = x := ⟨(Nd k).toNat, by omega⟩
      have HX : Hid (Nd k = x) := hx
      rw [hx] at hcN
      clear hx hneg
      by_cases hb1 : n1 ≤ x
      · go_wp2_with fail
        go_ret
        exact ⟨bel_alloc hbel _, AfterEnd.no _ _ _ _ _ _⟩
      by_cases hb2 : n2 ≤ x
      · go_wp2_with fail
        go_ret
        exact ⟨bel_alloc hbel _, AfterEnd.no _ _ _ _ _ _⟩
      by_cases hw : 2 < Wh k
      · go_wp2_with fail
        go_ret
        exact ⟨bel_alloc hbel _, AfterEnd.no _ _ _ _ _ _⟩
      obtain ⟨bo, oo, rfl, hcO⟩ := (hO.below hbel) x (by omega)
      have hbo := World.block_lt_of_cell? _ _ hcO
      by_cases ho : 2 < O x
      · go_wp2_with fail
        go_ret
        exact ⟨bel_alloc hbel _, AfterEnd.no _ _ _ _ _ _⟩
      have hd := hrow.cell (i := x) (by omega)
      have hf := hrow.frozen x
      have hlt1 := hrow.lt
      go_wp2_with fail
      go_roundw
      case rel => exact ⟨k + 1, by omega, by go_num, ⟨bel_alloc (hbel.setCell (Nat.le_refl _) _) _, rfl, fun j => if j = x then wrap64 (f x + 1) else f j, ((hrow.set x _).alloc _).congr (fun j _ => by
          by_cases e : j = x
          · subst e; rw [if_pos rfl]; exact congrArg (Value.int .i64) (if_pos rfl).symm
          · rw [if_neg e]; exact congrArg (Value.int .i64) (if_neg e).symm)⟩, fun i hi => by
          rcases Nat.lt_succ_iff_lt_or_eq.1 hi with h | h
          · exact H.out i h
          · subst h; rw [HX.out]; refine ⟨by omega, by omega, by omega, by omega, ?_⟩; show O x ≤ 2; omega⟩
      case measure => simp [intOf]; omega
    · obtain rfl : k = n0 := by omega
      go_wp2_with fail
      go_loop [10] (fun i => ∃ (j : Nat), j ≤ k ∧ i = .int .i64 j) (fun i => k - (intOf i).toNat)
      case atStart => exact ⟨0, Nat.zero_le _, rfl⟩
      case round =>
        obtain ⟨j, hj, rfl⟩ := hrel
        by_cases hlt2 : j < k
        · obtain ⟨b, off, rfl, hcN, hcW, hcS⟩ := (hL.below hbel) j hlt2
          obtain ⟨g0, g1, g2, _⟩ := H.out j hlt2
          obtain ⟨x, hx⟩ : ∃ x : Nat, Nd j = x := ⟨(Nd j).toNat, by omega⟩
          have hxl : x < n1 := by omega
          rw [hx] at hcN
          clear hx g0 g1 g2
          have hd := hrow.cell (i := x) (by omega)
          cases hso : So j
          · rw [hso] at hcS
            go_wp2_with fail
            go_round
            case rel => exact ⟨j + 1, by omega, by go_num⟩
            case measure => simp [intOf]; omega
          · rw [hso] at hcS
            go_wp2_with fail
            · go_ret
              exact ⟨hbel, AfterEnd.no _ _ _ _ _ _⟩
            · go_round
              case rel => exact ⟨j + 1, by omega, by go_num⟩
              case measure => simp [intOf]; omega
        · go_wp2_with fail
          go_ret
          exact ⟨hbel, _, rfl, fun _ => H.out⟩
end Go.Proofs.Qxb6604581a
