import Derived.Test.Qxb6603581aProg
import Derived.WalkKit
import Derived.WalkLawsBesides
import Derived.WalkSpells
import Derived.Deep.OwnRows
namespace Go.Proofs.Qxb6603581a
open Go.RowKit
set_option linter.unusedVariables false

def IsBool (e : Ending) : Prop := ∃ r, e = .returned (.bool r)
theorem IsBool.mk (r : Bool) : IsBool (.returned (.bool r)) := ⟨r, rfl⟩

/-- A slice of bytes, element by element. -/
def BytesAt (w : World) (a : Option Addr) (n : Nat) (V : Nat → Int) : Prop :=
  ∀ i, i < n → ∃ b off, a = some ⟨b, off, none⟩ ∧ w.cell? ⟨b, off + i, none⟩ = some (.int .u8 (V i))

theorem BytesAt.below {w w' : World} {a : Option Addr} {n : Nat} {V : Nat → Int} (h : BytesAt w a n V) (hb : Below w.heap.size w w') : BytesAt w' a n V := by
  intro i hi
  obtain ⟨b, off, e, h1⟩ := h i hi
  exact ⟨b, off, e, (hb.cell (World.block_lt_of_cell? _ _ h1)).trans h1⟩

/-- A slice of slices of bytes. -/
structure KeysAt (w : World) (a : Option Addr) (n : Nat) (A : Nat → Option Addr) (N C : Nat → Nat) (V : Nat → Nat → Int) : Prop where
  row : ∀ i, i < n → ∃ b off, a = some ⟨b, off, none⟩ ∧ w.cell? ⟨b, off + i, none⟩ = some (.slice (A i) (N i) (C i))
  each : ∀ i, i < n → BytesAt w (A i) (N i) (V i)

theorem KeysAt.below {w w' : World} {a : Option Addr} {n : Nat} {A : Nat → Option Addr} {N C : Nat → Nat} {V : Nat → Nat → Int} (h : KeysAt w a n A N C V) (hb : Below w.heap.size w w') : KeysAt w' a n A N C V :=
  ⟨fun i hi => by
    obtain ⟨b, off, e, h1⟩ := h.row i hi
    exact ⟨b, off, e, (hb.cell (World.block_lt_of_cell? _ _ h1)).trans h1⟩, fun i hi => (h.each i hi).below hb⟩

theorem BytesAt.split {w : World} {a : Option Addr} {n : Nat} {V : Nat → Int} (h : BytesAt w a n V) :
    n = 0 ∨ ∃ b off, a = some ⟨b, off, none⟩ ∧ b < w.heap.size ∧ (∀ i, i < n → w.cell? ⟨b, off + i, none⟩ = some (.int .u8 (V i))) := by
  rcases Nat.eq_zero_or_pos n with h0 | h0
  · exact .inl h0
  obtain ⟨b, off, rfl, hc⟩ := h 0 h0
  refine .inr ⟨b, off, rfl, World.block_lt_of_cell? _ _ hc, fun i hi => ?_⟩
  obtain ⟨b', off', e, h1⟩ := h i hi
  simp only [Option.some.injEq, Addr.mk.injEq] at e
  obtain ⟨rfl, rfl, _⟩ := e
  exact h1

/-- What the guards say. -/
def Small (n : Nat) (N : Nat → Nat) (e : Ending) : Prop := ∃ r, e = .returned (.bool r) ∧ (r = true → n ≤ 1048576 ∧ ∀ i, i < n → N i ≤ 1048576)
theorem Small.no {n : Nat} {N : Nat → Nat} : Small n N (.returned (.bool false)) := ⟨_, rfl, fun h => by cases h⟩

theorem bytes5 (a : Option Addr) (n c : Nat) (A : Nat → Option Addr) (N C : Nat → Nat) (V : Nat → Nat → Int) (w : World) (hn : n ≤ maxLen) (h : KeysAt w a n A N C V) :
    Calls Try.prog 5 #[.slice a n c] w fun e w' => w' = w ∧ Small n N e := by
  unfold maxLen at hn
  go_enter Try.func5, Try.ntmps5
  go_wp2_with fail
  · go_ret
    exact ⟨rfl, Small.no⟩
  · have hn2 : n ≤ 1048576 := by omega
    go_loop [3, 4] (fun z i => ∃ (k : Nat) (v : Int), k ≤ n ∧ i = .int .i64 k ∧ z = .int .i64 v ∧ ∀ j, j < k → N j ≤ 1048576) (fun _ i => n - (intOf i).toNat)
    case atStart => exact ⟨0, _, Nat.zero_le _, rfl, rfl, fun j hj => absurd hj (Nat.not_lt_zero _)⟩
    case round =>
      obtain ⟨k, v, hk, rfl, rfl, hN⟩ := hrel
      by_cases hlt : k < n
      · obtain ⟨b, off, rfl, hc⟩ := h.row k hlt
        go_wp2_with fail
        iterate 2 (go_ret; exact ⟨rfl, Small.no⟩)
        go_round
        case rel => exact ⟨k + 1, _, by omega, by go_num, rfl, fun j hj => by
          by_cases e : j = k
          · subst e; omega
          · exact hN j (by omega)⟩
        case measure => simp [intOf]; omega
      · obtain rfl : k = n := by omega
        go_wp2_with fail
        all_goals (go_ret; exact ⟨rfl, _, rfl, fun _ => ⟨hn2, hN⟩⟩)

theorem bytes11 (a : Option Addr) (n c : Nat) (A : Nat → Option Addr) (N C : Nat → Nat) (V : Nat → Nat → Int) (w : World) (hn : n ≤ maxLen) (h : KeysAt w a n A N C V) :
    Calls Try.prog 11 #[.slice a n c] w fun e w' => w' = w ∧ Small n N e := by
  unfold maxLen at hn
  go_enter Try.func11, Try.ntmps11
  go_wp2_with fail
  · go_ret
    exact ⟨rfl, Small.no⟩
  · have hn2 : n ≤ 1048576 := by omega
    go_loop [3, 4] (fun z i => ∃ (k : Nat) (v : Int), k ≤ n ∧ i = .int .i64 k ∧ z = .int .i64 v ∧ ∀ j, j < k → N j ≤ 1048576) (fun _ i => n - (intOf i).toNat)
    case atStart => exact ⟨0, _, Nat.zero_le _, rfl, rfl, fun j hj => absurd hj (Nat.not_lt_zero _)⟩
    case round =>
      obtain ⟨k, v, hk, rfl, rfl, hN⟩ := hrel
      by_cases hlt : k < n
      · obtain ⟨b, off, rfl, hc⟩ := h.row k hlt
        go_wp2_with fail
        iterate 2 (go_ret; exact ⟨rfl, Small.no⟩)
        go_round
        case rel => exact ⟨k + 1, _, by omega, by go_num, rfl, fun j hj => by
          by_cases e : j = k
          · subst e; omega
          · exact hN j (by omega)⟩
        case measure => simp [intOf]; omega
      · obtain rfl : k = n := by omega
        go_wp2_with fail
        all_goals (go_ret; exact ⟨rfl, _, rfl, fun _ => ⟨hn2, hN⟩⟩)

theorem big6 (a : Option Addr) (n c : Nat) (A : Nat → Option Addr) (N C : Nat → Nat) (V : Nat → Nat → Int) (w : World) (hn : n ≤ 1048576) (hN : ∀ i, i < n → N i ≤ 1048576) (h : KeysAt w a n A N C V) :
    Calls Try.prog 6 #[.slice a n c] w fun e w' => w' = w ∧ IsBool e := by
  go_enter Try.func6, Try.ntmps6
  go_wp2_with fail
  iterate 2 (go_ret; exact ⟨rfl, IsBool.mk _⟩)
  go_loop [3, 4] (fun z i => ∃ (k : Nat) (v : Int), k ≤ n ∧ i = .int .i64 k ∧ z = .int .i64 v) (fun _ i => n - (intOf i).toNat)
  case atStart => exact ⟨0, _, Nat.zero_le _, rfl, rfl⟩
  case round =>
    obtain ⟨k, v, hk, rfl, rfl⟩ := hrel
    by_cases hlt : k < n
    · obtain ⟨b, off, rfl, hc⟩ := h.row k hlt
      go_wp2_with fail
      iterate 1 (go_ret; exact ⟨rfl, IsBool.mk _⟩)
      go_round
      case rel => exact ⟨k + 1, _, by omega, by go_num, rfl⟩
      case measure => simp [intOf]; omega
    · go_wp2_with fail
      all_goals (go_ret; exact ⟨rfl, IsBool.mk _⟩)

/-- FNV-1a over the first k bytes. -/
def hs (V : Nat → Int) : Nat → Int
  | 0 => 2166136261
  | k + 1 => bits .xor .u32 (hs V k) (V k % 4294967296) * 16777619 % 4294967296

theorem hs_range (V : Nat → Int) (n : Nat) : 0 ≤ hs V n ∧ hs V n < 4294967296 := by
  cases n with
  | zero => simp [hs]
  | succ k => simp only [hs]; omega

theorem fnv8 (a : Option Addr) (n c : Nat) (V : Nat → Int) (w : World) (hn : n ≤ 1048576) (h : BytesAt w a n V) :
    Calls Try.prog 8 #[.slice a n c] w fun e w' => w' = w ∧ e = .returned (.int .u32 (hs V n)) := by
  go_enter Try.func8, Try.ntmps8
  go_wp2_with fail
  go_loop [3, 4] (fun z i => ∃ (k : Nat), k ≤ n ∧ i = .int .i64 k ∧ z = .int .u32 (hs V k)) (fun _ i => n - (intOf i).toNat)
  case atStart => exact ⟨0, Nat.zero_le _, rfl, rfl⟩
  case round =>
    obtain ⟨k, hk, rfl, rfl⟩ := hrel
    by_cases hlt : k < n
    · obtain ⟨b, off, rfl, hc⟩ := h k hlt
      go_wp2_with fail
      go_round
      case rel => exact ⟨k + 1, by omega, by go_num, rfl⟩
      case measure => simp [intOf]; omega
    · obtain rfl : k = n := by omega
      go_wp2_with fail
      go_ret
      exact ⟨rfl, rfl⟩

theorem Try.zero25 : Try.t25.zero = some (.agg (Array.replicate 4096 (.bool false))) := by kernel_rfl
/-- 'var marks [4096]bool' -/
theorem alloc25 (w : World) : (Instr.alloc 25 true (.tuple #[])).run Try.prog w = .ok (.pointer (some ⟨w.heap.size, 0, none⟩)) (w.alloc (.cells (Array.replicate 4096 (.bool false)) 25)) := by
  simp only [Instr.alloc, zeroValue]
  simp [Try.zero25, newVar, newRow, Value.cells]
end Go.Proofs.Qxb6603581a
