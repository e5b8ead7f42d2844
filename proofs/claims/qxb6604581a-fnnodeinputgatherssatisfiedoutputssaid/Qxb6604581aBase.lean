import Derived.Test.Qxb6604581aProg
import Derived.WalkKit
import Derived.WalkLawsBesides
import Derived.WalkSpells
import Derived.Deep.OwnRows
namespace Go.Proofs.Qxb6604581a
open Go.RowKit

theorem sameScore (x : Nat) (w : World) :
    Calls Try.prog 29 #[.float .f64 x, .float .f64 x] w fun e w' => e = .returned (.bool true) ∧ w = w' := by
  cases h : (FloatKind.f64.format.order x x == some .eq)
  · have h2 : (FloatKind.f64.format.order x x != some .eq) = true := by simp [bne, h]
    go_enter Try.func29, Try.ntmps29
    go_wp2
    go_ret
    exact ⟨rfl, rfl⟩
  · have h2 : (FloatKind.f64.format.order x x != some .eq) = false := by simp [bne, h]
    go_enter Try.func29, Try.ntmps29
    go_wp2
    go_ret
    exact ⟨rfl, rfl⟩

theorem sameCand (s : ByteArray) (x : Nat) (w : World) :
    Calls Try.prog 14 #[.agg #[.string s, .float .f64 x], .agg #[.string s, .float .f64 x]] w fun e w' => e = .returned (.bool true) ∧ w' = (w.alloc (.cells #[.string s, .float .f64 x] 37)).alloc (.cells #[.string s, .float .f64 x] 38) := by
  go_enter Try.func14, Try.ntmps14
  go_wp2_with (first | (go_at_call 29; refine (sameScore _ _).mono ?_; rintro e w' ⟨rfl, rfl⟩))
  go_ret
  exact ⟨rfl, rfl⟩


def IsBool (e : Ending) : Prop := ∃ r, e = .returned (.bool r)
theorem IsBool.mk (r : Bool) : IsBool (.returned (.bool r)) := ⟨r, rfl⟩
def IsInt (e : Ending) : Prop := ∃ r, e = .returned (.int .i64 r)
theorem IsInt.mk (r : Int) : IsInt (.returned (.int .i64 r)) := ⟨r, rfl⟩

/-- A slice of structs of two cells, a string and a float64: element by element. -/
def CandsAt (w : World) (a : Option Addr) (n : Nat) (I : Nat → ByteArray) (S : Nat → Nat) : Prop :=
  ∀ i, i < n → ∃ b off, a = some ⟨b, off, none⟩ ∧ w.cell? ⟨b, off + i * 2, none⟩ = some (.string (I i)) ∧ w.cell? ⟨b, off + i * 2 + 1, none⟩ = some (.float .f64 (S i))

theorem CandsAt.split {w : World} {a : Option Addr} {n : Nat} {I : Nat → ByteArray} {S : Nat → Nat} (h : CandsAt w a n I S) :
    n = 0 ∨ ∃ b off, a = some ⟨b, off, none⟩ ∧ b < w.heap.size ∧ (∀ i, i < n → w.cell? ⟨b, off + i * 2, none⟩ = some (.string (I i))) ∧ (∀ i, i < n → w.cell? ⟨b, off + i * 2 + 1, none⟩ = some (.float .f64 (S i))) := by
  rcases Nat.eq_zero_or_pos n with h0 | h0
  · exact .inl h0
  obtain ⟨b, off, rfl, hc, _⟩ := h 0 h0
  refine .inr ⟨b, off, rfl, World.block_lt_of_cell? _ _ hc, fun i hi => ?_, fun i hi => ?_⟩
  · obtain ⟨b', off', e, h1, h2⟩ := h i hi
    simp only [Option.some.injEq, Addr.mk.injEq] at e
    obtain ⟨rfl, rfl, _⟩ := e
    exact h1
  · obtain ⟨b', off', e, h1, h2⟩ := h i hi
    simp only [Option.some.injEq, Addr.mk.injEq] at e
    obtain ⟨rfl, rfl, _⟩ := e
    exact h2

theorem CandsAt.mk0 {w : World} {a : Option Addr} {I : Nat → ByteArray} {S : Nat → Nat} : CandsAt w a 0 I S := fun _ hi => absurd hi (Nat.not_lt_zero _)

theorem CandsAt.mk1 {w : World} {b off : Nat} {n : Nat} {I : Nat → ByteArray} {S : Nat → Nat} (h1 : ∀ i, i < n → w.cell? ⟨b, off + i * 2, none⟩ = some (.string (I i))) (h2 : ∀ i, i < n → w.cell? ⟨b, off + i * 2 + 1, none⟩ = some (.float .f64 (S i))) :
    CandsAt w (some ⟨b, off, none⟩) n I S := fun i hi => ⟨b, off, rfl, h1 i hi, h2 i hi⟩

theorem CandsAt.below {w w' : World} {a : Option Addr} {n : Nat} {I : Nat → ByteArray} {S : Nat → Nat} (h : CandsAt w a n I S) (hb : Below w.heap.size w w') : CandsAt w' a n I S := by
  intro i hi
  obtain ⟨b, off, e, h1, h2⟩ := h i hi
  exact ⟨b, off, e, (hb.cell (World.block_lt_of_cell? _ _ h1)).trans h1, (hb.cell (World.block_lt_of_cell? _ _ h2)).trans h2⟩

/-- A slice of ints. -/
def IntsAt (w : World) (a : Option Addr) (n : Nat) (Z : Nat → Int) : Prop :=
  ∀ i, i < n → ∃ b off, a = some ⟨b, off, none⟩ ∧ w.cell? ⟨b, off + i, none⟩ = some (.int .i64 (Z i))

theorem IntsAt.split {w : World} {a : Option Addr} {n : Nat} {Z : Nat → Int} (h : IntsAt w a n Z) :
    n = 0 ∨ ∃ b off, a = some ⟨b, off, none⟩ ∧ b < w.heap.size ∧ (∀ i, i < n → w.cell? ⟨b, off + i, none⟩ = some (.int .i64 (Z i))) := by
  rcases Nat.eq_zero_or_pos n with h0 | h0
  · exact .inl h0
  obtain ⟨b, off, rfl, hc⟩ := h 0 h0
  refine .inr ⟨b, off, rfl, World.block_lt_of_cell? _ _ hc, fun i hi => ?_⟩
  obtain ⟨b', off', e, h1⟩ := h i hi
  simp only [Option.some.injEq, Addr.mk.injEq] at e
  obtain ⟨rfl, rfl, _⟩ := e
  exact h1

theorem IntsAt.below {w w' : World} {a : Option Addr} {n : Nat} {Z : Nat → Int} (h : IntsAt w a n Z) (hb : Below w.heap.size w w') : IntsAt w' a n Z := by
  intro i hi
  obtain ⟨b, off, e, h1⟩ := h i hi
  exact ⟨b, off, e, (hb.cell (World.block_lt_of_cell? _ _ h1)).trans h1⟩

theorem add8' (b off n c : Nat) (acc : Int) (I : Nat → ByteArray) (w : World) (hn : n ≤ maxLen)
    (hI : ∀ i, i < n → w.cell? ⟨b, off + i * 2, none⟩ = some (.string (I i))) :
    Calls Try.prog 8 #[.int .i64 acc, .slice (some ⟨b, off, none⟩) n c] w fun e w' => w = w' ∧ IsInt e := by
  unfold maxLen at hn
  go_enter Try.func8, Try.ntmps8
  go_wp2
  iterate 2 (go_ret; exact ⟨rfl, IsInt.mk _⟩)
  go_loop [0, 5] (fun z i => ∃ (k : Nat) (v : Int), k ≤ n ∧ i = .int .i64 k ∧ z = .int .i64 v) (fun _ i => n - (intOf i).toNat)
  case atStart => exact ⟨0, _, Nat.zero_le _, rfl, rfl⟩
  case round =>
    obtain ⟨k, v, hk, rfl, rfl⟩ := hrel
    have hc := hI k
    by_cases hlt : k < n
    · replace hc := hc hlt
      go_wp2
      iterate 2 (go_ret; exact ⟨rfl, IsInt.mk _⟩)
      go_round
      case rel => exact ⟨k + 1, _, by omega, by go_num, rfl⟩
      case measure => simp [intOf]; omega
    · go_wp2
      all_goals (go_ret; exact ⟨rfl, IsInt.mk _⟩)

theorem add8z (a : Option Addr) (c : Nat) (acc : Int) (w : World) :
    Calls Try.prog 8 #[.int .i64 acc, .slice a 0 c] w fun e w' => w = w' ∧ IsInt e := by
  go_enter Try.func8, Try.ntmps8
  go_wp2
  iterate 1 (go_ret; exact ⟨rfl, IsInt.mk _⟩)
  go_loop [0, 5] (fun z i => ∃ v : Int, i = .int .i64 0 ∧ z = .int .i64 v) (fun _ i => 0)
  case atStart => exact ⟨_, rfl, rfl⟩
  case round =>
    obtain ⟨v, rfl, rfl⟩ := hrel
    go_wp2
    all_goals (go_ret; exact ⟨rfl, IsInt.mk _⟩)

theorem add8 (a : Option Addr) (n c : Nat) (acc : Int) (I : Nat → ByteArray) (S : Nat → Nat) (w : World) (hn : n ≤ maxLen) (h : CandsAt w a n I S) :
    Calls Try.prog 8 #[.int .i64 acc, .slice a n c] w fun e w' => w = w' ∧ IsInt e := by
  rcases h.split with rfl | ⟨b, off, rfl, _, h1, _⟩
  · exact add8z a c acc w
  · exact add8' b off n c acc I w hn h1

/-- The place where list j begins. -/
def pre (Z : Nat → Int) (j : Nat) : Int := if j = 0 then 0 else Z (j - 1)

def Layout (N : Int) (n : Nat) (Z : Nat → Int) : Prop := (∀ j, j < n → pre Z j ≤ Z j) ∧ pre Z n = N


theorem bytes7' (b off n c n2 c2 : Nat) (a2 : Option Addr) (I : Nat → ByteArray) (w : World) (hn : n ≤ maxLen)
    (hI : ∀ i, i < n → w.cell? ⟨b, off + i * 2, none⟩ = some (.string (I i))) :
    Calls Try.prog 7 #[.slice (some ⟨b, off, none⟩) n c, .slice a2 n2 c2] w fun e w' => w = w' ∧ IsBool e := by
  unfold maxLen at hn
  go_enter Try.func7, Try.ntmps7
  go_wp2
  · go_ret
    exact ⟨rfl, IsBool.mk _⟩
  · go_loop [5, 6] (fun z i => ∃ (k : Nat) (v : Int), k ≤ n ∧ i = .int .i64 k ∧ z = .int .i64 v) (fun _ i => n - (intOf i).toNat)
    case atStart => exact ⟨0, _, Nat.zero_le _, rfl, rfl⟩
    case round =>
      obtain ⟨k, v, hk, rfl, rfl⟩ := hrel
      have hc := hI k
      by_cases hlt : k < n
      · replace hc := hc hlt
        go_wp2
        iterate 2 (go_ret; exact ⟨rfl, IsBool.mk _⟩)
        go_round
        case rel => exact ⟨k + 1, _, by omega, by go_num, rfl⟩
        case measure => simp [intOf]; omega
      · go_wp2
        all_goals (go_ret; exact ⟨rfl, IsBool.mk _⟩)

theorem bytes7z (a : Option Addr) (c n2 c2 : Nat) (a2 : Option Addr) (w : World) :
    Calls Try.prog 7 #[.slice a 0 c, .slice a2 n2 c2] w fun e w' => w = w' ∧ IsBool e := by
  go_enter Try.func7, Try.ntmps7
  go_wp2
  go_loop [5, 6] (fun z i => i = .int .i64 0 ∧ z = .int .i64 0) (fun _ i => 0)
  case atStart => exact ⟨rfl, rfl⟩
  case round =>
    obtain ⟨rfl, rfl⟩ := hrel
    go_wp2
    all_goals (go_ret; exact ⟨rfl, IsBool.mk _⟩)



theorem bytes7 (a : Option Addr) (n c n2 c2 : Nat) (a2 : Option Addr) (I : Nat → ByteArray) (S : Nat → Nat) (w : World) (hn : n ≤ maxLen) (h : CandsAt w a n I S) :
    Calls Try.prog 7 #[.slice a n c, .slice a2 n2 c2] w fun e w' => w = w' ∧ IsBool e := by
  rcases h.split with rfl | ⟨b, off, rfl, _, h1, _⟩
  · exact bytes7z a c n2 c2 a2 w
  · exact bytes7' b off n c n2 c2 a2 I w hn h1

theorem bytes15' (b off n c n2 c2 : Nat) (a2 : Option Addr) (I : Nat → ByteArray) (w : World) (hn : n ≤ maxLen)
    (hI : ∀ i, i < n → w.cell? ⟨b, off + i * 2, none⟩ = some (.string (I i))) :
    Calls Try.prog 15 #[.slice (some ⟨b, off, none⟩) n c, .slice a2 n2 c2] w fun e w' => w = w' ∧ IsBool e := by
  unfold maxLen at hn
  go_enter Try.func15, Try.ntmps15
  go_wp2
  · go_ret
    exact ⟨rfl, IsBool.mk _⟩
  · go_loop [5, 6] (fun z i => ∃ (k : Nat) (v : Int), k ≤ n ∧ i = .int .i64 k ∧ z = .int .i64 v) (fun _ i => n - (intOf i).toNat)
    case atStart => exact ⟨0, _, Nat.zero_le _, rfl, rfl⟩
    case round =>
      obtain ⟨k, v, hk, rfl, rfl⟩ := hrel
      have hc := hI k
      by_cases hlt : k < n
      · replace hc := hc hlt
        go_wp2
        iterate 2 (go_ret; exact ⟨rfl, IsBool.mk _⟩)
        go_round
        case rel => exact ⟨k + 1, _, by omega, by go_num, rfl⟩
        case measure => simp [intOf]; omega
      · go_wp2
        all_goals (go_ret; exact ⟨rfl, IsBool.mk _⟩)

theorem bytes15z (a : Option Addr) (c n2 c2 : Nat) (a2 : Option Addr) (w : World) :
    Calls Try.prog 15 #[.slice a 0 c, .slice a2 n2 c2] w fun e w' => w = w' ∧ IsBool e := by
  go_enter Try.func15, Try.ntmps15
  go_wp2
  go_loop [5, 6] (fun z i => i = .int .i64 0 ∧ z = .int .i64 0) (fun _ i => 0)
  case atStart => exact ⟨rfl, rfl⟩
  case round =>
    obtain ⟨rfl, rfl⟩ := hrel
    go_wp2
    all_goals (go_ret; exact ⟨rfl, IsBool.mk _⟩)



theorem bytes15 (a : Option Addr) (n c n2 c2 : Nat) (a2 : Option Addr) (I : Nat → ByteArray) (S : Nat → Nat) (w : World) (hn : n ≤ maxLen) (h : CandsAt w a n I S) :
    Calls Try.prog 15 #[.slice a n c, .slice a2 n2 c2] w fun e w' => w = w' ∧ IsBool e := by
  rcases h.split with rfl | ⟨b, off, rfl, _, h1, _⟩
  · exact bytes15z a c n2 c2 a2 w
  · exact bytes15' b off n c n2 c2 a2 I w hn h1

def LayEnd (N : Int) (n : Nat) (Z : Nat → Int) (e : Ending) : Prop := ∃ r, e = .returned (.bool r) ∧ (r = true → Layout N n Z)
theorem LayEnd.no (N : Int) (n : Nat) (Z : Nat → Int) : LayEnd N n Z (.returned (.bool false)) := ⟨false, rfl, fun h => by cases h⟩
theorem LayEnd.last (N : Int) (n : Nat) (Z : Nat → Int) (H : ∀ j, j < n → pre Z j ≤ Z j) : LayEnd N n Z (.returned (.bool (pre Z n == N))) := ⟨_, rfl, fun h => ⟨H, by simpa using h⟩⟩
theorem LayEnd.zero (N : Int) (Z : Nat → Int) : LayEnd N 0 Z (.returned (.bool (N == 0))) := by
  refine ⟨_, rfl, fun h => ⟨fun j hj => absurd hj (Nat.not_lt_zero _), ?_⟩⟩
  have : N = 0 := by simpa using h
  rw [this]; rfl
theorem pre_succ (Z : Nat → Int) (k : Nat) : pre Z (k + 1) = Z k := by simp [pre]

theorem lay9' (b off n c : Nat) (N : Int) (Z : Nat → Int) (w : World) (h0 : 0 < n) (hn : n ≤ maxLen)
    (hI : ∀ i, i < n → w.cell? ⟨b, off + i, none⟩ = some (.int .i64 (Z i))) :
    Calls Try.prog 9 #[.int .i64 N, .slice (some ⟨b, off, none⟩) n c] w fun e w' => w = w' ∧ LayEnd N n Z e := by
  unfold maxLen at hn
  have hne : ((n : Int) == 0) = false := by simp; omega
  go_enter Try.func9, Try.ntmps9
  go_wp2
  go_loop [5, 6] (fun p i => ∃ (k : Nat), k ≤ n ∧ i = .int .i64 k ∧ p = .int .i64 (pre Z k) ∧ Hid (∀ j, j < k → pre Z j ≤ Z j)) (fun _ i => n - (intOf i).toNat)
  case atStart => exact ⟨0, Nat.zero_le _, rfl, rfl, fun j hj => absurd hj (Nat.not_lt_zero _)⟩
  case round =>
    obtain ⟨k, hk, rfl, rfl, H⟩ := hrel
    have hc := hI k
    by_cases hlt : k < n
    · replace hc := hc hlt
      go_wp2
      · go_ret
        exact ⟨rfl, LayEnd.no _ _ _⟩
      · have hle : pre Z k ≤ Z k := by assumption
        go_round
        case rel => exact ⟨k + 1, by omega, by go_num, by rw [pre_succ], fun j hj => by
          rcases Nat.lt_succ_iff_lt_or_eq.1 hj with h | h
          · exact H.out j h
          · rw [h]; exact hle⟩
        case measure => simp [intOf]; omega
    · obtain rfl : k = n := by omega
      go_wp2
      go_ret
      exact ⟨rfl, LayEnd.last _ _ _ H.out⟩

theorem lay9z (a : Option Addr) (c : Nat) (N : Int) (Z : Nat → Int) (w : World) :
    Calls Try.prog 9 #[.int .i64 N, .slice a 0 c] w fun e w' => w = w' ∧ LayEnd N 0 Z e := by
  go_enter Try.func9, Try.ntmps9
  go_wp2
  go_ret
  exact ⟨rfl, LayEnd.zero N Z⟩

theorem lay9 (a : Option Addr) (n c : Nat) (N : Int) (Z : Nat → Int) (w : World) (hn : n ≤ maxLen) (h : IntsAt w a n Z) :
    Calls Try.prog 9 #[.int .i64 N, .slice a n c] w fun e w' => w = w' ∧ LayEnd N n Z e := by
  rcases h.split with rfl | ⟨b, off, rfl, _, h1⟩
  · exact lay9z a c N Z w
  · rcases Nat.eq_zero_or_pos n with rfl | h0
    · exact lay9z _ c N Z w
    · exact lay9' b off n c N Z w h0 hn h1


end Go.Proofs.Qxb6604581a
