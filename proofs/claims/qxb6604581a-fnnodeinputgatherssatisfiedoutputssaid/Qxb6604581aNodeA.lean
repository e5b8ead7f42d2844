import Derived.Test.Qxb6604581aMake
import Derived.Test.Qxb6604581aQuiet
namespace Go.Proofs.Qxb6604581a
open Go.RowKit
set_option linter.unusedVariables false

/-- A slice of Link (or of link): three cells an element. -/
def LinksAt (w : World) (a : Option Addr) (n : Nat) (Nd : Nat → Int) (Wh : Nat → Int) (So : Nat → Bool) : Prop :=
  ∀ i, i < n → ∃ b off, a = some ⟨b, off, none⟩ ∧ w.cell? ⟨b, off + i * 3, none⟩ = some (.int .i64 (Nd i)) ∧ w.cell? ⟨b, off + i * 3 + 1, none⟩ = some (.int .u8 (Wh i)) ∧ w.cell? ⟨b, off + i * 3 + 2, none⟩ = some (.bool (So i))

/-- A slice of one-cell values. -/
def ValsAt (w : World) (a : Option Addr) (n : Nat) (V : Nat → Value) : Prop :=
  ∀ i, i < n → ∃ b off, a = some ⟨b, off, none⟩ ∧ w.cell? ⟨b, off + i, none⟩ = some (V i)

theorem LinksAt.below {w w' : World} {a : Option Addr} {n : Nat} {Nd Wh : Nat → Int} {So : Nat → Bool} (h : LinksAt w a n Nd Wh So) (hb : Below w.heap.size w w') : LinksAt w' a n Nd Wh So := by
  intro i hi
  obtain ⟨b, off, e, h1, h2, h3⟩ := h i hi
  exact ⟨b, off, e, (hb.cell (World.block_lt_of_cell? _ _ h1)).trans h1, (hb.cell (World.block_lt_of_cell? _ _ h2)).trans h2, (hb.cell (World.block_lt_of_cell? _ _ h3)).trans h3⟩

theorem ValsAt.below {w w' : World} {a : Option Addr} {n : Nat} {V : Nat → Value} (h : ValsAt w a n V) (hb : Below w.heap.size w w') : ValsAt w' a n V := by
  intro i hi
  obtain ⟨b, off, e, h1⟩ := h i hi
  exact ⟨b, off, e, (hb.cell (World.block_lt_of_cell? _ _ h1)).trans h1⟩

/-- A [][]Cand: slice x lies at A x, N x long. -/
structure OutsAt (w : World) (a : Option Addr) (n : Nat) (A : Nat → Option Addr) (N C : Nat → Nat) (I : Nat → Nat → ByteArray) (S : Nat → Nat → Nat) : Prop where
  row : ValsAt w a n (fun x => .slice (A x) (N x) (C x))
  each : ∀ x, x < n → CandsAt w (A x) (N x) (I x) (S x)

theorem OutsAt.below {w w' : World} {a : Option Addr} {n : Nat} {A : Nat → Option Addr} {N C : Nat → Nat} {I : Nat → Nat → ByteArray} {S : Nat → Nat → Nat} (h : OutsAt w a n A N C I S) (hb : Below w.heap.size w w') : OutsAt w' a n A N C I S :=
  ⟨h.row.below hb, fun x hx => (h.each x hx).below hb⟩

set_option maxHeartbeats 1000000 in
theorem bytes17 (a0 a1 a2 : Option Addr) (n0 c0 n1 c1 n2 c2 : Nat) (A : Nat → Option Addr) (N C : Nat → Nat) (I : Nat → Nat → ByteArray) (S : Nat → Nat → Nat) (w : World) (h1 : n1 ≤ maxLen) (hN : ∀ x, x < n1 → N x ≤ maxLen) (h : OutsAt w a1 n1 A N C I S) :
    Calls Try.prog 17 #[.slice a0 n0 c0, .slice a1 n1 c1, .slice a2 n2 c2] w fun e w' => w = w' ∧ IsBool e := by
  unfold maxLen at h1 hN
  go_enter Try.func17, Try.ntmps17
  go_wp2
  iterate 3 (go_ret; exact ⟨rfl, IsBool.mk _⟩)
  go_loop [7, 8] (fun z i => ∃ (k : Nat) (v : Int), k ≤ n1 ∧ i = .int .i64 k ∧ z = .int .i64 v) (fun _ i => n1 - (intOf i).toNat)
  case atStart => exact ⟨0, _, Nat.zero_le _, rfl, rfl⟩
  case round =>
    obtain ⟨k, v, hk, rfl, rfl⟩ := hrel
    by_cases hlt : k < n1
    · obtain ⟨b, off, rfl, hc⟩ := h.row k hlt
      have hNk := hN k hlt
      go_wp2
      iterate 2 (go_ret; exact ⟨rfl, IsBool.mk _⟩)
      go_loop [7, 9] (fun z i => ∃ (j : Nat) (v : Int), j ≤ N k ∧ i = .int .i64 j ∧ z = .int .i64 v) (fun _ i => N k - (intOf i).toNat)
      case atStart => exact ⟨0, _, Nat.zero_le _, rfl, rfl⟩
      case round =>
        obtain ⟨j, v, hj, rfl, rfl⟩ := hrel
        by_cases hlt2 : j < N k
        · obtain ⟨b', off', e', hc', _⟩ := h.each k hlt j hlt2
          rw [e'] at hc
          clear e'
          go_wp2
          iterate 2 (go_ret; exact ⟨rfl, IsBool.mk _⟩)
          go_round
          case rel => exact ⟨j + 1, _, by omega, by go_num, rfl⟩
          case measure => simp [intOf]; omega
        · go_wp2
          go_round
          case rel => exact ⟨k + 1, _, by omega, by go_num, rfl⟩
          case measure => simp [intOf]; omega
    · go_wp2
      all_goals (go_ret; exact ⟨rfl, IsBool.mk _⟩)

set_option maxHeartbeats 1000000 in
theorem bytes28 (a0 a1 a2 : Option Addr) (n0 c0 n1 c1 n2 c2 : Nat) (A : Nat → Option Addr) (N C : Nat → Nat) (I : Nat → Nat → ByteArray) (S : Nat → Nat → Nat) (w : World) (h1 : n1 ≤ maxLen) (hN : ∀ x, x < n1 → N x ≤ maxLen) (h : OutsAt w a1 n1 A N C I S) :
    Calls Try.prog 28 #[.slice a0 n0 c0, .slice a1 n1 c1, .slice a2 n2 c2] w fun e w' => w = w' ∧ IsBool e := by
  unfold maxLen at h1 hN
  go_enter Try.func28, Try.ntmps28
  go_wp2
  iterate 3 (go_ret; exact ⟨rfl, IsBool.mk _⟩)
  go_loop [7, 8] (fun z i => ∃ (k : Nat) (v : Int), k ≤ n1 ∧ i = .int .i64 k ∧ z = .int .i64 v) (fun _ i => n1 - (intOf i).toNat)
  case atStart => exact ⟨0, _, Nat.zero_le _, rfl, rfl⟩
  case round =>
    obtain ⟨k, v, hk, rfl, rfl⟩ := hrel
    by_cases hlt : k < n1
    · obtain ⟨b, off, rfl, hc⟩ := h.row k hlt
      have hNk := hN k hlt
      go_wp2
      iterate 2 (go_ret; exact ⟨rfl, IsBool.mk _⟩)
      go_loop [7, 9] (fun z i => ∃ (j : Nat) (v : Int), j ≤ N k ∧ i = .int .i64 j ∧ z = .int .i64 v) (fun _ i => N k - (intOf i).toNat)
      case atStart => exact ⟨0, _, Nat.zero_le _, rfl, rfl⟩
      case round =>
        obtain ⟨j, v, hj, rfl, rfl⟩ := hrel
        by_cases hlt2 : j < N k
        · obtain ⟨b', off', e', hc', _⟩ := h.each k hlt j hlt2
          rw [e'] at hc
          clear e'
          go_wp2
          iterate 2 (go_ret; exact ⟨rfl, IsBool.mk _⟩)
          go_round
          case rel => exact ⟨j + 1, _, by omega, by go_num, rfl⟩
          case measure => simp [intOf]; omega
        · go_wp2
          go_round
          case rel => exact ⟨k + 1, _, by omega, by go_num, rfl⟩
          case measure => simp [intOf]; omega
    · go_wp2
      all_goals (go_ret; exact ⟨rfl, IsBool.mk _⟩)

/-- What zzAddCandBytes tells: if it stays within 1<<20, the lengths are small. -/
def AddEnd (n : Nat) (I : Nat → ByteArray) (e : Ending) : Prop := ∃ r : Int, e = .returned (.int .i64 r) ∧ (r ≤ 1048576 → n ≤ 65536 ∧ ∀ i, i < n → (I i).size ≤ 1048576)
theorem AddEnd.over (n : Nat) (I : Nat → ByteArray) : AddEnd n I (.returned (.int .i64 2097152)) := ⟨_, rfl, fun h => by omega⟩
theorem AddEnd.mk (n : Nat) (I : Nat → ByteArray) (v : Int) (hn : n ≤ 65536) (h : ∀ i, i < n → (I i).size ≤ 1048576) : AddEnd n I (.returned (.int .i64 v)) := ⟨_, rfl, fun _ => ⟨hn, h⟩⟩

theorem add8b' (b off n c : Nat) (acc : Int) (I : Nat → ByteArray) (w : World) (hn : n ≤ maxLen)
    (hI : ∀ i, i < n → w.cell? ⟨b, off + i * 2, none⟩ = some (.string (I i))) :
    Calls Try.prog 8 #[.int .i64 acc, .slice (some ⟨b, off, none⟩) n c] w fun e w' => w = w' ∧ AddEnd n I e := by
  unfold maxLen at hn
  go_enter Try.func8, Try.ntmps8
  go_wp2
  iterate 2 (go_ret; exact ⟨rfl, AddEnd.over _ _⟩)
  have hn' : n ≤ 65536 := by omega
  go_loop [0, 5] (fun z i => ∃ (k : Nat) (v : Int), k ≤ n ∧ i = .int .i64 k ∧ z = .int .i64 v ∧ Hid (∀ i, i < k → (I i).size ≤ 1048576)) (fun _ i => n - (intOf i).toNat)
  case atStart => exact ⟨0, _, Nat.zero_le _, rfl, rfl, fun i hi => absurd hi (Nat.not_lt_zero _)⟩
  case round =>
    obtain ⟨k, v, hk, rfl, rfl, H⟩ := hrel
    have hc := hI k
    by_cases hlt : k < n
    · replace hc := hc hlt
      go_wp2
      iterate 2 (go_ret; exact ⟨rfl, AddEnd.over _ _⟩)
      have hs : (I k).size ≤ 1048576 := by omega
      go_round
      case rel => exact ⟨k + 1, _, by omega, by go_num, rfl, fun i hi => by
        rcases Nat.lt_succ_iff_lt_or_eq.1 hi with h | h
        · exact H.out i h
        · rw [h]; exact hs⟩
      case measure => simp [intOf]; omega
    · obtain rfl : k = n := by omega
      go_wp2
      all_goals (go_ret; exact ⟨rfl, AddEnd.mk _ _ _ hn' H.out⟩)

theorem add8b (a : Option Addr) (n c : Nat) (acc : Int) (I : Nat → ByteArray) (S : Nat → Nat) (w : World) (hn : n ≤ maxLen) (h : CandsAt w a n I S) :
    Calls Try.prog 8 #[.int .i64 acc, .slice a n c] w fun e w' => w = w' ∧ AddEnd n I e := by
  rcases h.split with rfl | ⟨b, off, rfl, _, h1, _⟩
  · refine (add8z a c acc w).mono fun e w' ⟨hw, r, he⟩ => ⟨hw, r, he, fun _ => ⟨Nat.zero_le _, fun i hi => absurd hi (Nat.not_lt_zero _)⟩⟩
  · exact add8b' b off n c acc I w hn h1

/-- What zzInputBytes tells. -/
def InEnd (m : Nat) (N : Nat → Nat) (I : Nat → Nat → ByteArray) (e : Ending) : Prop := ∃ r : Int, e = .returned (.int .i64 r) ∧ (r ≤ 1048576 → ∀ x, x < m → N x ≤ 65536 ∧ ∀ i, i < N x → (I x i).size ≤ 1048576)

theorem inbytes18 (a0 a1 a2 : Option Addr) (n0 c0 n1 c1 n2 c2 : Nat) (A : Nat → Option Addr) (N C : Nat → Nat) (I : Nat → Nat → ByteArray) (S : Nat → Nat → Nat) (w : World) (h1 : n1 ≤ maxLen) (hN : ∀ x, x < n1 → N x ≤ maxLen) (h : OutsAt w a1 n1 A N C I S) :
    Calls Try.prog 18 #[.slice a0 n0 c0, .slice a1 n1 c1, .slice a2 n2 c2] w fun e w' => w = w' ∧ InEnd n1 N I e := by
  unfold maxLen at h1
  go_enter Try.func18, Try.ntmps18
  go_wp2
  go_loop [7, 8] (fun z i => ∃ (k : Nat) (v : Int), k ≤ n1 ∧ i = .int .i64 k ∧ z = .int .i64 v ∧ Hid (∀ x, x < k → N x ≤ 65536 ∧ ∀ i, i < N x → (I x i).size ≤ 1048576)) (fun _ i => n1 - (intOf i).toNat)
  case atStart => exact ⟨0, _, Nat.zero_le _, rfl, rfl, fun i hi => absurd hi (Nat.not_lt_zero _)⟩
  case round =>
    obtain ⟨k, v, hk, rfl, rfl, H⟩ := hrel
    by_cases hlt : k < n1
    · obtain ⟨b, off, rfl, hc⟩ := h.row k hlt
      go_wp2_with fail
      refine (add8b (A k) (N k) (C k) _ (I k) (S k) w (hN k hlt) (h.each k hlt)).mono ?_
      rintro e w' ⟨rfl, r, rfl, hr⟩
      have HR : Hid (r ≤ 1048576 → N k ≤ 65536 ∧ ∀ i, i < N k → (I k i).size ≤ 1048576) := hr
      clear hr
      by_cases hbig : 1048576 < r
      · go_wp2_with fail
        go_ret
        exact ⟨rfl, _, rfl, fun hle => by omega⟩
      · go_wp2_with fail
        have hr := HR.out (by omega)
        go_round
        case rel => exact ⟨k + 1, _, by omega, by go_num, rfl, fun i hi => by
          rcases Nat.lt_succ_iff_lt_or_eq.1 hi with h | h
          · exact H.out i h
          · rw [h]; exact hr⟩
        case measure => simp [intOf]; omega
    · obtain rfl : k = n1 := by omega
      go_wp2_with fail
      go_ret
      exact ⟨rfl, _, rfl, fun _ => H.out⟩

/-- The sum of the lengths that the first k entries name. -/
def unf (N : Nat → Nat) (Nd : Nat → Int) : Nat → Nat
  | 0 => 0
  | k + 1 => unf N Nd k + N (Nd k).toNat

theorem unf_mono (N : Nat → Nat) (Nd : Nat → Int) (k d : Nat) : unf N Nd k ≤ unf N Nd (k + d) := by
  induction d with
  | zero => exact Nat.le_refl _
  | succ d ih => exact Nat.le_trans ih (Nat.le_add_right _ _)

def UnfEnd (t : Nat) (e : Ending) : Prop := ∃ r : Int, e = .returned (.int .i64 r) ∧ (r ≤ 65536 → t ≤ 65536)

theorem unfolded20 (a0 a1 : Option Addr) (n0 c0 n1 c1 : Nat) (Nd Wh : Nat → Int) (So : Nat → Bool) (A : Nat → Option Addr) (N C : Nat → Nat) (I : Nat → Nat → ByteArray) (S : Nat → Nat → Nat) (w : World) (h0 : n0 ≤ maxLen)
    (hN : ∀ x, x < n1 → N x ≤ 65536) (hL : LinksAt w a0 n0 Nd Wh So) (h : OutsAt w a1 n1 A N C I S) (hnd : ∀ i, i < n0 → 0 ≤ Nd i ∧ Nd i < n1) :
    Calls Try.prog 20 #[.slice a0 n0 c0, .slice a1 n1 c1] w fun e w' => w = w' ∧ UnfEnd (unf N Nd n0) e := by
  unfold maxLen at h0
  go_enter Try.func20, Try.ntmps20
  go_wp2
  go_loop [5, 6] (fun z i => ∃ (k : Nat), k ≤ n0 ∧ i = .int .i64 k ∧ z = .int .i64 (unf N Nd k) ∧ unf N Nd k ≤ 65536) (fun _ i => n0 - (intOf i).toNat)
  case atStart => exact ⟨0, Nat.zero_le _, rfl, rfl, Nat.zero_le _⟩
  case round =>
    obtain ⟨k, hk, rfl, rfl, hu⟩ := hrel
    by_cases hlt : k < n0
    · obtain ⟨b, off, rfl, hc, _⟩ := hL k hlt
      obtain ⟨hd0, hd1⟩ := hnd k hlt
      obtain ⟨x, hx⟩ : ∃ x : Nat, Nd k = x := ⟨(Nd k).toNat, by omega⟩
      have hxl : x < n1 := by omega
      obtain ⟨b', off', rfl, hc'⟩ := h.row x hxl
      have hNx := hN x hxl
      have hs : unf N Nd (k + 1) = unf N Nd k + N x := by show _ + N (Nd k).toNat = _; rw [hx]; rfl
      have HS : Hid (unf N Nd (k + 1) = unf N Nd k + N x) := hs
      clear hs hd0 hd1
      rw [hx] at hc
      clear hx
      by_cases hbig : 65536 < unf N Nd k + N x
      · go_wp2_with fail
        go_ret
        exact ⟨rfl, _, rfl, fun hle => by omega⟩
      · go_wp2_with fail
        go_round
        case rel => exact ⟨k + 1, by omega, by go_num, by rw [HS.out]; go_num, by rw [HS.out]; omega⟩
        case measure => simp [intOf]; omega
    · obtain rfl : k = n0 := by omega
      go_wp2_with fail
      go_ret
      exact ⟨rfl, _, rfl, fun _ => hu⟩

end Go.Proofs.Qxb6604581a
