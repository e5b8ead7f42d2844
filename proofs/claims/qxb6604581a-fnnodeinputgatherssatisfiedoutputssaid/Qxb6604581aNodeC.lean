import Derived.Test.Qxb6604581aNodeB
namespace Go.Proofs.Qxb6604581a
open Go.RowKit
set_option linter.unusedVariables false

/-- The cells of a row of candidates. -/
def candCell (I : Nat → ByteArray) (S : Nat → Nat) (i : Nat) : Value := if i % 2 = 0 then .string (I (i / 2)) else .float .f64 (S (i / 2))

theorem cands_of_row {w : World} {b n : Nat} {I : Nat → ByteArray} {S : Nat → Nat} (hr : w.rowIs b 37 (n * 2) (candCell I S)) : CandsAt w (some ⟨b, 0, none⟩) n I S := by
  refine CandsAt.mk1 (fun i hi => ?_) (fun i hi => ?_)
  · have := hr.cell (i := i * 2) (by omega)
    simpa [candCell] using this
  · have := hr.cell (i := i * 2 + 1) (by omega)
    simpa [candCell, show (i * 2 + 1) % 2 = 1 by omega, show (i * 2 + 1) / 2 = i by omega] using this

theorem cands11x (a : Option Addr) (n c : Nat) (I : Nat → ByteArray) (S : Nat → Nat) (w : World) (hn : n ≤ 1048576) (h : CandsAt w a n I S) :
    Calls Try.prog 11 #[.slice a n c] w fun e w' => ∃ a', e = .returned (.slice a' n n) ∧ Below w.heap.size w w' ∧ Plain a' n ∧ (0 < n → a' = some ⟨w.heap.size, 0, none⟩ ∧ w'.rowIs w.heap.size 37 (n * 2) (candCell I S)) := by
  rcases Nat.eq_zero_or_pos n with rfl | h0
  · cases a with
    | none => exact (cands11z c w).mono fun e w' ⟨he, hw⟩ => ⟨_, he, by rw [hw]; exact Below.refl _ _, .inl ⟨rfl, rfl⟩, fun h => absurd h (Nat.lt_irrefl _)⟩
    | some a => exact (cands11e a c w).mono fun e w' ⟨he, hw⟩ => ⟨_, he, hw, .inr ⟨_, _, rfl⟩, fun h => absurd h (Nat.lt_irrefl _)⟩
  · rcases h.split with rfl | ⟨b, off, rfl, hb, h1, h2⟩
    · omega
    · exact (cands11' b off n c I S w hn h1 h2 hb).mono fun e w' ⟨he, hw, hr⟩ => ⟨_, he, hw, .inr ⟨_, _, rfl⟩, fun _ => ⟨rfl, hr⟩⟩

/-- The first k of the m outputs are copied: the row of slices lies in block T, each output in a block of its own behind it. -/
structure CoK (w wr : World) (T k m : Nat) (N : Nat → Nat) (A : Nat → Option Addr) (I : Nat → Nat → ByteArray) (S : Nat → Nat → Nat) : Prop where
  bel : Below T w wr
  row : wr.rowIs T 28 m (fun j => if j < k then .slice (A j) (N j) (N j) else .slice none 0 0)
  plain : ∀ x, x < k → Plain (A x) (N x)
  own : ∀ x, x < k → 0 < N x → ∃ b, A x = some ⟨b, 0, none⟩ ∧ T < b ∧ wr.rowIs b 37 (N x * 2) (candCell (I x) (S x))
  inj : ∀ x y b, x < k → y < k → 0 < N x → 0 < N y → A x = some ⟨b, 0, none⟩ → A y = some ⟨b, 0, none⟩ → x = y

theorem CoK.start (w : World) (m : Nat) (N : Nat → Nat) (A : Nat → Option Addr) (I : Nat → Nat → ByteArray) (S : Nat → Nat → Nat) :
    CoK w (w.alloc (.cells (madeCells #[.slice none 0 0] m) 28)) w.heap.size 0 m N A I S :=
  ⟨(Below.refl _ _).alloc (Nat.le_refl _) _, (World.rowIs_made w _ m 28).congr (fun j _ => by simp), fun x hx => absurd hx (Nat.not_lt_zero _), fun x hx => absurd hx (Nat.not_lt_zero _), fun x y b hx => absurd hx (Nat.not_lt_zero _)⟩

theorem CoK.step {w wr ws : World} {k m : Nat} {N : Nat → Nat} {A : Nat → Option Addr} {I : Nat → Nat → ByteArray} {S : Nat → Nat → Nat} {a' : Option Addr} (h : CoK w wr w.heap.size k m N A I S)
    (hb : Below wr.heap.size wr ws) (hp : Plain a' (N k)) (hr : 0 < N k → a' = some ⟨wr.heap.size, 0, none⟩ ∧ ws.rowIs wr.heap.size 37 (N k * 2) (candCell (I k) (S k))) :
    CoK w (ws.setCell ⟨w.heap.size, k, none⟩ (.slice a' (N k) (N k))) w.heap.size (k + 1) m N (fun x => if x = k then a' else A x) I S := by
  have hT := h.row.lt
  refine ⟨(h.bel.trans (hb.mono h.bel.size)).setCell (Nat.le_refl _) _, ((h.row.of_block (hb.block _ hT)).set k _).congr (fun j _ => ?_), fun x hx => ?_, fun x hx h0 => ?_, fun x y b hx hy h0 h1 ex ey => ?_⟩
  · by_cases e : j = k
    · subst e; simp
    · by_cases hj : j < k
      · simp [e, hj, Nat.lt_succ_of_lt hj]
      · simp [e, hj, show ¬ j < k + 1 by omega]
  · by_cases e : x = k
    · subst e; simpa using hp
    · simpa [e] using h.plain x (by omega)
  · by_cases e : x = k
    · subst e
      obtain ⟨e1, e2⟩ := hr h0
      exact ⟨_, by simpa using e1, hT, e2.setOther (by show wr.heap.size ≠ w.heap.size; omega) _⟩
    · obtain ⟨b, e1, e2, e3⟩ := h.own x (by omega) h0
      exact ⟨b, by simpa [e] using e1, e2, (e3.of_block (hb.block _ e3.lt)).setOther (by show b ≠ w.heap.size; omega) _⟩
  · have key : ∀ z, z < k → 0 < N z → A z = some ⟨b, 0, none⟩ → b < wr.heap.size := fun z hz hz0 ez => by
      obtain ⟨b', e1, _, e3⟩ := h.own z hz hz0
      rw [e1] at ez
      simp only [Option.some.injEq, Addr.mk.injEq] at ez
      rw [← ez.1]; exact e3.lt
    by_cases e : x = k <;> by_cases e' : y = k
    · omega
    · subst e
      rw [if_pos rfl, (hr h0).1] at ex
      rw [if_neg e'] at ey
      simp only [Option.some.injEq, Addr.mk.injEq] at ex
      have := key y (by omega) h1 ey
      omega
    · subst e'
      rw [if_pos rfl, (hr h1).1] at ey
      rw [if_neg e] at ex
      simp only [Option.some.injEq, Addr.mk.injEq] at ey
      have := key x (by omega) h0 ex
      omega
    · rw [if_neg e] at ex
      rw [if_neg e'] at ey
      exact h.inj x y b (by omega) (by omega) h0 h1 ex ey

theorem Try.info28 : (Try.prog.info? 28).map (fun i => (i.zero, i.size, i.bytes)) = some (some (.slice none 0 0), 1, 24) := by kernel_rfl

theorem candss21' (b off m c : Nat) (A : Nat → Option Addr) (N C : Nat → Nat) (I : Nat → Nat → ByteArray) (S : Nat → Nat → Nat) (w : World) (hm : m ≤ 65536) (hN : ∀ x, x < m → N x ≤ 65536) (h : OutsAt w (some ⟨b, off, none⟩) m A N C I S) :
    Calls Try.prog 21 #[.slice (some ⟨b, off, none⟩) m c] w fun e w' => e = .returned (.slice (some ⟨w.heap.size, 0, none⟩) m m) ∧ ∃ A', CoK w w' w.heap.size m m N A' I S := by
  have hmk := run_make_row' (P := Try.prog) 46 28 (.slice none 0 0) 24 Try.underlying46 Try.info28 rfl .i64 .i64 m (by omega) (by omega)
  have hnil := fun w => Lib.run_eql_slice_nil (P := Try.prog) w 41 22 (some ⟨b, off, none⟩) m c 0 0 Try.underlying41
  go_enter Try.func21, Try.ntmps21
  go_wp2
  clear hmk hnil
  go_loopw [4] (fun i wr => ∃ (k : Nat), k ≤ m ∧ i = .int .i64 k ∧ ∃ A', CoK w wr w.heap.size k m N A' I S) (fun i _ => m - (intOf i).toNat)
  case atStart => exact ⟨0, Nat.zero_le _, rfl, fun _ => none, CoK.start w m N _ I S⟩
  case round =>
    obtain ⟨k, hk, rfl, A', K⟩ := hrel
    by_cases hlt : k < m
    · obtain ⟨b', off', e, hc⟩ := (h.below K.bel).row k hlt
      simp only [Option.some.injEq, Addr.mk.injEq] at e
      obtain ⟨rfl, rfl, _⟩ := e
      have hNk := hN k hlt
      go_wp2_with fail
      refine (cands11x (A k) (N k) (C k) (I k) (S k) wr (by omega) ((h.below K.bel).each k hlt)).mono ?_
      rintro e w4 ⟨a', rfl, hb4, hp, hr⟩
      have K' := K.step hb4 hp hr
      have hd := (K.row.of_block (hb4.block _ K.row.lt)).cell hlt
      have hf := (K.row.of_block (hb4.block _ K.row.lt)).frozen k
      clear hr
      go_wp2_with fail
      go_roundw
      case rel => exact ⟨k + 1, by omega, by go_num, _, K'⟩
      case measure => simp [intOf]; omega
    · obtain rfl : k = m := by omega
      go_wp2_with fail
      go_ret
      exact ⟨rfl, A', K⟩

/-- What zzToCandss leaves. -/
def CoAt (w w' : World) (co : Option Addr) (m : Nat) (N : Nat → Nat) (A : Nat → Option Addr) (I : Nat → Nat → ByteArray) (S : Nat → Nat → Nat) : Prop :=
  Below w.heap.size w w' ∧ (0 < m → co = some ⟨w.heap.size, 0, none⟩ ∧ CoK w w' w.heap.size m m N A I S)

theorem candss21z (c : Nat) (w : World) :
    Calls Try.prog 21 #[.slice none 0 c] w fun e w' => e = .returned (.slice none 0 0) ∧ w' = w := by
  have hnil := fun w => Lib.run_eql_slice_nil (P := Try.prog) w 41 22 none 0 c 0 0 Try.underlying41
  go_enter Try.func21, Try.ntmps21
  go_wp2
  go_ret
  exact ⟨rfl, rfl⟩

theorem candss21e (a : Addr) (c : Nat) (w : World)  :
    Calls Try.prog 21 #[.slice (some a) 0 c] w fun e w' => e = .returned (.slice (some ⟨w.heap.size, 0, none⟩) 0 0) ∧ Below w.heap.size w w' := by
  have hmk := run_make_row' (P := Try.prog) 46 28 (.slice none 0 0) 24 Try.underlying46 Try.info28 rfl .i64 .i64 0 (by omega) (by omega)
  simp only [Int.ofNat_zero] at hmk
  have hnil := fun w => Lib.run_eql_slice_nil (P := Try.prog) w 41 22 (some a) 0 c 0 0 Try.underlying41
  go_enter Try.func21, Try.ntmps21
  go_wp2
  go_loopw [4] (fun i wr => i = .int .i64 0 ∧ Below w.heap.size w wr) (fun i _ => 0)
  case atStart => exact ⟨rfl, (Below.refl _ _).alloc (Nat.le_refl _) _⟩
  case round =>
    obtain ⟨rfl, hbel⟩ := hrel
    go_wp2
    go_ret
    exact ⟨rfl, hbel⟩

theorem candss21 (a : Option Addr) (m c : Nat) (A : Nat → Option Addr) (N C : Nat → Nat) (I : Nat → Nat → ByteArray) (S : Nat → Nat → Nat) (w : World) (hm : m ≤ 65536) (hN : ∀ x, x < m → N x ≤ 65536) (h : OutsAt w a m A N C I S) :
    Calls Try.prog 21 #[.slice a m c] w fun e w' => ∃ co A', e = .returned (.slice co m m) ∧ CoAt w w' co m N A' I S := by
  rcases Nat.eq_zero_or_pos m with rfl | h0
  · cases a with
    | none => exact (candss21z c w).mono fun e w' ⟨he, hw⟩ => ⟨_, A, he, by rw [hw]; exact Below.refl _ _, fun h => absurd h (Nat.lt_irrefl _)⟩
    | some a => exact (candss21e a c w).mono fun e w' ⟨he, hw⟩ => ⟨_, A, he, hw, fun h => absurd h (Nat.lt_irrefl _)⟩
  · obtain ⟨b, off, rfl, _⟩ := h.row 0 h0
    exact (candss21' b off m c A N C I S w hm hN h).mono fun e w' ⟨he, A', hK⟩ => ⟨_, A', he, hK.bel, fun _ => ⟨rfl, hK⟩⟩

theorem Try.info62 : (Try.prog.info? 62).map (fun i => (i.zero, i.size, i.bytes)) = some (some (.int .u8 0), 1, 1) := by kernel_rfl

theorem outcomes22' (b off n c : Nat) (Z : Nat → Int) (w : World) (hn : n ≤ 1048576)
    (hI : ∀ i, i < n → w.cell? ⟨b, off + i, none⟩ = some (.int .u8 (Z i))) (hb : b < w.heap.size) :
    Calls Try.prog 22 #[.slice (some ⟨b, off, none⟩) n c] w fun e w' => e = .returned (.slice (some ⟨w.heap.size, 0, none⟩) n n) ∧ Below w.heap.size w w' ∧ w'.rowIs w.heap.size 62 n (fun i => .int .u8 (Z i)) := by
  have hmk := run_make_row' (P := Try.prog) 48 62 (.int .u8 0) 1 Try.underlying48 Try.info62 rfl .i64 .i64 n (by omega) (by omega)
  have hnil := fun w => Lib.run_eql_slice_nil (P := Try.prog) w 42 5 (some ⟨b, off, none⟩) n c 0 0 Try.underlying42
  go_enter Try.func22, Try.ntmps22
  go_wp2
  go_loopw [4] (fun i wr => ∃ (k : Nat), k ≤ n ∧ i = .int .i64 k ∧ Below w.heap.size w wr ∧ wr.rowIs w.heap.size 62 n (fun j => if j < k then .int .u8 (Z j) else .int .u8 0)) (fun i _ => n - (intOf i).toNat)
  case atStart => exact ⟨0, Nat.zero_le _, rfl, (Below.refl _ _).alloc (Nat.le_refl _) _, (World.rowIs_made w _ n 62).congr (fun j _ => by simp)⟩
  case round =>
    obtain ⟨k, hk, rfl, hbel, hrow⟩ := hrel
    by_cases hlt : k < n
    · have hc : wr.cell? ⟨b, off + k, none⟩ = some (.int .u8 (Z k)) := (hbel.cell (by exact hb)).trans (hI k hlt)
      have hd := hrow.cell hlt
      have hf := hrow.frozen k
      go_wp2
      go_roundw
      case rel => exact ⟨k + 1, by omega, by go_num, hbel.setCell (Nat.le_refl _) _, row_fill hrow⟩
      case measure => simp [intOf]; omega
    · obtain rfl : k = n := by omega
      go_wp2
      go_ret
      exact ⟨rfl, hbel, hrow.congr (fun j hj => by simp [hj])⟩

theorem outcomes22z (c : Nat) (w : World) :
    Calls Try.prog 22 #[.slice none 0 c] w fun e w' => e = .returned (.slice none 0 0) ∧ w' = w := by
  have hnil := fun w => Lib.run_eql_slice_nil (P := Try.prog) w 42 5 none 0 c 0 0 Try.underlying42
  go_enter Try.func22, Try.ntmps22
  go_wp2
  go_ret
  exact ⟨rfl, rfl⟩

theorem outcomes22e (a : Addr) (c : Nat) (w : World)  :
    Calls Try.prog 22 #[.slice (some a) 0 c] w fun e w' => e = .returned (.slice (some ⟨w.heap.size, 0, none⟩) 0 0) ∧ Below w.heap.size w w' := by
  have hmk := run_make_row' (P := Try.prog) 48 62 (.int .u8 0) 1 Try.underlying48 Try.info62 rfl .i64 .i64 0 (by omega) (by omega)
  simp only [Int.ofNat_zero] at hmk
  have hnil := fun w => Lib.run_eql_slice_nil (P := Try.prog) w 42 5 (some a) 0 c 0 0 Try.underlying42
  go_enter Try.func22, Try.ntmps22
  go_wp2
  go_loopw [4] (fun i wr => i = .int .i64 0 ∧ Below w.heap.size w wr) (fun i _ => 0)
  case atStart => exact ⟨rfl, (Below.refl _ _).alloc (Nat.le_refl _) _⟩
  case round =>
    obtain ⟨rfl, hbel⟩ := hrel
    go_wp2
    go_ret
    exact ⟨rfl, hbel⟩

theorem outcomes22 (a : Option Addr) (n c : Nat) (Z : Nat → Int) (w : World) (hn : n ≤ 1048576) (h : ValsAt w a n (fun i => .int .u8 (Z i))) :
    Calls Try.prog 22 #[.slice a n c] w fun e w' => ∃ a', e = .returned (.slice a' n n) ∧ Below w.heap.size w w' ∧ ValsAt w' a' n (fun i => .int .u8 (Z i)) := by
  rcases Nat.eq_zero_or_pos n with rfl | h0
  · cases a with
    | none => exact (outcomes22z c w).mono fun e w' ⟨he, hw⟩ => ⟨_, he, by rw [hw]; exact Below.refl _ _, fun _ hi => absurd hi (Nat.not_lt_zero _)⟩
    | some a => exact (outcomes22e a c w).mono fun e w' ⟨he, hw⟩ => ⟨_, he, hw, fun _ hi => absurd hi (Nat.not_lt_zero _)⟩
  · obtain ⟨b, off, rfl, hc0⟩ := h 0 h0
    refine (outcomes22' b off n c Z w hn (fun i hi => ?_) (World.block_lt_of_cell? _ _ hc0)).mono fun e w' ⟨he, hw, hr⟩ => ⟨_, he, hw, fun i hi => ⟨_, _, rfl, by simpa using hr.cell hi⟩⟩
    obtain ⟨b', off', e, h1⟩ := h i hi
    simp only [Option.some.injEq, Addr.mk.injEq] at e
    obtain ⟨rfl, rfl, _⟩ := e
    exact h1

theorem Try.info5 : (Try.prog.info? 5).map (fun i => (i.zero, i.size, i.bytes)) = some (some (.int .u8 0), 1, 1) := by kernel_rfl
theorem Try.info4 : (Try.prog.info? 4).map (fun i => (i.zero, i.size, i.bytes)) = some (some (.bool false), 1, 1) := by kernel_rfl

/-- The three columns of the links, the first k filled. -/
structure Cols (w wr : World) (k n : Nat) (Nd Wh : Nat → Int) (So : Nat → Bool) : Prop where
  bel : Below w.heap.size w wr
  r0 : wr.rowIs w.heap.size 3 n (fun j => if j < k then .int .i64 (Nd j) else .int .i64 0)
  r1 : wr.rowIs (w.heap.size + 1) 5 n (fun j => if j < k then .int .u8 (Wh j) else .int .u8 0)
  r2 : wr.rowIs (w.heap.size + 1 + 1) 4 n (fun j => if j < k then .bool (So j) else .bool false)

theorem Cols.start (w : World) (n : Nat) (Nd Wh : Nat → Int) (So : Nat → Bool) :
    Cols w (((w.alloc (.cells (madeCells #[.int .i64 0] n) 3)).alloc (.cells (madeCells #[.int .u8 0] n) 5)).alloc (.cells (madeCells #[.bool false] n) 4)) 0 n Nd Wh So := by
  have e1 : (w.alloc (.cells (madeCells #[.int .i64 0] n) 3)).heap.size = w.heap.size + 1 := by simp
  have e2 : ((w.alloc (.cells (madeCells #[.int .i64 0] n) 3)).alloc (.cells (madeCells #[.int .u8 0] n) 5)).heap.size = w.heap.size + 1 + 1 := by simp
  have g0 := World.rowIs_made w (.int .i64 0) n 3
  have g1 := World.rowIs_made (w.alloc (.cells (madeCells #[.int .i64 0] n) 3)) (.int .u8 0) n 5
  have g2 := World.rowIs_made ((w.alloc (.cells (madeCells #[.int .i64 0] n) 3)).alloc (.cells (madeCells #[.int .u8 0] n) 5)) (.bool false) n 4
  rw [e1] at g1
  rw [e2] at g2
  exact ⟨bel_alloc (bel_alloc (bel_alloc (Below.refl _ _) _) _) _, ((g0.alloc _).alloc _).congr (fun j _ => by simp), (g1.alloc _).congr (fun j _ => by simp), g2.congr (fun j _ => by simp)⟩

theorem Cols.step {w wr : World} {k n : Nat} {Nd Wh : Nat → Int} {So : Nat → Bool} (h : Cols w wr k n Nd Wh So) :
    Cols w (((wr.setCell ⟨w.heap.size, k, none⟩ (.int .i64 (Nd k))).setCell ⟨w.heap.size + 1, k, none⟩ (.int .u8 (Wh k))).setCell ⟨w.heap.size + 1 + 1, k, none⟩ (.bool (So k))) (k + 1) n Nd Wh So :=
  ⟨((h.bel.setCell (Nat.le_refl _) _).setCell (by show w.heap.size ≤ w.heap.size + 1; omega) _).setCell (by show w.heap.size ≤ w.heap.size + 1 + 1; omega) _,
    ((row_fill (f := fun j => .int .i64 (Nd j)) h.r0).setOther (by show w.heap.size ≠ w.heap.size + 1; omega) _).setOther (by show w.heap.size ≠ w.heap.size + 1 + 1; omega) _,
    (row_fill (f := fun j => .int .u8 (Wh j)) (h.r1.setOther (by show w.heap.size + 1 ≠ w.heap.size; omega) _)).setOther (by show w.heap.size + 1 ≠ w.heap.size + 1 + 1; omega) _,
    row_fill (f := fun j => .bool (So j)) ((h.r2.setOther (by show w.heap.size + 1 + 1 ≠ w.heap.size; omega) _).setOther (by show w.heap.size + 1 + 1 ≠ w.heap.size + 1; omega) _)⟩

set_option maxHeartbeats 1000000 in
theorem fields23 (a : Option Addr) (n c : Nat) (Nd Wh : Nat → Int) (So : Nat → Bool) (w : World) (hn : n ≤ 4096) (hL : LinksAt w a n Nd Wh So) :
    Calls Try.prog 23 #[.slice a n c] w fun e w' => e = .returned (.tuple #[.slice (some ⟨w.heap.size, 0, none⟩) n n, .slice (some ⟨w.heap.size + 1, 0, none⟩) n n, .slice (some ⟨w.heap.size + 1 + 1, 0, none⟩) n n]) ∧ Cols w w' n n Nd Wh So := by
  have hmk0 := run_make_row' (P := Try.prog) 23 3 (.int .i64 0) 8 Try.underlying23 Try.info3 rfl .i64 .i64 n (by omega) (by omega)
  have hmk1 := run_make_row' (P := Try.prog) 42 5 (.int .u8 0) 1 Try.underlying42 Try.info5 rfl .i64 .i64 n (by omega) (by omega)
  have hmk2 := run_make_row' (P := Try.prog) 50 4 (.bool false) 1 Try.underlying50 Try.info4 rfl .i64 .i64 n (by omega) (by omega)
  go_enter Try.func23, Try.ntmps23
  go_wp2
  clear hmk0 hmk1 hmk2
  go_loopw [8] (fun i wr => ∃ (k : Nat), k ≤ n ∧ i = .int .i64 k ∧ Cols w wr k n Nd Wh So) (fun i _ => n - (intOf i).toNat)
  case atStart => exact ⟨0, Nat.zero_le _, rfl, Cols.start w n Nd Wh So⟩
  case round =>
    obtain ⟨k, hk, rfl, K⟩ := hrel
    by_cases hlt : k < n
    · obtain ⟨b, off, rfl, hcN, hcW, hcS⟩ := (hL.below K.bel) k hlt
      have hb : b < w.heap.size := by
        obtain ⟨b', off', e, h1, _⟩ := hL k hlt
        simp only [Option.some.injEq, Addr.mk.injEq] at e
        rw [e.1]; exact World.block_lt_of_cell? _ _ h1
      have hd0 := K.r0.cell hlt
      have hd1 := K.r1.cell hlt
      have hd2 := K.r2.cell hlt
      have hf0 := K.r0.frozen k
      have hf1 := K.r1.frozen k
      have hf2 := K.r2.frozen k
      have K' := K.step
      go_wp2
      go_roundw
      case rel => exact ⟨k + 1, by omega, by go_num, K'⟩
      case measure => simp [intOf]; omega
    · obtain rfl : k = n := by omega
      go_wp2
      go_ret3
      exact ⟨rfl, K⟩
end Go.Proofs.Qxb6604581a
