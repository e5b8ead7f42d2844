import Derived.Test.Qxb6603581aBase
import Derived.Lib.SliceRun
namespace Go.Proofs.Qxb6603581a
open Go.RowKit
set_option linter.unusedVariables false

theorem Try.info5 : (Try.prog.info? 5).map (fun i => (i.zero, i.size, i.bytes)) = some (some (.int .u8 0), 1, 1) := by kernel_rfl
theorem Try.info28 : (Try.prog.info? 28).map (fun i => (i.zero, i.size, i.bytes)) = some (some (.slice none 0 0), 1, 24) := by kernel_rfl

theorem row_fill {wr : World} {bl t n : Nat} {f : Nat → Value} {z : Value} {k : Nat} (h : wr.rowIs bl t n (fun j => if j < k then f j else z)) :
    (wr.setCell ⟨bl, k, none⟩ (f k)).rowIs bl t n (fun j => if j < k + 1 then f j else z) :=
  (h.set k (f k)).congr (fun j _ => by
    by_cases e : j = k
    · subst e; simp
    · by_cases hj : j < k
      · simp [e, hj, Nat.lt_succ_of_lt hj]
      · simp [e, hj, show ¬ j < k + 1 by omega])

/-- The first k of the m keys are copied: the row of slices lies in block T, each key in a block of its own behind it. -/
structure CoK (w wr : World) (T k m : Nat) (N : Nat → Nat) (A : Nat → Option Addr) (V : Nat → Nat → Int) : Prop where
  bel : Below T w wr
  row : wr.rowIs T 28 m (fun j => if j < k then .slice (A j) (N j) (N j) else .slice none 0 0)
  own : ∀ x, x < k → 0 < N x → ∃ b, A x = some ⟨b, 0, none⟩ ∧ T < b ∧ wr.rowIs b 5 (N x) (fun j => .int .u8 (V x j))

theorem CoK.start (w : World) (m : Nat) (N : Nat → Nat) (A : Nat → Option Addr) (V : Nat → Nat → Int) :
    CoK w (w.alloc (.cells (madeCells #[.slice none 0 0] m) 28)) w.heap.size 0 m N A V :=
  ⟨(Below.refl _ _).alloc (Nat.le_refl _) _, (World.rowIs_made w _ m 28).congr (fun j _ => by simp), fun x hx => absurd hx (Nat.not_lt_zero _)⟩

theorem CoK.skip {w wr : World} {T k m : Nat} {N : Nat → Nat} {A : Nat → Option Addr} {V : Nat → Nat → Int} (h : CoK w wr T k m N A V) (h0 : N k = 0) :
    CoK w wr T (k + 1) m N (fun x => if x = k then none else A x) V := by
  refine ⟨h.bel, h.row.congr (fun j _ => ?_), fun x hx hp => ?_⟩
  · by_cases e : j = k
    · subst e; simp [h0]
    · by_cases hj : j < k
      · simp [e, hj, Nat.lt_succ_of_lt hj]
      · simp [hj, show ¬ j < k + 1 by omega]
  · by_cases e : x = k
    · subst e; omega
    · simpa [e] using h.own x (by omega) hp

theorem CoK.step {w wr ws : World} {k m : Nat} {N : Nat → Nat} {A : Nat → Option Addr} {V : Nat → Nat → Int} (h : CoK w wr w.heap.size k m N A V)
    (hb : Below wr.heap.size wr ws) (hr : ws.rowIs wr.heap.size 5 (N k) (fun j => .int .u8 (V k j))) :
    CoK w (ws.setCell ⟨w.heap.size, k, none⟩ (.slice (some ⟨wr.heap.size, 0, none⟩) (N k) (N k))) w.heap.size (k + 1) m N (fun x => if x = k then some ⟨wr.heap.size, 0, none⟩ else A x) V := by
  have hT := h.row.lt
  refine ⟨(h.bel.trans (hb.mono h.bel.size)).setCell (Nat.le_refl _) _, ((h.row.of_block (hb.block _ hT)).set k _).congr (fun j _ => ?_), fun x hx h0 => ?_⟩
  · by_cases e : j = k
    · subst e; simp
    · by_cases hj : j < k
      · simp [e, hj, Nat.lt_succ_of_lt hj]
      · simp [e, hj, show ¬ j < k + 1 by omega]
  · by_cases e : x = k
    · subst e
      exact ⟨_, by simp, hT, hr.setOther (by show wr.heap.size ≠ w.heap.size; omega) _⟩
    · obtain ⟨b, e1, e2, e3⟩ := h.own x (by omega) h0
      exact ⟨b, by simpa [e] using e1, e2, (e3.of_block (hb.block _ e3.lt)).setOther (by show b ≠ w.heap.size; omega) _⟩

theorem CoK.keys {w wr : World} {T m : Nat} {N : Nat → Nat} {A : Nat → Option Addr} {V : Nat → Nat → Int} (h : CoK w wr T m m N A V) : KeysAt wr (some ⟨T, 0, none⟩) m A N N V :=
  ⟨fun i hi => ⟨T, 0, rfl, by have := h.row.cell hi; simpa [hi] using this⟩, fun i hi j hj => by
    obtain ⟨b, e1, _, e3⟩ := h.own i hi (by omega)
    exact ⟨b, 0, e1, by have := e3.cell hj; simpa using this⟩⟩

theorem copy7' (b off m c : Nat) (A : Nat → Option Addr) (N C : Nat → Nat) (V : Nat → Nat → Int) (w : World) (hm : m ≤ 1048576) (hN : ∀ x, x < m → N x ≤ 1048576) (h : KeysAt w (some ⟨b, off, none⟩) m A N C V) :
    Calls Try.prog 7 #[.slice (some ⟨b, off, none⟩) m c] w fun e w' => e = .returned (.slice (some ⟨w.heap.size, 0, none⟩) m m) ∧ ∃ A', CoK w w' w.heap.size m m N A' V := by
  have hmk := run_make_row' (P := Try.prog) 22 28 (.slice none 0 0) 24 Try.underlying22 Try.info28 rfl .i64 .i64 m (by omega) (by omega)
  have hnil := fun w => Lib.run_eql_slice_nil (P := Try.prog) w 22 28 (some ⟨b, off, none⟩) m c 0 0 Try.underlying22
  go_enter Try.func7, Try.ntmps7
  go_wp2_with fail
  clear hmk hnil
  go_loopw [4] (fun i wr => ∃ (k : Nat), k ≤ m ∧ i = .int .i64 k ∧ ∃ A', CoK w wr w.heap.size k m N A' V) (fun i _ => m - (intOf i).toNat)
  case atStart => exact ⟨0, Nat.zero_le _, rfl, fun _ => none, CoK.start w m N _ V⟩
  case round =>
    obtain ⟨k, hk, rfl, A', K⟩ := hrel
    by_cases hlt : k < m
    · obtain ⟨b', off', e, hc⟩ := (h.row k hlt)
      simp only [Option.some.injEq, Addr.mk.injEq] at e
      obtain ⟨rfl, rfl, _⟩ := e
      replace hc := (K.bel.cell (World.block_lt_of_cell? _ _ hc)).trans hc
      have hNk := hN k hlt
      have hB := (h.each k hlt).below K.bel
      have hnl := fun w => Lib.run_eql_slice_nil (P := Try.prog) w 28 5 (A k) (N k) (C k) 0 0 Try.underlying28
      cases hA : A k with
      | none =>
        rw [hA] at hc hB hnl
        simp only [Option.isNone_none] at hnl
        have h0 : N k = 0 := by
          rcases Nat.eq_zero_or_pos (N k) with h0 | h0
          · exact h0
          · obtain ⟨_, _, e, _⟩ := hB 0 h0
            cases e
        rw [h0] at hnl hc
        go_wp2_with fail
        go_roundw
        case rel => exact ⟨k + 1, by omega, by go_num, _, K.skip h0⟩
        case measure => simp [intOf]; omega
      | some ad =>
        rw [hA] at hc hB hnl
        simp only [Option.isNone_some] at hnl
        have hmk := run_make_row' (P := Try.prog) 28 5 (.int .u8 0) 1 Try.underlying28 Try.info5 rfl .i64 .i64 (N k) (by omega) (by omega)
        go_wp2_with fail
        clear hmk hnl
        go_loopw [7] (fun i ws => ∃ (j : Nat), j ≤ N k ∧ i = .int .i64 j ∧ Below wr.heap.size wr ws ∧ ws.rowIs wr.heap.size 5 (N k) (fun x => if x < j then .int .u8 (V k x) else .int .u8 0)) (fun i _ => N k - (intOf i).toNat)
        case atStart => exact ⟨0, Nat.zero_le _, rfl, (Below.refl _ _).alloc (Nat.le_refl _) _, (World.rowIs_made wr _ (N k) 5).congr (fun j _ => by simp)⟩
        case round =>
          obtain ⟨j, hj, rfl, hbs, hrow⟩ := hrel
          by_cases hjl : j < N k
          · obtain ⟨b1, off1, e1, hv⟩ := (hB.below hbs) j hjl
            cases e1
            have hd := hrow.cell hjl
            have hf := hrow.frozen j
            go_wp2_with fail
            go_roundw
            case rel => exact ⟨j + 1, by omega, by go_num, hbs.setCell (Nat.le_refl _) _, row_fill hrow⟩
            case measure => simp [intOf]; omega
          · obtain rfl : j = N k := by omega
            have K' := K.step hbs (hrow.congr (fun x hx => by simp [hx]))
            have hd := (K.row.of_block (hbs.block _ K.row.lt)).cell hlt
            have hf := (K.row.of_block (hbs.block _ K.row.lt)).frozen k
            go_wp2_with fail
            go_roundw
            case rel => exact ⟨k + 1, by omega, by go_num, _, K'⟩
            case measure => simp [intOf]; omega
    · obtain rfl : k = m := by omega
      go_wp2_with fail
      go_ret
      exact ⟨rfl, A', K⟩

theorem copy7z (c : Nat) (w : World) :
    Calls Try.prog 7 #[.slice none 0 c] w fun e w' => e = .returned (.slice none 0 0) ∧ w' = w := by
  have hnil := fun w => Lib.run_eql_slice_nil (P := Try.prog) w 22 28 none 0 c 0 0 Try.underlying22
  simp only [Option.isNone_none] at hnil
  go_enter Try.func7, Try.ntmps7
  go_wp2
  go_ret
  exact ⟨rfl, rfl⟩

theorem copy7e (a : Addr) (c : Nat) (w : World)  :
    Calls Try.prog 7 #[.slice (some a) 0 c] w fun e w' => e = .returned (.slice (some ⟨w.heap.size, 0, none⟩) 0 0) ∧ Below w.heap.size w w' := by
  have hmk := run_make_row' (P := Try.prog) 22 28 (.slice none 0 0) 24 Try.underlying22 Try.info28 rfl .i64 .i64 0 (by omega) (by omega)
  simp only [Int.ofNat_zero] at hmk
  have hnil := fun w => Lib.run_eql_slice_nil (P := Try.prog) w 22 28 (some a) 0 c 0 0 Try.underlying22
  go_enter Try.func7, Try.ntmps7
  go_wp2
  go_loopw [4] (fun i wr => i = .int .i64 0 ∧ Below w.heap.size w wr) (fun i _ => 0)
  case atStart => exact ⟨rfl, (Below.refl _ _).alloc (Nat.le_refl _) _⟩
  case round =>
    obtain ⟨rfl, hbel⟩ := hrel
    go_wp2
    go_ret
    exact ⟨rfl, hbel⟩

/-- The copy of the keys: in blocks of its own. -/
theorem copy7 (a : Option Addr) (m c : Nat) (A : Nat → Option Addr) (N C : Nat → Nat) (V : Nat → Nat → Int) (w : World) (hm : m ≤ 1048576) (hN : ∀ x, x < m → N x ≤ 1048576) (h : KeysAt w a m A N C V) :
    Calls Try.prog 7 #[.slice a m c] w fun e w' => ∃ a' A', e = .returned (.slice a' m m) ∧ Below w.heap.size w w' ∧ KeysAt w' a' m A' N N V := by
  rcases Nat.eq_zero_or_pos m with rfl | h0
  · have hk : ∀ (w' : World) (a' : Option Addr), KeysAt w' a' 0 A N N V := fun _ _ => ⟨fun _ hi => absurd hi (Nat.not_lt_zero _), fun _ hi => absurd hi (Nat.not_lt_zero _)⟩
    cases a with
    | none => exact (copy7z c w).mono fun e w' ⟨he, hw⟩ => ⟨_, A, he, by rw [hw]; exact Below.refl _ _, hk _ _⟩
    | some a => exact (copy7e a c w).mono fun e w' ⟨he, hw⟩ => ⟨_, A, he, hw, hk _ _⟩
  · obtain ⟨b, off, rfl, _⟩ := h.row 0 h0
    exact (copy7' b off m c A N C V w hm hN h).mono fun e w' ⟨he, A', hK⟩ => ⟨_, A', he, hK.bel, hK.keys⟩
end Go.Proofs.Qxb6603581a
