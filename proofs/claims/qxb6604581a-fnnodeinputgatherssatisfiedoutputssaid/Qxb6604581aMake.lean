import Derived.Test.Qxb6604581aBase
import Derived.RegionTactic
import Derived.BigRegion
import Derived.Deep.QuietTactic
import Derived.BigQuiet
namespace Go.Proofs.Qxb6604581a
open Go.RowKit
set_option linter.unusedVariables false

/-- A slice's address as the makers leave it: nil and empty, or plain. -/
def Plain (a : Option Addr) (n : Nat) : Prop := (a = none ∧ n = 0) ∨ ∃ b off, a = some ⟨b, off, none⟩

theorem bdrewN {B : Nat} {a w : World} (h : Below B a w) (n : Nat) : Below B a (w.drewN n) := h.trans ⟨rfl, rfl, rfl, Nat.le_refl _, fun _ _ => rfl⟩

theorem Try.info3 : (Try.prog.info? 3).map (fun i => (i.zero, i.size, i.bytes)) = some (some (.int .i64 0), 1, 8) := by kernel_rfl
theorem Try.info37 : (Try.prog.info? 37).map (fun i => (i.zero, i.size, i.bytes)) = some (some (.agg #[.string ByteArray.empty, .float .f64 0]), 2, 24) := by kernel_rfl

/-- The row of a loop that fills cell k next. -/
theorem row_fill {wr : World} {bl t n : Nat} {f : Nat → Value} {z : Value} {k : Nat} (h : wr.rowIs bl t n (fun j => if j < k then f j else z)) :
    (wr.setCell ⟨bl, k, none⟩ (f k)).rowIs bl t n (fun j => if j < k + 1 then f j else z) :=
  (h.set k (f k)).congr (fun j _ => by
    by_cases e : j = k
    · subst e; simp
    · by_cases hj : j < k
      · simp [e, hj, Nat.lt_succ_of_lt hj]
      · simp [e, hj, show ¬ j < k + 1 by omega])

theorem clone10' (b off n c : Nat) (Z : Nat → Int) (w : World) (hn : n ≤ 1048576)
    (hI : ∀ i, i < n → w.cell? ⟨b, off + i, none⟩ = some (.int .i64 (Z i))) (hb : b < w.heap.size) :
    Calls Try.prog 10 #[.slice (some ⟨b, off, none⟩) n c] w fun e w' => e = .returned (.slice (some ⟨w.heap.size, 0, none⟩) n n) ∧ Below w.heap.size w w' ∧ w'.rowIs w.heap.size 3 n (fun i => .int .i64 (Z i)) := by
  have hmk := run_make_row' (P := Try.prog) 23 3 (.int .i64 0) 8 Try.underlying23 Try.info3 rfl .i64 .i64 n (by omega) (by omega)
  have hnil := fun w => Lib.run_eql_slice_nil (P := Try.prog) w 23 3 (some ⟨b, off, none⟩) n c 0 0 Try.underlying23
  go_enter Try.func10, Try.ntmps10
  go_wp2
  go_loopw [4] (fun i wr => ∃ (k : Nat), k ≤ n ∧ i = .int .i64 k ∧ Below w.heap.size w wr ∧ wr.rowIs w.heap.size 3 n (fun j => if j < k then .int .i64 (Z j) else .int .i64 0)) (fun i _ => n - (intOf i).toNat)
  case atStart => exact ⟨0, Nat.zero_le _, rfl, (Below.refl _ _).alloc (Nat.le_refl _) _, (World.rowIs_made w _ n 3).congr (fun j _ => by simp)⟩
  case round =>
    obtain ⟨k, hk, rfl, hbel, hrow⟩ := hrel
    by_cases hlt : k < n
    · have hc : wr.cell? ⟨b, off + k, none⟩ = some (.int .i64 (Z k)) := (hbel.cell (by exact hb)).trans (hI k hlt)
      have hd := hrow.cell hlt
      have hf := hrow.frozen k
      go_wp2
      go_roundw
      case rel => exact ⟨k + 1, by omega, by go_num, hbel.setCell (Nat.le_refl _) _, row_fill hrow⟩
      case measure => simp [intOf]; omega
    · obtain rfl : k = n := by omega
      go_wp2
      go_ret
      exact ⟨rfl, hbel, hrow.congr (fun j hj => by simp [hj])⟩

/-- What zzCloneInts leaves: the ints lie in a new block (a nil slice stays nil). -/
theorem clone10z (c : Nat) (w : World) :
    Calls Try.prog 10 #[.slice none 0 c] w fun e w' => e = .returned (.slice none 0 0) ∧ w' = w := by
  have hnil := fun w => Lib.run_eql_slice_nil (P := Try.prog) w 23 3 none 0 c 0 0 Try.underlying23
  go_enter Try.func10, Try.ntmps10
  go_wp2
  go_ret
  exact ⟨rfl, rfl⟩

theorem clone10e (a : Addr) (c : Nat) (w : World)  :
    Calls Try.prog 10 #[.slice (some a) 0 c] w fun e w' => e = .returned (.slice (some ⟨w.heap.size, 0, none⟩) 0 0) ∧ Below w.heap.size w w' := by
  have hmk := run_make_row' (P := Try.prog) 23 3 (.int .i64 0) 8 Try.underlying23 Try.info3 rfl .i64 .i64 0 (by omega) (by omega)
  simp only [Int.ofNat_zero] at hmk
  have hnil := fun w => Lib.run_eql_slice_nil (P := Try.prog) w 23 3 (some a) 0 c 0 0 Try.underlying23
  go_enter Try.func10, Try.ntmps10
  go_wp2
  go_loopw [4] (fun i wr => i = .int .i64 0 ∧ Below w.heap.size w wr) (fun i _ => 0)
  case atStart => exact ⟨rfl, (Below.refl _ _).alloc (Nat.le_refl _) _⟩
  case round =>
    obtain ⟨rfl, hbel⟩ := hrel
    go_wp2
    go_ret
    exact ⟨rfl, hbel⟩

theorem clone10 (a : Option Addr) (n c : Nat) (Z : Nat → Int) (w : World) (hn : n ≤ 1048576) (h : IntsAt w a n Z) :
    Calls Try.prog 10 #[.slice a n c] w fun e w' => ∃ a', e = .returned (.slice a' n n) ∧ Below w.heap.size w w' ∧ IntsAt w' a' n Z := by
  rcases Nat.eq_zero_or_pos n with rfl | h0
  · cases a with
    | none => exact (clone10z c w).mono fun e w' ⟨he, hw⟩ => ⟨_, he, by rw [hw]; exact Below.refl _ _, fun _ hi => absurd hi (Nat.not_lt_zero _)⟩
    | some a => exact (clone10e a c w).mono fun e w' ⟨he, hw⟩ => ⟨_, he, hw, fun _ hi => absurd hi (Nat.not_lt_zero _)⟩
  · rcases h.split with rfl | ⟨b, off, rfl, hb, h1⟩
    · omega
    · exact (clone10' b off n c Z w hn h1 hb).mono fun e w' ⟨he, hw, hr⟩ => ⟨_, he, hw, fun i hi => ⟨_, _, rfl, by simpa using hr.cell hi⟩⟩

theorem run_make_row2 {P : Program} (t e : TypeId) (z0 z1 : Value) (bytes : Nat) (ht : P.underlying t = some (.slice e)) (hinfo : (P.info? e).map (fun i => (i.zero, i.size, i.bytes)) = some (some (.agg #[z0, z1]), 2, bytes))
    (kl kc : IntKind) (n : Nat) (hbytes : bytes * n ≤ 281474976710656) (h63 : n ≤ 9223372036854775807) (w : World) :
    (Instr.makeSlice t (.int kl (n : Int)) (.int kc (n : Int))).run P w = .ok (.slice (some ⟨w.heap.size, 0, none⟩) n n) (w.alloc (.cells (madeCells #[z0, z1] (n * 2)) e)) := by
  obtain ⟨i, hi, hzz⟩ := Option.map_eq_some_iff.1 hinfo
  simp only [Prod.mk.injEq] at hzz
  obtain ⟨hz, hs, hb⟩ := hzz
  have hb' : (i.bytes : Int) * (n : Int) ≤ 281474976710656 := by
    have h : ((i.bytes * n : Nat) : Int) ≤ 281474976710656 := by rw [hb]; omega
    rwa [Int.natCast_mul] at h
  have hr := run_make (P := P) w t e i _ ht hi hz kl kc n n (by omega) (Int.le_refl _) hb' (by omega)
  simp only [Int.toNat_natCast, hs] at hr
  exact hr

theorem rowIs_made2 (w : World) (z0 z1 : Value) (n : Nat) (t : TypeId) : (w.alloc (.cells (madeCells #[z0, z1] (n * 2)) t)).rowIs w.heap.size t (n * 2) (fun j => if j % 2 = 0 then z0 else z1) :=
  ⟨_, Deep.blk_alloc_new _ _, size_madeCells _ _, fun i hi => by
    simp only [madeCells, Array.getElem?_map]
    rw [Array.getElem?_range]
    simp only [hi, if_true, Option.map_some]
    rcases Nat.mod_two_eq_zero_or_one i with h | h <;> simp [h]⟩

/-- The row of a loop that fills the two cells of element k next. -/
theorem row_fill2 {wr : World} {bl t n : Nat} {f g z : Nat → Value} {y : Nat → Value} {k : Nat} (h : wr.rowIs bl t n (fun j => if j < k * 2 then (if j % 2 = 0 then f (j / 2) else g (j / 2)) else (if j % 2 = 0 then z j else y j))) :
    ((wr.setCell ⟨bl, k * 2, none⟩ (f k)).setCell ⟨bl, k * 2 + 1, none⟩ (g k)).rowIs bl t n (fun j => if j < (k + 1) * 2 then (if j % 2 = 0 then f (j / 2) else g (j / 2)) else (if j % 2 = 0 then z j else y j)) :=
  ((h.set (k * 2) (f k)).set (k * 2 + 1) (g k)).congr (fun j _ => by
    by_cases e1 : j = k * 2 + 1
    · subst e1
      simp [show (k * 2 + 1) % 2 = 1 by omega, show (k * 2 + 1) / 2 = k by omega, show k * 2 + 1 < (k + 1) * 2 by omega]
    · by_cases e0 : j = k * 2
      · subst e0
        simp [show k * 2 < (k + 1) * 2 by omega]
      · have e : (j < (k + 1) * 2) = (j < k * 2) := by apply propext; omega
        simp only [e1, e0, if_false, e])

theorem run_store_float (P : Program) (w : World) (a : Addr) (m : Mode) (k : FloatKind) (n : Nat) : (store a (.float k n) m).run P w = stored P w a (.float k n) m := run_store P w a _ m rfl
attribute [local go_sem] run_store_float

set_option maxHeartbeats 400000 in
theorem cands11' (b off n c : Nat) (I : Nat → ByteArray) (S : Nat → Nat) (w : World) (hn : n ≤ 1048576)
    (hI : ∀ i, i < n → w.cell? ⟨b, off + i * 2, none⟩ = some (.string (I i))) (hS : ∀ i, i < n → w.cell? ⟨b, off + i * 2 + 1, none⟩ = some (.float .f64 (S i))) (hb : b < w.heap.size) :
    Calls Try.prog 11 #[.slice (some ⟨b, off, none⟩) n c] w fun e w' => e = .returned (.slice (some ⟨w.heap.size, 0, none⟩) n n) ∧ Below w.heap.size w w' ∧ w'.rowIs w.heap.size 37 (n * 2) (fun i => if i % 2 = 0 then .string (I (i / 2)) else .float .f64 (S (i / 2))) := by
  have hmk := run_make_row2 (P := Try.prog) 28 37 _ _ 24 Try.underlying28 Try.info37 .i64 .i64 n (by omega) (by omega)
  have hnil := fun w => Lib.run_eql_slice_nil (P := Try.prog) w 22 38 (some ⟨b, off, none⟩) n c 0 0 Try.underlying22
  go_enter Try.func11, Try.ntmps11
  go_wp2
  go_loopw [4] (fun i wr => ∃ (k : Nat), k ≤ n ∧ i = .int .i64 k ∧ Below w.heap.size w wr ∧ wr.rowIs w.heap.size 37 (n * 2) (fun j => if j < k * 2 then (if j % 2 = 0 then .string (I (j / 2)) else .float .f64 (S (j / 2))) else (if j % 2 = 0 then .string ByteArray.empty else .float .f64 0))) (fun i _ => n - (intOf i).toNat)
  case atStart => exact ⟨0, Nat.zero_le _, rfl, (Below.refl _ _).alloc (Nat.le_refl _) _, (rowIs_made2 w _ _ n 37).congr (fun j _ => by simp)⟩
  case round =>
    obtain ⟨k, hk, rfl, hbel, hrow⟩ := hrel
    by_cases hlt : k < n
    · have hc : wr.cell? ⟨b, off + k * 2, none⟩ = some (.string (I k)) := (hbel.cell (by exact hb)).trans (hI k hlt)
      have hc2 : wr.cell? ⟨b, off + k * 2 + 1, none⟩ = some (.float .f64 (S k)) := (hbel.cell (by exact hb)).trans (hS k hlt)
      have hd : wr.cell? ⟨w.heap.size, k * 2, none⟩ = some (.string ByteArray.empty) := by have := hrow.cell (i := k * 2) (by omega); simpa using this
      have hd1 : wr.cell? ⟨w.heap.size, k * 2 + 1, none⟩ = some (.float .f64 0) := by have := hrow.cell (i := k * 2 + 1) (by omega); simpa [show ¬ (k * 2 + 1 < k * 2) by omega, show (k * 2 + 1) % 2 = 1 by omega] using this
      have hf := hrow.frozen (k * 2)
      have hf1 := hrow.frozen (k * 2 + 1)
      go_wp2
      go_region
      go_wp2
      go_roundw
      case rel => exact ⟨k + 1, by omega, by go_num, ((hbel.setCell (Nat.le_refl _) _).setCell (Nat.le_refl _) _).drew, (row_fill2 (f := fun i => .string (I i)) (g := fun i => .float .f64 (S i)) (z := fun _ => .string ByteArray.empty) (y := fun _ => .float .f64 0) hrow).drew⟩
      case measure => simp [intOf]; omega
    · obtain rfl : k = n := by omega
      go_wp2
      go_ret
      exact ⟨rfl, hbel, hrow.congr (fun j hj => by simp [hj])⟩

theorem cands11e (a : Addr) (c : Nat) (w : World)  :
    Calls Try.prog 11 #[.slice (some a) 0 c] w fun e w' => e = .returned (.slice (some ⟨w.heap.size, 0, none⟩) 0 0) ∧ Below w.heap.size w w' := by
  have hmk := run_make_row2 (P := Try.prog) 28 37 _ _ 24 Try.underlying28 Try.info37 .i64 .i64 0 (by omega) (by omega)
  simp only [Int.ofNat_zero] at hmk
  have hnil := fun w => Lib.run_eql_slice_nil (P := Try.prog) w 22 38 (some a) 0 c 0 0 Try.underlying22
  go_enter Try.func11, Try.ntmps11
  go_wp2
  go_loopw [4] (fun i wr => i = .int .i64 0 ∧ Below w.heap.size w wr) (fun i _ => 0)
  case atStart => exact ⟨rfl, (Below.refl _ _).alloc (Nat.le_refl _) _⟩
  case round =>
    obtain ⟨rfl, hbel⟩ := hrel
    go_wp2
    go_ret
    exact ⟨rfl, hbel⟩

theorem cands11z (c : Nat) (w : World) :
    Calls Try.prog 11 #[.slice none 0 c] w fun e w' => e = .returned (.slice none 0 0) ∧ w' = w := by
  have hnil := fun w => Lib.run_eql_slice_nil (P := Try.prog) w 22 38 none 0 c 0 0 Try.underlying22
  go_enter Try.func11, Try.ntmps11
  go_wp2
  go_ret
  exact ⟨rfl, rfl⟩

theorem cands11 (a : Option Addr) (n c : Nat) (I : Nat → ByteArray) (S : Nat → Nat) (w : World) (hn : n ≤ 1048576) (h : CandsAt w a n I S) :
    Calls Try.prog 11 #[.slice a n c] w fun e w' => ∃ a', e = .returned (.slice a' n n) ∧ Below w.heap.size w w' ∧ CandsAt w' a' n I S ∧ Plain a' n := by
  rcases Nat.eq_zero_or_pos n with rfl | h0
  · cases a with
    | none => exact (cands11z c w).mono fun e w' ⟨he, hw⟩ => ⟨_, he, by rw [hw]; exact Below.refl _ _, CandsAt.mk0, .inl ⟨rfl, rfl⟩⟩
    | some a => exact (cands11e a c w).mono fun e w' ⟨he, hw⟩ => ⟨_, he, hw, CandsAt.mk0, .inr ⟨_, _, rfl⟩⟩
  · rcases h.split with rfl | ⟨b, off, rfl, hb, h1, h2⟩
    · omega
    · refine (cands11' b off n c I S w hn h1 h2 hb).mono fun e w' ⟨he, hw, hr⟩ => ⟨_, he, hw, CandsAt.mk1 (fun i hi => ?_) (fun i hi => ?_), .inr ⟨_, _, rfl⟩⟩
      · have := hr.cell (i := i * 2) (by omega)
        simpa using this
      · have := hr.cell (i := i * 2 + 1) (by omega)
        simpa [show (i * 2 + 1) % 2 = 1 by omega, show (i * 2 + 1) / 2 = i by omega] using this

theorem input12 (a0 a1 : Option Addr) (n0 c0 n1 c1 : Nat) (w : World) :
    Calls Try.prog 12 #[.slice a0 n0 c0, .slice a1 n1 c1] w fun e w' => e = .returned (.agg #[.slice a0 n0 c0, .slice a1 n1 c1]) ∧ w' = w.alloc (.cells #[.slice a0 n0 c0, .slice a1 n1 c1] 31) := by
  go_enter Try.func12, Try.ntmps12
  go_wp2
  exact bodyPost_ret (v := .agg #[.slice a0 n0 c0, .slice a1 n1 c1]) (by simp [results, Try.results12, go_sem]) rfl ⟨rfl, rfl⟩

/-- Where the list that runs from y to z begins. -/
def lstAddr (a : Option Addr) (y z : Int) : Option Addr := if z.toNat = y.toNat then a else a.map fun p => ⟨p.block, p.off + y.toNat * 2, none⟩

/-- What List(k) hands back: a slice of z - y elements whose capacity is its length; where it is not empty it begins at element y. -/
def ListEnd (a : Option Addr) (y z : Int) (e : Ending) : Prop := e = .returned (.slice (lstAddr a y z) (z - y).toNat (z - y).toNat)

theorem lstAddr_lt (b off : Nat) (y z : Int) (h0 : 0 ≤ y) (h : y < z) : lstAddr (some ⟨b, off, none⟩) y z = some ⟨b, off + y.toNat * 2, none⟩ := by
  unfold lstAddr; rw [if_neg (by omega)]; rfl

theorem ListEnd.zero (b off : Nat) (z : Int) : ListEnd (some ⟨b, off, none⟩) 0 z (.returned (.slice (some ⟨b, off, none⟩) z.toNat z.toNat)) := by
  unfold ListEnd lstAddr
  rw [Int.sub_zero]
  split <;> simp

theorem ListEnd.eq (b off : Nat) (y z : Int) (hy : 0 ≤ y) (hz : y ≤ z) (e : z.toNat = y.toNat) : ListEnd (some ⟨b, off, none⟩) y z (.returned (.slice (some ⟨b, off, none⟩) 0 0)) := by
  have e0 : (z - y).toNat = 0 := by omega
  unfold ListEnd lstAddr
  rw [e0, if_pos e]

theorem ListEnd.lt (b off : Nat) (y z : Int) (hy : 0 ≤ y) (hz : y ≤ z) (e : ¬ z.toNat = y.toNat) : ListEnd (some ⟨b, off, none⟩) y z (.returned (.slice (some ⟨b, off + y.toNat * 2, none⟩) (z.toNat - y.toNat) (z.toNat - y.toNat))) := by
  unfold ListEnd lstAddr
  rw [if_neg e, show (z - y).toNat = z.toNat - y.toNat by omega]
  rfl

set_option maxHeartbeats 400000 in
theorem list13z (b off n c b2 o2 n2 c2 : Nat) (z : Int) (w : World) (hk : 0 < n2) (hb2 : b2 < w.heap.size)
    (hz : w.cell? ⟨b2, o2, none⟩ = some (.int .i64 z)) (h1 : 0 ≤ z) (h2 : z ≤ c) :
    Calls Try.prog 13 #[.agg #[.slice (some ⟨b, off, none⟩) n c, .slice (some ⟨b2, o2, none⟩) n2 c2], .int .i64 0] w fun e w' => Below w.heap.size w w' ∧ ListEnd (some ⟨b, off, none⟩) 0 z e := by
  have hk' : (0 : Int) < n2 := by omega
  go_enter Try.func13, Try.ntmps13
  go_wp2
  go_quiet (fail)
  go_wp2
  go_ret
  exact ⟨bdrewN ((Below.refl _ _).alloc (Nat.le_refl _) _) _, ListEnd.zero _ _ _⟩

set_option maxHeartbeats 400000 in
theorem list13s (b off n c b2 o2 n2 c2 k : Nat) (y z : Int) (w : World) (hk : k + 1 < n2) (hn2 : n2 ≤ 1048576) (hb2 : b2 < w.heap.size)
    (hy : w.cell? ⟨b2, o2 + k, none⟩ = some (.int .i64 y)) (hz : w.cell? ⟨b2, o2 + (k + 1), none⟩ = some (.int .i64 z)) (h0 : 0 ≤ y) (h1 : y ≤ z) (h2 : z ≤ c) :
    Calls Try.prog 13 #[.agg #[.slice (some ⟨b, off, none⟩) n c, .slice (some ⟨b2, o2, none⟩) n2 c2], .int .i64 (k + 1)] w fun e w' => Below w.heap.size w w' ∧ ListEnd (some ⟨b, off, none⟩) y z e := by
  have hk' : (k : Int) + 1 < n2 := by omega
  go_enter Try.func13, Try.ntmps13
  go_wp2
  go_quiet (fail)
  go_wp2
  · go_ret
    exact ⟨bdrewN ((Below.refl _ _).alloc (Nat.le_refl _) _) _, ListEnd.eq _ _ _ _ h0 h1 (by assumption)⟩
  · go_ret
    exact ⟨bdrewN ((Below.refl _ _).alloc (Nat.le_refl _) _) _, ListEnd.lt _ _ _ _ h0 h1 (by assumption)⟩

set_option maxHeartbeats 400000 in
theorem list13nz (b2 o2 n2 c2 : Nat) (w : World) (hk : 0 < n2) (hb2 : b2 < w.heap.size)
    (hz : w.cell? ⟨b2, o2, none⟩ = some (.int .i64 0)) :
    Calls Try.prog 13 #[.agg #[.slice none 0 0, .slice (some ⟨b2, o2, none⟩) n2 c2], .int .i64 0] w fun e w' => Below w.heap.size w w' ∧ ListEnd none 0 0 e := by
  have hk' : (0 : Int) < n2 := by omega
  go_enter Try.func13, Try.ntmps13
  go_wp2
  go_quiet (fail)
  go_wp2
  go_ret
  exact ⟨bdrewN ((Below.refl _ _).alloc (Nat.le_refl _) _) _, rfl⟩

set_option maxHeartbeats 400000 in
theorem list13ns (b2 o2 n2 c2 k : Nat) (w : World) (hk : k + 1 < n2) (hn2 : n2 ≤ 1048576) (hb2 : b2 < w.heap.size)
    (hy : w.cell? ⟨b2, o2 + k, none⟩ = some (.int .i64 0)) (hz : w.cell? ⟨b2, o2 + (k + 1), none⟩ = some (.int .i64 0)) :
    Calls Try.prog 13 #[.agg #[.slice none 0 0, .slice (some ⟨b2, o2, none⟩) n2 c2], .int .i64 (k + 1)] w fun e w' => Below w.heap.size w w' ∧ ListEnd none 0 0 e := by
  have hk' : (k : Int) + 1 < n2 := by omega
  go_enter Try.func13, Try.ntmps13
  go_wp2
  go_quiet (fail)
  go_wp2
  go_ret
  exact ⟨bdrewN ((Below.refl _ _).alloc (Nat.le_refl _) _) _, rfl⟩

/-- List(k), whatever the Input. -/
theorem list13 (a a2 : Option Addr) (n c n2 c2 k : Nat) (kk : Int) (Z : Nat → Int) (w : World) (hkk : kk = (k : Int)) (hk : k < n2) (hn2 : n2 ≤ 1048576) (ha : Plain a c) (hnc : n ≤ c) (hz : IntsAt w a2 n2 Z)
    (h0 : 0 ≤ pre Z k) (h1 : pre Z k ≤ Z k) (h2 : Z k ≤ c) :
    Calls Try.prog 13 #[.agg #[.slice a n c, .slice a2 n2 c2], .int .i64 kk] w fun e w' => Below w.heap.size w w' ∧ ListEnd a (pre Z k) (Z k) e := by
  subst hkk
  rcases hz.split with rfl | ⟨b2, o2, rfl, hb2, hz2⟩
  · omega
  match k, hk, h0, h1, h2 with
  | 0, hk, h0, h1, h2 =>
    have hp : pre Z 0 = 0 := rfl
    rw [hp] at h0 h1 ⊢
    have hc0 : w.cell? ⟨b2, o2, none⟩ = some (.int .i64 (Z 0)) := by simpa using hz2 0 hk
    rcases ha with ⟨rfl, rfl⟩ | ⟨b, off, rfl⟩
    · have e0 : Z 0 = 0 := by omega
      obtain rfl : n = 0 := by omega
      rw [e0] at hc0 ⊢
      exact list13nz b2 o2 n2 c2 w hk hb2 hc0
    · exact list13z b off n c b2 o2 n2 c2 (Z 0) w hk hb2 hc0 h1 h2
  | k + 1, hk, h0, h1, h2 =>
    rw [pre_succ] at h0 h1 ⊢
    have hc0 := hz2 k (by omega)
    have hc1 := hz2 (k + 1) hk
    rcases ha with ⟨rfl, rfl⟩ | ⟨b, off, rfl⟩
    · have e0 : Z k = 0 := by omega
      have e1 : Z (k + 1) = 0 := by omega
      obtain rfl : n = 0 := by omega
      rw [e0] at hc0
      rw [e1] at hc1
      rw [e0, e1]
      exact list13ns b2 o2 n2 c2 k w hk hn2 hb2 hc0 hc1
    · exact list13s b off n c b2 o2 n2 c2 k (Z k) (Z (k + 1)) w hk hn2 hb2 hc0 hc1 h0 h1 h2

end Go.Proofs.Qxb6604581a
