import Derived.Test.Qxb6604581aNodeC
namespace Go.Proofs.Qxb6604581a
open Go.RowKit
set_option linter.unusedVariables false

theorem Try.info66 : (Try.prog.info? 66).map (fun i => (i.zero, i.size, i.bytes)) = some (some (.agg #[.int .i64 0, .int .u8 0, .bool false]), 3, 16) := by kernel_rfl

/-- Does an entry with condition c hold of the outcome o? -/
def satB (c o : Int) : Bool := if c = 1 then decide (o = 1) else if c = 2 then decide (o = 2) else decide (o ≠ 0)

def BoolIs (b : Bool) (e : Ending) : Prop := e = .returned (.bool b)

theorem sat26 (c o : Int) (w : World) (hc0 : 0 ≤ c) (hc : c ≤ 2) (ho0 : 0 ≤ o) (ho : o ≤ 2) :
    Calls Try.prog 26 #[.int .u8 c, .int .u8 o] w fun e w' => e = .returned (.bool (satB c o)) ∧ w = w' := by
  have hcs : c = 0 ∨ c = 1 ∨ c = 2 := by omega
  have hos : o = 0 ∨ o = 1 ∨ o = 2 := by omega
  rcases hcs with rfl | rfl | rfl <;> rcases hos with rfl | rfl | rfl
  all_goals
    go_enter Try.func26, Try.ntmps26
    go_wp2
    go_ret
    exact ⟨rfl, rfl⟩

theorem holds31 (c o : Int) (w : World) (hc0 : 0 ≤ c) (hc : c ≤ 2) (ho0 : 0 ≤ o) (ho : o ≤ 2) :
    Calls Try.prog 31 #[.int .u8 c, .int .u8 o] w fun e w' => e = .returned (.bool (satB c o)) ∧ w = w' := by
  have hcs : c = 0 ∨ c = 1 ∨ c = 2 := by omega
  have hos : o = 0 ∨ o = 1 ∨ o = 2 := by omega
  rcases hcs with rfl | rfl | rfl <;> rcases hos with rfl | rfl | rfl
  all_goals
    go_enter Try.func31, Try.ntmps31
    go_wp2
    go_ret
    exact ⟨rfl, rfl⟩

theorem clip32 (b off n c : Nat) (w : World) (h : n ≤ c) :
    Calls Try.prog 32 #[.slice (some ⟨b, off, none⟩) n c] w fun e w' => e = .returned (.slice (some ⟨b, off, none⟩) n n) ∧ w = w' := by
  go_enter Try.func32, Try.ntmps32
  go_wp2
  go_ret
  exact ⟨rfl, rfl⟩
theorem clip32n (w : World) :
    Calls Try.prog 32 #[.slice none 0 0] w fun e w' => e = .returned (.slice none 0 0) ∧ w = w' := by
  go_enter Try.func32, Try.ntmps32
  go_wp2
  go_ret
  exact ⟨rfl, rfl⟩

theorem run_make_row3 {P : Program} (t e : TypeId) (z0 z1 z2 : Value) (bytes : Nat) (ht : P.underlying t = some (.slice e)) (hinfo : (P.info? e).map (fun i => (i.zero, i.size, i.bytes)) = some (some (.agg #[z0, z1, z2]), 3, bytes))
    (kl kc : IntKind) (n : Nat) (hbytes : bytes * n ≤ 281474976710656) (h63 : n ≤ 9223372036854775807) (w : World) :
    (Instr.makeSlice t (.int kl (n : Int)) (.int kc (n : Int))).run P w = .ok (.slice (some ⟨w.heap.size, 0, none⟩) n n) (w.alloc (.cells (madeCells #[z0, z1, z2] (n * 3)) e)) := by
  obtain ⟨i, hi, hzz⟩ := Option.map_eq_some_iff.1 hinfo
  simp only [Prod.mk.injEq] at hzz
  obtain ⟨hz, hs, hb⟩ := hzz
  have hb' : (i.bytes : Int) * (n : Int) ≤ 281474976710656 := by
    have h : ((i.bytes * n : Nat) : Int) ≤ 281474976710656 := by rw [hb]; omega
    rwa [Int.natCast_mul] at h
  have hr := run_make (P := P) w t e i _ ht hi hz kl kc n n (by omega) (Int.le_refl _) hb' (by omega)
  simp only [Int.toNat_natCast, hs] at hr
  exact hr

/-- A row of three-cell elements. -/
def tri (f g h : Nat → Value) (j : Nat) : Value := if j % 3 = 0 then f (j / 3) else if j % 3 = 1 then g (j / 3) else h (j / 3)

theorem rowIs_made3 (w : World) (z0 z1 z2 : Value) (n : Nat) (t : TypeId) : (w.alloc (.cells (madeCells #[z0, z1, z2] (n * 3)) t)).rowIs w.heap.size t (n * 3) (tri (fun _ => z0) (fun _ => z1) (fun _ => z2)) :=
  ⟨_, Deep.blk_alloc_new _ _, size_madeCells _ _, fun i hi => by
    simp only [madeCells, Array.getElem?_map]
    rw [Array.getElem?_range]
    simp only [hi, if_true, Option.map_some, tri]
    have : i % 3 = 0 ∨ i % 3 = 1 ∨ i % 3 = 2 := by omega
    rcases this with h | h | h <;> simp [h]⟩

theorem row_fill3 {wr : World} {bl t n : Nat} {f g h z0 z1 z2 : Nat → Value} {k : Nat} (hr : wr.rowIs bl t n (fun j => if j < k * 3 then tri f g h j else tri z0 z1 z2 j)) :
    (((wr.setCell ⟨bl, k * 3, none⟩ (f k)).setCell ⟨bl, k * 3 + 1, none⟩ (g k)).setCell ⟨bl, k * 3 + 2, none⟩ (h k)).rowIs bl t n (fun j => if j < (k + 1) * 3 then tri f g h j else tri z0 z1 z2 j) :=
  (((hr.set (k * 3) (f k)).set (k * 3 + 1) (g k)).set (k * 3 + 2) (h k)).congr (fun j _ => by
    by_cases e2 : j = k * 3 + 2
    · subst e2
      simp [tri, show (k * 3 + 2) % 3 = 2 by omega, show (k * 3 + 2) / 3 = k by omega, show k * 3 + 2 < (k + 1) * 3 by omega]
    · by_cases e1 : j = k * 3 + 1
      · subst e1
        simp [tri, show (k * 3 + 1) % 3 = 1 by omega, show (k * 3 + 1) / 3 = k by omega, show k * 3 + 1 < (k + 1) * 3 by omega]
      · by_cases e0 : j = k * 3
        · subst e0
          simp [tri, show k * 3 < (k + 1) * 3 by omega]
        · have e : (j < (k + 1) * 3) = (j < k * 3) := by apply propext; omega
          simp only [e2, e1, e0, if_false, e])

/-- A node in memory: its after. -/
def NodeAt (w : World) (p L n : Nat) (Nd Wh : Nat → Int) (So : Nat → Bool) : Prop := w.cell? ⟨p, 4, none⟩ = some (.slice (some ⟨L, 0, none⟩) n n) ∧ LinksAt w (some ⟨L, 0, none⟩) n Nd Wh So
def NodeEnd (w : World) (n : Nat) (Nd Wh : Nat → Int) (So : Nat → Bool) (e : Ending) (w' : World) : Prop := ∃ p L, e = .returned (.pointer (some ⟨p, 0, none⟩)) ∧ Below w.heap.size w w' ∧ NodeAt w' p L n Nd Wh So

theorem NodeAt.below {w w' : World} {p L n : Nat} {Nd Wh : Nat → Int} {So : Nat → Bool} (h : NodeAt w p L n Nd Wh So) (hb : Below w.heap.size w w') : NodeAt w' p L n Nd Wh So :=
  ⟨(hb.cell (World.block_lt_of_cell? _ _ h.1)).trans h.1, h.2.below hb⟩

theorem NodeEnd.mk {w wr : World} {n : Nat} {Nd Wh : Nat → Int} {So : Nat → Bool} (hb : Below w.heap.size w wr) (c0 c1 c2 c3 : Value) (hrow : wr.rowIs w.heap.size 66 (n * 3) (fun j => if j < n * 3 then tri (fun j => .int .i64 (Nd j)) (fun j => .int .u8 (Wh j)) (fun j => .bool (So j)) j else tri (fun _ => .int .i64 0) (fun _ => .int .u8 0) (fun _ => .bool false) j)) :
    NodeEnd w n Nd Wh So (.returned (.pointer (some ⟨wr.heap.size, 0, none⟩))) (wr.alloc (.cells #[c0, c1, c2, c3, .slice (some ⟨w.heap.size, 0, none⟩) n n] 70)) := by
  refine ⟨wr.heap.size, w.heap.size, rfl, bel_alloc hb _, ?_, fun i hi => ⟨_, _, rfl, ?_, ?_, ?_⟩⟩
  · rw [World.cell?_alloc_at _ _ _ _ rfl]; rfl
  · have := (hrow.alloc (.cells #[c0, c1, c2, c3, .slice (some ⟨w.heap.size, 0, none⟩) n n] 70)).cell (i := i * 3) (by omega)
    simpa [tri, show i * 3 < n * 3 by omega] using this
  · have := (hrow.alloc (.cells #[c0, c1, c2, c3, .slice (some ⟨w.heap.size, 0, none⟩) n n] 70)).cell (i := i * 3 + 1) (by omega)
    simpa [tri, show i * 3 + 1 < n * 3 by omega, show (i * 3 + 1) % 3 = 1 by omega, show (i * 3 + 1) / 3 = i by omega] using this
  · have := (hrow.alloc (.cells #[c0, c1, c2, c3, .slice (some ⟨w.heap.size, 0, none⟩) n n] 70)).cell (i := i * 3 + 2) (by omega)
    simpa [tri, show i * 3 + 2 < n * 3 by omega, show (i * 3 + 2) % 3 = 2 by omega, show (i * 3 + 2) / 3 = i by omega] using this

set_option maxRecDepth 100000 in
set_option maxHeartbeats 1000000 in
theorem node24 (b0 b1 b2 n : Nat) (Nd Wh : Nat → Int) (So : Nat → Bool) (w : World) (hn : n ≤ 4096) (hb0 : b0 < w.heap.size) (hb1 : b1 < w.heap.size) (hb2 : b2 < w.heap.size)
    (h0 : ∀ i, i < n → w.cell? ⟨b0, i, none⟩ = some (.int .i64 (Nd i))) (h1 : ∀ i, i < n → w.cell? ⟨b1, i, none⟩ = some (.int .u8 (Wh i))) (h2 : ∀ i, i < n → w.cell? ⟨b2, i, none⟩ = some (.bool (So i))) :
    Calls Try.prog 24 #[.slice (some ⟨b0, 0, none⟩) n n, .slice (some ⟨b1, 0, none⟩) n n, .slice (some ⟨b2, 0, none⟩) n n] w fun e w' => NodeEnd w n Nd Wh So e w' := by
  have hmk := run_make_row3 (P := Try.prog) 63 66 _ _ _ 16 Try.underlying63 Try.info66 .i64 .i64 n (by omega) (by omega)
  go_enter Try.func24, Try.ntmps24
  go_wp2
  go_loopw [8, 14] (fun _ i wr => ∃ (k : Nat), k ≤ n ∧ i = .int .i64 k ∧ Below w.heap.size w wr ∧ wr.rowIs w.heap.size 66 (n * 3) (fun j => if j < k * 3 then tri (fun j => .int .i64 (Nd j)) (fun j => .int .u8 (Wh j)) (fun j => .bool (So j)) j else tri (fun _ => .int .i64 0) (fun _ => .int .u8 0) (fun _ => .bool false) j)) (fun _ i _ => n - (intOf i).toNat)
  case atStart => exact ⟨0, Nat.zero_le _, rfl, bel_alloc (Below.refl _ _) _, (rowIs_made3 w _ _ _ n 66).congr (fun j _ => by simp)⟩
  case round =>
    obtain ⟨k, hk, rfl, hbel, hrow⟩ := hrel
    clear hmk
    by_cases hlt : k < n
    · have hc0 : wr.cell? ⟨b0, k, none⟩ = some (.int .i64 (Nd k)) := (hbel.cell (by exact hb0)).trans (h0 k hlt)
      have hc1 : wr.cell? ⟨b1, k, none⟩ = some (.int .u8 (Wh k)) := (hbel.cell (by exact hb1)).trans (h1 k hlt)
      have hc2 : wr.cell? ⟨b2, k, none⟩ = some (.bool (So k)) := (hbel.cell (by exact hb2)).trans (h2 k hlt)
      have hd0 := hrow.cell (i := k * 3) (by omega)
      have hd1 := hrow.cell (i := k * 3 + 1) (by omega)
      have hd2 := hrow.cell (i := k * 3 + 2) (by omega)
      simp only [Nat.lt_irrefl, if_false, tri, show (k * 3) % 3 = 0 by omega, if_true, show ¬ (k * 3 + 1 < k * 3) by omega, show ¬ (k * 3 + 2 < k * 3) by omega, show (k * 3 + 1) % 3 = 1 by omega, show (k * 3 + 2) % 3 = 2 by omega, show ¬ ((1 : Nat) = 0) by omega, show ¬ ((2 : Nat) = 0) by omega, show ¬ ((2 : Nat) = 1) by omega] at hd0 hd1 hd2
      have hf0 := hrow.frozen (k * 3)
      have hf1 := hrow.frozen (k * 3 + 1)
      have hf2 := hrow.frozen (k * 3 + 2)
      go_wp2
      go_region
      go_wp2
      go_roundw
      case rel => exact ⟨k + 1, by omega, by go_num, (((hbel.setCell (Nat.le_refl _) _).setCell (Nat.le_refl _) _).setCell (Nat.le_refl _) _).drew, (row_fill3 (f := fun j => .int .i64 (Nd j)) (g := fun j => .int .u8 (Wh j)) (h := fun j => .bool (So j)) (z0 := fun _ => .int .i64 0) (z1 := fun _ => .int .u8 0) (z2 := fun _ => .bool false) hrow).drew⟩
      case measure => simp [intOf]; omega
    · obtain rfl : k = n := by omega
      go_wp2
      go_ret
      exact NodeEnd.mk hbel _ _ _ _ hrow
end Go.Proofs.Qxb6604581a
