import Derived.Test.Qxb6604581aMake
import Derived.Test.Qxb6604581aQuiet
namespace Go.Proofs.Qxb6604581a
open Go.RowKit
set_option linter.unusedVariables false


theorem Layout.nonneg {N : Int} {n : Nat} {Z : Nat → Int} (h : Layout N n Z) : ∀ k, k ≤ n → 0 ≤ pre Z k := by
  intro k
  induction k with
  | zero => intro _; exact Int.le_refl _
  | succ k ih => intro hk; have := ih (by omega); have := h.1 k (by omega); rw [pre_succ]; omega

theorem Layout.le_last {N : Int} {n : Nat} {Z : Nat → Int} (h : Layout N n Z) : ∀ d k, k + d = n → pre Z k ≤ N := by
  intro d
  induction d with
  | zero => intro k hk; obtain rfl : k = n := by omega
            rw [h.2]; exact Int.le_refl _
  | succ d ih => intro k hk; have := ih (k + 1) (by omega); have := h.1 k (by omega); rw [pre_succ] at *; omega

theorem Layout.top {N : Int} {n : Nat} {Z : Nat → Int} (h : Layout N n Z) {k : Nat} (hk : k < n) : Z k ≤ N := by
  have := h.le_last (n - (k + 1)) (k + 1) (by omega)
  rwa [pre_succ] at this

theorem Layout.mono {N : Int} {n : Nat} {Z : Nat → Int} (h : Layout N n Z) : ∀ d j, j + d ≤ n → pre Z j ≤ pre Z (j + d) := by
  intro d
  induction d with
  | zero => intro j _; exact Int.le_refl _
  | succ d ih => intro j hj; have := ih j (by omega); have := h.1 (j + d) (by omega); rw [show j + (d + 1) = (j + d) + 1 by omega, pre_succ]; omega

/-- How many of the first i candidates lie in list j. -/
def cnt (Z : Nat → Int) (i : Nat) (j : Nat) : Int := if (i : Int) ≤ pre Z j then 0 else if Z j ≤ i then Z j - pre Z j else i - pre Z j

theorem cnt_zero {N : Int} {n : Nat} {Z : Nat → Int} (h : Layout N n Z) {j : Nat} (hj : j < n) : cnt Z 0 j = 0 := by
  have := h.nonneg j (by omega)
  simp only [cnt]
  rw [if_pos (by omega)]

theorem cnt_full {n n2 : Nat} {Z : Nat → Int} (h : Layout n n2 Z) {j : Nat} (hj : j < n2) : cnt Z n j = Z j - pre Z j := by
  have h1 := h.1 j hj
  have h2 := h.top hj
  simp only [cnt]
  by_cases e : (n : Int) ≤ pre Z j
  · rw [if_pos e]; omega
  · rw [if_neg e, if_pos h2]

theorem cnt_bd {N : Int} {n : Nat} {Z : Nat → Int} (h : Layout N n Z) {j : Nat} (hj : j < n) (i : Nat) : 0 ≤ cnt Z i j ∧ cnt Z i j ≤ i := by
  have h1 := h.1 j hj
  have h2 := h.nonneg j (by omega)
  simp only [cnt]
  split
  · omega
  · split <;> omega

theorem cnt_here {N : Int} {n : Nat} {Z : Nat → Int} (h : Layout N n Z) {k i : Nat} (hk : k < n) (h1 : pre Z k ≤ i) (h2 : (i : Int) < Z k) : cnt Z (i + 1) k = cnt Z i k + 1 := by
  simp only [cnt]
  split <;> split <;> (try split) <;> (try split) <;> omega

theorem cnt_other {N : Int} {n : Nat} {Z : Nat → Int} (h : Layout N n Z) {k i j : Nat} (hk : k < n) (hj : j < n) (hne : j ≠ k) (h1 : pre Z k ≤ i) (h2 : (i : Int) < Z k) : cnt Z (i + 1) j = cnt Z i j := by
  have hj1 := h.1 j hj
  simp only [cnt]
  rcases Nat.lt_or_gt_of_ne hne with hlt | hgt
  · have := h.mono (k - (j + 1)) (j + 1) (by omega)
    rw [show j + 1 + (k - (j + 1)) = k by omega, pre_succ] at this
    split <;> split <;> (try split) <;> (try split) <;> omega
  · have := h.mono (j - (k + 1)) (k + 1) (by omega)
    rw [show k + 1 + (j - (k + 1)) = j by omega, pre_succ] at this
    split <;> split <;> (try split) <;> (try split) <;> omega

/-- What the law's own memory holds while it runs. -/
structure In3 (w wr : World) (D : Nat) (a b1 b2 : Option Addr) (n n2 : Nat) (I : Nat → ByteArray) (S : Nat → Nat) (Z : Nat → Int) : Prop where
  bel : Below w.heap.size w wr
  lt : D < wr.heap.size
  all : CandsAt wr a n I S
  cs : CandsAt wr b1 n I S
  ends : IntsAt wr b2 n2 Z
  i0 : wr.cell? ⟨D, 0, none⟩ = some (.slice b1 n n)
  i1 : wr.cell? ⟨D, 1, none⟩ = some (.slice b2 n2 n2)

theorem In3.below {w wr ws : World} {D : Nat} {a b1 b2 : Option Addr} {n n2 : Nat} {I : Nat → ByteArray} {S : Nat → Nat} {Z : Nat → Int} (h : In3 w wr D a b1 b2 n n2 I S Z) (hb : Below wr.heap.size wr ws) : In3 w ws D a b1 b2 n n2 I S Z :=
  ⟨h.bel.trans (hb.mono h.bel.size), Nat.lt_of_lt_of_le h.lt hb.size, h.all.below hb, h.cs.below hb, h.ends.below hb, (hb.cell (by exact h.lt)).trans h.i0, (hb.cell (by exact h.lt)).trans h.i1⟩

theorem In3.start {w w1 w2 : World} {a b1 b2 : Option Addr} {n n2 : Nat} {I : Nat → ByteArray} {S : Nat → Nat} {Z : Nat → Int} (hA : CandsAt w a n I S) (hb1 : Below w.heap.size w w1) (hE1 : IntsAt w1 b2 n2 Z) (hb2 : Below w1.heap.size w1 w2) (hA2 : CandsAt w2 b1 n I S) (o : Obj) :
    In3 w ((w2.alloc o).alloc (.cells #[.slice b1 n n, .slice b2 n2 n2] 31)) (w2.heap.size + 1) a b1 b2 n n2 I S Z := by
  have hb3 : Below w2.heap.size w2 ((w2.alloc o).alloc (.cells #[.slice b1 n n, .slice b2 n2 n2] 31)) := ((Below.refl _ _).alloc (Nat.le_refl _) _).alloc (by simp) _
  have hb12 : Below w.heap.size w w2 := hb1.trans (hb2.mono hb1.size)
  refine ⟨hb12.trans (hb3.mono hb12.size), by simp, (hA.below hb12).below hb3, hA2.below hb3, (hE1.below hb2).below hb3, ?_, ?_⟩
  · rw [World.cell?_alloc_at _ _ _ _ (by simp)]; rfl
  · rw [World.cell?_alloc_at _ _ _ _ (by simp)]; rfl

/-- .. and the counts, in block C, behind all that. -/
def Loop3 (w wr : World) (C D : Nat) (a b1 b2 : Option Addr) (n n2 : Nat) (I : Nat → ByteArray) (S : Nat → Nat) (Z : Nat → Int) (f : Nat → Value) : Prop :=
  ∃ W, W.heap.size = C ∧ In3 w W D a b1 b2 n n2 I S Z ∧ Below W.heap.size W wr ∧ wr.rowIs C 3 n2 f

section
variable {w wr ws : World} {C D : Nat} {a b1 b2 : Option Addr} {n n2 : Nat} {I : Nat → ByteArray} {S : Nat → Nat} {Z : Nat → Int} {f g : Nat → Value}
theorem Loop3.in3 (h : Loop3 w wr C D a b1 b2 n n2 I S Z f) : In3 w wr D a b1 b2 n n2 I S Z := by
  obtain ⟨W, rfl, h1, h2, _⟩ := h
  exact h1.below h2
theorem Loop3.row (h : Loop3 w wr C D a b1 b2 n n2 I S Z f) : wr.rowIs C 3 n2 f := by
  obtain ⟨W, rfl, h1, h2, h3⟩ := h
  exact h3
theorem Loop3.below (h : Loop3 w wr C D a b1 b2 n n2 I S Z f) (hb : Below wr.heap.size wr ws) : Loop3 w ws C D a b1 b2 n n2 I S Z f := by
  obtain ⟨W, rfl, h1, h2, h3⟩ := h
  exact ⟨W, rfl, h1, h2.trans (hb.mono h2.size), h3.of_block (hb.block _ h3.lt)⟩
theorem Loop3.store (h : Loop3 w wr C D a b1 b2 n n2 I S Z f) (k : Nat) (v : Value) (hg : ∀ j, j < n2 → (if j = k then v else f j) = g j) : Loop3 w (wr.setCell ⟨C, k, none⟩ v) C D a b1 b2 n n2 I S Z g := by
  obtain ⟨W, rfl, h1, h2, h3⟩ := h
  exact ⟨W, rfl, h1, h2.setCell (Nat.le_refl _) _, (h3.set k v).congr hg⟩
theorem Loop3.start {w1 w2 : World} (hA : CandsAt w a n I S) (hb1 : Below w.heap.size w w1) (hE1 : IntsAt w1 b2 n2 Z) (hb2 : Below w1.heap.size w1 w2) (hA2 : CandsAt w2 b1 n I S) (o : Obj) (hf : ∀ j, j < n2 → Value.int .i64 0 = f j) :
    Loop3 w (((w2.alloc o).alloc (.cells #[.slice b1 n n, .slice b2 n2 n2] 31)).alloc (.cells (madeCells #[.int .i64 0] n2) 3)) (w2.heap.size + 1 + 1) (w2.heap.size + 1) a b1 b2 n n2 I S Z f := by
  have hs : ((w2.alloc o).alloc (.cells #[.slice b1 n n, .slice b2 n2 n2] 31)).heap.size = w2.heap.size + 1 + 1 := by simp
  have hr := (World.rowIs_made ((w2.alloc o).alloc (.cells #[.slice b1 n n, .slice b2 n2 n2] 31)) (.int .i64 0) n2 3).congr hf
  rw [hs] at hr
  exact ⟨_, hs, In3.start hA hb1 hE1 hb2 hA2 o, (Below.refl _ _).alloc (Nat.le_refl _) _, hr⟩
end

set_option maxRecDepth 100000 in
set_option maxHeartbeats 1000000 in
theorem law3' (a a2 : Option Addr) (n c n2 c2 : Nat) (I : Nat → ByteArray) (S : Nat → Nat) (Z : Nat → Int) (w : World) (hn : n ≤ 65536) (hn2 : n2 ≤ 65536) (hA : CandsAt w a n I S) (hE : IntsAt w a2 n2 Z) :
    Calls Try.prog 3 #[.slice a n c, .slice a2 n2 c2] w fun e w' => e = .returned (.bool true) ∧ Below w.heap.size w w' := by
  have hmx : n ≤ maxLen := by unfold maxLen; omega
  have hmx2 : n2 ≤ maxLen := by unfold maxLen; omega
  go_enter Try.func3, Try.ntmps3
  go_wp2_with fail
  refine (bytes7 a n c n2 c2 a2 I S w hmx hA).mono ?_
  rintro e w' ⟨rfl, r, rfl⟩
  cases r
  · go_wp2_with fail
    go_ret
    exact ⟨rfl, Below.refl _ _⟩
  go_wp2_with fail
  refine (add8 a n c _ I S w hmx hA).mono ?_
  rintro e w' ⟨rfl, v, rfl⟩
  by_cases hv : 1048576 < v
  · go_wp2_with fail
    go_ret
    exact ⟨rfl, Below.refl _ _⟩
  go_wp2_with fail
  refine (lay9 a2 n2 c2 _ Z w hmx2 hE).mono ?_
  rintro e w' ⟨rfl, r, rfl, hr⟩
  cases r
  · go_wp2_with fail
    go_ret
    exact ⟨rfl, Below.refl _ _⟩
  have hL : Layout n n2 Z := hr rfl
  clear hr
  go_wp2_with fail
  refine (clone10 a2 n2 c2 Z w (by omega) hE).mono ?_
  rintro e w1 ⟨b2, rfl, hb1, hE1⟩
  go_wp2_with fail
  refine (cands11 a n c I S w1 (by omega) (hA.below hb1)).mono ?_
  rintro e w2 ⟨b1, rfl, hb2, hA2, hp⟩
  go_wp2_with fail
  refine (input12 b1 b2 n n n2 n2 w2).mono ?_
  rintro e w3 ⟨rfl, rfl⟩
  have hmk := run_make_row' (P := Try.prog) 23 3 (.int .i64 0) 8 Try.underlying23 Try.info3 rfl .i64 .i64 n2 (by omega) (by omega)
  go_wp2_with fail
  have L0 : Loop3 w _ (w2.heap.size + 1 + 1) (w2.heap.size + 1) a b1 b2 n n2 I S Z (fun j => .int .i64 (cnt Z 0 j)) := Loop3.start hA hb1 hE1 hb2 hA2 (.cells #[.slice b1 n n, .slice b2 n2 n2] 31) (fun j hj => by rw [cnt_zero hL hj])
  clear hmk
  go_loopw [8, 9, 10] (fun kv sv iv wr => ∃ k i : Nat, i ≤ n ∧ k ≤ n2 ∧ kv = .int .i64 k ∧ iv = .int .i64 i ∧ sv = .int .i64 (pre Z k) ∧ pre Z k ≤ i ∧ Loop3 w wr (w2.heap.size + 1 + 1) (w2.heap.size + 1) a b1 b2 n n2 I S Z (fun j => .int .i64 (cnt Z i j)))
    (fun _ _ iv _ => n - (intOf iv).toNat)
  case atStart => exact ⟨0, 0, Nat.zero_le _, Nat.zero_le _, rfl, rfl, rfl, Int.le_refl _, L0⟩
  case round =>
    obtain ⟨k0, i, hi, hk0, rfl, rfl, rfl, hp0, L⟩ := hrel
    clear L0
    by_cases hlt : i < n
    · have F := L.in3
      obtain ⟨ba, oa, rfl, hcI, hcS⟩ := F.all i hlt
      go_wp2_with fail
      go_loop [8, 9] (fun kv sv => ∃ k : Nat, k ≤ n2 ∧ kv = .int .i64 k ∧ sv = .int .i64 (pre Z k) ∧ pre Z k ≤ i) (fun kv _ => n2 - (intOf kv).toNat)
      case atStart => exact ⟨k0, hk0, rfl, rfl, hp0⟩
      case round =>
        obtain ⟨k, hk, rfl, rfl, hpk⟩ := hrel
        have hk2 : k < n2 := by
          rcases Nat.lt_or_eq_of_le hk with h | h
          · exact h
          · subst h; have := hL.2; omega
        obtain ⟨be, oe, rfl, hcE⟩ := F.ends k hk2
        by_cases hz : Z k ≤ i
        · go_wp2_with fail
          go_round
          case rel => exact ⟨k + 1, by omega, by go_num, by rw [pre_succ], by rw [pre_succ]; exact hz⟩
          case measure => simp [intOf]; omega
        · have hi0 := F.i0
          have hi1 := F.i1
          have h0 := hL.nonneg k hk
          have h1 := hL.1 k hk2
          have h2 := hL.top hk2
          go_wp2_with fail
          refine (list13 b1 (some ⟨be, oe, none⟩) n n n2 n2 k _ Z wr rfl hk2 (by omega) hp (Nat.le_refl _) F.ends h0 h1 h2).mono ?_
          rintro e w4 ⟨hb4, rfl⟩
          have L4 := L.below hb4
          have F4 := L4.in3
          obtain ⟨bc, oc, rfl, hdI, hdS⟩ := F4.cs i hlt
          obtain ⟨ba', oa', e', hcI', hcS'⟩ := F4.all i hlt
          simp only [Option.some.injEq, Addr.mk.injEq] at e'
          obtain ⟨rfl, rfl, _⟩ := e'
          rw [lstAddr_lt _ _ _ _ h0 (by omega)]
          obtain ⟨q, hq⟩ : ∃ q : Nat, (i : Int) - pre Z k = q := ⟨((i : Int) - pre Z k).toNat, by omega⟩
          have hadd : oc + (pre Z k).toNat * 2 + q * 2 = oc + i * 2 := by omega
          have hdI' : w4.cell? ⟨bc, oc + (pre Z k).toNat * 2 + q * 2, none⟩ = some (.string (I i)) := by rw [hadd]; exact hdI
          have hdS' : w4.cell? ⟨bc, oc + (pre Z k).toNat * 2 + q * 2 + 1, none⟩ = some (.float .f64 (S i)) := by rw [hadd]; exact hdS
          have hqm : q < (Z k - pre Z k).toNat := by omega
          generalize (Z k - pre Z k).toNat = m at *
          have hg : decide (m ≤ q) = false := decide_eq_false (by omega)
          have hg1 : decide ((m : Int) ≤ (q : Int)) = false := decide_eq_false (by omega)
          have hg2 : (q : Int) < (m : Int) := by omega
          clear hadd hdI hdS hi0 hi1 hcI hcS hA2 hA hE1 hb2 hb1 hE
          go_wp2_with fail
          have hne := Ext.some w4
          have q1 := fun y => Ext.cell hdI' y
          have q2 := fun y => Ext.cell hdS' y
          have q3 := fun y => Ext.cell hcI' y
          have q4 := fun y => Ext.cell hcS' y
          refine wp_region_ext (by kernel_rfl) (by kernel_rfl) ?_
          repeat (go_big_quiet_step ((go_at_call 14; exact Ext.call ((sameCand _ _ _).mono fun e w' hh => ⟨hh.1, by rw [hh.2]; exact ((Below.refl _ _).alloc (Nat.le_refl _) _).alloc (by simp) _⟩))))
          refine wpQuiet_nil ?_
          intro w5 hw5
          obtain ⟨y, rfl⟩ := hw5
          clear q1 q2 q3 q4 hne
          have Ly := L4.below y.bel
          have hy1 := Ly.row.cell hk2
          have hy2 := Ly.row.frozen k
          have hcb := cnt_bd hL hk2 i
          go_wp2_with fail
          go_roundw
          case rel => exact ⟨k, i + 1, by omega, hk, rfl, by go_num, rfl, by omega, Ly.store k _ (fun j hj => by
            by_cases e : j = k
            · subst e; rw [if_pos rfl, cnt_here hL hk2 hpk hz]
            · rw [if_neg e, cnt_other hL hk2 hj e hpk hz])⟩
          case measure => simp [intOf]; omega
    · obtain rfl : i = n := by omega
      go_wp2_with fail
      go_loopw [13] (fun jv wj => ∃ j : Nat, j ≤ n2 ∧ jv = .int .i64 j ∧ Loop3 w wj (w2.heap.size + 1 + 1) (w2.heap.size + 1) a b1 b2 i n2 I S Z (fun j => .int .i64 (cnt Z i j))) (fun jv _ => n2 - (intOf jv).toNat)
      case atStart => exact ⟨0, Nat.zero_le _, rfl, L⟩
      case round =>
        obtain ⟨j, hj, rfl, Lj⟩ := hrel
        clear L
        by_cases hlt2 : j < n2
        · have F := Lj.in3
          have hi0 := F.i0
          have hi1 := F.i1
          have h0 := hL.nonneg j hj
          have h1 := hL.1 j hlt2
          have h2 := hL.top hlt2
          have hy1 := Lj.row.cell hlt2
          have hne := Ext.some wr
          have q1 := fun y => Ext.cell hi0 y
          have q2 := fun y => Ext.cell hi1 y
          have q3 := fun y => Ext.cell hy1 y
          have hj2 : (j : Int) < (n2 : Int) := by omega
          have hcnt := cnt_full hL hlt2
          have hneq : (((Z j - pre Z j).toNat : Int) != cnt Z i j) = false := by rw [hcnt]; simp; omega
          clear hcnt hy1 hi0 hi1
          go_wp2_with fail
          refine wp_region_ext (by kernel_rfl) (by kernel_rfl) ?_
          repeat (go_big_quiet_step ((go_at_call 13; exact Ext.call ((list13 b1 b2 i i n2 n2 j _ Z _ rfl hlt2 (by omega) hp (Nat.le_refl _) (F.ends.below (Ext.bel _)) h0 h1 h2).mono fun e w' hh => ⟨hh.2, hh.1⟩))))
          refine wpQuiet_nil ?_
          intro w5 hw5
          obtain ⟨y, rfl⟩ := hw5
          clear q1 q2 q3 hne
          have Ly := Lj.below y.bel
          go_wp2_with fail
          go_roundw
          case rel => exact ⟨j + 1, by omega, by go_num, Ly⟩
          case measure => simp [intOf]; omega
        · go_wp2_with fail
          go_ret
          exact ⟨rfl, Lj.in3.bel⟩
theorem law3big (a a2 : Option Addr) (n c n2 c2 : Nat) (I : Nat → ByteArray) (S : Nat → Nat) (w : World) (hn : n ≤ maxLen) (hbig : 65536 < n ∨ 65536 < n2) (hA : CandsAt w a n I S) :
    Calls Try.prog 3 #[.slice a n c, .slice a2 n2 c2] w fun e w' => e = .returned (.bool true) ∧ Below w.heap.size w w' := by
  by_cases h1 : 65536 < n
  · have h1' : (65536 : Int) < n := by omega
    go_enter Try.func3, Try.ntmps3
    go_wp2_with fail
    refine (bytes7 a n c n2 c2 a2 I S w hn hA).mono ?_
    rintro e w' ⟨rfl, r, rfl⟩
    cases r
    · go_wp2_with fail
      go_ret
      exact ⟨rfl, Below.refl _ _⟩
    go_wp2_with fail
    go_ret
    exact ⟨rfl, Below.refl _ _⟩
  · have h2 : 65536 < n2 := by omega
    have h2' : (65536 : Int) < n2 := by omega
    clear hbig
    go_enter Try.func3, Try.ntmps3
    go_wp2_with fail
    refine (bytes7 a n c n2 c2 a2 I S w hn hA).mono ?_
    rintro e w' ⟨rfl, r, rfl⟩
    cases r
    · go_wp2_with fail
      go_ret
      exact ⟨rfl, Below.refl _ _⟩
    go_wp2_with fail
    go_ret
    exact ⟨rfl, Below.refl _ _⟩

theorem law3 (a a2 : Option Addr) (n c n2 c2 : Nat) (I : Nat → ByteArray) (S : Nat → Nat) (Z : Nat → Int) (w : World) (hn : n ≤ maxLen) (hA : CandsAt w a n I S) (hE : IntsAt w a2 n2 Z) :
    Calls Try.prog 3 #[.slice a n c, .slice a2 n2 c2] w fun e w' => e = .returned (.bool true) ∧ Below w.heap.size w w' := by
  by_cases h : 65536 < n ∨ 65536 < n2
  · exact law3big a a2 n c n2 c2 I S w hn h hA
  · exact law3' a a2 n c n2 c2 I S Z w (by omega) (by omega) hA hE

end Go.Proofs.Qxb6604581a
