import Derived.Test.Qxb6603581aNew
import Derived.Test.Qxb6603581aShelf
import Derived.Maps.OwnSet
import Derived.Maps.AppendAt
import Derived.Sort.OwnSortedInts
namespace Go.Proofs.Qxb6603581a
open Go.RowKit Go.Maps
set_option linter.unusedVariables false

theorem law3 : Keyed Try.prog 3 := int_keyed Try.underlying3
theorem zero4 (w : World) : (zeroValue 4).run Try.prog w = .ok (.bool false) w := by kernel_rfl
theorem Try.info3 : (Try.prog.info? 3).map (fun i => (i.zero, i.size, i.bytes)) = some (some (.int .i64 0), 1, 8) := by kernel_rfl

theorem plainElem_bool_inv {H : Type} {P : Program} {e : TypeId} (he : P.underlying e = some .bool) {v : Value} {z : DataW H × List MemPlace} (h : plainElem P e v = some z) : ∃ a, v = .bool a ∧ z = (.lit (.bool a), []) := by
  unfold plainElem at h
  rw [he] at h
  cases v <;> simp at h
  exact ⟨_, rfl, h.symm⟩

/-- 'm[k]' AT ELEMENTS THAT ARE BOOLS. -/
theorem wpList_lookup_own_bool {H : Type} {P : Program} (w : World) {ops : Array Oper} {rest : List Oper} {o : Oper} {a : Act} {Q : Exit → Act → World → Prop}
    (hg : o.guard = none) (m x : Operand) (t : TypeId) (hop : o.op = Op.lookup t m x false)
    (k e : TypeId) (K : Keyed P k) (ht : P.underlying t = some (.map k e)) (he : P.underlying e = some .bool) (hz : (zeroValue e).run P w = .ok (.bool false) w) (b n : Nat) (D : DataW H)
    (hm : a.eval m = .map (some b)) (hown : w.ownsMap P k (plainElem P e) b n D) (key : Value) (kl : Lit) (hx : a.eval x = key) (hkey : keyOf P k key = some kl)
    (hK : ∀ c : Bool, D.atKey kl (.lit (.bool false)) = .lit (.bool c) → wpList P ops Q rest (a.put o.dst (.bool c)) w) :
    wpList P ops Q (o :: rest) a w := by
  refine wpList_plain hg fun K' hK' => ?_
  obtain ⟨v, ps, hrun, hv⟩ := hown.lookup K ht hz (plainElem_bool he false) hkey
  obtain ⟨c, rfl, hc⟩ := plainElem_bool_inv he hv
  simp only [Prod.mk.injEq] at hc
  unfold Oper.wp
  simp [execOp, hop, hm, hx, hrun, Result.andThen]
  exact hK' _ _ (hK c hc.1)

theorem methW (a : Addr) (w : World) : (method 193 49 (.pointer (some a)) "Write").run Try.prog w = .ok (57, .pointer (some a)) w := by kernel_rfl
theorem methS (a : Addr) (w : World) : (method 193 49 (.pointer (some a)) "Sum32").run Try.prog w = .ok (56, .pointer (some a)) w := by kernel_rfl
theorem nilS (a : Addr) (w : World) : (nilAhead 193 49 (.pointer (some a)) "Sum32").run Try.prog w = .ok (some false) w := by kernel_rfl
theorem nilW (a : Addr) (w : World) : (nilAhead 193 49 (.pointer (some a)) "Write").run Try.prog w = .ok (some false) w := by kernel_rfl

theorem sumQ {p : Addr} {x : Int} {w : World} (h : w.cell? p = some (.int .u32 x)) (n : Nat) : Calls Try.prog 56 #[.pointer (some p)] (w.drewN n) fun e w'' => e = .returned (.int .u32 x) ∧ ∃ m, w'' = w.drewN m :=
  Calls.quiet_of_same ((sum56 p x (w.drewN n) h).mono fun _ _ h => ⟨h.2, h.1⟩)

theorem row_ne {w : World} {base : Nat} {e : TypeId} {size : Nat} {v : Value} {n : Nat} {xs : List Value} (h : w.ownsRow base e size v n xs) {b : Nat} (hb : b < base) : some b ≠ v.ownBlock := fun e1 => by
  have := (h.lt b e1.symm).1
  omega

/-- A slice of ints. -/
def IntsAt (w : World) (a : Option Addr) (n : Nat) (Z : Nat → Int) : Prop :=
  ∀ i, i < n → ∃ b off, a = some ⟨b, off, none⟩ ∧ w.cell? ⟨b, off + i, none⟩ = some (.int .i64 (Z i))

theorem IntsAt.below {w w' : World} {a : Option Addr} {n : Nat} {Z : Nat → Int} (h : IntsAt w a n Z) (hb : Below w.heap.size w w') : IntsAt w' a n Z := by
  intro i hi
  obtain ⟨b, off, e, h1⟩ := h i hi
  exact ⟨b, off, e, (hb.cell (World.block_lt_of_cell? _ _ h1)).trans h1⟩

/-- The slots gathered behind k rounds: each once, in the order of their first coming. -/
def G (S : Nat → Int) : Nat → List Int
  | 0 => []
  | k + 1 => if (G S k).contains (S k) then G S k else G S k ++ [S k]

theorem G_le (S : Nat → Int) : ∀ k, (G S k).length ≤ k
  | 0 => by simp [G]
  | k + 1 => by
    have ih := G_le S k
    unfold G
    split
    · omega
    · simp; omega

theorem G_old (S : Nat → Int) (k : Nat) (h : (G S k).contains (S k) = true) : G S (k + 1) = G S k := by rw [G, if_pos h]
theorem G_new (S : Nat → Int) (k : Nat) (h : (G S k).contains (S k) = false) : G S (k + 1) = G S k ++ [S k] := by rw [G, if_neg (by rw [h]; simp)]

/-- The set of them, a ghost. -/
def Gd (S : Nat → Int) (k : Nat) : DataW Unit := setOf (.lit (.bool true)) ((G S k).map (Lit.int .i64))
theorem Gd_zero (S : Nat → Int) : Gd S 0 = .map [] := by simp [Gd, G, setOf]
theorem Gd_old (S : Nat → Int) (k : Nat) (h : (G S k).contains (S k) = true) : Gd S (k + 1) = Gd S k := by unfold Gd; rw [G_old S k h]
theorem Gd_new (S : Nat → Int) (k : Nat) (h : (G S k).contains (S k) = false) : Gd S (k + 1) = (Gd S k).put (.int .i64 (S k)) (.lit (.bool true)) := by
  unfold Gd
  rw [G_new S k h, List.map_append, List.map_cons, List.map_nil, setOf_snoc]

theorem isMap_setOf (u : DataW Unit) (l : List Lit) : IsMap (setOf u l) := by
  unfold setOf
  suffices ∀ (D : DataW Unit), IsMap D → IsMap (l.foldl (fun m x => m.put x u) D) from this _ ⟨_, rfl⟩
  induction l with
  | nil => intro D h; exact h
  | cons x r ih =>
    intro D h
    obtain ⟨es, rfl⟩ := h
    exact ih _ ⟨_, rfl⟩

theorem setOf_at (x : Int) (l : List Int) : (setOf (H := Unit) (.lit (.bool true)) (l.map (Lit.int .i64))).atKey (.int .i64 x) (.lit (.bool false)) = .lit (.bool (l.contains x)) := by
  suffices ∀ r : List Int, (setOf (H := Unit) (.lit (.bool true)) (r.reverse.map (Lit.int .i64))).atKey (.int .i64 x) (.lit (.bool false)) = .lit (.bool (r.contains x)) by
    have := this l.reverse
    simpa using this
  intro r
  induction r with
  | nil => simp [setOf, DataW.atKey]
  | cons a r ih =>
    rw [List.reverse_cons, List.map_append, List.map_cons, List.map_nil, setOf_snoc]
    by_cases e : x = a
    · subst e
      rw [atKey_put_same (k := .int .i64 x) (isMap_setOf _ _) trivial]
      simp
    · rw [atKey_put_other (by simpa using e), ih]
      simp [e]

theorem Gd_at (S : Nat → Int) (k : Nat) (x : Int) : (Gd S k).atKey (.int .i64 x) (.lit (.bool false)) = .lit (.bool ((G S k).contains x)) := setOf_at x _

/-- The slots in ascending order. -/
def T (S : Nat → Int) (n : Nat) : List Int := (G S n).mergeSort fun x y => decide (x ≤ y)
theorem T_length (S : Nat → Int) (n : Nat) : (T S n).length = (G S n).length := by simp [T]

set_option maxHeartbeats 800000 in
set_option maxRecDepth 100000 in
theorem slots12 (sb : Nat) (q : Option Addr) (a : Option Addr) (n c : Nat) (A : Nat → Option Addr) (N C : Nat → Nat) (V : Nat → Nat → Int) (S : Nat → Int) (w : World) (hn : n ≤ 2097152) (hN : ∀ i, i < n → N i ≤ 1048576) (hS : ∀ i, i < n → S i = hs (V i) (N i) % 4096) (h : KeysAt w a n A N C V) (hp : w.cell? ⟨sb, 0, none⟩ = some (.slice q 4096 4096)) :
    Calls Try.prog 12 #[.pointer (some ⟨sb, 0, none⟩), .slice a n c] w fun e w' => ∃ a' c', e = .returned (.slice a' (T S n).length c') ∧ Below w.heap.size w w' ∧ IntsAt w' a' (T S n).length (fun i => (T S n).getD i 0) := by
  have hmm := @run_makeMap Try.prog
  have m1 := methW
  have m2 := methS
  have m3 := nilS
  have m4 := nilW
  obtain ⟨i0, hi, hz0, hz1, hz2⟩ := info_parts Try.info3
  go_enter Try.func12, Try.ntmps12
  go_wp2_with fail
  go_loopw [6, 14] (fun v i wr => ∃ k : Nat, k ≤ n ∧ i = .int .i64 k ∧ wr.ownsMap Try.prog 3 (plainElem Try.prog 4) w.heap.size k (Gd S k) ∧ wr.ownsRow (w.heap.size + 1) 3 1 v (G S k).length ((G S k).map (Value.int .i64)) ∧
      Below w.heap.size w wr ∧ w.heap.size + 1 ≤ wr.heap.size ∧ (G S k = [] → v = .slice none 0 0))
    (fun _ i _ => n - (intOf i).toNat)
  case atStart => exact ⟨0, Nat.zero_le _, rfl, by rw [Gd_zero]; exact World.ownsMap_made _ _ _ _, World.ownsRow_nil _ _ _ _, (Below.refl _ _).alloc (Nat.le_refl _) _, by simp, fun _ => rfl⟩
  case round =>
    obtain ⟨k, hk, rfl, hown, hrow, hnx, hws, hnil⟩ := hrel
    have hal := G_le S k
    by_cases hlt : k < n
    · obtain ⟨b, off, rfl, hc0⟩ := h.row k hlt
      have hc := (hnx.cell (World.block_lt_of_cell? _ _ hc0)).trans hc0
      have hSk := hS k hlt
      go_wp2_with fail
      refine (new13 wr).mono ?_
      rintro e w4 ⟨rfl, rfl⟩
      have hB := ((h.each k hlt).below hnx).below ((Below.refl wr.heap.size wr).alloc (Nat.le_refl _) (.cells #[.int .u32 2166136261] 48))
      have hNk := hN k hlt
      go_wp2_with fail
      refine (write57 _ (A k) (N k) (C k) (V k) _ hNk hB (by simp only [World.cell?, Deep.blk_alloc_new]; rfl) (by simp only [World.frozen?, Deep.blk_alloc_new]; rfl)).mono ?_
      rintro e w4 ⟨rfl, v0, rfl⟩
      rw [World.setCell_alloc_new]
      obtain ⟨w5, hw5⟩ : ∃ w5, w5 = wr.alloc (.cells (#[Value.int .u32 2166136261].setIfInBounds 0 (.int .u32 (hs (V k) (N k)))) 48) := ⟨_, rfl⟩
      rw [← hw5]
      have hh : w5.cell? ⟨wr.heap.size, 0, none⟩ = some (.int .u32 (hs (V k) (N k))) := by rw [hw5, World.cell?_alloc_new]; rfl
      have hnx5 : Below w.heap.size w w5 := by rw [hw5]; exact hnx.alloc hnx.size _
      have hp5 : w5.cell? ⟨sb, 0, none⟩ = some (.slice q 4096 4096) := (hnx5.cell (World.block_lt_of_cell? _ _ hp)).trans hp
      have hown5 : w5.ownsMap Try.prog 3 (plainElem Try.prog 4) w.heap.size k (Gd S k) := by rw [hw5]; exact hown.alloc _
      have hrow5 := hrow.alloc (.cells (#[Value.int .u32 2166136261].setIfInBounds 0 (.int .u32 (hs (V k) (N k)))) 48)
      rw [← hw5] at hrow5
      have hws5 : w.heap.size + 1 ≤ w5.heap.size := by rw [hw5]; simp; omega
      obtain ⟨r1, r2⟩ := hs_range (V k) (N k)
      generalize hH : hs (V k) (N k) = hv at hh r1 r2 hSk
      clear hw5 hown hrow hnx hws hc hB hc0
      go_wp2_with fail
      go_quiet ((go_at_call 56; exact sumQ hh _))
      replace hnx5 : Below w.heap.size w (w5.drewN nq) := hnx5.trans ⟨rfl, rfl, rfl, Nat.le_refl _, fun _ _ => rfl⟩
      replace hown5 : (w5.drewN nq).ownsMap Try.prog 3 (plainElem Try.prog 4) w.heap.size k (Gd S k) := hown5
      replace hrow5 : (w5.drewN nq).ownsRow (w.heap.size + 1) 3 1 u6 (G S k).length ((G S k).map (Value.int .i64)) := hrow5
      replace hws5 : w.heap.size + 1 ≤ (w5.drewN nq).heap.size := hws5
      clear hh hp5
      generalize w5.drewN nq = w6 at hnx5 hown5 hrow5 hws5 ⊢
      have hkey : keyOf Try.prog 3 (.int .i64 (hv % 4096)) = some (.int .i64 (hv % 4096)) := keyOf_int_mk Try.underlying3 (WalkArith.wf_i64 (by omega))
      go_wp2_with (first
        | (at_lookup; refine wpList_lookup_own_bool _ rfl _ _ 38 rfl 3 4 law3 Try.underlying38 Try.underlying4 (zero4 _) w.heap.size k _ rfl hown5 _ _ rfl hkey ?_; intro cb hat; rw [Gd_at] at hat)
        | (at_mapUpdate; refine wpList_mapUpdate_own _ rfl _ _ _ 38 rfl 3 4 law3 Try.underlying38 _ w.heap.size k _ rfl hown5 (by unfold maxLen; omega) _ _ _ rfl rfl hkey _ [] (plainElem_bool Try.underlying4 true) ?_; intro w1 hown1 hgrow1)
        | (at_builtin; refine wpList_append_own _ rfl _ _ 29 rfl (w.heap.size + 1) 3 i0 (.int .i64 0) 1 8 Try.underlying29 hi hz0 hz1 hz2 rfl (by decide) _ _ _ rfl ((hrow5.kept hgrow1 (Or.inr (row_ne hrow5 (Nat.lt_succ_self _)).symm)).alloc _) ⟨w1.heap.size, 0, none⟩ 1 1 [.int .i64 (hv % 4096)] rfl rfl (cell_one_new _ _ _) (ints_oneCell .i64 [hv % 4096]) (by unfold maxLen; omega) (by omega) (by have := hgrow1.size; simp at this ⊢; omega) ?_; intro v' w2 hown' hgrow2 hnil2)
        | go_in)
      · -- a new slot
        have hcb : (G S k).contains (S k) = false := by
          rw [hSk]
          simp only [DataW.lit.injEq, Lit.bool.injEq] at hat
          rw [hat]
          have ht : (!cb) = true := by assumption
          simpa using ht
        have hr1 := hrow5.kept hgrow1 (Or.inr (row_ne hrow5 (Nat.lt_succ_self _)).symm)
        have s1 := hgrow1.size
        have s2 := hgrow2.size
        simp at s1 s2
        rw [← hSk] at hown1 hown'
        go_roundw
        case rel =>
          refine ⟨k + 1, by omega, by go_num, ?_, ?_, ?_, by omega, fun h => absurd h (by rw [G_new S k hcb]; simp)⟩
          · rw [Gd_new S k hcb]
            exact (hown1.alloc _).kept hgrow2 (row_ne hr1 (Nat.lt_succ_self _))
          · rw [G_new S k hcb]
            simpa using hown'
          · exact ((hnx5.grown hgrow1 (by omega) (fun j hj => by cases hj; exact Nat.le_refl _)).alloc (by omega) _).grown hgrow2 (by simp; omega) (fun j hj => Nat.le_trans (Nat.le_succ _) (hr1.lt j hj).1)
        case measure => simp [intOf]; omega
      · -- one that was seen
        have hcb : (G S k).contains (S k) = true := by
          rw [hSk]
          simp only [DataW.lit.injEq, Lit.bool.injEq] at hat
          rw [hat]
          have ht : (!cb) = false := by assumption
          simpa using ht
        go_roundw
        case rel =>
          refine ⟨k + 1, by omega, by go_num, ?_, ?_, hnx5, hws5, fun h => hnil (by rw [← G_old S k hcb]; exact h)⟩
          · rw [Gd_old S k hcb]
            exact hown5.mono (Nat.le_succ _)
          · rw [G_old S k hcb]
            exact hrow5
        case measure => simp [intOf]; omega
    · obtain rfl : k = n := by omega
      go_wp2_with fail
      by_cases hG : G S k = []
      · obtain rfl := hnil hG
        refine (Try.sort_Ints_none none 0 wr).mono ?_
        rintro e w' ⟨rfl, rfl⟩
        have hT : (T S k).length = 0 := by rw [T_length, hG]; rfl
        go_wp2_with fail
        go_ret
        exact ⟨none, 0, by rw [hT]; rfl, hnx, fun i hi => by omega⟩
      · rcases hrow.2 with ⟨_, h0⟩ | ⟨g, cap, cur, rfl, hbase, hb, h1, h2, h3, h4⟩
        · exact absurd (List.eq_nil_of_length_eq_zero h0) hG
        have hc := Try.sort_Ints g 0 cap (G S k) wr (holds_of_blockI hb (by simpa using h4)) (Array.getElem?_eq_some_iff.1 hb).1 (by omega)
        refine hc.mono ?_
        rintro e w' ⟨rfl, nn, os, rfl⟩
        have hsr := ownsRow_sortedI (n := nn) (os := os) (ts := T S k) (T_length S k) hbase hb h1 h2 h3
        have hgr := grownBy_sortedI (w := wr) (g := g) (n := nn) (os := os) (T S k).toArray
        have hnx2 := hnx.grown hgr hnx.size (fun j hj => by cases hj; omega)
        unfold T at hsr hnx2
        go_wp2_with fail
        go_ret
        refine ⟨some ⟨g, 0, none⟩, cap, by rw [T_length]; rfl, hnx2, fun i hi => ⟨g, 0, rfl, ?_⟩⟩
        have hi2 : i < (G S k).length := by rw [← T_length]; exact hi
        rw [Nat.zero_add, hsr.cellAt i (by omega)]
        show ((T S k).map (Value.int .i64))[i]? = _
        simp [List.getD, List.getElem?_eq_getElem hi]

theorem slots9 (sb : Nat) (q : Option Addr) (a : Option Addr) (n c : Nat) (A : Nat → Option Addr) (N C : Nat → Nat) (V : Nat → Nat → Int) (S : Nat → Int) (w : World) (hn : n ≤ 2097152) (hN : ∀ i, i < n → N i ≤ 1048576) (hS : ∀ i, i < n → S i = hs (V i) (N i) % 4096) (h : KeysAt w a n A N C V) (hp : w.cell? ⟨sb, 0, none⟩ = some (.slice q 4096 4096)) :
    Calls Try.prog 9 #[.pointer (some ⟨sb, 0, none⟩), .slice a n c] w fun e w' => ∃ a' c', e = .returned (.slice a' (T S n).length c') ∧ Below w.heap.size w w' ∧ IntsAt w' a' (T S n).length (fun i => (T S n).getD i 0) := by
  go_enter Try.func9, Try.ntmps9
  go_wp2_with fail
  refine (slots12 sb q a n c A N C V S w hn hN hS h hp).mono ?_
  rintro e w' ⟨a', c', rfl, hb, hI⟩
  go_wp2_with fail
  go_ret
  exact ⟨a', c', rfl, hb, hI⟩
end Go.Proofs.Qxb6603581a
