import Derived.Test.Qxb6604581aIn0
namespace Go.Proofs.Qxb6604581a
open Go.RowKit
set_option linter.unusedVariables false

set_option maxRecDepth 100000 in
set_option maxHeartbeats 2000000 in
theorem input30m (p Lb n T m q : Nat) (oc : Option Addr) (Wh O : Nat → Int) (X : Nat → Nat) (So s : Nat → Bool) (A : Nat → Option Addr) (N : Nat → Nat) (I : Nat → Nat → ByteArray) (S : Nat → Nat → Nat) (w : World)
    (HC : Hid (cntS s n = 1 ∧ So (lst s n) = false))
    (hn0 : 0 < n) (hn : n ≤ 4096) (hX : ∀ k, k < n → X k < m ∧ X k < q) (hW : ∀ k, k < n → 0 ≤ Wh k ∧ Wh k ≤ 2 ∧ 0 ≤ O (X k) ∧ O (X k) ≤ 2) (hs : ∀ k, k < n → satB (Wh k) (O (X k)) = s k)
    (hN : ∀ x, x < m → N x ≤ 65536) (htot : tot s (fun k => N (X k)) n ≤ 65536)
    (hnode : NodeAt w p Lb n (fun k => X k) Wh So) (hrow : ∀ x, x < m → w.cell? ⟨T, x, none⟩ = some (.slice (A x) (N x) (N x))) (hplain : ∀ x, x < m → Plain (A x) (N x)) (hC : ∀ x, x < m → CandsAt w (A x) (N x) (I x) (S x))
    (hoc : ValsAt w oc q (fun i => .int .u8 (O i))) :
    Calls Try.prog 30 #[.pointer (some ⟨p, 0, none⟩), .slice (some ⟨T, 0, none⟩) m m, .slice oc q q] w fun e w' => InRes w n s X N A So I S e w' := by
  obtain ⟨i0, hi37, hz0, hz1, hz2⟩ := info_parts Try.info37
  have hp := hnode.1
  have hpl := World.block_lt_of_cell? _ _ hp
  have hne : ((n : Int) == 0) = false := by simp; omega
  go_enter Try.func30, Try.ntmps30
  go_wp2_with fail
  go_loopw [8, 9, 31] (fun zv sv iv wr => ∃ (k : Nat), k ≤ n ∧ iv = .int .i64 k ∧ zv = .int .i64 (tot s (fun k => N (X k)) k) ∧ sv = .int .i64 (cntS s k) ∧ In1 w wr k s X So) (fun _ _ iv _ => n - (intOf iv).toNat)
  case atStart => exact ⟨0, Nat.zero_le _, rfl, rfl, rfl, In1.start w s X So⟩
  case round =>
    obtain ⟨k, hk, rfl, rfl, rfl, K⟩ := hrel
    by_cases hlt : k < n
    · obtain ⟨bl, ol, e, hcN, hcW, hcS⟩ := (hnode.below K.bel).2 k hlt
      simp only [Option.some.injEq, Addr.mk.injEq] at e
      obtain ⟨rfl, rfl, _⟩ := e
      simp only [Nat.zero_add] at hcN hcW hcS
      obtain ⟨hx1, hx2⟩ := hX k hlt
      obtain ⟨hw0, hw1, ho0, ho1⟩ := hW k hlt
      obtain ⟨bo, oo, rfl, hcO⟩ := (hoc.below K.bel) (X k) hx2
      have hbo := World.block_lt_of_cell? _ _ hcO
      have hx2' : ((X k : Nat) : Int) < (q : Int) := by omega
      have hTc := hrow (X k) hx1
      have hTl := World.block_lt_of_cell? _ _ hTc
      have hT : wr.cell? ⟨T, X k, none⟩ = some (.slice (A (X k)) (N (X k)) (N (X k))) := (K.bel.cell (by exact hTl)).trans hTc
      have hTr : T < wr.heap.size := Nat.lt_of_lt_of_le hTl K.bel.size
      have hx1' : ((X k : Nat) : Int) < (m : Int) := by omega
      have hskk := hs k hlt
      have HSK : Hid (satB (Wh k) (O (X k)) = s k) := hskk
      have htk := tot_le (s := s) (L := fun k => N (X k)) hk
      have hck := cnt_le (s := s) k
      have hNx := hN (X k) hx1
      obtain ⟨la, lb, lc, hlr, _⟩ := K.last
      have hl0 := hlr.cell (i := 0) (by omega)
      have hl1 := hlr.cell (i := 1) (by omega)
      have hl2 := hlr.cell (i := 2) (by omega)
      have hf0 := hlr.frozen 0
      have hf1 := hlr.frozen 1
      have hf2 := hlr.frozen 2
      have hll := hlr.lt
      clear hskk hTc hTl
      go_wp2_with fail
      go_quiet ((go_at_call 31; exact Calls.quiet_of_same ((holds31 _ _ _ hw0 hw1 ho0 ho1).mono fun _ _ h => ⟨h.1, h.2.symm⟩)))
      rw [HSK.out]
      cases hsk : s k
      · go_wp2_with fail
        go_roundw
        case rel => exact ⟨k + 1, by omega, by go_num, by rw [tot_no hsk], by rw [cnt_no hsk], ((K.alloc _).drewN _).no hsk⟩
        case measure => simp [intOf]; omega
      · have K' := ((K.alloc (.cells #[.int .i64 (X k), .int .u8 (Wh k), .bool (So k)] 66)).drewN nq).yes hsk (Wh k)
        have HT : Hid (tot s (fun k => N (X k)) (k + 1) = tot s (fun k => N (X k)) k + N (X k)) := tot_yes hsk
        go_wp2_with fail
        go_roundw
        case rel => exact ⟨k + 1, by omega, by go_num, by rw [HT.out]; go_num, by rw [cnt_yes hsk]; go_num, K'⟩
        case measure => simp [intOf]; omega
    · obtain rfl : k = n := by omega
      have hpr : wr.cell? ⟨p, 4, none⟩ = some (.slice (some ⟨Lb, 0, none⟩) k k) := (K.bel.cell (by exact hpl)).trans hp
      have hplr : p < wr.heap.size := Nat.lt_of_lt_of_le hpl K.bel.size
      have hr0 := K.res.cell (i := 0) (by omega)
      have hr1 := K.res.cell (i := 1) (by omega)
      have hrf0 := K.res.frozen 0
      have hrf1 := K.res.frozen 1
      have hrl := K.res.lt
      have hone := HC.out.1
      have hso := HC.out.2
      have hh : ¬ (cntS s k = 1 ∧ So (lst s k) = true) := fun h => by rw [hso] at h; exact absurd h.2 (by simp)
      have hz : ¬ cntS s k = 0 := by omega
      have hz' : ((cntS s k : Int) == 0) = false := by simp; omega
      have hmk := run_make_row' (P := Try.prog) 23 3 (.int .i64 0) 8 Try.underlying23 Try.info3 rfl .i64 .i64 k (by omega) (by omega)
      obtain ⟨la, lb, lc, hlr, hlast⟩ := K.last
      obtain ⟨rfl, rfl⟩ := hlast (by omega)
      obtain ⟨hll1, hll2⟩ := lst_spec (s := s) (n := k) (by omega)
      have hl0 : wr.cell? ⟨w.heap.size + 1, 0, none⟩ = some (.int .i64 (X (lst s k))) := hlr.cell (i := 0) (by omega)
      have hl2 : wr.cell? ⟨w.heap.size + 1, 2, none⟩ = some (.bool (So (lst s k))) := hlr.cell (i := 2) (by omega)
      have hll := hlr.lt
      have hp1 : p < wr.heap.size + 1 := by omega
      have hp2 : p < wr.heap.size + 1 + 1 := by omega
      have hmk2 := run_make_0 (P := Try.prog) 28 37 _ _ 24 Try.underlying28 Try.info37 .i64 .i64 (tot s (fun k => N (X k)) k) (by omega) (by omega)
      have hone' : ((cntS s k : Int) == 1) = true := by simp [hone]
      rw [hso] at hl2
      have K2 := InG.start (n := k) (t := tot s (fun k => N (X k)) k) (N := N) (I := I) (S := S) K
      go_wp2_with fail
      clear hmk hmk2 hl0 hl2 hll hlr hlast hpr hplr hp1 hp2 hr0 hr1 hrf0 hrf1 hrl
      generalize wr.heap.size = E at *
      obtain ⟨t, HT0⟩ : ∃ t, Hid (tot s (fun k => N (X k)) k = t) := ⟨_, rfl⟩
      rw [HT0.out] at K2 ⊢
      have ht65 : t ≤ 65536 := by rw [← HT0.out]; exact htot
      go_loopw [15, 87] (fun zv iv ws => ∃ (j : Nat), j ≤ k ∧ iv = .int .i64 j ∧ zv = .int .i64 (tot s (fun k => N (X k)) j) ∧ InG w ws E j k t s X N I S) (fun _ iv _ => k - (intOf iv).toNat)
      case atStart => exact ⟨0, Nat.zero_le _, rfl, rfl, K2⟩
      case round =>
        obtain ⟨j, hj, rfl, rfl, K3⟩ := hrel
        clear K2 K
        by_cases hltj : j < k
        · obtain ⟨bl, ol, e, hcN, hcW, hcS⟩ := (hnode.below K3.in2.bel).2 j hltj
          simp only [Option.some.injEq, Addr.mk.injEq] at e
          obtain ⟨rfl, rfl, _⟩ := e
          simp only [Nat.zero_add] at hcN hcW hcS
          obtain ⟨hx1, hx2⟩ := hX j hltj
          obtain ⟨hw0, hw1, ho0, ho1⟩ := hW j hltj
          obtain ⟨bo, oo, rfl, hcO⟩ := (hoc.below K3.in2.bel) (X j) hx2
          have hbo := World.block_lt_of_cell? _ _ hcO
          have hx2' : ((X j : Nat) : Int) < (q : Int) := by omega
          have hTc := hrow (X j) hx1
          have hTl := World.block_lt_of_cell? _ _ hTc
          have hT : wr.cell? ⟨T, X j, none⟩ = some (.slice (A (X j)) (N (X j)) (N (X j))) := (K3.in2.bel.cell (by exact hTl)).trans hTc
          have hTr : T < wr.heap.size := Nat.lt_of_lt_of_le hTl K3.in2.bel.size
          have hx1' : ((X j : Nat) : Int) < (m : Int) := by omega
          have hskk := hs j hltj
          have HSK : Hid (satB (Wh j) (O (X j)) = s j) := hskk
          have htk := tot_le (s := s) (L := fun k => N (X k)) hj
          have hNx := hN (X j) hx1
          have hi0 : wr.cell? ⟨E + 1, 0, none⟩ = some (.slice (some ⟨E + 1 + 1, 0, none⟩) (tot s (fun k => N (X k)) j) t) := K3.in2.inn.cell (i := 0) (by omega)
          have hi1 : wr.cell? ⟨E + 1, 1, none⟩ = some (.slice (some ⟨E, 0, none⟩) k k) := K3.in2.inn.cell (i := 1) (by omega)
          have hif0 := K3.in2.inn.frozen 0
          have hil := K3.in2.inn.lt
          have he0 := K3.in2.ends.cell hltj
          have hef := K3.in2.ends.frozen j
          have hel := K3.in2.ends.lt
          clear hskk hTc hTl
          go_wp2_with fail
          go_quiet ((go_at_call 31; exact Calls.quiet_of_same ((holds31 _ _ _ hw0 hw1 ho0 ho1).mono fun _ _ h => ⟨h.1, h.2.symm⟩)))
          rw [HSK.out]
          cases hsk : s j
          · have K4 := ((K3.alloc (.cells #[.int .i64 (X j), .int .u8 (Wh j), .bool (So j)] 66)).drewN nq).no hsk
            go_wp2_with fail
            go_roundw
            case rel => exact ⟨j + 1, by omega, by go_num, by rw [tot_no hsk], K4⟩
            case measure => simp [intOf]; omega
          · have HT : Hid (tot s (fun k => N (X k)) (j + 1) = tot s (fun k => N (X k)) j + N (X j)) := tot_yes hsk
            have htj := tot_le (s := s) (L := fun k => N (X k)) (show j + 1 ≤ k by omega)
            rw [HT.out, HT0.out] at htj
            have hbW := bdrewN (bel_alloc K3.in2.bel (.cells #[.int .i64 (X j), .int .u8 (Wh j), .bool (So j)] 66)) nq
            have HW : Hid (∀ jj, jj < (candCells (I (X j)) (S (X j)) (N (X j))).length → (((wr.alloc (.cells #[.int .i64 (X j), .int .u8 (Wh j), .bool (So j)] 66)).drewN nq).cell? ⟨E + 1 + 1, 0 + tot s (fun k => N (X k)) j * 2 + jj, none⟩).isSome = true ∧ ((wr.alloc (.cells #[.int .i64 (X j), .int .u8 (Wh j), .bool (So j)] 66)).drewN nq).frozen? ⟨E + 1 + 1, 0 + tot s (fun k => N (X k)) j * 2 + jj, none⟩ = false) := by
              intro jj hjj
              rw [candCells_len] at hjj
              obtain ⟨f, hf, _⟩ := ((K3.alloc (.cells #[.int .i64 (X j), .int .u8 (Wh j), .bool (So j)] 66)).drewN nq).row
              rw [Nat.zero_add]
              exact ⟨by rw [hf.cell (by omega)]; rfl, hf.frozen _⟩
            have hgE := K3.in2.gE
            have hTw : T < w.heap.size := World.block_lt_of_cell? _ _ (hrow (X j) hx1)
            have hGl : E + 1 + 1 < wr.heap.size := by obtain ⟨f, hf, _⟩ := K3.row; exact hf.lt
            have st1 := fun (W : World) (o : Nat) (xs : List Value) => World.cell?_setCells_out (E + 1 + 1) xs o W ⟨E + 1, 0, none⟩ (fun h => absurd h (by show E + 1 ≠ E + 1 + 1; omega))
            have st2 := fun (W : World) (o : Nat) (xs : List Value) => World.cell?_setCells_out (E + 1 + 1) xs o W ⟨E + 1, 1, none⟩ (fun h => absurd h (by show E + 1 ≠ E + 1 + 1; omega))
            have st3 := fun (W : World) (o : Nat) (xs : List Value) => World.cell?_setCells_out (E + 1 + 1) xs o W ⟨E, j, none⟩ (fun h => absurd h (by show E ≠ E + 1 + 1; omega))
            have st4 := fun (W : World) (o : Nat) (xs : List Value) => World.cell?_setCells_out (E + 1 + 1) xs o W ⟨T, X j, none⟩ (fun h => absurd h (by show T ≠ E + 1 + 1; omega))
            have st5 := fun (W : World) (o : Nat) (xs : List Value) => World.cell?_setCells_out (E + 1 + 1) xs o W ⟨wr.heap.size, 0, none⟩ (fun h => absurd h (by show wr.heap.size ≠ E + 1 + 1; omega))
            have st6 := fun (W : World) (o : Nat) (xs : List Value) (x : Addr) => World.frozen?_setCells (E + 1 + 1) xs o W x
            have n1 : ¬ T = E + 1 := by omega
            have n2 : ¬ T = E := by omega
            have n3 : ¬ wr.heap.size = E + 1 := by omega
            have n4 : ¬ wr.heap.size = E := by omega
            rcases hplain (X j) hx1 with ⟨hA0, hN0⟩ | ⟨bA, oA, hA1⟩
            · have K5 := ((K3.alloc (.cells #[.int .i64 (X j), .int .u8 (Wh j), .bool (So j)] 66)).drewN (nq + 1)).yesNil hsk hN0
              rw [hA0, hN0] at hT
              rw [hN0, Nat.add_zero] at htj
              have HT1 : Hid (tot s (fun k => N (X k)) (j + 1) = tot s (fun k => N (X k)) j) := by rw [HT.out, hN0]; rfl
              clear hA0 hN0 hNx
              go_wp2_with fail
              go_region_law (refine step_append_nil rfl (.tmp 103) (.tmp 108) 28 rfl 37 i0 Try.underlying28 hi37 (E + 1 + 1) 0 (tot s (fun k => N (X k)) j) t (by simp [Act.eval]) (by simp [Act.eval]) htj ?_)
              all_goals go_wp2_with fail
              all_goals
                go_roundw
                case rel => exact ⟨j + 1, by omega, by go_num, by rw [HT1.out], K5⟩
                case measure => simp [intOf]; omega
            · have HS : Hid (∀ jj u, (candCells (I (X j)) (S (X j)) (N (X j)))[jj]? = some u → ((wr.alloc (.cells #[.int .i64 (X j), .int .u8 (Wh j), .bool (So j)] 66)).drewN nq).cell? ((⟨bA, oA, none⟩ : Addr).add jj) = some u) := by
                have := hC (X j) hx1
                rw [hA1] at this
                exact src_cells (this.below hbW)
              rw [hA1] at hT
              have K5 := ((K3.alloc (.cells #[.int .i64 (X j), .int .u8 (Wh j), .bool (So j)] 66)).drewN (nq + 1)).yes hltj hsk HT0.out
              rw [Int.natCast_add] at K5
              clear hA1 hbW
              go_wp2_with fail
              go_region_law (refine step_append_room rfl (.tmp 103) (.tmp 108) 28 rfl 37 i0 2 Try.underlying28 hi37 hz1 (E + 1 + 1) 0 (tot s (fun k => N (X k)) j) t (by simp [Act.eval]) ⟨bA, oA, none⟩ (N (X j)) (N (X j)) (candCells (I (X j)) (S (X j)) (N (X j))) (by simp [Act.eval]) (candCells_len _ _ _) HS.out candCells_one (by omega) HW.out ?_)
              all_goals go_wp2_with fail
              all_goals
                go_roundw
                case rel => exact ⟨j + 1, by omega, by go_num, by rw [HT.out]; go_num, K5⟩
                case measure => simp [intOf]; omega
        · obtain rfl : j = k := by omega
          have hi0 : wr.cell? ⟨E + 1, 0, none⟩ = some (.slice (some ⟨E + 1 + 1, 0, none⟩) (tot s (fun k => N (X k)) j) t) := K3.in2.inn.cell (i := 0) (by omega)
          have hi1 : wr.cell? ⟨E + 1, 1, none⟩ = some (.slice (some ⟨E, 0, none⟩) j j) := K3.in2.inn.cell (i := 1) (by omega)
          have hr0 := K3.in2.res.cell (i := 0) (by omega)
          have hr1 := K3.in2.res.cell (i := 1) (by omega)
          have hrf0 := K3.in2.res.frozen 0
          have hrf1 := K3.in2.res.frozen 1
          have hdone := K3.done (v0 := .slice (some ⟨E + 1 + 1, 0, none⟩) t t) (v1 := .slice (some ⟨E, 0, none⟩) j j) HT0.out
          rw [HT0.out] at hi0
          go_wp2_with fail
          exact bodyPost_ret (v := .tuple #[.agg #[.slice (some ⟨E + 1 + 1, 0, none⟩) t t, .slice (some ⟨E, 0, none⟩) j j], .bool true]) (by simp [results, Try.results30, go_sem, hr0, hr1]) rfl
            ⟨hdone.1, .inr (.inr ⟨by omega, _, E, by rw [HT0.out], hdone.2.1, Nat.le_of_lt K3.in2.gE, .inr ⟨hh, E + 1 + 1, rfl, by have := K3.in2.gE; omega, by rw [HT0.out]; exact hdone.2.2⟩⟩)⟩

end Go.Proofs.Qxb6604581a
