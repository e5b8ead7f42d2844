import Derived.Test.Qxb6604581aLawE0
namespace Go.Proofs.Qxb6604581a
open Go.RowKit
set_option linter.unusedVariables false

set_option maxRecDepth 100000 in
set_option maxHeartbeats 2000000 in
theorem law5' (a0 a1 a2 : Option Addr) (n0 c0 n1 c1 n2 c2 : Nat) (Nd Wh O : Nat → Int) (So : Nat → Bool) (A : Nat → Option Addr) (N C : Nat → Nat) (I : Nat → Nat → ByteArray) (S : Nat → Nat → Nat) (w : World)
    (h0 : n0 ≤ 4096) (h1 : n1 ≤ 65536) (h2 : n2 ≤ 65536) (hNm : ∀ x, x < n1 → N x ≤ maxLen) (hW : ∀ i, i < n0 → 0 ≤ Wh i) (hO : ∀ i, i < n2 → 0 ≤ O i) (hA : Args w a0 a1 a2 n0 n1 n2 Nd Wh O So A N C I S) :
    Calls Try.prog 5 #[.slice a0 n0 c0, .slice a1 n1 c1, .slice a2 n2 c2] w fun e w' => e = .returned (.bool true) ∧ Below w.heap.size w w' := by
  have hm0 : n0 ≤ maxLen := by unfold maxLen; omega
  have hm1 : n1 ≤ maxLen := by unfold maxLen; omega
  go_enter Try.func5, Try.ntmps5
  go_wp2_with fail
  refine (bytes17 a0 a1 a2 n0 c0 n1 c1 n2 c2 A N C I S w hm1 hNm hA.outs).mono ?_
  rintro e w' ⟨rfl, r, rfl⟩
  cases r
  · go_wp2_with fail
    go_ret
    exact ⟨rfl, Below.refl _ _⟩
  go_wp2_with fail
  refine (inbytes18 a0 a1 a2 n0 c0 n1 c1 n2 c2 A N C I S w hm1 hNm hA.outs).mono ?_
  rintro e w' ⟨rfl, v, rfl, hv⟩
  have HV : Hid (v ≤ 1048576 → ∀ x, x < n1 → N x ≤ 65536 ∧ ∀ i, i < N x → (I x i).size ≤ 1048576) := hv
  clear hv
  by_cases hv : 1048576 < v
  · go_wp2_with fail
    go_ret
    exact ⟨rfl, Below.refl _ _⟩
  have hsz := HV.out (by omega)
  have HZ : Hid (∀ x, x < n1 → N x ≤ 65536 ∧ ∀ i, i < N x → (I x i).size ≤ 1048576) := hsz
  clear hsz HV
  go_wp2_with fail
  refine (after19 a0 a1 a2 n0 c0 n1 c1 n2 c2 Nd Wh O So w hm0 h1 h2 hA.links hA.ocs).mono ?_
  rintro e w1 ⟨hb1, r, rfl, hr⟩
  cases r
  · go_wp2_with fail
    go_ret
    exact ⟨rfl, hb1⟩
  have HOK : Hid (AfterOK n0 n1 n2 Nd Wh O) := hr rfl
  clear hr
  have hA1 := hA.below hb1
  go_wp2_with fail
  refine (unfolded20 a0 a1 n0 c0 n1 c1 Nd Wh So A N C I S w1 hm0 (fun x hx => (HZ.out x hx).1) hA1.links hA1.outs (fun i hi => ⟨(HOK.out i hi).1, (HOK.out i hi).2.1⟩)).mono ?_
  rintro e w' ⟨rfl, u, rfl, hu⟩
  have HU : Hid (u ≤ 65536 → unf N Nd n0 ≤ 65536) := hu
  clear hu
  by_cases hu : 65536 < u
  · go_wp2_with fail
    go_ret
    exact ⟨rfl, hb1⟩
  have hun := HU.out (by omega)
  clear HU
  go_wp2_with fail
  refine (candss21 a1 n1 c1 A N C I S w1 h1 (fun x hx => (HZ.out x hx).1) hA1.outs).mono ?_
  rintro e w2 ⟨co, A', rfl, hco⟩
  have hb2 := hco.1
  have hC2 := CoR.of hco
  clear hco
  have hA2 := hA1.below hb2
  go_wp2_with fail
  refine (outcomes22 a2 n2 c2 O w2 (by omega) hA2.ocs).mono ?_
  rintro e w3 ⟨oc, rfl, hb3, hoc3⟩
  have hA3 := hA2.below hb3
  have hC3 := hC2.below hb3
  go_wp2_with fail
  refine (fields23 a0 n0 c0 Nd Wh So w3 h0 hA3.links).mono ?_
  rintro e w4 ⟨rfl, hcols⟩
  have hb4 := hcols.bel
  have hA4 := hA3.below hb4
  have hC4 := hC3.below hb4
  have hoc4 := hoc3.below hb4
  go_wp2_with fail
  refine (node24 _ _ _ n0 Nd Wh So w4 h0 hcols.r0.lt hcols.r1.lt hcols.r2.lt (fun i hi => by have := hcols.r0.cell hi; rwa [if_pos hi] at this) (fun i hi => by have := hcols.r1.cell hi; rwa [if_pos hi] at this) (fun i hi => by have := hcols.r2.cell hi; rwa [if_pos hi] at this)).mono ?_
  rintro e w5 ⟨p, Lb, rfl, hb5, hnode⟩
  have hA5 := hA4.below hb5
  have hC5 := hC4.below hb5
  have hoc5 := hoc4.below hb5
  have hask := mkAsk h0 HOK.out hW hO (fun x hx => (HZ.out x hx).1) hun hnode hC5 hoc5
  have hbb : Below w.heap.size w w5 := (((hb1.trans (hb2.mono hb1.size)).trans (hb3.mono (Nat.le_trans hb1.size hb2.size))).trans (hb4.mono (Nat.le_trans hb1.size (Nat.le_trans hb2.size hb3.size)))).trans (hb5.mono (Nat.le_trans hb1.size (Nat.le_trans hb2.size (Nat.le_trans hb3.size hb4.size))))
  have HTT : Hid (tot (fun k => satB (Wh k) (O (Nd k).toNat)) (fun k => N (Nd k).toNat) n0 ≤ 65536) := Nat.le_trans (tot_le_unf _ N Nd n0) hun
  have HW1 : Hid (w.heap.size ≤ w1.heap.size) := hb1.size
  have HW2 : Hid (w2.heap.size ≤ w5.heap.size) := Nat.le_trans hb3.size (Nat.le_trans hb4.size hb5.size)
  clear hcols hb1 hb2 hb3 hb4 hb5 hA1 hA2 hA3 hA4 hC2 hC3 hC4 hoc3 hoc4 hoc5 hnode hun
  go_wp2_with fail
  refine (zzinput25 hask).mono ?_
  intro e w6 hres
  have hb6 := hres.1
  obtain ⟨al, ev, nv, rfl, H5⟩ := hres.five (fun k hk => (hask.hX k hk).1) hask.plain hask.cands
  clear hres hask
  have hA6 := hA5.below hb6
  have hbb6 : Below w.heap.size w w6 := hbb.trans (hb6.mono hbb.size)
  obtain ⟨s, hs⟩ : ∃ s : Nat → Bool, s = fun k => satB (Wh k) (O (Nd k).toNat) := ⟨_, rfl⟩
  have HS : Hid (s = fun k => satB (Wh k) (O (Nd k).toNat)) := hs
  rw [← hs] at H5 ⊢
  clear hs
  have htot : tot s (fun k => N (Nd k).toNat) n0 ≤ 65536 := by rw [HS.out]; exact HTT.out
  obtain ⟨t, ht⟩ : ∃ t, t = tot s (fun k => N (Nd k).toNat) n0 := ⟨_, rfl⟩
  have HT : Hid (t = tot s (fun k => N (Nd k).toNat) n0) := ht
  rw [← ht] at htot ⊢
  clear ht
  go_wp2_with fail
  have hAS : (w6.alloc (.cells #[.slice al t t, .slice ev nv nv] 31)).heap.size = w6.heap.size + 1 := by simp
  go_loopw [15, 16, 17] (fun sv tv kv wr => ∃ k : Nat, k ≤ n0 ∧ kv = .int .i64 k ∧ sv = .int .i64 (cntS s k) ∧ tv = .int .i64 (tot s (fun k => N (Nd k).toNat) k) ∧ Below (w6.heap.size + 1) (w6.alloc (.cells #[.slice al t t, .slice ev nv nv] 31)) wr) (fun _ _ kv _ => n0 - (intOf kv).toNat)
  case atStart => exact ⟨0, Nat.zero_le _, rfl, rfl, rfl, Below.refl _ _⟩
  case round =>
    obtain ⟨k, hk, rfl, rfl, rfl, hbk⟩ := hrel
    by_cases hlt : k < n0
    · obtain ⟨bl, ol, rfl, hcN, hcW, hcS⟩ := ((hA6.links.below (bel_alloc (Below.refl _ _) _)).below (by rw [hAS]; exact hbk)) k hlt
      obtain ⟨g1, g2, g3, g4, g5⟩ := HOK.out k hlt
      have g0 := hW k hlt
      obtain ⟨x, hx⟩ : ∃ x : Nat, Nd k = x := ⟨(Nd k).toNat, by omega⟩
      have HX : Hid (Nd k = x) := hx
      rw [hx] at hcN g1 g2 g3 g5
      rw [Int.toNat_natCast] at g5
      have g6 := hO x (by omega)
      obtain ⟨bo, oo, rfl, hcO⟩ := ((hA6.ocs.below (bel_alloc (Below.refl _ _) _)).below (by rw [hAS]; exact hbk)) x (by omega)
      obtain ⟨bu, ou, rfl, hcU⟩ := ((hA6.outs.below (bel_alloc (Below.refl _ _) _)).below (by rw [hAS]; exact hbk)).row x (by omega)
      have HSK : Hid (satB (Wh k) (O x) = s k) := by rw [HS.out]; show _ = satB (Wh k) (O (Nd k).toNat); rw [hx]; rfl
      have htk := tot_le (s := s) (L := fun k => N (Nd k).toNat) hk
      rw [← HT.out] at htk
      have hck := cnt_le (s := s) k
      have hNx := (HZ.out x (by omega)).1
      clear hx
      go_wp2_with fail
      go_quiet ((go_at_call 26; exact Calls.quiet_of_same ((sat26 _ _ _ g0 g4 g6 g5).mono fun _ _ h => ⟨h.1, h.2.symm⟩)))
      rw [HSK.out]
      cases hsk : s k
      · go_wp2_with fail
        go_roundw
        case rel => exact ⟨k + 1, by omega, by go_num, by rw [cnt_no hsk], by rw [tot_no hsk], bdrewN hbk _⟩
        case measure => simp [intOf]; omega
      · have HT1 : Hid (tot s (fun k => N (Nd k).toNat) (k + 1) = tot s (fun k => N (Nd k).toNat) k + N x) := by rw [tot_yes hsk, HX.out]; rfl
        go_wp2_with fail
        go_roundw
        case rel => exact ⟨k + 1, by omega, by go_num, by rw [cnt_yes hsk]; go_num, by rw [HT1.out]; go_num, bdrewN hbk _⟩
        case measure => simp [intOf]; omega
    · obtain rfl : k = n0 := by omega
      rw [← HT.out]
      have hbW : Below w.heap.size w wr := hbb6.trans (((bel_alloc (Below.refl w6.heap.size w6) _).mono hbb6.size).trans (hbk.mono (by have := hbb6.size; omega)))
      have hD0 : wr.cell? ⟨w6.heap.size, 0, none⟩ = some (.slice al t t) := (hbk.cell (by show w6.heap.size < w6.heap.size + 1; omega)).trans (by rw [World.cell?_alloc_at _ _ _ _ rfl]; rfl)
      have hD1 : wr.cell? ⟨w6.heap.size, 1, none⟩ = some (.slice ev nv nv) := (hbk.cell (by show w6.heap.size < w6.heap.size + 1; omega)).trans (by rw [World.cell?_alloc_at _ _ _ _ rfl]; rfl)
      rcases H5 with ⟨hc0, rfl⟩ | ⟨hcp, rfl, hE, hCa, hPl⟩
      · have ht0 : t = 0 := by rw [HT.out]; exact tot_of_cnt0 hc0
        subst ht0
        have hDl := World.block_lt_of_cell? _ _ hD0
        by_cases hk0 : k = 0
        · have e1 : ((k : Int) == 0) = true := by simp [hk0]
          have e2 : okB k (cntS s k) = true := by simp [okB, hk0]
          rw [e2]
          clear hk0 hc0
          go_wp2_with fail
          refine (len27 _ _ _ _ _ _ _).mono ?_
          rintro e w7 ⟨rfl, hb7⟩
          have hD0' := (hb7.cell (by exact hDl)).trans hD0
          have hD1' := (hb7.cell (by exact hDl)).trans hD1
          go_wp2_with fail
          refine (all16 _ _ _ _ _ _ _).mono ?_
          rintro e w8 ⟨rfl, hb8⟩
          go_wp2_with fail
          go_ret
          exact ⟨rfl, (hbW.trans (hb7.mono hbW.size)).trans (hb8.mono (Nat.le_trans hbW.size hb7.size))⟩
        · have e1 : ((k : Int) == 0) = false := by simp [hk0]
          have e2 : okB k (cntS s k) = false := by simp [okB, hk0, hc0]
          have e3 : ((cntS s k : Int) == 0) = true := by simp [hc0]
          rw [e2]
          clear hk0 hc0
          go_wp2_with fail
          refine (len27 _ _ _ _ _ _ _).mono ?_
          rintro e w7 ⟨rfl, hb7⟩
          have hD0' := (hb7.cell (by exact hDl)).trans hD0
          have hD1' := (hb7.cell (by exact hDl)).trans hD1
          go_wp2_with fail
          refine (all16 _ _ _ _ _ _ _).mono ?_
          rintro e w8 ⟨rfl, hb8⟩
          go_wp2_with fail
          go_ret
          exact ⟨rfl, (hbW.trans (hb7.mono hbW.size)).trans (hb8.mono (Nat.le_trans hbW.size hb7.size))⟩
      · have hk0 : 0 < nv := by have := cnt_le (s := s) nv; omega
        have e1 : ((nv : Int) == 0) = false := by simp; omega
        have e2 : okB nv (cntS s nv) = true := by simp [okB, hcp]
        have e3 : ((cntS s nv : Int) == 0) = false := by simp; omega
        have F : F5 w wr a0 a1 a2 nv n1 n2 Nd Wh O So A N C I S w6.heap.size t al ev s :=
          ⟨hbW, (hA6.below (bel_alloc (Below.refl _ _) _)).below (by rw [hAS]; exact hbk), hD0, hD1, (hE.below (bel_alloc (Below.refl _ _) _)).below (by rw [hAS]; exact hbk), by rw [HT.out]; exact (hCa.below (bel_alloc (Below.refl _ _) _)).below (by rw [hAS]; exact hbk)⟩
        rw [← HT.out] at hPl
        rw [e2]
        clear hE hCa hbk hbW
        go_wp2_with fail
        refine (len27 _ _ _ _ _ _ _).mono ?_
        rintro e w7 ⟨rfl, hb7⟩
        have F7 := F.below hb7
        clear F hD0 hD1
        have hD0 := F7.d0
        have hD1 := F7.d1
        go_wp2_with fail
        refine (all16 _ _ _ _ _ _ _).mono ?_
        rintro e w8 ⟨rfl, hb8⟩
        have F8 := F7.below hb8
        clear F7 hD0 hD1
        have hD0 := F8.d0
        have hD1 := F8.d1
        go_wp2_with fail
        refine (all16 _ _ _ _ _ _ _).mono ?_
        rintro e w9 ⟨rfl, hb9⟩
        have F9 := F8.below hb9
        clear F8 hD0 hD1 hb7 hb8 hb9
        go_wp2_with fail
        go_loopw [20, 21] (fun ov kv wr => ∃ k : Nat, k ≤ nv ∧ kv = .int .i64 k ∧ ov = .int .i64 (tot s (fun k => N (Nd k).toNat) k) ∧ F5 w wr a0 a1 a2 nv n1 n2 Nd Wh O So A N C I S w6.heap.size t al ev s) (fun _ kv _ => nv - (intOf kv).toNat)
        case atStart => exact ⟨0, Nat.zero_le _, rfl, rfl, F9⟩
        case round =>
          obtain ⟨k, hk, rfl, rfl, K⟩ := hrel
          clear F9
          by_cases hltk : k < nv
          · have hD0 := K.d0
            have hD1 := K.d1
            have htk := tot_le (s := s) (L := fun k => N (Nd k).toNat) (show k + 1 ≤ nv by omega)
            have htk1 := tot_step (s := s) (L := fun k => N (Nd k).toNat) k
            rw [← HT.out] at htk
            have hlist := list13 al ev t t nv nv k k (fun k => ((tot s (fun k => N (Nd k).toNat) (k + 1) : Nat) : Int)) wr rfl hltk (by omega) hPl (Nat.le_refl _) K.ends (by rw [pre_tot]; omega) (by rw [pre_tot]; omega) (by omega)
            rw [pre_tot] at hlist
            go_wp2_with fail
            refine hlist.mono ?_
            rintro e w4 ⟨hb4, rfl⟩
            clear hlist hD0 hD1
            have K4 := K.below hb4
            clear K hb4
            obtain ⟨bl, ol, rfl, hcN, hcW, hcS⟩ := K4.args.links k hltk
            obtain ⟨g1, g2, g3, g4, g5⟩ := HOK.out k hltk
            have g0 := hW k hltk
            obtain ⟨x, hx⟩ : ∃ x : Nat, Nd k = x := ⟨(Nd k).toNat, by omega⟩
            have HX : Hid (Nd k = x) := hx
            rw [hx] at hcN g1 g2 g3 g5
            rw [Int.toNat_natCast] at g5
            have g6 := hO x (by omega)
            have hxl : x < n1 := by omega
            obtain ⟨bo, oo, rfl, hcO⟩ := K4.args.ocs x (by omega)
            obtain ⟨bu, ou, rfl, hcU⟩ := K4.args.outs.row x hxl
            obtain ⟨ax, hax⟩ : ∃ ax, ax = A x := ⟨_, rfl⟩
            have HAX : Hid (ax = A x) := hax
            replace hcU : w4.cell? ⟨bu, ou + x, none⟩ = some (.slice ax (N x) (C x)) := by rw [hax]; exact hcU
            have HSK : Hid (satB (Wh k) (O x) = s k) := by rw [HS.out]; show _ = satB (Wh k) (O (Nd k).toNat); rw [hx]; rfl
            have hNx := (HZ.out x (by omega)).1
            clear hx hax
            cases hsk : s k
            · have HT1 : Hid (tot s (fun k => N (Nd k).toNat) (k + 1) = tot s (fun k => N (Nd k).toNat) k) := tot_no hsk
              have hm : (((tot s (fun k => N (Nd k).toNat) (k + 1) : Nat) : Int) - ((tot s (fun k => N (Nd k).toNat) k : Nat) : Int)).toNat = 0 := by rw [HT1.out]; omega
              rw [hm]
              clear hm
              go_wp2_with fail
              go_quiet ((go_at_call 26; exact Calls.quiet_of_same ((sat26 _ _ _ g0 g4 g6 g5).mono fun _ _ h => ⟨h.1, h.2.symm⟩)))
              rw [HSK.out, hsk]
              go_wp2_with fail
              go_roundw
              case rel => exact ⟨k + 1, by omega, by go_num, by rw [HT1.out], K4.below (bdrewN (Below.refl _ _) _)⟩
              case measure => simp [intOf]; omega
            · have HT1 : Hid (tot s (fun k => N (Nd k).toNat) (k + 1) = tot s (fun k => N (Nd k).toNat) k + N x) := by rw [tot_yes hsk, HX.out]; rfl
              have hm : (((tot s (fun k => N (Nd k).toNat) (k + 1) : Nat) : Int) - ((tot s (fun k => N (Nd k).toNat) k : Nat) : Int)).toNat = N x := by rw [HT1.out]; omega
              rw [hm]
              clear hm
              obtain ⟨la, hla⟩ : ∃ la, la = lstAddr al ((tot s (fun k => N (Nd k).toNat) k : Nat) : Int) ((tot s (fun k => N (Nd k).toNat) (k + 1) : Nat) : Int) := ⟨_, rfl⟩
              have HLA : Hid (la = lstAddr al ((tot s (fun k => N (Nd k).toNat) k : Nat) : Int) ((tot s (fun k => N (Nd k).toNat) (k + 1) : Nat) : Int)) := hla
              rw [← hla]
              clear hla
              have hNb : ((N x : Int) != (N x : Int)) = false := by simp
              have htk2 : tot s (fun k => N (Nd k).toNat) k + N x ≤ t := by rw [← HT1.out]; exact htk
              go_wp2_with fail
              go_quiet ((go_at_call 26; exact Calls.quiet_of_same ((sat26 _ _ _ g0 g4 g6 g5).mono fun _ _ h => ⟨h.1, h.2.symm⟩)))
              rw [HSK.out, hsk]
              go_wp2_with fail
              have K5 := K4.below (bdrewN (Below.refl _ _) nq)
              clear K4
              go_loopw [24] (fun jv wr => ∃ j : Nat, j ≤ N x ∧ jv = .int .i64 j ∧ F5 w wr (some ⟨bl, ol, none⟩) (some ⟨bu, ou, none⟩) (some ⟨bo, oo, none⟩) nv n1 n2 Nd Wh O So A N C I S w6.heap.size t al ev s) (fun jv _ => N x - (intOf jv).toNat)
              case atStart => exact ⟨0, Nat.zero_le _, rfl, K5⟩
              case round =>
                obtain ⟨j, hj, rfl, K6⟩ := hrel
                clear K5 hcN hcW hcS hcO hcU
                by_cases hltj : j < N x
                · obtain ⟨bs, os, es, sI, sS⟩ := K6.args.outs.each x hxl j hltj
                  have hax := HAX.out.trans es
                  clear HAX es
                  subst hax
                  obtain ⟨bA, oA, rfl, aI, aS⟩ := K6.cands (tot s (fun k => N (Nd k).toNat) k + j) (by omega)
                  have hla := HLA.out
                  rw [lstAddr_lt _ _ _ _ (by omega) (by rw [HT1.out]; omega), Int.toNat_natCast] at hla
                  clear HLA
                  subst hla
                  obtain ⟨ci, cs⟩ := cat_at (X := fun k => (Nd k).toNat) (I := I) (S := S) hltk hsk (show j < N ((fun k => (Nd k).toNat) k) by show j < N (Nd k).toNat; rw [HX.out]; exact hltj)
                  replace ci : catI s (fun k => (Nd k).toNat) N nv I (tot s (fun k => N (Nd k).toNat) k + j) = I (Nd k).toNat j := ci
                  replace cs : catS s (fun k => (Nd k).toNat) N nv S (tot s (fun k => N (Nd k).toNat) k + j) = S (Nd k).toNat j := cs
                  rw [HX.out, Int.toNat_natCast] at ci cs
                  rw [ci] at aI
                  rw [cs] at aS
                  clear ci cs
                  have aI' : wr.cell? ⟨bA, oA + tot s (fun k => N (Nd k).toNat) k * 2 + j * 2, none⟩ = some (.string (I x j)) := by rw [show oA + tot s (fun k => N (Nd k).toNat) k * 2 + j * 2 = oA + (tot s (fun k => N (Nd k).toNat) k + j) * 2 by omega]; exact aI
                  have aS' : wr.cell? ⟨bA, oA + tot s (fun k => N (Nd k).toNat) k * 2 + j * 2 + 1, none⟩ = some (.float .f64 (S x j)) := by rw [show oA + tot s (fun k => N (Nd k).toNat) k * 2 + j * 2 + 1 = oA + (tot s (fun k => N (Nd k).toNat) k + j) * 2 + 1 by omega]; exact aS
                  have hji : (j : Int) < (N x : Int) := by omega
                  have hti : ((tot s (fun k => N (Nd k).toNat) k : Nat) : Int) + (j : Int) < (t : Int) := by omega
                  have hne := Ext.some wr
                  have q1 := fun y => Ext.cell aI y
                  have q2 := fun y => Ext.cell aS y
                  have q3 := fun y => Ext.cell aI' y
                  have q4 := fun y => Ext.cell aS' y
                  have q5 := fun y => Ext.cell sI y
                  have q6 := fun y => Ext.cell sS y
                  go_wp2_with fail
                  refine wp_region_ext (by kernel_rfl) (by kernel_rfl) ?_
                  repeat (go_big_quiet_step ((go_at_call 14; exact Ext.call ((sameCand _ _ _).mono fun e w' hh => ⟨hh.1, by rw [hh.2]; exact ((Below.refl _ _).alloc (Nat.le_refl _) _).alloc (by simp) _⟩))))
                  refine wpQuiet_nil ?_
                  intro w8 hw8
                  obtain ⟨y, rfl⟩ := hw8
                  clear q1 q2 q3 q4 q5 q6 hne
                  have Ky := K6.below y.bel
                  go_wp2_with fail
                  go_roundw
                  case rel => exact ⟨j + 1, by omega, by go_num, Ky⟩
                  case measure => simp [intOf]; omega
                · go_wp2_with fail
                  go_roundw
                  case rel => exact ⟨k + 1, by omega, by go_num, by rw [HT1.out]; go_num, K6⟩
                  case measure => simp [intOf]; omega
          · go_wp2_with fail
            go_ret
            exact ⟨rfl, K.bel⟩

set_option maxRecDepth 100000 in
theorem law5big (a0 a1 a2 : Option Addr) (n0 c0 n1 c1 n2 c2 : Nat) (A : Nat → Option Addr) (N C : Nat → Nat) (I : Nat → Nat → ByteArray) (S : Nat → Nat → Nat) (w : World)
    (hm1 : n1 ≤ maxLen) (hbig : 4096 < n0 ∨ 65536 < n1 ∨ 65536 < n2) (hNm : ∀ x, x < n1 → N x ≤ maxLen) (hO : OutsAt w a1 n1 A N C I S) :
    Calls Try.prog 5 #[.slice a0 n0 c0, .slice a1 n1 c1, .slice a2 n2 c2] w fun e w' => e = .returned (.bool true) ∧ Below w.heap.size w w' := by
  by_cases g0 : 4096 < n0
  · have g0' : (4096 : Int) < n0 := by omega
    clear hbig
    go_enter Try.func5, Try.ntmps5
    go_wp2_with fail
    refine (bytes17 a0 a1 a2 n0 c0 n1 c1 n2 c2 A N C I S w hm1 hNm hO).mono ?_
    rintro e w' ⟨rfl, r, rfl⟩
    cases r
    · go_wp2_with fail
      go_ret
      exact ⟨rfl, Below.refl _ _⟩
    go_wp2_with fail
    go_ret
    exact ⟨rfl, Below.refl _ _⟩
  by_cases g1 : 65536 < n1
  · have g1' : (65536 : Int) < n1 := by omega
    clear hbig
    go_enter Try.func5, Try.ntmps5
    go_wp2_with fail
    refine (bytes17 a0 a1 a2 n0 c0 n1 c1 n2 c2 A N C I S w hm1 hNm hO).mono ?_
    rintro e w' ⟨rfl, r, rfl⟩
    cases r
    · go_wp2_with fail
      go_ret
      exact ⟨rfl, Below.refl _ _⟩
    go_wp2_with fail
    go_ret
    exact ⟨rfl, Below.refl _ _⟩
  · have g2 : 65536 < n2 := by omega
    have g2' : (65536 : Int) < n2 := by omega
    clear hbig
    go_enter Try.func5, Try.ntmps5
    go_wp2_with fail
    refine (bytes17 a0 a1 a2 n0 c0 n1 c1 n2 c2 A N C I S w hm1 hNm hO).mono ?_
    rintro e w' ⟨rfl, r, rfl⟩
    cases r
    · go_wp2_with fail
      go_ret
      exact ⟨rfl, Below.refl _ _⟩
    go_wp2_with fail
    go_ret
    exact ⟨rfl, Below.refl _ _⟩

theorem law5 (a0 a1 a2 : Option Addr) (n0 c0 n1 c1 n2 c2 : Nat) (Nd Wh O : Nat → Int) (So : Nat → Bool) (A : Nat → Option Addr) (N C : Nat → Nat) (I : Nat → Nat → ByteArray) (S : Nat → Nat → Nat) (w : World)
    (hm1 : n1 ≤ maxLen) (hNm : ∀ x, x < n1 → N x ≤ maxLen) (hW : ∀ i, i < n0 → 0 ≤ Wh i) (hO : ∀ i, i < n2 → 0 ≤ O i) (hA : Args w a0 a1 a2 n0 n1 n2 Nd Wh O So A N C I S) :
    Calls Try.prog 5 #[.slice a0 n0 c0, .slice a1 n1 c1, .slice a2 n2 c2] w fun e w' => e = .returned (.bool true) ∧ Below w.heap.size w w' := by
  by_cases hbig : 4096 < n0 ∨ 65536 < n1 ∨ 65536 < n2
  · exact law5big a0 a1 a2 n0 c0 n1 c1 n2 c2 A N C I S w hm1 hbig hNm hA.outs
  · exact law5' a0 a1 a2 n0 c0 n1 c1 n2 c2 Nd Wh O So A N C I S w (by omega) (by omega) (by omega) hNm hW hO hA

end Go.Proofs.Qxb6604581a
