import Derived.Test.Qxb6604581aLawC
namespace Go.Proofs.Qxb6604581a
open Go.RowKit
set_option linter.unusedVariables false
attribute [local go_sem] run_store_float

theorem ext_old {wr : World} {o : Obj} {p : Addr} {v : Value} (h : wr.cell? p = some v) (y : Ext (wr.alloc o)) : y.wd.cell? p = some v :=
  Ext.cell (((bel_alloc (Below.refl wr.heap.size wr) o).cell (World.block_lt_of_cell? _ _ h)).trans h) y
theorem ext_new {wr : World} {c : Array Value} {t i : Nat} {v : Value} (h : c[i]? = some v) (y : Ext (wr.alloc (.cells c t))) : y.wd.cell? ⟨wr.heap.size, i, none⟩ = some v :=
  Ext.cell ((World.cell?_alloc_at _ _ _ _ rfl).trans h) y

theorem write_row {wx : World} {b n : Nat} {I0 : Nat → ByteArray} {S0 : Nat → Nat} (h : wx.rowIs b 37 (n * 2) (candCell I0 S0)) (o : Obj) :
    (((wx.setCell ⟨b, 0, none⟩ (.string (I0 0 ++ ⟨#[35]⟩))).setCell ⟨b, 1, none⟩ (.float .f64 (S0 0))).alloc o).rowIs b 37 (n * 2) (fun j => if j = 0 then .string (I0 0 ++ ⟨#[35]⟩) else candCell I0 S0 j) :=
  (((h.set 0 _).set 1 _).alloc o).congr (fun j _ => by
    by_cases e1 : j = 1
    · subst e1; simp [candCell]
    · rw [if_neg e1])

theorem write_oth {wx : World} {b : Nat} {v0 v1 : Value} {o : Obj} {k : Nat} (hk : k < wx.heap.size) (hne : k ≠ b) : (((wx.setCell ⟨b, 0, none⟩ v0).setCell ⟨b, 1, none⟩ v1).alloc o).heap[k]? = wx.heap[k]? := by
  rw [Below.heap_alloc _ _ _ (by simpa [World.setCell] using hk), Below.heap_setCell _ _ _ _ hne, Below.heap_setCell _ _ _ _ hne]

theorem write_bel {w wx : World} {b : Nat} (h : Below w.heap.size w wx) (hb : w.heap.size ≤ b) (v0 v1 : Value) (o : Obj) : Below w.heap.size w (((wx.setCell ⟨b, 0, none⟩ v0).setCell ⟨b, 1, none⟩ v1).alloc o) :=
  bel_alloc ((h.setCell hb _).setCell hb _) o

set_option maxRecDepth 100000 in
set_option maxHeartbeats 2000000 in
theorem law6' (a0 a1 a2 : Option Addr) (n0 c0 n1 c1 n2 c2 : Nat) (Nd Wh O : Nat → Int) (So : Nat → Bool) (A : Nat → Option Addr) (N C : Nat → Nat) (I : Nat → Nat → ByteArray) (S : Nat → Nat → Nat) (w : World)
    (h0 : n0 ≤ 4096) (h1 : n1 ≤ 65536) (h2 : n2 ≤ 65536) (hNm : ∀ x, x < n1 → N x ≤ maxLen) (hW : ∀ i, i < n0 → 0 ≤ Wh i) (hO : ∀ i, i < n2 → 0 ≤ O i) (hA : Args w a0 a1 a2 n0 n1 n2 Nd Wh O So A N C I S) :
    Calls Try.prog 6 #[.slice a0 n0 c0, .slice a1 n1 c1, .slice a2 n2 c2] w fun e w' => e = .returned (.bool true) ∧ Below w.heap.size w w' := by
  have hm0 : n0 ≤ maxLen := by unfold maxLen; omega
  have hm1 : n1 ≤ maxLen := by unfold maxLen; omega
  go_enter Try.func6, Try.ntmps6
  go_wp2_with fail
  refine (bytes28 a0 a1 a2 n0 c0 n1 c1 n2 c2 A N C I S w hm1 hNm hA.outs).mono ?_
  rintro e w' ⟨rfl, r, rfl⟩
  cases r
  · go_wp2_with fail
    go_ret
    exact ⟨rfl, Below.refl _ _⟩
  go_wp2_with fail
  refine (inbytes18 a0 a1 a2 n0 c0 n1 c1 n2 c2 A N C I S w hm1 hNm hA.outs).mono ?_
  rintro e w' ⟨rfl, v, rfl, hv⟩
  have HV : Hid (v ≤ 1048576 → ∀ x, x < n1 → N x ≤ 65536 ∧ ∀ i, i < N x → (I x i).size ≤ 1048576) := hv
  clear hv
  by_cases hv : 1048576 < v
  · go_wp2_with fail
    go_ret
    exact ⟨rfl, Below.refl _ _⟩
  have hsz := HV.out (by omega)
  have HZ : Hid (∀ x, x < n1 → N x ≤ 65536 ∧ ∀ i, i < N x → (I x i).size ≤ 1048576) := hsz
  clear hsz HV
  go_wp2_with fail
  refine (after19 a0 a1 a2 n0 c0 n1 c1 n2 c2 Nd Wh O So w hm0 h1 h2 hA.links hA.ocs).mono ?_
  rintro e w1 ⟨hb1, r, rfl, hr⟩
  cases r
  · go_wp2_with fail
    go_ret
    exact ⟨rfl, hb1⟩
  have HOK : Hid (AfterOK n0 n1 n2 Nd Wh O) := hr rfl
  clear hr
  have hA1 := hA.below hb1
  go_wp2_with fail
  refine (unfolded20 a0 a1 n0 c0 n1 c1 Nd Wh So A N C I S w1 hm0 (fun x hx => (HZ.out x hx).1) hA1.links hA1.outs (fun i hi => ⟨(HOK.out i hi).1, (HOK.out i hi).2.1⟩)).mono ?_
  rintro e w' ⟨rfl, u, rfl, hu⟩
  have HU : Hid (u ≤ 65536 → unf N Nd n0 ≤ 65536) := hu
  clear hu
  by_cases hu : 65536 < u
  · go_wp2_with fail
    go_ret
    exact ⟨rfl, hb1⟩
  have hun := HU.out (by omega)
  clear HU
  go_wp2_with fail
  refine (candss21 a1 n1 c1 A N C I S w1 h1 (fun x hx => (HZ.out x hx).1) hA1.outs).mono ?_
  rintro e w2 ⟨co, A', rfl, hco⟩
  have hb2 := hco.1
  have hC2 := CoR.of hco
  clear hco
  have hA2 := hA1.below hb2
  go_wp2_with fail
  refine (outcomes22 a2 n2 c2 O w2 (by omega) hA2.ocs).mono ?_
  rintro e w3 ⟨oc, rfl, hb3, hoc3⟩
  have hA3 := hA2.below hb3
  have hC3 := hC2.below hb3
  go_wp2_with fail
  refine (fields23 a0 n0 c0 Nd Wh So w3 h0 hA3.links).mono ?_
  rintro e w4 ⟨rfl, hcols⟩
  have hb4 := hcols.bel
  have hA4 := hA3.below hb4
  have hC4 := hC3.below hb4
  have hoc4 := hoc3.below hb4
  go_wp2_with fail
  refine (node24 _ _ _ n0 Nd Wh So w4 h0 hcols.r0.lt hcols.r1.lt hcols.r2.lt (fun i hi => by have := hcols.r0.cell hi; rwa [if_pos hi] at this) (fun i hi => by have := hcols.r1.cell hi; rwa [if_pos hi] at this) (fun i hi => by have := hcols.r2.cell hi; rwa [if_pos hi] at this)).mono ?_
  rintro e w5 ⟨p, Lb, rfl, hb5, hnode⟩
  have hA5 := hA4.below hb5
  have hC5 := hC4.below hb5
  have hoc5 := hoc4.below hb5
  have hask := mkAsk h0 HOK.out hW hO (fun x hx => (HZ.out x hx).1) hun hnode hC5 hoc5
  have hbb : Below w.heap.size w w5 := (((hb1.trans (hb2.mono hb1.size)).trans (hb3.mono (Nat.le_trans hb1.size hb2.size))).trans (hb4.mono (Nat.le_trans hb1.size (Nat.le_trans hb2.size hb3.size)))).trans (hb5.mono (Nat.le_trans hb1.size (Nat.le_trans hb2.size (Nat.le_trans hb3.size hb4.size))))
  have HTT : Hid (tot (fun k => satB (Wh k) (O (Nd k).toNat)) (fun k => N (Nd k).toNat) n0 ≤ 65536) := Nat.le_trans (tot_le_unf _ N Nd n0) hun
  have HW1 : Hid (w.heap.size ≤ w1.heap.size) := hb1.size
  have HW2 : Hid (w2.heap.size ≤ w5.heap.size) := Nat.le_trans hb3.size (Nat.le_trans hb4.size hb5.size)
  clear hcols hb1 hb2 hb3 hb4 hb5 hA1 hA2 hA3 hA4 hC2 hC3 hC4 hoc3 hoc4 hoc5 hnode hun
  go_wp2_with fail
  refine (zzinput25 hask).mono ?_
  intro e w6 hres
  have hb6 := hres.1
  obtain ⟨al, ev, nv, cv, rfl, H6⟩ := hres.six
  clear hres hask
  have hA6 := hA5.below hb6
  have hC6 := hC5.below hb6
  have hbb6 : Below w.heap.size w w6 := hbb.trans (hb6.mono hbb.size)
  obtain ⟨s, hs⟩ : ∃ s : Nat → Bool, s = fun k => satB (Wh k) (O (Nd k).toNat) := ⟨_, rfl⟩
  have HS : Hid (s = fun k => satB (Wh k) (O (Nd k).toNat)) := hs
  rw [← hs] at H6 ⊢
  clear hs
  have htot : tot s (fun k => N (Nd k).toNat) n0 ≤ 65536 := by rw [HS.out]; exact HTT.out
  obtain ⟨t, ht⟩ : ∃ t, t = tot s (fun k => N (Nd k).toNat) n0 := ⟨_, rfl⟩
  have HT : Hid (t = tot s (fun k => N (Nd k).toNat) n0) := ht
  rw [← ht] at htot ⊢
  clear ht
  go_wp2_with fail
  have hAS : (w6.alloc (.cells #[.slice al t t, .slice ev nv cv] 31)).heap.size = w6.heap.size + 1 := by simp
  go_loopw [15, 16, 17, 18] (fun sv tv lv kv wr => ∃ k : Nat, k ≤ n0 ∧ kv = .int .i64 k ∧ sv = .int .i64 (cntS s k) ∧ tv = .int .i64 (tot s (fun k => N (Nd k).toNat) k) ∧ lv = .int .i64 (lastV s k) ∧ Below (w6.heap.size + 1) (w6.alloc (.cells #[.slice al t t, .slice ev nv cv] 31)) wr) (fun _ _ _ kv _ => n0 - (intOf kv).toNat)
  case atStart => exact ⟨0, Nat.zero_le _, rfl, rfl, rfl, rfl, Below.refl _ _⟩
  case round =>
    obtain ⟨k, hk, rfl, rfl, rfl, rfl, hbk⟩ := hrel
    by_cases hlt : k < n0
    · obtain ⟨bl, ol, rfl, hcN, hcW, hcS⟩ := ((hA6.links.below (bel_alloc (Below.refl _ _) _)).below (by rw [hAS]; exact hbk)) k hlt
      obtain ⟨g1, g2, g3, g4, g5⟩ := HOK.out k hlt
      have g0 := hW k hlt
      obtain ⟨x, hx⟩ : ∃ x : Nat, Nd k = x := ⟨(Nd k).toNat, by omega⟩
      have HX : Hid (Nd k = x) := hx
      rw [hx] at hcN g1 g2 g3 g5
      rw [Int.toNat_natCast] at g5
      have g6 := hO x (by omega)
      obtain ⟨bo, oo, rfl, hcO⟩ := ((hA6.ocs.below (bel_alloc (Below.refl _ _) _)).below (by rw [hAS]; exact hbk)) x (by omega)
      obtain ⟨bu, ou, rfl, hcU⟩ := ((hA6.outs.below (bel_alloc (Below.refl _ _) _)).below (by rw [hAS]; exact hbk)).row x (by omega)
      have HSK : Hid (satB (Wh k) (O x) = s k) := by rw [HS.out]; show _ = satB (Wh k) (O (Nd k).toNat); rw [hx]; rfl
      have htk := tot_le (s := s) (L := fun k => N (Nd k).toNat) hk
      rw [← HT.out] at htk
      have hck := cnt_le (s := s) k
      have hNx := (HZ.out x (by omega)).1
      clear hx
      go_wp2_with fail
      go_quiet ((go_at_call 26; exact Calls.quiet_of_same ((sat26 _ _ _ g0 g4 g6 g5).mono fun _ _ h => ⟨h.1, h.2.symm⟩)))
      rw [HSK.out]
      cases hsk : s k
      · go_wp2_with fail
        go_roundw
        case rel => exact ⟨k + 1, by omega, by go_num, by rw [cnt_no hsk], by rw [tot_no hsk], by rw [lastV_no hsk], bdrewN hbk _⟩
        case measure => simp [intOf]; omega
      · have HT1 : Hid (tot s (fun k => N (Nd k).toNat) (k + 1) = tot s (fun k => N (Nd k).toNat) k + N x) := by rw [tot_yes hsk, HX.out]; rfl
        go_wp2_with fail
        go_roundw
        case rel => exact ⟨k + 1, by omega, by go_num, by rw [cnt_yes hsk]; go_num, by rw [HT1.out]; go_num, by rw [lastV_yes hsk], bdrewN hbk _⟩
        case measure => simp [intOf]; omega
    · obtain rfl : k = n0 := by omega
      rw [← HT.out]
      obtain ⟨b, hb⟩ : ∃ b, b = okB k (cntS s k) := ⟨_, rfl⟩
      have HB : Hid (b = okB k (cntS s k)) := hb
      rw [← hb]
      clear hb
      have hD0 : wr.cell? ⟨w6.heap.size, 0, none⟩ = some (.slice al t t) := (hbk.cell (by show w6.heap.size < w6.heap.size + 1; omega)).trans (by rw [World.cell?_alloc_at _ _ _ _ rfl]; rfl)
      have hD1 : wr.cell? ⟨w6.heap.size, 1, none⟩ = some (.slice ev nv cv) := (hbk.cell (by show w6.heap.size < w6.heap.size + 1; omega)).trans (by rw [World.cell?_alloc_at _ _ _ _ rfl]; rfl)
      go_upto_region 26 with fail
      go_cut [19] (fun v wx => v = .bool b ∧ wr = wx)
      case first =>
        by_cases hk0 : k = 0
        · have e1 : ((k : Int) == 0) = true := by simp [hk0]
          have e2 : b = true := by rw [HB.out]; simp [okB, hk0]
          clear hk0
          go_wp2_with fail
          go_meet
          exact ⟨by rw [e2], rfl⟩
        · have e1 : ((k : Int) == 0) = false := by simp [hk0]
          by_cases hc0 : 0 < cntS s k
          · have e2 : b = true := by rw [HB.out]; simp [okB, hc0]
            go_wp2_with fail
            go_meet
            exact ⟨by rw [e2], rfl⟩
          · have e2 : b = false := by rw [HB.out]; simp [okB, hk0]; omega
            go_wp2_with fail
            go_meet
            exact ⟨by rw [e2], rfl⟩
      case rest =>
        obtain ⟨rfl, rfl⟩ := hcut
        have hbbf : (b != b) = false := by simp
        go_wp2_with fail
        refine (all16 al ev t t nv cv wr).mono ?_
        rintro e w7 ⟨rfl, hb7⟩
        have hbk7 : Below (w6.heap.size + 1) (w6.alloc (.cells #[.slice al t t, .slice ev nv cv] 31)) w7 := hbk.trans (hb7.mono (by have := hbk.size; rw [hAS] at this; exact this))
        clear hD0 hD1 hbk hb7
        go_upto_region 29 with fail
        obtain ⟨hb, HHB⟩ : ∃ hb : Bool, Hid (hb = true ↔ (cntS s k = 1 ∧ So (lst s k) = true)) := ⟨decide (cntS s k = 1 ∧ So (lst s k) = true), decide_eq_true_iff⟩
        go_cut [20] (fun v wx => v = .bool hb ∧ w7 = wx)
        case first =>
          by_cases hc1 : cntS s k = 1
          · have hlp := lst_spec (s := s) (n := k) (by omega)
            have hl0 : 0 ≤ lastV s k := by rw [lastV_pos (by omega)]; omega
            have hl1 : lastV s k < k := by rw [lastV_pos (by omega)]; omega
            obtain ⟨bl, ol, rfl, _, _, hcS⟩ := ((hA6.links.below (bel_alloc (Below.refl _ _) _)).below (by rw [hAS]; exact hbk7)) (lst s k) hlp.1
            have hcS' : w7.cell? ⟨bl, ol + (lastV s k).toNat * 3 + 2, none⟩ = some (.bool (So (lst s k))) := by rw [lastV_pos (by omega)]; exact hcS
            have e1 : ((cntS s k : Int) == 1) = true := by simp [hc1]
            have e2 : Hid (So (lst s k) = hb) := by
              cases hso : So (lst s k) <;> cases hb <;> first | rfl | skip
              · have := HHB.out.1 rfl; rw [hso] at this; exact absurd this.2 (by simp)
              · have := HHB.out.2 ⟨hc1, hso⟩; exact absurd this (by simp)
            clear hc1 hcS
            go_wp2_with fail
            go_meet
            exact ⟨by rw [e2.out], rfl⟩
          · have e1 : ((cntS s k : Int) == 1) = false := by simp; omega
            have e2 : hb = false := by
              cases hb
              · rfl
              · exact absurd (HHB.out.1 rfl).1 hc1
            go_wp2_with fail
            go_meet
            exact ⟨by rw [e2], rfl⟩
        case rest =>
          obtain ⟨rfl, rfl⟩ := hcut
          have hD0 : w7.cell? ⟨w6.heap.size, 0, none⟩ = some (.slice al t t) := (hbk7.cell (by show w6.heap.size < w6.heap.size + 1; omega)).trans (by rw [World.cell?_alloc_at _ _ _ _ rfl]; rfl)
          have hD1 : w7.cell? ⟨w6.heap.size, 1, none⟩ = some (.slice ev nv cv) := (hbk7.cell (by show w6.heap.size < w6.heap.size + 1; omega)).trans (by rw [World.cell?_alloc_at _ _ _ _ rfl]; rfl)
          go_wp2_with fail
          refine (all16 al ev t t nv cv w7).mono ?_
          rintro e w8 ⟨rfl, hb8⟩
          have hbk8 : Below (w6.heap.size + 1) (w6.alloc (.cells #[.slice al t t, .slice ev nv cv] 31)) w8 := hbk7.trans (hb8.mono (by have := hbk7.size; rw [hAS] at this; exact this))
          have hbW : Below w.heap.size w w8 := hbb6.trans (((bel_alloc (Below.refl w6.heap.size w6) _).mono hbb6.size).trans (hbk8.mono (by have := hbb6.size; omega)))
          have hC8 := (hC6.below (bel_alloc (Below.refl _ _) _)).below (by rw [hAS]; exact hbk8)
          clear hD0 hD1 hb8 hbk7
          go_upto_if 143 with fail
          go_cut [] (fun wx => CoW w wx a0 a1 a2 k n1 n2 Nd Wh O So A N C I S co A' hb (Nd (lst s k)).toNat)
          case first =>
            rcases Nat.eq_zero_or_pos t with ht0 | htp
            · have ht0' : t ≤ 0 := by omega
              have hW := CoW.same (hb := hb) (x0 := (Nd (lst s k)).toNat) hA hbW hC8 (fun h => by
                have h1 := HHB.out.1 h
                rcases H6 with ⟨_, _, h3⟩ | ⟨h2, _⟩
                · rw [← h3, ← HT.out]; exact ht0
                · exact absurd h1 h2)
              clear ht0
              go_wp2_with fail
              go_meet
              exact hW
            · rcases H6 with ⟨h2, h3, h4⟩ | ⟨h2, h3⟩
              · have hlp := lst_spec (s := s) (n := k) (by omega)
                have hok := HOK.out _ hlp.1
                have hx0 : (Nd (lst s k)).toNat < n1 := by omega
                have ht1 : t = N (Nd (lst s k)).toNat := by rw [HT.out]; exact h4
                obtain ⟨bb, e1, e2, e3⟩ := hC8.own _ hx0 (by omega)
                have hsz := (HZ.out _ hx0).2 0 (by omega)
                have HT1 : Hid (t = N (Nd (lst s k)).toNat) := ht1
                have hlo := hC8.lo _ _ hx0 (by omega) e1
                rw [e1] at h3
                obtain rfl := h3
                have q0 : w8.cell? ⟨bb, 0, none⟩ = some (.string (I (Nd (lst s k)).toNat 0)) := e3.cell (i := 0) (by omega)
                have q1 : w8.cell? ⟨bb, 1, none⟩ = some (.float .f64 (S (Nd (lst s k)).toNat 0)) := e3.cell (i := 1) (by omega)
                have f0 := e3.frozen 0
                have f1 := e3.frozen 1
                have hbl := e3.lt
                have hbt : hb = true := HHB.out.2 h2
                have hW := CoW.hand (x0 := (Nd (lst s k)).toNat) hA (write_bel (b := bb) hbW (Nat.le_trans HW1.out hlo) (.string (I (Nd (lst s k)).toNat 0 ++ ⟨#[35]⟩)) (.float .f64 (S (Nd (lst s k)).toNat 0)) (.cells #[.string (I (Nd (lst s k)).toNat 0 ++ ⟨#[35]⟩), .float .f64 (S (Nd (lst s k)).toNat 0)] 37)) hC8 hx0 (by omega) e1
                  (fun kk hkk hne => write_oth (Nat.lt_of_lt_of_le hkk (Nat.le_trans HW2.out (Nat.le_trans hb6.size (by have := hbk8.size; rw [hAS] at this; omega)))) hne) (write_row e3 _)
                rw [← hbt] at hW
                clear ht1 h4 hbt
                go_wp2_with fail
                go_meet
                exact hW
              · obtain ⟨G, rfl, hG1, hG2⟩ := h3 (by rw [← HT.out]; exact htp)
                have hG8 : w8.rowIs G 37 (t * 2) (candCell (catI s (fun k => (Nd k).toNat) N k I) (catS s (fun k => (Nd k).toNat) N k S)) := by rw [HT.out]; exact (hG2.alloc _).of_block (hbk8.block _ (by have := hG2.lt; omega))
                have q0 : w8.cell? ⟨G, 0, none⟩ = some (.string (catI s (fun k => (Nd k).toNat) N k I 0)) := hG8.cell (i := 0) (by omega)
                have q1 : w8.cell? ⟨G, 1, none⟩ = some (.float .f64 (catS s (fun k => (Nd k).toNat) N k S 0)) := hG8.cell (i := 1) (by omega)
                have f0 := hG8.frozen 0
                have f1 := hG8.frozen 1
                have hbl := hG8.lt
                have hsz : (catI s (fun k => (Nd k).toNat) N k I 0).size ≤ 1048576 := by
                  obtain ⟨k', j', hk', hj', e⟩ := cat_bound (I := I) (show 0 < tot s (fun k => N (Nd k).toNat) k by rw [← HT.out]; exact htp)
                  rw [e]
                  have hok := HOK.out _ hk'
                  exact (HZ.out _ (by omega)).2 _ hj'
                have hGB : w2.heap.size ≤ G := Nat.le_trans HW2.out hG1
                generalize catI s (fun k => (Nd k).toNat) N k I 0 = ci at *
                generalize catS s (fun k => (Nd k).toNat) N k S 0 = cs at *
                have hW := CoW.same (hb := hb) (x0 := (Nd (lst s k)).toNat) hA (write_bel (b := G) hbW (Nat.le_trans hbb.size hG1) (.string (ci ++ ⟨#[35]⟩)) (.float .f64 cs) (.cells #[.string (ci ++ ⟨#[35]⟩), .float .f64 cs] 37))
                  (hC8.stays (fun b' hb' => write_oth (Nat.lt_of_lt_of_le hb' (Nat.le_trans HW2.out (Nat.le_trans hb6.size (by have := hbk8.size; rw [hAS] at this; omega)))) (by omega))) (fun h => absurd (HHB.out.1 h) h2)
                go_wp2_with fail
                go_meet
                exact hW
          case rest =>
            clear hC8 hbW hbk8 H6
            go_wp2_with fail
            go_loopw [23] (fun xv wr => ∃ x : Nat, x ≤ n1 ∧ xv = .int .i64 x ∧ CoW w wr a0 a1 a2 k n1 n2 Nd Wh O So A N C I S co A' hb (Nd (lst s k)).toNat) (fun xv _ => n1 - (intOf xv).toNat)
            case atStart => exact ⟨0, Nat.zero_le _, rfl, hcut⟩
            case round =>
              obtain ⟨x, hx, rfl, K⟩ := hrel
              clear hcut
              by_cases hlt2 : x < n1
              · obtain ⟨T, rfl, hT⟩ := K.row x hlt2
                obtain ⟨bu, ou, rfl, hU⟩ := K.args.outs.row x hlt2
                have hxi : (x : Int) < (n1 : Int) := by omega
                have hNb : ((N x : Int) != (N x : Int)) = false := by simp
                have hNx := (HZ.out x hlt2).1
                go_wp2_with fail
                go_quiet (fail)
                go_wp2_with fail
                go_loopw [24] (fun jv wr => ∃ j : Nat, j ≤ N x ∧ jv = .int .i64 j ∧ CoW w wr a0 (some ⟨bu, ou, none⟩) a2 k n1 n2 Nd Wh O So A N C I S (some ⟨T, 0, none⟩) A' hb (Nd (lst s k)).toNat) (fun jv _ => N x - (intOf jv).toNat)
                case atStart => exact ⟨0, Nat.zero_le _, rfl, K.below (bdrewN (Below.refl _ _) _)⟩
                case round =>
                  obtain ⟨j, hj, rfl, Kj⟩ := hrel
                  clear hT hU K
                  obtain ⟨T', eT, hT⟩ := Kj.row x hlt2
                  simp only [Option.some.injEq, Addr.mk.injEq] at eT
                  obtain ⟨rfl, _⟩ := eT
                  obtain ⟨bu', ou', eu, hU⟩ := Kj.args.outs.row x hlt2
                  simp only [Option.some.injEq, Addr.mk.injEq] at eu
                  obtain ⟨rfl, rfl, _⟩ := eu
                  replace hU : wr.cell? ⟨bu, ou + x, none⟩ = some (.slice (A x) (N x) (C x)) := hU
                  by_cases hlt3 : j < N x
                  · obtain ⟨bi, oi, ei, cI, cS⟩ := Kj.args.outs.each x hlt2 j hlt3
                    rw [ei] at hU
                    obtain ⟨bc, oc', ec, dI, dS⟩ := Kj.cands x hlt2 j hlt3
                    rw [ec] at hT
                    have hszj := (HZ.out x hlt2).2 j hlt3
                    have hji : (j : Int) < (N x : Int) := by omega
                    clear ei ec
                    by_cases htag : hb = true ∧ x = (Nd (lst s k)).toNat ∧ j = 0
                    · obtain ⟨hbt, hxt, hjt⟩ := htag
                      rw [show tagI hb (Nd (lst s k)).toNat I x j = I x j ++ ⟨#[35]⟩ from by rw [hbt, hxt, hjt]; exact tagI_yes _ _] at dI
                      subst hbt
                      have hc1 := HHB.out.1 rfl
                      have hlp := lst_spec (s := s) (n := k) (by omega)
                      have hl0 : 0 ≤ lastV s k := by rw [lastV_pos (by omega)]; omega
                      have hl1 : lastV s k < k := by rw [lastV_pos (by omega)]; omega
                      obtain ⟨bl, ol, rfl, hcN, _, _⟩ := Kj.args.links (lst s k) hlp.1
                      have hcN' : wr.cell? ⟨bl, ol + (lastV s k).toNat * 3, none⟩ = some (.int .i64 (Nd (lst s k))) := by rw [lastV_pos (by omega)]; exact hcN
                      have hok := HOK.out _ hlp.1
                      have hbll : bl < wr.heap.size := World.block_lt_of_cell? _ _ hcN'
                      have e1 : ((x : Int) == Nd (lst s k)) = true := by simp; omega
                      have e2 : ((j : Int) == 0) = true := by simp [hjt]
                      clear hcN hc1 hxt hjt
                      go_wp2_with fail
                      have hne := Ext.some (wr.alloc (.cells #[.string (I x j ++ ⟨#[35]⟩), .float .f64 (S x j)] 38))
                      have q1 := fun (y : Ext (wr.alloc (.cells #[.string (I x j ++ ⟨#[35]⟩), .float .f64 (S x j)] 38))) => ext_old hT y
                      have q2 := fun (y : Ext (wr.alloc (.cells #[.string (I x j ++ ⟨#[35]⟩), .float .f64 (S x j)] 38))) => ext_old dI y
                      have q3 := fun (y : Ext (wr.alloc (.cells #[.string (I x j ++ ⟨#[35]⟩), .float .f64 (S x j)] 38))) => ext_old dS y
                      have q4 := fun (y : Ext (wr.alloc (.cells #[.string (I x j ++ ⟨#[35]⟩), .float .f64 (S x j)] 38))) => ext_new (i := 0) (v := .string (I x j ++ ⟨#[35]⟩)) rfl y
                      have q5 := fun (y : Ext (wr.alloc (.cells #[.string (I x j ++ ⟨#[35]⟩), .float .f64 (S x j)] 38))) => ext_new (i := 1) (v := .float .f64 (S x j)) rfl y
                      refine wp_region_ext (by kernel_rfl) (by kernel_rfl) ?_
                      repeat (go_big_quiet_step ((go_at_call 14; exact Ext.call ((sameCand _ _ _).mono fun e w' hh => ⟨hh.1, by rw [hh.2]; exact ((Below.refl _ _).alloc (Nat.le_refl _) _).alloc (by simp) _⟩))))
                      refine wpQuiet_nil ?_
                      intro w9 hw9
                      obtain ⟨y, rfl⟩ := hw9
                      clear q1 q2 q3 q4 q5 hne
                      have Ky := (Kj.below (bel_alloc (Below.refl _ _) _)).below y.bel
                      go_wp2_with fail
                      go_roundw
                      case rel => exact ⟨j + 1, by omega, by go_num, Ky⟩
                      case measure => simp [intOf]; omega
                    · rw [tagI_no htag] at dI
                      cases hb
                      · go_wp2_with fail
                        have hne := Ext.some (wr.alloc (.cells #[.string (I x j), .float .f64 (S x j)] 38))
                        have q1 := fun (y : Ext (wr.alloc (.cells #[.string (I x j), .float .f64 (S x j)] 38))) => ext_old hT y
                        have q2 := fun (y : Ext (wr.alloc (.cells #[.string (I x j), .float .f64 (S x j)] 38))) => ext_old dI y
                        have q3 := fun (y : Ext (wr.alloc (.cells #[.string (I x j), .float .f64 (S x j)] 38))) => ext_old dS y
                        have q4 := fun (y : Ext (wr.alloc (.cells #[.string (I x j), .float .f64 (S x j)] 38))) => ext_new (i := 0) (v := .string (I x j)) rfl y
                        have q5 := fun (y : Ext (wr.alloc (.cells #[.string (I x j), .float .f64 (S x j)] 38))) => ext_new (i := 1) (v := .float .f64 (S x j)) rfl y
                        refine wp_region_ext (by kernel_rfl) (by kernel_rfl) ?_
                        repeat (go_big_quiet_step ((go_at_call 14; exact Ext.call ((sameCand _ _ _).mono fun e w' hh => ⟨hh.1, by rw [hh.2]; exact ((Below.refl _ _).alloc (Nat.le_refl _) _).alloc (by simp) _⟩))))
                        refine wpQuiet_nil ?_
                        intro w9 hw9
                        obtain ⟨y, rfl⟩ := hw9
                        clear q1 q2 q3 q4 q5 hne
                        have Ky := (Kj.below (bel_alloc (Below.refl _ _) _)).below y.bel
                        go_wp2_with fail
                        go_roundw
                        case rel => exact ⟨j + 1, by omega, by go_num, Ky⟩
                        case measure => simp [intOf]; omega
                      · have hc1 := HHB.out.1 rfl
                        have hlp := lst_spec (s := s) (n := k) (by omega)
                        have hl0 : 0 ≤ lastV s k := by rw [lastV_pos (by omega)]; omega
                        have hl1 : lastV s k < k := by rw [lastV_pos (by omega)]; omega
                        obtain ⟨bl, ol, rfl, hcN, _, _⟩ := Kj.args.links (lst s k) hlp.1
                        have hcN' : wr.cell? ⟨bl, ol + (lastV s k).toNat * 3, none⟩ = some (.int .i64 (Nd (lst s k))) := by rw [lastV_pos (by omega)]; exact hcN
                        have hok := HOK.out _ hlp.1
                        have hbll : bl < wr.heap.size := World.block_lt_of_cell? _ _ hcN'
                        by_cases hxx : x = (Nd (lst s k)).toNat
                        · have e1 : ((x : Int) == Nd (lst s k)) = true := by simp; omega
                          have e2 : ((j : Int) == 0) = false := by simp; intro hj0; exact htag ⟨rfl, hxx, hj0⟩
                          clear hcN hc1 hxx htag
                          go_wp2_with fail
                          have hne := Ext.some (wr.alloc (.cells #[.string (I x j), .float .f64 (S x j)] 38))
                          have q1 := fun (y : Ext (wr.alloc (.cells #[.string (I x j), .float .f64 (S x j)] 38))) => ext_old hT y
                          have q2 := fun (y : Ext (wr.alloc (.cells #[.string (I x j), .float .f64 (S x j)] 38))) => ext_old dI y
                          have q3 := fun (y : Ext (wr.alloc (.cells #[.string (I x j), .float .f64 (S x j)] 38))) => ext_old dS y
                          have q4 := fun (y : Ext (wr.alloc (.cells #[.string (I x j), .float .f64 (S x j)] 38))) => ext_new (i := 0) (v := .string (I x j)) rfl y
                          have q5 := fun (y : Ext (wr.alloc (.cells #[.string (I x j), .float .f64 (S x j)] 38))) => ext_new (i := 1) (v := .float .f64 (S x j)) rfl y
                          refine wp_region_ext (by kernel_rfl) (by kernel_rfl) ?_
                          repeat (go_big_quiet_step ((go_at_call 14; exact Ext.call ((sameCand _ _ _).mono fun e w' hh => ⟨hh.1, by rw [hh.2]; exact ((Below.refl _ _).alloc (Nat.le_refl _) _).alloc (by simp) _⟩))))
                          refine wpQuiet_nil ?_
                          intro w9 hw9
                          obtain ⟨y, rfl⟩ := hw9
                          clear q1 q2 q3 q4 q5 hne
                          have Ky := (Kj.below (bel_alloc (Below.refl _ _) _)).below y.bel
                          go_wp2_with fail
                          go_roundw
                          case rel => exact ⟨j + 1, by omega, by go_num, Ky⟩
                          case measure => simp [intOf]; omega
                        · have e1 : ((x : Int) == Nd (lst s k)) = false := by simp; omega
                          clear hcN hc1 hxx htag
                          go_wp2_with fail
                          have hne := Ext.some (wr.alloc (.cells #[.string (I x j), .float .f64 (S x j)] 38))
                          have q1 := fun (y : Ext (wr.alloc (.cells #[.string (I x j), .float .f64 (S x j)] 38))) => ext_old hT y
                          have q2 := fun (y : Ext (wr.alloc (.cells #[.string (I x j), .float .f64 (S x j)] 38))) => ext_old dI y
                          have q3 := fun (y : Ext (wr.alloc (.cells #[.string (I x j), .float .f64 (S x j)] 38))) => ext_old dS y
                          have q4 := fun (y : Ext (wr.alloc (.cells #[.string (I x j), .float .f64 (S x j)] 38))) => ext_new (i := 0) (v := .string (I x j)) rfl y
                          have q5 := fun (y : Ext (wr.alloc (.cells #[.string (I x j), .float .f64 (S x j)] 38))) => ext_new (i := 1) (v := .float .f64 (S x j)) rfl y
                          refine wp_region_ext (by kernel_rfl) (by kernel_rfl) ?_
                          repeat (go_big_quiet_step ((go_at_call 14; exact Ext.call ((sameCand _ _ _).mono fun e w' hh => ⟨hh.1, by rw [hh.2]; exact ((Below.refl _ _).alloc (Nat.le_refl _) _).alloc (by simp) _⟩))))
                          refine wpQuiet_nil ?_
                          intro w9 hw9
                          obtain ⟨y, rfl⟩ := hw9
                          clear q1 q2 q3 q4 q5 hne
                          have Ky := (Kj.below (bel_alloc (Below.refl _ _) _)).below y.bel
                          go_wp2_with fail
                          go_roundw
                          case rel => exact ⟨j + 1, by omega, by go_num, Ky⟩
                          case measure => simp [intOf]; omega
                  · go_wp2_with fail
                    go_roundw
                    case rel => exact ⟨x + 1, by omega, by go_num, Kj⟩
                    case measure => simp [intOf]; omega
              · go_wp2_with fail
                go_ret
                exact ⟨rfl, K.bel⟩

set_option maxRecDepth 100000 in
theorem law6big (a0 a1 a2 : Option Addr) (n0 c0 n1 c1 n2 c2 : Nat) (A : Nat → Option Addr) (N C : Nat → Nat) (I : Nat → Nat → ByteArray) (S : Nat → Nat → Nat) (w : World)
    (hm1 : n1 ≤ maxLen) (hbig : 4096 < n0 ∨ 65536 < n1 ∨ 65536 < n2) (hNm : ∀ x, x < n1 → N x ≤ maxLen) (hO : OutsAt w a1 n1 A N C I S) :
    Calls Try.prog 6 #[.slice a0 n0 c0, .slice a1 n1 c1, .slice a2 n2 c2] w fun e w' => e = .returned (.bool true) ∧ Below w.heap.size w w' := by
  by_cases g0 : 4096 < n0
  · have g0' : (4096 : Int) < n0 := by omega
    clear hbig
    go_enter Try.func6, Try.ntmps6
    go_wp2_with fail
    refine (bytes28 a0 a1 a2 n0 c0 n1 c1 n2 c2 A N C I S w hm1 hNm hO).mono ?_
    rintro e w' ⟨rfl, r, rfl⟩
    cases r
    · go_wp2_with fail
      go_ret
      exact ⟨rfl, Below.refl _ _⟩
    go_wp2_with fail
    go_ret
    exact ⟨rfl, Below.refl _ _⟩
  by_cases g1 : 65536 < n1
  · have g1' : (65536 : Int) < n1 := by omega
    clear hbig
    go_enter Try.func6, Try.ntmps6
    go_wp2_with fail
    refine (bytes28 a0 a1 a2 n0 c0 n1 c1 n2 c2 A N C I S w hm1 hNm hO).mono ?_
    rintro e w' ⟨rfl, r, rfl⟩
    cases r
    · go_wp2_with fail
      go_ret
      exact ⟨rfl, Below.refl _ _⟩
    go_wp2_with fail
    go_ret
    exact ⟨rfl, Below.refl _ _⟩
  · have g2 : 65536 < n2 := by omega
    have g2' : (65536 : Int) < n2 := by omega
    clear hbig
    go_enter Try.func6, Try.ntmps6
    go_wp2_with fail
    refine (bytes28 a0 a1 a2 n0 c0 n1 c1 n2 c2 A N C I S w hm1 hNm hO).mono ?_
    rintro e w' ⟨rfl, r, rfl⟩
    cases r
    · go_wp2_with fail
      go_ret
      exact ⟨rfl, Below.refl _ _⟩
    go_wp2_with fail
    go_ret
    exact ⟨rfl, Below.refl _ _⟩

theorem law6 (a0 a1 a2 : Option Addr) (n0 c0 n1 c1 n2 c2 : Nat) (Nd Wh O : Nat → Int) (So : Nat → Bool) (A : Nat → Option Addr) (N C : Nat → Nat) (I : Nat → Nat → ByteArray) (S : Nat → Nat → Nat) (w : World)
    (hm1 : n1 ≤ maxLen) (hNm : ∀ x, x < n1 → N x ≤ maxLen) (hW : ∀ i, i < n0 → 0 ≤ Wh i) (hO : ∀ i, i < n2 → 0 ≤ O i) (hA : Args w a0 a1 a2 n0 n1 n2 Nd Wh O So A N C I S) :
    Calls Try.prog 6 #[.slice a0 n0 c0, .slice a1 n1 c1, .slice a2 n2 c2] w fun e w' => e = .returned (.bool true) ∧ Below w.heap.size w w' := by
  by_cases hbig : 4096 < n0 ∨ 65536 < n1 ∨ 65536 < n2
  · exact law6big a0 a1 a2 n0 c0 n1 c1 n2 c2 A N C I S w hm1 hbig hNm hA.outs
  · exact law6' a0 a1 a2 n0 c0 n1 c1 n2 c2 Nd Wh O So A N C I S w (by omega) (by omega) (by omega) hNm hW hO hA

end Go.Proofs.Qxb6604581a
