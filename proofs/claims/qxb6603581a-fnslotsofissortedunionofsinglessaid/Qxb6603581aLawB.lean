import Derived.Test.Qxb6603581aLawA
namespace Go.Proofs.Qxb6603581a
open Go.RowKit
set_option linter.unusedVariables false

theorem bdrewN {B : Nat} {a w : World} (h : Below B a w) (n : Nat) : Below B a (w.drewN n) := h.trans ⟨rfl, rfl, rfl, Nat.le_refl _, fun _ _ => rfl⟩

/-- Which of the 4096 are met among the first k. -/
def mkZ (Z : Nat → Int) : Nat → Nat → Bool
  | 0, _ => false
  | k + 1, j => mkZ Z k j || (Z k == (j : Int))

theorem mkZ_true (Z : Nat → Int) (j : Nat) : ∀ k, (∃ x, x < k ∧ Z x = (j : Int)) → mkZ Z k j = true
  | 0, ⟨x, hx, _⟩ => absurd hx (Nat.not_lt_zero _)
  | k + 1, ⟨x, hx, e⟩ => by
    unfold mkZ
    by_cases h : x = k
    · subst h; simp [e]
    · rw [mkZ_true Z j k ⟨x, by omega, e⟩]; rfl

theorem mkZ_step {wr : World} {B k sk : Nat} {Z : Nat → Int} (h : wr.rowIs B 25 4096 (fun j => .bool (mkZ Z k j))) (hSk : Z k = (sk : Int)) :
    (wr.setCell ⟨B, sk, none⟩ (.bool true)).rowIs B 25 4096 (fun j => .bool (mkZ Z (k + 1) j)) :=
  (h.set sk (.bool true)).congr (fun j _ => by
    simp only [mkZ, hSk]
    by_cases e : j = sk
    · subst e; simp
    · have e2 : ((sk : Int) == (j : Int)) = false := by simpa using (by omega : ¬ (sk : Int) = (j : Int))
      simp [e, e2])

/-- What is known of the slots that came back. -/
structure Hl (S : Nat → Int) (n L : Nat) (Z : Nat → Int) : Prop where
  up : ∀ i j, i < j → j < L → Z i < Z j
  lo : ∀ j, j < L → 0 ≤ Z j ∧ Z j < 4096
  hit : ∀ j, j < L → ∃ i, i < n ∧ S i = Z j
  all : ∀ i, i < n → ∃ j, j < L ∧ Z j = S i

theorem hl_T (S : Nat → Int) (n : Nat) (hS : ∀ i, 0 ≤ S i ∧ S i < 4096) : Hl S n (T S n).length (fun i => (T S n).getD i 0) := by
  refine ⟨fun i j hij hj => tI_lt S n i j hij hj, fun j hj => ?_, fun j hj => of_tI S n j hj, fun i hi => tI_of S n i hi⟩
  obtain ⟨i, hi, e⟩ := of_tI S n j hj
  have := hS i
  rw [e] at this
  exact this

/-- The i-th key of the mixed list. -/
def mx (n j : Nat) : Nat := if j < n then n - 1 - j else j - n

theorem T_mixed (S : Nat → Int) (n : Nat) : T (fun j => S (mx n j)) (n + n) = T S n := by
  refine T_ext _ _ _ _ (fun x => ⟨?_, ?_⟩)
  · rintro ⟨j, hj, e⟩
    refine ⟨mx n j, ?_, e⟩
    unfold mx
    split <;> omega
  · rintro ⟨i, hi, e⟩
    refine ⟨n + i, by omega, ?_⟩
    have : mx n (n + i) = i := by unfold mx; rw [if_neg (by omega)]; omega
    simp only [this]
    exact e

/-- The mixed list's first m elements. -/
def mixL (A : Nat → Option Addr) (N : Nat → Nat) (n m : Nat) : List Value := (List.range m).map (fun j => .slice (A (mx n j)) (N (mx n j)) (N (mx n j)))

theorem mixL_succ (A : Nat → Option Addr) (N : Nat → Nat) (n m : Nat) : mixL A N n (m + 1) = mixL A N n m ++ [.slice (A (mx n m)) (N (mx n m)) (N (mx n m))] := by simp [mixL, List.range_succ]

theorem mx_lt (n j : Nat) (hj : j < n + n) : mx n j < n := by unfold mx; split <;> omega

theorem keys_of_row {wr : World} {base n m : Nat} {v : Value} {A : Nat → Option Addr} {N : Nat → Nat} {V : Nat → Nat → Int} (h : wr.ownsRow base 28 1 v m (mixL A N n m)) (hm : m ≤ n + n) (hB : ∀ i, i < n → BytesAt wr (A i) (N i) (V i)) :
    ∃ a c, v = .slice a m c ∧ KeysAt wr a m (fun j => A (mx n j)) (fun j => N (mx n j)) (fun j => N (mx n j)) (fun j => V (mx n j)) := by
  have hE : ∀ i, i < m → BytesAt wr (A (mx n i)) (N (mx n i)) (V (mx n i)) := fun i hi => hB _ (mx_lt n i (by omega))
  have h' := h
  rcases h'.2 with ⟨rfl, rfl⟩ | ⟨g, cap, cur, rfl, _⟩
  · exact ⟨none, 0, rfl, fun i hi => absurd hi (Nat.not_lt_zero _), hE⟩
  · refine ⟨_, _, rfl, fun i hi => ⟨g, 0, rfl, ?_⟩, hE⟩
    rw [Nat.zero_add, h.cellAt i (by omega)]
    simp [mixL, hi]

theorem one_slice (a : Option Addr) (n c : Nat) : ∀ u ∈ [Value.slice a n c], u.oneCell' = true := by
  intro u hu
  simp at hu
  subst hu
  rfl

theorem row_lt {w : World} {base : Nat} {e : TypeId} {size : Nat} {v : Value} {n : Nat} {xs : List Value} (h : w.ownsRow base e size v n xs) : ∀ j, v.ownBlock = some j → base ≤ j := fun j hj => (h.lt j hj).1

theorem make2 (n : Nat) (hn : n ≤ 1048576) (w : World) : (Instr.makeSlice 22 (.int .i64 0) (.int .i64 (2 * (n : Int)))).run Try.prog w = .ok (.slice (some ⟨w.heap.size, 0, none⟩) 0 (2 * n)) (w.alloc (.cells (madeCells #[.slice none 0 0] (2 * n)) 28)) := by
  obtain ⟨i, hi, hzz⟩ := Option.map_eq_some_iff.1 Try.info28
  simp only [Prod.mk.injEq] at hzz
  obtain ⟨hz, hs, hb⟩ := hzz
  have hr := run_make (P := Try.prog) w 22 28 i _ Try.underlying22 hi hz .i64 .i64 0 (2 * (n : Int)) (by omega) (by omega) (by rw [hb]; omega) (by omega)
  have e : (2 * (n : Int)).toNat = 2 * n := by omega
  rw [e] at hr
  simpa [hs, Value.cells] using hr

theorem make1 (w : World) : (Instr.makeSlice 22 (.int .i64 1) (.int .i64 1)).run Try.prog w = .ok (.slice (some ⟨w.heap.size, 0, none⟩) 1 1) (w.alloc (.cells (madeCells #[.slice none 0 0] 1) 28)) :=
  run_make_row' (P := Try.prog) 22 28 (.slice none 0 0) 24 Try.underlying22 Try.info28 rfl .i64 .i64 1 (by omega) (by omega) w

set_option maxHeartbeats 1600000 in
set_option maxRecDepth 100000 in
theorem walk4 (a : Option Addr) (n c : Nat) (A : Nat → Option Addr) (N C : Nat → Nat) (V : Nat → Nat → Int) (w : World) (hn : n ≤ maxLen) (h : KeysAt w a n A N C V) :
    Calls Try.prog 4 #[.slice a n c] w fun e w' => e = .returned (.bool true) ∧ Below w.heap.size w w' := by
  obtain ⟨M, hzM, hM1, hM2⟩ := zero25
  have hm1 := make1
  go_enter Try.func4, Try.ntmps4
  go_wp2_with fail
  refine (bytes11 a n c A N C V w hn h).mono ?_
  rintro e w1 ⟨rfl, r, rfl, hsm⟩
  cases r with
  | false =>
    go_wp2_with fail
    go_ret
    exact ⟨rfl, Below.refl _ _⟩
  | true =>
    obtain ⟨hn2, hN⟩ := hsm rfl
    clear hsm
    have hm2 := make2 n hn2
    go_wp2_with fail
    refine (big6 a n c A N C V w1 hn2 hN h).mono ?_
    rintro e w0 ⟨rfl, r, rfl⟩
    cases r with
    | true =>
      go_wp2_with fail
      go_ret
      exact ⟨rfl, Below.refl _ _⟩
    | false =>
      go_wp2_with fail
      refine (copy7 a n c A N C V w0 hn2 hN h).mono ?_
      rintro e w1 ⟨a', A', rfl, hb1, hK1⟩
      clear h hn
      obtain ⟨S, hS⟩ : ∃ S : Nat → Int, ∀ i, S i = hs (V i) (N i) % 4096 := ⟨fun i => hs (V i) (N i) % 4096, fun _ => rfl⟩
      have hS1 : ∀ i, 0 ≤ S i ∧ S i < 4096 := fun i => by rw [hS i]; omega
      go_wp2_with fail
      refine (new10 w1).mono ?_
      rintro e w2 ⟨hb2, sb, q, hp2, rfl⟩
      go_wp2_with fail
      refine (slots9 sb q a' n n A' N N V S w2 (by omega) hN (fun i _ => hS i) (hK1.below hb2) hp2).mono ?_
      rintro e w3 ⟨a2, c2, rfl, hb23, hI3⟩
      have hK3 := (hK1.below hb2).below hb23
      have hp3 := (hb23.cell (World.block_lt_of_cell? _ _ hp2)).trans hp2
      have hb3 : Below w0.heap.size w0 w3 := (hb1.trans (hb2.mono hb1.size)).trans (hb23.mono (Nat.le_trans hb1.size hb2.size))
      have hl := hl_T S n hS1
      have hmix := T_mixed S n
      have hLn := T_short S n
      obtain ⟨TT, hTT⟩ : ∃ TT, T S n = TT := ⟨_, rfl⟩
      rw [hTT] at hl hmix hLn hI3 ⊢
      obtain ⟨Z, hZ⟩ : ∃ Z, (fun i => TT.getD i 0) = Z := ⟨_, rfl⟩
      obtain ⟨L, hL⟩ : ∃ L, TT.length = L := ⟨_, rfl⟩
      rw [hL] at hl hI3 hLn ⊢
      rw [hZ] at hl hI3
      clear hTT hb1 hb2 hb23 hK1 hp2
      go_wp2_with fail
      go_loopw [6] (fun i wr => ∃ k : Nat, k ≤ L ∧ i = .int .i64 k ∧ Below w3.heap.size w3 wr ∧ wr.rowIs w3.heap.size 25 4096 (fun j => .bool (mkZ Z k j))) (fun i _ => L - (intOf i).toNat)
      case atStart =>
        refine ⟨0, Nat.zero_le _, rfl, (Below.refl _ _).alloc (Nat.le_refl _) _, ?_⟩
        have := World.rowIs_alloc w3 M 25 (fun j => .bool (mkZ Z 0 j)) (fun i hi => by
          rw [hM1] at hi
          rw [hM2 i hi]
          rfl)
        rwa [hM1] at this
      case round =>
        obtain ⟨k, hk, rfl, hbr, hrow⟩ := hrel
        by_cases hlt : k < L
        · obtain ⟨b, off, rfl, hc⟩ := (hI3.below hbr) k hlt
          obtain ⟨zk, ezk⟩ : ∃ zk : Nat, Z k = (zk : Int) := Int.eq_ofNat_of_zero_le (hl.lo k hlt).1
          have hzk : zk < 4096 := by have := (hl.lo k hlt).2; omega
          rw [ezk] at hc
          have hd := hrow.cell hzk
          have hf := hrow.frozen zk
          have hst := mkZ_step hrow ezk
          rcases Nat.eq_zero_or_pos k with hk0 | hpos
          · have hg : decide (0 < k) = false := by simp [hk0]
            clear hk0
            go_wp2_with fail
            go_quiet (fail)
            go_wp2_with fail
            go_roundw
            case rel => exact ⟨k + 1, by omega, by go_num, (bdrewN hbr nq).setCell (Nat.le_refl _) _, hst⟩
            case measure => simp [intOf]; omega
          · obtain ⟨b', off', e', hc'⟩ := (hI3.below hbr) (k - 1) (by omega)
            obtain ⟨zp, ezp⟩ : ∃ zk : Nat, Z (k - 1) = (zk : Int) := Int.eq_ofNat_of_zero_le (hl.lo (k - 1) (by omega)).1
            have hzz : zp < zk := by have := hl.up (k - 1) k (by omega) hlt; omega
            rw [ezp] at hc'
            cases e'
            obtain ⟨k', rfl⟩ : ∃ k', k = k' + 1 := ⟨k - 1, by omega⟩
            rw [Nat.add_sub_cancel] at hc'
            have hp1 : ((k' + 1 : Nat) : Int) - 1 = (k' : Int) := by omega
            go_wp2_with fail
            go_quiet (fail)
            go_wp2_with fail
            go_roundw
            case rel => exact ⟨k' + 1 + 1, by omega, by go_num, (bdrewN hbr nq).setCell (Nat.le_refl _) _, hst⟩
            case measure => simp [intOf]; omega
        · obtain rfl : k = L := by omega
          obtain ⟨w4, rfl⟩ : ∃ w4, w4 = wr := ⟨_, rfl⟩
          go_wp2_with fail
          clear hzM hm1
          go_loopw [9] (fun i wr => ∃ x : Nat, x ≤ n ∧ i = .int .i64 x ∧ Below w3.heap.size w3 wr ∧ wr.rowIs w3.heap.size 25 4096 (fun j => .bool (mkZ Z k j)) ∧ wr.rowIs w4.heap.size 25 4096 (fun j => .bool (mkZ S x j)) ∧ (∃ f, wr.rowIs (w4.heap.size + 1) 28 1 f)) (fun i _ => n - (intOf i).toNat)
          case atStart =>
            have hr1 := World.rowIs_alloc w4 M 25 (fun j => .bool (mkZ S 0 j)) (fun i hi => by
              rw [hM1] at hi
              rw [hM2 i hi]
              rfl)
            rw [hM1] at hr1
            have e1 : (w4.alloc (.cells M 25)).heap.size = w4.heap.size + 1 := by simp
            have hr2 := World.rowIs_made (w4.alloc (.cells M 25)) (.slice none 0 0) 1 28
            rw [e1] at hr2
            exact ⟨0, Nat.zero_le _, rfl, (hbr.alloc hbr.size _).alloc (by rw [e1]; have := hbr.size; omega) _, (hrow.alloc _).alloc _, hr1.alloc _, _, hr2⟩
          case round =>
            obtain ⟨x, hx, rfl, hbr2, hrow1, hrow2, f, hone⟩ := hrel
            have hw34 := hbr.size
            by_cases hxn : x < n
            · obtain ⟨b, off, rfl, hc⟩ := (hK3.below hbr2).row x hxn
              have hd := hone.cell (i := 0) (by omega)
              have hf := hone.frozen 0
              have hSx := hS1 x
              obtain ⟨sx, esx⟩ : ∃ sk : Nat, S x = (sk : Int) := Int.eq_ofNat_of_zero_le hSx.1
              have hsx : sx < 4096 := by omega
              go_wp2_with fail
              have hb5 := hbr2.setCell (show w3.heap.size ≤ (Addr.mk (w4.heap.size + 1) 0 none).block by show w3.heap.size ≤ w4.heap.size + 1; omega) (Value.slice (A' x) (N x) (N x))
              have hone5 := hone.set 0 (Value.slice (A' x) (N x) (N x))
              have hrow15 := hrow1.setOther (a := ⟨w4.heap.size + 1, 0, none⟩) (by show w3.heap.size ≠ w4.heap.size + 1; omega) (Value.slice (A' x) (N x) (N x))
              have hrow25 := hrow2.setOther (a := ⟨w4.heap.size + 1, 0, none⟩) (by show w4.heap.size ≠ w4.heap.size + 1; omega) (Value.slice (A' x) (N x) (N x))
              generalize wr.setCell ⟨w4.heap.size + 1, 0, none⟩ (Value.slice (A' x) (N x) (N x)) = w5 at hb5 hone5 hrow15 hrow25 ⊢
              have hK5 : KeysAt w5 (some ⟨w4.heap.size + 1, 0, none⟩) 1 (fun _ => A' x) (fun _ => N x) (fun _ => N x) (fun _ => V x) :=
                ⟨fun i hi => ⟨_, _, rfl, by
                  obtain rfl : i = 0 := by omega
                  simpa using hone5.cell (i := 0) (by omega)⟩, fun i hi => (hK3.below hb5).each x hxn⟩
              refine (slots9 sb q _ 1 1 (fun _ => A' x) (fun _ => N x) (fun _ => N x) (fun _ => V x) (fun _ => S x) w5 (by omega) (fun i _ => hN x hxn) (fun i _ => hS x) hK5 ((hb5.cell (World.block_lt_of_cell? _ _ hp3)).trans hp3)).mono ?_
              rintro e w6 ⟨a3, c3, rfl, hb6, hI6⟩
              rw [T_one] at hI6 ⊢
              obtain ⟨b3, off3, rfl, hc6⟩ := hI6 0 (by simp)
              have hc6' : w6.cell? ⟨b3, off3, none⟩ = some (.int .i64 (sx : Int)) := by rw [← esx]; simpa using hc6
              have hrow16 := hrow15.of_block (hb6.block _ hrow15.lt)
              have hrow26 := hrow25.of_block (hb6.block _ hrow25.lt)
              have hone6 := hone5.of_block (hb6.block _ hone5.lt)
              have hb36 := hb5.trans (hb6.mono hb5.size)
              have hz1 := hrow16.cell hsx
              obtain ⟨jx, hjx, ejx⟩ := hl.all x hxn
              rw [mkZ_true Z sx k ⟨jx, hjx, by rw [ejx, esx]⟩] at hz1
              have hd2 := hrow26.cell hsx
              have hf2 := hrow26.frozen sx
              have hst2 := mkZ_step hrow26 esx
              have hw4 := hrow.lt
              clear hc6 hI6 hK5 hd hf hc
              rw [List.length_singleton]
              go_wp2_with fail
              go_roundw
              case rel => exact ⟨x + 1, by omega, by go_num, hb36.setCell (by exact hw34) _, hrow16.setOther (by show w3.heap.size ≠ w4.heap.size; omega) _, hst2, _, hone6.setOther (by show w4.heap.size + 1 ≠ w4.heap.size; omega) _⟩
              case measure => simp [intOf]; omega
            · obtain rfl : x = n := by omega
              obtain ⟨w7, rfl⟩ : ∃ w7, w7 = wr := ⟨_, rfl⟩
              have hI7 := hI3.below hbr2
              have hK7 := hK3.below hbr2
              have hp7 := (hbr2.cell (World.block_lt_of_cell? _ _ hp3)).trans hp3
              go_wp2_with fail
              go_loop [11] (fun i => ∃ y : Nat, y ≤ k ∧ i = .int .i64 y) (fun i => k - (intOf i).toNat)
              case atStart => exact ⟨0, Nat.zero_le _, rfl⟩
              case round =>
                obtain ⟨y, hy, rfl⟩ := hrel
                by_cases hyk : y < k
                · obtain ⟨b, off, rfl, hc⟩ := hI7 y hyk
                  obtain ⟨zy, ezy⟩ : ∃ zk : Nat, Z y = (zk : Int) := Int.eq_ofNat_of_zero_le (hl.lo y hyk).1
                  have hzy : zy < 4096 := by have := (hl.lo y hyk).2; omega
                  rw [ezy] at hc
                  have hd := hrow2.cell hzy
                  obtain ⟨iy, hiy, eiy⟩ := hl.hit y hyk
                  rw [mkZ_true S zy x ⟨iy, hiy, by rw [eiy, ezy]⟩] at hd
                  go_wp2_with fail
                  go_round
                  case rel => exact ⟨y + 1, by omega, by go_num⟩
                  case measure => simp [intOf]; omega
                · obtain ⟨i0, hi, hz0, hz1, hz2⟩ := info_parts Try.info28
                  go_wp2_with fail
                  clear hm2
                  go_loopw [12, 13] (fun v i wr => ∃ y m : Nat, y + m = x ∧ i = .int .i64 ((m : Int) - 1) ∧ Below w7.heap.size w7 wr ∧ wr.ownsRow w7.heap.size 28 1 v y (mixL A' N x y)) (fun _ i _ => (intOf i + 1).toNat)
                  case atStart =>
                    refine ⟨0, x, by omega, rfl, (Below.refl _ _).alloc (Nat.le_refl _) _, by simp [mixL], .inr ⟨w7.heap.size, 2 * x, _, rfl, Nat.le_refl _, Deep.blk_alloc_new _ _, Nat.zero_le _, by unfold maxLen; omega, by rw [size_madeCells]; omega, by simp [mixL]⟩⟩
                  case round =>
                    obtain ⟨y, m, hym, rfl, hb8, hown⟩ := hrel
                    cases m with
                    | succ m =>
                      have em : ((m + 1 : Nat) : Int) - 1 = (m : Int) := by omega
                      rw [em]
                      obtain ⟨b, off, rfl, hc⟩ := (hK7.below hb8).row m (by omega)
                      have hmx : mx x y = m := by unfold mx; rw [if_pos (by omega)]; omega
                      have hs8 := hb8.size
                      go_wp2_with (first
                        | (at_builtin; refine wpList_append_own _ rfl _ _ 22 rfl w7.heap.size 28 i0 (.slice none 0 0) 1 24 Try.underlying22 hi hz0 hz1 hz2 rfl (by decide) _ _ _ rfl (hown.alloc _) ⟨wr.heap.size, 0, none⟩ 1 1 [.slice (A' m) (N m) (N m)] rfl rfl (cell_one_new _ _ _) (one_slice _ _ _) (by unfold maxLen; omega) (by omega) (by simp; omega) ?_; intro v' w8 hown' hgrow8 hnil8)
                        | go_in)
                      go_roundw
                      case rel =>
                        refine ⟨y + 1, m, by omega, rfl, ?_, ?_⟩
                        · exact (hb8.alloc hs8 _).grown hgrow8 (by simp; omega) (fun j hj => row_lt hown j hj)
                        · rw [mixL_succ, hmx]
                          exact hown'
                      case measure => simp [intOf]
                    | zero =>
                      obtain rfl : y = x := by omega
                      rw [show ((0 : Nat) : Int) - 1 = -1 from rfl]
                      go_wp2_with fail
                      go_loopw [12, 14] (fun v i wr => ∃ m : Nat, m ≤ y ∧ i = .int .i64 m ∧ Below w7.heap.size w7 wr ∧ wr.ownsRow w7.heap.size 28 1 v (y + m) (mixL A' N y (y + m))) (fun _ i _ => y - (intOf i).toNat)
                      case atStart => exact ⟨0, Nat.zero_le _, rfl, hb8, hown⟩
                      case round =>
                        obtain ⟨m, hm, rfl, hb9, hown9⟩ := hrel
                        by_cases hmy : m < y
                        · obtain ⟨b, off, rfl, hc⟩ := (hK7.below hb9).row m hmy
                          have hmx : mx y (y + m) = m := by unfold mx; rw [if_neg (by omega)]; omega
                          have hs9 := hb9.size
                          go_wp2_with (first
                            | (at_builtin; refine wpList_append_own _ rfl _ _ 22 rfl w7.heap.size 28 i0 (.slice none 0 0) 1 24 Try.underlying22 hi hz0 hz1 hz2 rfl (by decide) _ _ _ rfl (hown9.alloc _) ⟨wr.heap.size, 0, none⟩ 1 1 [.slice (A' m) (N m) (N m)] rfl rfl (cell_one_new _ _ _) (one_slice _ _ _) (by unfold maxLen; omega) (by omega) (by simp; omega) ?_; intro v' w8 hown' hgrow8 hnil8)
                            | go_in)
                          go_roundw
                          case rel =>
                            refine ⟨m + 1, by omega, by go_num, ?_, ?_⟩
                            · exact (hb9.alloc hs9 _).grown hgrow8 (by simp; omega) (fun j hj => row_lt hown9 j hj)
                            · rw [← Nat.add_assoc, mixL_succ, hmx]
                              exact hown'
                          case measure => simp [intOf]; omega
                        · obtain rfl : m = y := by omega
                          obtain ⟨w9, rfl⟩ : ∃ w9, w9 = wr := ⟨_, rfl⟩
                          obtain ⟨a5, c5, rfl, hK9⟩ := keys_of_row (V := V) hown9 (Nat.le_refl _) (fun i hi => (hK7.below hb9).each i hi)
                          go_wp2_with fail
                          refine (slots9 sb q a5 (m + m) c5 _ _ _ _ (fun j => S (mx m j)) w9 (by omega) (fun i hi => hN _ (mx_lt m i hi)) (fun i _ => hS _) hK9 ((hb9.cell (World.block_lt_of_cell? _ _ hp7)).trans hp7)).mono ?_
                          rintro e w10 ⟨a6, c6, rfl, hb10, hI10⟩
                          rw [hmix, hL] at hI10 ⊢
                          rw [hZ] at hI10
                          have hI11 := (hI7.below hb9).below hb10
                          have hbf : Below w0.heap.size w0 w10 := ((hb3.trans (hbr2.mono hb3.size)).trans (hb9.mono (Nat.le_trans hb3.size hbr2.size))).trans (hb10.mono (Nat.le_trans (Nat.le_trans hb3.size hbr2.size) hb9.size))
                          clear hK9 hK7 hK3 hown9 hown hmix hS hS1 hrow hrow1 hrow2 hone hI3 hI7
                          go_wp2_with fail
                          go_loopw [16] (fun i wr => ∃ z : Nat, z ≤ k ∧ i = .int .i64 z ∧ Below w10.heap.size w10 wr) (fun i _ => k - (intOf i).toNat)
                          case atStart => exact ⟨0, Nat.zero_le _, rfl, Below.refl _ _⟩
                          case round =>
                            obtain ⟨z, hz, rfl, hbz⟩ := hrel
                            by_cases hzk : z < k
                            · obtain ⟨b, off, rfl, hc⟩ := (hI10.below hbz) z hzk
                              obtain ⟨b', off', rfl, hc'⟩ := (hI11.below hbz) z hzk
                              generalize Z z = zz at hc hc'
                              go_wp2_with fail
                              go_quiet (fail)
                              go_wp2_with fail
                              go_roundw
                              case rel => exact ⟨z + 1, by omega, by go_num, bdrewN hbz nq⟩
                              case measure => simp [intOf]; omega
                            · go_wp2_with fail
                              go_ret
                              exact ⟨rfl, hbf.trans (hbz.mono hbf.size)⟩
end Go.Proofs.Qxb6603581a
