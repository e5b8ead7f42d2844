import Derived.Test.Qxb6604581aLawA
namespace Go.Proofs.Qxb6604581a
open Go.RowKit
set_option linter.unusedVariables false

/-- All(). -/
theorem all16 (a0 a1 : Option Addr) (n0 c0 n1 c1 : Nat) (w : World) :
    Calls Try.prog 16 #[.agg #[.slice a0 n0 c0, .slice a1 n1 c1]] w fun e w' => e = .returned (.slice a0 n0 c0) ∧ Below w.heap.size w w' := by
  go_enter Try.func16, Try.ntmps16
  go_wp2
  go_ret
  exact ⟨rfl, (Below.refl _ _).alloc (Nat.le_refl _) _⟩

/-- The cells of m candidates from s on. -/
def cellsFrom (I : Nat → ByteArray) (S : Nat → Nat) (s m : Nat) : List Value := (List.range (m * 2)).map fun j => if j % 2 = 0 then Value.string (I (s + j / 2)) else .float .f64 (S (s + j / 2))

theorem cellsFrom_len (I : Nat → ByteArray) (S : Nat → Nat) (s m : Nat) : (cellsFrom I S s m).length = m * 2 := by simp [cellsFrom]

theorem CandsAt.cellAt {w : World} {b off : Nat} {n : Nat} {I : Nat → ByteArray} {S : Nat → Nat} (h : CandsAt w (some ⟨b, off, none⟩) n I S) {j : Nat} (hj : j < n * 2) :
    w.cell? ⟨b, off + j, none⟩ = some (if j % 2 = 0 then Value.string (I (j / 2)) else .float .f64 (S (j / 2))) := by
  obtain ⟨b', off', e, h1, h2⟩ := h (j / 2) (by omega)
  simp only [Option.some.injEq, Addr.mk.injEq] at e
  obtain ⟨rfl, rfl, _⟩ := e
  rcases Nat.mod_two_eq_zero_or_one j with h0 | h0
  · rw [if_pos h0, show off + j = off + j / 2 * 2 by omega]; exact h1
  · rw [if_neg (by omega), show off + j = off + j / 2 * 2 + 1 by omega]; exact h2

theorem olds_at {w : World} {a : Option Addr} {n : Nat} {I : Nat → ByteArray} {S : Nat → Nat} {y z : Int} (h : CandsAt w a n I S) (h0 : 0 ≤ y) (h1 : y ≤ z) (h2 : z ≤ n) :
    ∀ b, lstAddr a y z = some b → ∀ j u, (cellsFrom I S y.toNat (z - y).toNat)[j]? = some u → w.cell? (b.add j) = some u := by
  intro b hb j u hu
  simp only [cellsFrom, List.getElem?_map] at hu
  obtain ⟨j', hj', rfl⟩ := Option.map_eq_some_iff.1 hu
  clear hu
  obtain ⟨hlt, e⟩ := List.getElem?_eq_some_iff.1 hj'
  rw [List.getElem_range] at e
  subst e
  rw [List.length_range] at hlt
  rcases h.split with h00 | ⟨bb, off, rfl, _⟩
  · omega
  rw [lstAddr_lt _ _ _ _ h0 (by omega)] at hb
  simp only [Option.some.injEq] at hb
  subst hb
  rw [WideShapes.add_plain]
  have := h.cellAt (j := y.toNat * 2 + j) (by omega)
  rw [show (y.toNat * 2 + j) % 2 = j % 2 by omega, show (y.toNat * 2 + j) / 2 = y.toNat + j / 2 by omega, ← Nat.add_assoc] at this
  exact this

theorem none_at {a : Option Addr} {n : Nat} {y z : Int} (h : Plain a n) (h0 : 0 ≤ y) (h1 : y ≤ z) (h2 : z ≤ n) : lstAddr a y z = none → (z - y).toNat = 0 ∧ (z - y).toNat = 0 := by
  intro e
  rcases h with ⟨rfl, rfl⟩ | ⟨b, off, rfl⟩
  · omega
  · unfold lstAddr at e
    split at e <;> simp at e

set_option maxRecDepth 100000 in
set_option maxHeartbeats 1000000 in
theorem law4' (a a2 : Option Addr) (n c n2 c2 : Nat) (I : Nat → ByteArray) (S : Nat → Nat) (Z : Nat → Int) (w : World) (hn : n ≤ 65536) (hn2 : n2 ≤ 65536) (hA : CandsAt w a n I S) (hE : IntsAt w a2 n2 Z) :
    Calls Try.prog 4 #[.slice a n c, .slice a2 n2 c2] w fun e w' => e = .returned (.bool true) ∧ Below w.heap.size w w' := by
  have hmx : n ≤ maxLen := by unfold maxLen; omega
  have hmx2 : n2 ≤ maxLen := by unfold maxLen; omega
  obtain ⟨i0, hi0, hz0, hz1, hz2⟩ := info_parts Try.info37
  go_enter Try.func4, Try.ntmps4
  go_wp2_with fail
  refine (bytes15 a n c n2 c2 a2 I S w hmx hA).mono ?_
  rintro e w' ⟨rfl, r, rfl⟩
  cases r
  · go_wp2_with fail
    go_ret
    exact ⟨rfl, Below.refl _ _⟩
  go_wp2_with fail
  refine (add8 a n c _ I S w hmx hA).mono ?_
  rintro e w' ⟨rfl, v, rfl⟩
  by_cases hv : 1048576 < v
  · go_wp2_with fail
    go_ret
    exact ⟨rfl, Below.refl _ _⟩
  go_wp2_with fail
  refine (lay9 a2 n2 c2 _ Z w hmx2 hE).mono ?_
  rintro e w' ⟨rfl, r, rfl, hr⟩
  cases r
  · go_wp2_with fail
    go_ret
    exact ⟨rfl, Below.refl _ _⟩
  have hL : Layout n n2 Z := hr rfl
  clear hr
  go_wp2_with fail
  refine (clone10 a2 n2 c2 Z w (by omega) hE).mono ?_
  rintro e w1 ⟨b2, rfl, hb1, hE1⟩
  go_wp2_with fail
  refine (cands11 a n c I S w1 (by omega) (hA.below hb1)).mono ?_
  rintro e w2 ⟨b1, rfl, hb2, hA2, hp⟩
  go_wp2_with fail
  refine (input12 b1 b2 n n n2 n2 w2).mono ?_
  rintro e w3 ⟨rfl, rfl⟩
  go_wp2_with fail
  have F0 := In3.start hA hb1 hE1 hb2 hA2 (.cells #[.slice b1 n n, .slice b2 n2 n2] 31)
  go_loopw [7, 8] (fun sv kv wr => ∃ k : Nat, k ≤ n2 ∧ kv = .int .i64 k ∧ sv = .int .i64 (pre Z k) ∧ In3 w wr (w2.heap.size + 1) a b1 b2 n n2 I S Z) (fun _ kv _ => n2 - (intOf kv).toNat)
  case atStart => exact ⟨0, Nat.zero_le _, rfl, rfl, F0⟩
  case round =>
    obtain ⟨k, hk, rfl, rfl, F⟩ := hrel
    clear F0
    by_cases hlt : k < n2
    · have hi1 := F.i0
      have hi2 := F.i1
      have h0 := hL.nonneg k hk
      have h1 := hL.1 k hlt
      have h2 := hL.top hlt
      go_wp2_with fail
      refine (list13 b1 b2 n n n2 n2 k _ Z wr rfl hlt (by omega) hp (Nat.le_refl _) F.ends h0 h1 h2).mono ?_
      rintro e w4 ⟨hb4, rfl⟩
      have F4 := F.below hb4
      have hold := olds_at (F4.cs) h0 h1 h2
      have hnone := none_at hp h0 h1 h2
      have holdl := cellsFrom_len I S (pre Z k).toNat (Z k - pre Z k).toNat
      have hsum : pre Z k + ((Z k - pre Z k).toNat : Int) = Z k := by omega
      have hml : (Z k - pre Z k).toNat ≤ 65536 := by omega
      generalize cellsFrom I S (pre Z k).toNat (Z k - pre Z k).toNat = olds at *
      generalize lstAddr b1 (pre Z k) (Z k) = al at *
      generalize (Z k - pre Z k).toNat = m at *
      have HS : Hid (pre Z k + (m : Int) = Z k) := hsum
      clear hsum hi1 hi2
      go_wp2_with (at_builtin; refine wpList_append_grows _ rfl (.tmp 55) (.tmp 57) 28 rfl 37 i0 (.agg #[.string ByteArray.empty, .float .f64 0]) 2 24 Try.underlying28 hi0 hz0 hz1 hz2 rfl (by decide) al m m olds rfl hnone holdl ?hold ⟨w4.heap.size, 0, none⟩ 1 1 [.string ⟨#[122, 122, 45, 97, 112, 112, 101, 110, 100, 101, 100]⟩, .float .f64 13830554455654793216] rfl rfl ?c1 ?c2 (by omega) (by unfold maxLen; omega) (by omega) ?grow)
      case hold => exact fun b hb j u hu => (((Below.refl w4.heap.size w4).alloc (Nat.le_refl _) _).cell (World.block_lt_of_cell? _ _ (hold b hb j u hu))).trans (hold b hb j u hu)
      case c1 =>
        intro j u hj
        match j, hj with
        | 0, hj => simp at hj; subst hj; simp [Addr.add]
        | 1, hj => simp at hj; subst hj; simp [Addr.add]
      case c2 => first | exact ⟨rfl, rfl⟩ | (intro u hu; simp at hu; rcases hu with rfl | rfl <;> rfl)
      case grow =>
        intro v' w5 hown hgrow
        have hbel : Below w4.heap.size w4 w5 := ((Below.refl _ _).alloc (Nat.le_refl _) _).grown hgrow (by simp) (fun k h => by cases h)
        obtain ⟨g, cap', rfl⟩ : ∃ g cap', v' = .slice (some ⟨g, 0, none⟩) (m + 1) cap' := by
          rcases hown.2 with ⟨_, h⟩ | ⟨g, cap', _, h, _⟩
          · omega
          · exact ⟨g, cap', h⟩
        have F5 := F4.below hbel
        have hlen : (((m + 1 : Nat) : Int) == 0) = false := by simp; omega
        clear hold hnone holdl hown hgrow
        go_wp2_with fail
        go_roundw
        case rel => exact ⟨k + 1, by omega, by go_num, by rw [pre_succ, ← HS.out], F5⟩
        case measure => simp [intOf]; omega
    · obtain rfl : k = n2 := by omega
      have hi1 := F.i0
      have hi2 := F.i1
      have hN : pre Z k = n := hL.2
      rw [hN]
      go_wp2_with fail
      refine (all16 b1 b2 n n k k wr).mono ?_
      rintro e w4 ⟨rfl, hb4⟩
      have F4 := F.below hb4
      clear hi1 hi2
      go_wp2_with fail
      go_loopw [11] (fun iv wj => ∃ i : Nat, i ≤ n ∧ iv = .int .i64 i ∧ In3 w wj (w2.heap.size + 1) a b1 b2 n k I S Z) (fun iv _ => n - (intOf iv).toNat)
      case atStart => exact ⟨0, Nat.zero_le _, rfl, F4⟩
      case round =>
        obtain ⟨i, hi, rfl, Fi⟩ := hrel
        by_cases hlt2 : i < n
        · obtain ⟨ba, oa, rfl, hcI, hcS⟩ := Fi.all i hlt2
          obtain ⟨bc, oc, rfl, hdI, hdS⟩ := Fi.cs i hlt2
          have hne := Ext.some wr
          have q1 := fun y => Ext.cell hdI y
          have q2 := fun y => Ext.cell hdS y
          have q3 := fun y => Ext.cell hcI y
          have q4 := fun y => Ext.cell hcS y
          have hj2 : (i : Int) < (n : Int) := by omega
          go_wp2_with fail
          refine wp_region_ext (by kernel_rfl) (by kernel_rfl) ?_
          repeat (go_big_quiet_step ((go_at_call 14; exact Ext.call ((sameCand _ _ _).mono fun e w' hh => ⟨hh.1, by rw [hh.2]; exact ((Below.refl _ _).alloc (Nat.le_refl _) _).alloc (by simp) _⟩))))
          refine wpQuiet_nil ?_
          intro w5 hw5
          obtain ⟨y, rfl⟩ := hw5
          clear q1 q2 q3 q4 hne
          have Fy := Fi.below y.bel
          go_wp2_with fail
          go_roundw
          case rel => exact ⟨i + 1, by omega, by go_num, Fy⟩
          case measure => simp [intOf]; omega
        · go_wp2_with fail
          go_ret
          exact ⟨rfl, Fi.bel⟩

theorem law4big (a a2 : Option Addr) (n c n2 c2 : Nat) (I : Nat → ByteArray) (S : Nat → Nat) (w : World) (hn : n ≤ maxLen) (hbig : 65536 < n ∨ 65536 < n2) (hA : CandsAt w a n I S) :
    Calls Try.prog 4 #[.slice a n c, .slice a2 n2 c2] w fun e w' => e = .returned (.bool true) ∧ Below w.heap.size w w' := by
  by_cases h1 : 65536 < n
  · have h1' : (65536 : Int) < n := by omega
    go_enter Try.func4, Try.ntmps4
    go_wp2_with fail
    refine (bytes15 a n c n2 c2 a2 I S w hn hA).mono ?_
    rintro e w' ⟨rfl, r, rfl⟩
    cases r
    · go_wp2_with fail
      go_ret
      exact ⟨rfl, Below.refl _ _⟩
    go_wp2_with fail
    go_ret
    exact ⟨rfl, Below.refl _ _⟩
  · have h2 : 65536 < n2 := by omega
    have h2' : (65536 : Int) < n2 := by omega
    clear hbig
    go_enter Try.func4, Try.ntmps4
    go_wp2_with fail
    refine (bytes15 a n c n2 c2 a2 I S w hn hA).mono ?_
    rintro e w' ⟨rfl, r, rfl⟩
    cases r
    · go_wp2_with fail
      go_ret
      exact ⟨rfl, Below.refl _ _⟩
    go_wp2_with fail
    go_ret
    exact ⟨rfl, Below.refl _ _⟩

theorem law4 (a a2 : Option Addr) (n c n2 c2 : Nat) (I : Nat → ByteArray) (S : Nat → Nat) (Z : Nat → Int) (w : World) (hn : n ≤ maxLen) (hA : CandsAt w a n I S) (hE : IntsAt w a2 n2 Z) :
    Calls Try.prog 4 #[.slice a n c, .slice a2 n2 c2] w fun e w' => e = .returned (.bool true) ∧ Below w.heap.size w w' := by
  by_cases h : 65536 < n ∨ 65536 < n2
  · exact law4big a a2 n c n2 c2 I S w hn h hA
  · exact law4' a a2 n c n2 c2 I S Z w (by omega) (by omega) hA hE

end Go.Proofs.Qxb6604581a
