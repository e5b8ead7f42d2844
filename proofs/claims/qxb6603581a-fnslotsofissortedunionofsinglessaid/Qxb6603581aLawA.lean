import Derived.Test.Qxb6603581aPlain
namespace Go.Proofs.Qxb6603581a
open Go.RowKit
set_option linter.unusedVariables false

theorem bits_and (h : Int) (h0 : 0 ≤ h) (h1 : h < 4294967296) : bits .and .u32 h 4095 = h % 4096 := by
  obtain ⟨n, rfl⟩ := Int.eq_ofNat_of_zero_le h0
  have e1 : n % 4294967296 = n := Nat.mod_eq_of_lt (by omega)
  have e2 : n &&& 4095 = n % 4096 := Nat.and_two_pow_sub_one_eq_mod n 12
  simp [bits]
  rw [show IntKind.u32.bits = 32 from rfl, show n % 2 ^ 32 = n from e1, show 4095 % 2 ^ 32 = 4095 from rfl, e2]
  simp [IntKind.wrap, IntKind.bits, IntKind.signed]
  omega

theorem zero25 : ∃ M : Array Value, (∀ w, (zeroValue 25).run Try.prog w = .ok (.agg M) w) ∧ M.size = 4096 ∧ ∀ i, i < 4096 → M[i]? = some (.bool false) :=
  ⟨Array.replicate 4096 (.bool false), fun w => by simp [zeroValue, Try.zero25], Array.size_replicate, fun i hi => by rw [Array.getElem?_replicate, if_pos hi]⟩

theorem G_contains_succ (S : Nat → Int) (k : Nat) (x : Int) : (G S (k + 1)).contains x = ((G S k).contains x || (x == S k)) := by
  cases h : (G S k).contains (S k)
  · rw [G_new S k h]
    rw [Bool.eq_iff_iff]
    simp
  · rw [G_old S k h]
    cases e : (x == S k)
    · simp
    · have e' : x = S k := by simpa using e
      rw [e', h]
      rfl

theorem mark_step {wr : World} {B k sk : Nat} {S : Nat → Int} (h : wr.rowIs B 25 4096 (fun j => .bool ((G S k).contains (j : Int)))) (hSk : S k = (sk : Int)) :
    (wr.setCell ⟨B, sk, none⟩ (.bool true)).rowIs B 25 4096 (fun j => .bool ((G S (k + 1)).contains (j : Int))) :=
  (h.set sk (.bool true)).congr (fun j _ => by
    rw [G_contains_succ, hSk]
    by_cases e : j = sk
    · subst e; simp
    · have e2 : ((j : Int) == (sk : Int)) = false := by simpa using (by omega : ¬ (j : Int) = (sk : Int))
      simp [e, e2])

/-- What is known of the slots that came back. -/
structure Got (mk : Nat → Bool) (L : Nat) (Z : Nat → Int) : Prop where
  up : ∀ i j, i < j → j < L → Z i < Z j
  lo : ∀ j, j < L → 0 ≤ Z j ∧ Z j < 4096
  hit : ∀ j, j < L → mk (Z j).toNat = true
  all : ∀ s : Nat, mk s = true → ∃ j, j < L ∧ Z j = (s : Int)

theorem got_T (S : Nat → Int) (n : Nat) (hS : ∀ i, 0 ≤ S i ∧ S i < 4096) (mk : Nat → Bool) (hmk : ∀ s : Nat, mk s = (G S n).contains (s : Int)) : Got mk (T S n).length (fun i => (T S n).getD i 0) := by
  refine ⟨fun i j hij hj => tI_lt S n i j hij hj, fun j hj => ?_, fun j hj => ?_, fun s hs => ?_⟩
  · obtain ⟨i, hi, e⟩ := of_tI S n j hj
    have := hS i
    rw [e] at this
    exact this
  · obtain ⟨i, hi, e⟩ := of_tI S n j hj
    have := hS i
    rw [e] at this
    have e2 : (((T S n).getD j 0).toNat : Int) = (T S n).getD j 0 := Int.toNat_of_nonneg this.1
    rw [hmk, e2]
    have := (mem_G S (tI S n j) n).2 ⟨i, hi, e⟩
    simpa [tI] using this
  · have : (s : Int) ∈ G S n := by rw [hmk] at hs; simpa using hs
    obtain ⟨i, hi, e⟩ := (mem_G S _ n).1 this
    obtain ⟨j, hj, e2⟩ := tI_of S n i hi
    exact ⟨j, hj, by rw [← e, ← e2]; rfl⟩

set_option maxHeartbeats 800000 in
set_option maxRecDepth 100000 in
theorem walk3 (a : Option Addr) (n c : Nat) (A : Nat → Option Addr) (N C : Nat → Nat) (V : Nat → Nat → Int) (w : World) (hn : n ≤ maxLen) (h : KeysAt w a n A N C V) :
    Calls Try.prog 3 #[.slice a n c] w fun e w' => e = .returned (.bool true) ∧ Below w.heap.size w w' := by
  obtain ⟨M, hzM, hM1, hM2⟩ := zero25
  go_enter Try.func3, Try.ntmps3
  go_wp2_with fail
  refine (bytes5 a n c A N C V w hn h).mono ?_
  rintro e w1 ⟨rfl, r, rfl, hsm⟩
  cases r with
  | false =>
    go_wp2_with fail
    go_ret
    exact ⟨rfl, Below.refl _ _⟩
  | true =>
    obtain ⟨hn2, hN⟩ := hsm rfl
    clear hsm
    go_wp2_with fail
    refine (big6 a n c A N C V w1 hn2 hN h).mono ?_
    rintro e w2 ⟨rfl, r, rfl⟩
    cases r with
    | true =>
      go_wp2_with fail
      go_ret
      exact ⟨rfl, Below.refl _ _⟩
    | false =>
      go_wp2_with fail
      refine (copy7 a n c A N C V w2 hn2 hN h).mono ?_
      rintro e w1 ⟨a', A', rfl, hb1, hK⟩
      clear h hn
      obtain ⟨S, hS⟩ : ∃ S : Nat → Int, ∀ i, S i = hs (V i) (N i) % 4096 := ⟨fun i => hs (V i) (N i) % 4096, fun _ => rfl⟩
      go_wp2_with fail
      clear hzM
      go_loopw [4] (fun i wr => ∃ k : Nat, k ≤ n ∧ i = .int .i64 k ∧ Below w1.heap.size w1 wr ∧ wr.rowIs w1.heap.size 25 4096 (fun j => .bool ((G S k).contains (j : Int)))) (fun i _ => n - (intOf i).toNat)
      case atStart =>
        refine ⟨0, Nat.zero_le _, rfl, (Below.refl _ _).alloc (Nat.le_refl _) _, ?_⟩
        have := World.rowIs_alloc w1 M 25 (fun j => .bool ((G S 0).contains (j : Int))) (fun i hi => by
          rw [hM1] at hi
          rw [hM2 i hi]
          rfl)
        rwa [hM1] at this
      case round =>
        obtain ⟨k, hk, rfl, hbr, hrow⟩ := hrel
        by_cases hlt : k < n
        · obtain ⟨b, off, rfl, hc0⟩ := (hK.below hbr).row k hlt
          have hB := (hK.below hbr).each k hlt
          have hNk := hN k hlt
          go_wp2_with fail
          refine (fnv8 (A' k) (N k) (N k) (V k) wr hNk hB).mono ?_
          rintro e w4 ⟨rfl, rfl⟩
          obtain ⟨r1, r2⟩ := hs_range (V k) (N k)
          have hand := bits_and _ r1 r2
          have hSk := hS k
          obtain ⟨sk, esk⟩ : ∃ sk : Nat, hs (V k) (N k) % 4096 = (sk : Int) := Int.eq_ofNat_of_zero_le (by omega)
          rw [esk] at hand hSk
          have hsk : sk < 4096 := by omega
          generalize hs (V k) (N k) = hv at hand r1 r2 esk ⊢
          have hd := hrow.cell hsk
          have hf := hrow.frozen sk
          clear esk
          go_wp2_with fail
          go_roundw
          case rel => exact ⟨k + 1, by omega, by go_num, hbr.setCell (Nat.le_refl _) _, mark_step hrow hSk⟩
          case measure => simp [intOf]; omega
        · obtain rfl : k = n := by omega
          go_wp2_with fail
          refine (new10 wr).mono ?_
          rintro e w5 ⟨hb5, sb, q, hp, rfl⟩
          go_wp2_with fail
          refine (slots9 sb q a' k k A' N N V S w5 (by omega) hN (fun i _ => hS i) ((hK.below hbr).below hb5) hp).mono ?_
          rintro e w6 ⟨a2, c2, rfl, hb6, hI⟩
          have hbb : Below w2.heap.size w2 w6 := ((hb1.trans (hbr.mono hb1.size)).trans (hb5.mono (Nat.le_trans hb1.size hbr.size))).trans (hb6.mono (Nat.le_trans (Nat.le_trans hb1.size hbr.size) hb5.size))
          obtain ⟨mk, hmk⟩ : ∃ mk : Nat → Bool, ∀ s : Nat, mk s = (G S k).contains (s : Int) := ⟨fun s => (G S k).contains (s : Int), fun _ => rfl⟩
          have hgot := got_T S k (fun i => by rw [hS i]; omega) mk hmk
          have hL := T_short S k
          have hrow6 := (hrow.of_block (hb5.block _ hrow.lt)).of_block (hb6.block _ (Nat.lt_of_lt_of_le hrow.lt hb5.size))
          generalize (fun i => (T S k).getD i 0) = Z at hI hgot
          generalize (T S k).length = L at hI hgot hL ⊢
          have hrow7 : w6.rowIs w1.heap.size 25 4096 (fun j => .bool (mk j)) := hrow6.congr (fun j _ => by rw [hmk])
          clear hmk hrow6 hrow hb6 hb5 hbr hb1 hK hS hp
          go_wp2_with fail
          go_loop [6, 7] (fun z i => ∃ (j s : Nat), s ≤ 4096 ∧ j ≤ L ∧ i = .int .i64 s ∧ z = .int .i64 j ∧ (∀ x, x < j → Z x < s) ∧ (∀ x, j ≤ x → x < L → (s : Int) ≤ Z x)) (fun _ i => 4096 - (intOf i).toNat)
          case atStart => exact ⟨0, 0, Nat.zero_le _, Nat.zero_le _, rfl, rfl, fun x hx => absurd hx (Nat.not_lt_zero _), fun x _ hx => (hgot.lo x hx).1⟩
          case round =>
            obtain ⟨j, s, hs1, hj, rfl, rfl, p1, p2⟩ := hrel
            by_cases hs2 : s < 4096
            · have hd := hrow7.cell hs2
              cases hm : mk s with
              | true =>
                rw [hm] at hd
                obtain ⟨x, hx, ex⟩ := hgot.all s hm
                have hjx : j ≤ x := by
                  rcases Nat.lt_or_ge x j with h1 | h1
                  · have := p1 x h1; omega
                  · exact h1
                have hjL : j < L := by omega
                have hZ : Z j = (s : Int) := by
                  have h2 := p2 j (Nat.le_refl _) hjL
                  rcases Nat.lt_or_ge j x with h1 | h1
                  · have := hgot.up j x h1 hx; omega
                  · have : x = j := by omega
                    rw [← this]; exact ex
                obtain ⟨b2, off2, rfl, hz⟩ := hI j hjL
                rw [hZ] at hz
                have hup := fun y (hy : j < y) (hyL : y < L) => hgot.up j y hy hyL
                clear hgot hrow7 hI
                go_wp2_with fail
                go_round
                case rel =>
                  refine ⟨j + 1, s + 1, by omega, by omega, by go_num, by go_num, fun x hx => ?_, fun x hx hxL => ?_⟩
                  · by_cases e : x = j
                    · subst e; omega
                    · have := p1 x (by omega); omega
                  · have := hup x (by omega) hxL; omega
                case measure => simp [intOf]; omega
              | false =>
                rw [hm] at hd
                go_wp2_with fail
                go_round
                case rel =>
                  refine ⟨j, s + 1, by omega, by omega, by go_num, rfl, fun x hx => ?_, fun x hx hxL => ?_⟩
                  · have := p1 x hx; omega
                  · have h1 := p2 x hx hxL
                    have h2 := hgot.hit x hxL
                    have h3 : Z x ≠ (s : Int) := fun e => by
                      rw [e, Int.toNat_natCast, hm] at h2
                      cases h2
                    omega
                case measure => simp [intOf]; omega
            · obtain rfl : s = 4096 := by omega
              have hjL : j = L := by
                rcases Nat.lt_or_ge j L with h1 | h1
                · have h2 := p2 j (Nat.le_refl _) h1
                  have h3 := hgot.lo j h1
                  omega
                · omega
              subst hjL
              go_wp2_with fail
              go_ret
              exact ⟨by simp, hbb⟩
end Go.Proofs.Qxb6603581a
