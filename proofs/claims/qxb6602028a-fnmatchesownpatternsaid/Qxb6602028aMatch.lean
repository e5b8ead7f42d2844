import Derived.Test.Qxb6602028aProg
import Derived.WalkKit
import Derived.WalkLawsBesides
import Derived.WalkSpells
import Derived.Deep.OwnRows
namespace Go.Proofs.Qxb6602028a
open Go.RowKit
set_option linter.unusedVariables false

def IsBool (e : Ending) : Prop := ∃ r, e = .returned (.bool r)
theorem IsBool.mk (r : Bool) : IsBool (.returned (.bool r)) := ⟨r, rfl⟩
/-- HasPrefix, HasSuffix: where they say yes the text is long enough. -/
def Fits (m n : Nat) (e : Ending) : Prop := ∃ r, e = .returned (.bool r) ∧ (r = true → m ≤ n)
theorem Fits.mk {m n : Nat} (h : m ≤ n) (r : Bool) : Fits m n (.returned (.bool r)) := ⟨r, rfl, fun _ => h⟩
theorem Fits.no (m n : Nat) : Fits m n (.returned (.bool false)) := ⟨_, rfl, fun h => by cases h⟩
/-- A text no longer than n, and a bool. -/
def StrBool (n : Nat) (e : Ending) : Prop := ∃ (s : ByteArray) (r : Bool), e = .returned (.tuple #[.string s, .bool r]) ∧ s.size ≤ n
theorem StrBool.mk {n : Nat} (s : ByteArray) (r : Bool) (h : s.size ≤ n) : StrBool n (.returned (.tuple #[.string s, .bool r])) := ⟨s, r, rfl, h⟩

theorem has39 (s p : ByteArray) (w : World) (hs : s.size ≤ 1048576) (hp : p.size ≤ 1048576) :
    Calls Try.prog 39 #[.string s, .string p] w fun e w' => w = w' ∧ Fits p.size s.size e := by
  by_cases h : p.size ≤ s.size
  · go_enter Try.func39, Try.ntmps39
    go_wp2
    go_ret
    exact ⟨rfl, Fits.mk h _⟩
  · go_enter Try.func39, Try.ntmps39
    go_wp2
    go_ret
    exact ⟨rfl, Fits.no _ _⟩

theorem has40 (s p : ByteArray) (w : World) (hs : s.size ≤ 1048576) (hp : p.size ≤ 1048576) :
    Calls Try.prog 40 #[.string s, .string p] w fun e w' => w = w' ∧ Fits p.size s.size e := by
  by_cases h : p.size ≤ s.size
  · go_enter Try.func40, Try.ntmps40
    go_wp2
    go_ret
    exact ⟨rfl, Fits.mk h _⟩
  · go_enter Try.func40, Try.ntmps40
    go_wp2
    go_ret
    exact ⟨rfl, Fits.no _ _⟩

theorem cut37 (s p : ByteArray) (w : World) (hs : s.size ≤ 1048576) (hp : p.size ≤ 1048576) :
    Calls Try.prog 37 #[.string s, .string p] w fun e w' => w = w' ∧ StrBool s.size e := by
  go_enter Try.func37, Try.ntmps37
  go_wp2_with fail
  refine (has39 s p w hs hp).mono ?_
  rintro e w' ⟨rfl, r, rfl, hr⟩
  cases r
  · go_wp2_with fail
    go_ret2
    exact ⟨rfl, StrBool.mk _ _ (Nat.le_refl _)⟩
  · have h := hr rfl
    clear hr
    go_wp2_with fail
    go_ret2
    exact ⟨rfl, StrBool.mk _ _ (by simp)⟩

theorem cut38 (s p : ByteArray) (w : World) (hs : s.size ≤ 1048576) (hp : p.size ≤ 1048576) :
    Calls Try.prog 38 #[.string s, .string p] w fun e w' => w = w' ∧ StrBool s.size e := by
  go_enter Try.func38, Try.ntmps38
  go_wp2_with fail
  refine (has40 s p w hs hp).mono ?_
  rintro e w' ⟨rfl, r, rfl, hr⟩
  cases r
  · go_wp2_with fail
    go_ret2
    exact ⟨rfl, StrBool.mk _ _ (Nat.le_refl _)⟩
  · have h := hr rfl
    clear hr
    go_wp2_with fail
    go_ret2
    exact ⟨rfl, StrBool.mk _ _ (by simp)⟩

theorem pre34 (s p : ByteArray) (w : World) (hs : s.size ≤ 1048576) (hp : p.size ≤ 1048576) :
    Calls Try.prog 34 #[.string s, .string p] w fun e w' => w = w' ∧ StrBool s.size e := by
  go_enter Try.func34, Try.ntmps34
  go_wp2_with fail
  refine (cut37 s p w hs hp).mono ?_
  rintro e w' ⟨rfl, s', r, rfl, hr⟩
  go_wp2_with fail
  go_ret2
  exact ⟨rfl, StrBool.mk _ _ hr⟩

theorem suf35 (s p : ByteArray) (w : World) (hs : s.size ≤ 1048576) (hp : p.size ≤ 1048576) :
    Calls Try.prog 35 #[.string s, .string p] w fun e w' => w = w' ∧ StrBool s.size e := by
  go_enter Try.func35, Try.ntmps35
  go_wp2_with fail
  refine (cut38 s p w hs hp).mono ?_
  rintro e w' ⟨rfl, s', r, rfl, hr⟩
  go_wp2_with fail
  go_ret2
  exact ⟨rfl, StrBool.mk _ _ hr⟩

theorem param32 (s : ByteArray) (w : World) (hs : s.size ≤ 1048576) :
    Calls Try.prog 32 #[.string s] w fun e w' => w = w' ∧ StrBool s.size e := by
  go_enter Try.func32, Try.ntmps32
  go_wp2_with fail
  refine (pre34 s ⟨#[123]⟩ w hs (by show 1 ≤ 1048576; omega)).mono ?_
  rintro e w' ⟨rfl, s', r, rfl, hr⟩
  cases r
  · go_wp2_with fail
    go_ret2
    exact ⟨rfl, StrBool.mk _ _ (Nat.zero_le _)⟩
  · go_wp2_with fail
    refine (suf35 s' ⟨#[125]⟩ w (by omega) (by show 1 ≤ 1048576; omega)).mono ?_
    rintro e w' ⟨rfl, s2, r, rfl, hr2⟩
    go_wp2_with fail
    go_ret2
    exact ⟨rfl, StrBool.mk _ _ (by omega)⟩

/-- A slice of strings. -/
def StrsAt (w : World) (a : Option Addr) (n : Nat) (I : Nat → ByteArray) : Prop :=
  ∀ i, i < n → ∃ b off, a = some ⟨b, off, none⟩ ∧ w.cell? ⟨b, off + i, none⟩ = some (.string (I i))
theorem StrsAt.below {w w' : World} {a : Option Addr} {n : Nat} {I : Nat → ByteArray} (h : StrsAt w a n I) (hb : Below w.heap.size w w') : StrsAt w' a n I := by
  intro i hi
  obtain ⟨b, off, e, h1⟩ := h i hi
  exact ⟨b, off, e, (hb.cell (World.block_lt_of_cell? _ _ h1)).trans h1⟩

/-- What zzBytes tells where it says yes. -/
def SmallEnd (n : Nat) (I : Nat → ByteArray) (e : Ending) : Prop := ∃ r, e = .returned (.bool r) ∧ (r = true → n ≤ 1048576 ∧ ∀ i, i < n → (I i).size ≤ 1048576)
theorem SmallEnd.no {n : Nat} {I : Nat → ByteArray} : SmallEnd n I (.returned (.bool false)) := ⟨_, rfl, fun h => by cases h⟩
theorem SmallEnd.yes {n : Nat} {I : Nat → ByteArray} (hn : n ≤ 1048576) (h : ∀ i, i < n → (I i).size ≤ 1048576) (r : Bool) : SmallEnd n I (.returned (.bool r)) := ⟨_, rfl, fun _ => ⟨hn, h⟩⟩

theorem bytes21 (a : Option Addr) (n c : Nat) (I : Nat → ByteArray) (w : World) (hn : n ≤ maxLen) (h : StrsAt w a n I) :
    Calls Try.prog 21 #[.slice a n c] w fun e w' => w = w' ∧ SmallEnd n I e := by
  unfold maxLen at hn
  go_enter Try.func21, Try.ntmps21
  go_wp2
  · go_ret
    exact ⟨rfl, SmallEnd.no⟩
  · have hn' : n ≤ 1048576 := by omega
    go_loop [3, 4] (fun z i => ∃ (k : Nat) (v : Int), k ≤ n ∧ i = .int .i64 k ∧ z = .int .i64 v ∧ Hid (∀ i, i < k → (I i).size ≤ 1048576)) (fun _ i => n - (intOf i).toNat)
    case atStart => exact ⟨0, _, Nat.zero_le _, rfl, rfl, fun i hi => absurd hi (Nat.not_lt_zero _)⟩
    case round =>
      obtain ⟨k, v, hk, rfl, rfl, H⟩ := hrel
      by_cases hlt : k < n
      · obtain ⟨b, off, rfl, hc⟩ := h k hlt
        go_wp2
        iterate 2 (go_ret; exact ⟨rfl, SmallEnd.no⟩)
        have hs : (I k).size ≤ 1048576 := by omega
        go_round
        case rel => exact ⟨k + 1, _, by omega, by go_num, rfl, fun i hi => by
          rcases Nat.lt_succ_iff_lt_or_eq.1 hi with h | h
          · exact H.out i h
          · rw [h]; exact hs⟩
        case measure => simp [intOf]; omega
      · obtain rfl : k = n := by omega
        go_wp2
        all_goals (go_ret; exact ⟨rfl, SmallEnd.yes hn' H.out _⟩)

def IsInt (e : Ending) : Prop := ∃ r, e = .returned (.int .i64 r)
theorem IsInt.mk (r : Int) : IsInt (.returned (.int .i64 r)) := ⟨r, rfl⟩

theorem sum22 (a : Option Addr) (n c : Nat) (I : Nat → ByteArray) (w : World) (hn : n ≤ 1048576) (h : StrsAt w a n I) :
    Calls Try.prog 22 #[.slice a n c] w fun e w' => w = w' ∧ IsInt e := by
  go_enter Try.func22, Try.ntmps22
  go_wp2
  · go_ret
    exact ⟨rfl, IsInt.mk _⟩
  · go_loop [3, 4] (fun z i => ∃ (k : Nat) (v : Int), k ≤ n ∧ i = .int .i64 k ∧ z = .int .i64 v) (fun _ i => n - (intOf i).toNat)
    case atStart => exact ⟨0, _, Nat.zero_le _, rfl, rfl⟩
    case round =>
      obtain ⟨k, v, hk, rfl, rfl⟩ := hrel
      by_cases hlt : k < n
      · obtain ⟨b, off, rfl, hc⟩ := h k hlt
        go_wp2
        iterate 1 (go_ret; exact ⟨rfl, IsInt.mk _⟩)
        go_round
        case rel => exact ⟨k + 1, _, by omega, by go_num, rfl⟩
        case measure => simp [intOf]; omega
      · go_wp2
        all_goals (go_ret; exact ⟨rfl, IsInt.mk _⟩)

theorem Try.info9 : (Try.prog.info? 9).map (fun i => (i.zero, i.size, i.bytes)) = some (some (.string ByteArray.empty), 1, 16) := by kernel_rfl

theorem row_fill {wr : World} {bl t n : Nat} {f : Nat → Value} {z : Value} {k : Nat} (h : wr.rowIs bl t n (fun j => if j < k then f j else z)) :
    (wr.setCell ⟨bl, k, none⟩ (f k)).rowIs bl t n (fun j => if j < k + 1 then f j else z) :=
  (h.set k (f k)).congr (fun j _ => by
    by_cases e : j = k
    · subst e; simp
    · by_cases hj : j < k
      · simp [e, hj, Nat.lt_succ_of_lt hj]
      · simp [e, hj, show ¬ j < k + 1 by omega])

theorem clone23z (c : Nat) (w : World) :
    Calls Try.prog 23 #[.slice none 0 c] w fun e w' => e = .returned (.slice none 0 0) ∧ w' = w := by
  have hnil := fun w => Lib.run_eql_slice_nil (P := Try.prog) w 25 9 none 0 c 0 0 Try.underlying25
  go_enter Try.func23, Try.ntmps23
  go_wp2
  go_ret
  exact ⟨rfl, rfl⟩

theorem clone23e (a : Addr) (c : Nat) (w : World)  :
    Calls Try.prog 23 #[.slice (some a) 0 c] w fun e w' => e = .returned (.slice (some ⟨w.heap.size, 0, none⟩) 0 0) ∧ Below w.heap.size w w' := by
  have hmk := run_make_row' (P := Try.prog) 25 9 (.string ByteArray.empty) 16 Try.underlying25 Try.info9 rfl .i64 .i64 0 (by omega) (by omega)
  simp only [Int.ofNat_zero] at hmk
  have hnil := fun w => Lib.run_eql_slice_nil (P := Try.prog) w 25 9 (some a) 0 c 0 0 Try.underlying25
  go_enter Try.func23, Try.ntmps23
  go_wp2
  go_loopw [4] (fun i wr => i = .int .i64 0 ∧ Below w.heap.size w wr) (fun i _ => 0)
  case atStart => exact ⟨rfl, (Below.refl _ _).alloc (Nat.le_refl _) _⟩
  case round =>
    obtain ⟨rfl, hbel⟩ := hrel
    go_wp2
    go_ret
    exact ⟨rfl, hbel⟩

theorem clone23' (b off n c : Nat) (I : Nat → ByteArray) (w : World) (hn : n ≤ 1048576)
    (hI : ∀ i, i < n → w.cell? ⟨b, off + i, none⟩ = some (.string (I i))) (hb : b < w.heap.size) :
    Calls Try.prog 23 #[.slice (some ⟨b, off, none⟩) n c] w fun e w' => e = .returned (.slice (some ⟨w.heap.size, 0, none⟩) n n) ∧ Below w.heap.size w w' ∧ w'.rowIs w.heap.size 9 n (fun i => .string (I i)) := by
  have hmk := run_make_row' (P := Try.prog) 25 9 (.string ByteArray.empty) 16 Try.underlying25 Try.info9 rfl .i64 .i64 n (by omega) (by omega)
  have hnil := fun w => Lib.run_eql_slice_nil (P := Try.prog) w 25 9 (some ⟨b, off, none⟩) n c 0 0 Try.underlying25
  go_enter Try.func23, Try.ntmps23
  go_wp2
  go_loopw [4] (fun i wr => ∃ (k : Nat), k ≤ n ∧ i = .int .i64 k ∧ Below w.heap.size w wr ∧ wr.rowIs w.heap.size 9 n (fun j => if j < k then .string (I j) else .string ByteArray.empty)) (fun i _ => n - (intOf i).toNat)
  case atStart => exact ⟨0, Nat.zero_le _, rfl, (Below.refl _ _).alloc (Nat.le_refl _) _, (World.rowIs_made w _ n 9).congr (fun j _ => by simp)⟩
  case round =>
    obtain ⟨k, hk, rfl, hbel, hrow⟩ := hrel
    by_cases hlt : k < n
    · have hc : wr.cell? ⟨b, off + k, none⟩ = some (.string (I k)) := (hbel.cell (by exact hb)).trans (hI k hlt)
      have hd := hrow.cell hlt
      have hf := hrow.frozen k
      go_wp2
      go_roundw
      case rel => exact ⟨k + 1, by omega, by go_num, hbel.setCell (Nat.le_refl _) _, row_fill (f := fun j => .string (I j)) hrow⟩
      case measure => simp [intOf]; omega
    · obtain rfl : k = n := by omega
      go_wp2
      go_ret
      exact ⟨rfl, hbel, hrow.congr (fun j hj => by simp [hj])⟩

theorem clone23 (a : Option Addr) (n c : Nat) (I : Nat → ByteArray) (w : World) (hn : n ≤ 1048576) (h : StrsAt w a n I) :
    Calls Try.prog 23 #[.slice a n c] w fun e w' => ∃ a', e = .returned (.slice a' n n) ∧ Below w.heap.size w w' ∧ StrsAt w' a' n I := by
  rcases Nat.eq_zero_or_pos n with rfl | h0
  · cases a with
    | none => exact (clone23z c w).mono fun e w' ⟨he, hw⟩ => ⟨_, he, by rw [hw]; exact Below.refl _ _, fun _ hi => absurd hi (Nat.not_lt_zero _)⟩
    | some a => exact (clone23e a c w).mono fun e w' ⟨he, hw⟩ => ⟨_, he, hw, fun _ hi => absurd hi (Nat.not_lt_zero _)⟩
  · obtain ⟨b, off, rfl, hc0⟩ := h 0 h0
    refine (clone23' b off n c I w hn (fun i hi => ?_) (World.block_lt_of_cell? _ _ hc0)).mono fun e w' ⟨he, hw, hr⟩ => ⟨_, he, hw, fun i hi => ⟨_, _, rfl, by simpa using hr.cell hi⟩⟩
    obtain ⟨b', off', e, h1⟩ := h i hi
    simp only [Option.some.injEq, Addr.mk.injEq] at e
    obtain ⟨rfl, rfl, _⟩ := e
    exact h1

set_option maxRecDepth 100000 in
theorem matches30 (p : Nat) (a : Option Addr) (n c : Nat) (I : Nat → ByteArray) (w : World) (hn : n ≤ 1048576) (hI : ∀ i, i < n → (I i).size ≤ 1048576) (hp : w.cell? ⟨p, 4, none⟩ = some (.slice a n c)) (h : StrsAt w a n I) :
    Calls Try.prog 30 #[.pointer (some ⟨p, 0, none⟩), .slice a n c] w fun e w' => w = w' ∧ e = .returned (.bool true) := by
  have hnb : ((n : Int) != (n : Int)) = false := by simp
  go_enter Try.func30, Try.ntmps30
  go_wp2

  go_loop [22] (fun i => ∃ (k : Nat), k ≤ n ∧ i = .int .i64 k) (fun i => n - (intOf i).toNat)
  case atStart => exact ⟨0, Nat.zero_le _, rfl⟩
  case round =>
    obtain ⟨k, hk, rfl⟩ := hrel
    by_cases hlt : k < n
    · obtain ⟨b, off, rfl, hc⟩ := h k hlt
      go_wp2_with fail
      refine (param32 (I k) w (hI k hlt)).mono ?_
      rintro e w' ⟨rfl, s', r, rfl, _⟩
      have heq : ((I k).toList != (I k).toList) = false := by simp
      cases r
      · go_wp2_with fail
        go_round
        case rel => exact ⟨k + 1, by omega, by go_num⟩
        case measure => simp [intOf]; omega
      · go_wp2_with fail
        go_round
        case rel => exact ⟨k + 1, by omega, by go_num⟩
        case measure => simp [intOf]; omega
    · go_wp2_with fail
      go_ret
      exact ⟨rfl, rfl⟩

set_option maxRecDepth 100000 in
theorem zz24 (a : Option Addr) (n c : Nat) (I : Nat → ByteArray) (w : World) (hn : n ≤ 1048576) (hI : ∀ i, i < n → (I i).size ≤ 1048576) (h : StrsAt w a n I) :
    Calls Try.prog 24 #[.slice a n c, .slice a n c] w fun e w' => e = .returned (.bool true) ∧ Below w.heap.size w w' := by
  go_enter Try.func24, Try.ntmps24
  go_wp2_with fail
  refine (matches30 _ a n c I _ hn hI ?_ (h.below ((Below.refl _ _).alloc (Nat.le_refl _) _))).mono ?_
  · rw [World.cell?_alloc_at _ _ _ _ rfl]; rfl
  rintro e w' ⟨rfl, rfl⟩
  go_wp2_with fail
  go_ret
  exact ⟨rfl, (Below.refl _ _).alloc (Nat.le_refl _) _⟩

theorem walk8 (a : Option Addr) (n c : Nat) (I : Nat → ByteArray) (w : World) (hn : n ≤ maxLen) (h : StrsAt w a n I) :
    Calls Try.prog 8 #[.slice a n c] w fun e w' => e = .returned (.bool true) ∧ Below w.heap.size w w' := by
  go_enter Try.func8, Try.ntmps8
  go_wp2_with fail
  refine (bytes21 a n c I w hn h).mono ?_
  rintro e w' ⟨rfl, r, rfl, hr⟩
  cases r
  · go_wp2_with fail
    go_ret
    exact ⟨rfl, Below.refl _ _⟩
  obtain ⟨hn', hI⟩ := hr rfl
  clear hr
  go_wp2_with fail
  refine (sum22 a n c I w hn' h).mono ?_
  rintro e w' ⟨rfl, v, rfl⟩
  by_cases hv : 1048576 < v
  · go_wp2_with fail
    go_ret
    exact ⟨rfl, Below.refl _ _⟩
  go_wp2_with fail
  refine (clone23 a n c I w hn' h).mono ?_
  rintro e w1 ⟨a', rfl, hb1, h1⟩
  go_wp2_with fail
  refine (zz24 a' n n I w1 hn' hI h1).mono ?_
  rintro e w2 ⟨rfl, hb2⟩
  go_wp2_with fail
  go_ret
  exact ⟨rfl, hb1.trans (hb2.mono hb1.size)⟩
end Go.Proofs.Qxb6602028a
