import Derived.Test.Qxb6602028aProg
import Derived.WalkKit
import Derived.WalkLawsBesides
import Derived.WalkSpells
namespace Go.Proofs.Qxb6602028a
open Go.RowKit
set_option linter.unusedVariables false

/-- A byte that a name may hold. -/
def nameB (c : Nat) : Bool := (decide (65 ≤ c) && decide (c ≤ 90)) || (decide (97 ≤ c) && decide (c ≤ 122)) || (decide (48 ≤ c) && decide (c ≤ 57)) || c == 95

theorem fold_all : (List.range 256).all (fun c => (decide (((c : Nat) : Int) = 95) || decide ((((c : Nat) : Int) - 48) % 256 < 10) || (decide ((bits BinOp.or IntKind.u8 ((c : Nat) : Int) 32 - 97) % 256 < 26) == nameB c))) = true := by decide +kernel

theorem fold_one (c : Nat) (hc : c < 256) (h1 : ¬ c = 95) (h2 : 10 ≤ ((c : Int) - 48) % 256) : decide ((bits BinOp.or IntKind.u8 (c : Int) 32 - 97) % 256 < 26) = nameB c := by
  have := List.all_eq_true.1 fold_all c (List.mem_range.2 hc)
  simp only [Bool.or_eq_true, decide_eq_true_eq, beq_iff_eq] at this
  rcases this with (h | h) | h
  · omega
  · omega
  · exact h

theorem digit_one (c : Nat) (hc : c < 256) (h2 : ((c : Int) - 48) % 256 < 10) : nameB c = true := by
  have h3 : 48 ≤ c ∧ c ≤ 57 := by omega
  simp [nameB, h3]

theorem ret_bool {a b : Bool} (h : a = b) : Ending.returned (.bool a) = .returned (.bool b) := by rw [h]

set_option maxRecDepth 100000 in
theorem byte29 (c : Nat) (w : World) (hc : c < 256) :
    Calls Try.prog 29 #[.int .u8 c] w fun e w' => e = .returned (.bool (nameB c)) ∧ w = w' := by
  have hc' : (c : Int) < 256 := by omega
  by_cases h95 : c = 95
  · subst h95
    go_enter Try.func29, Try.ntmps29
    go_wp2
    go_ret
    exact ⟨rfl, rfl⟩
  · have e1 : ((c : Int) == 95) = false := by simp; omega
    go_enter Try.func29, Try.ntmps29
    go_wp2
    · go_ret
      exact ⟨ret_bool (digit_one c hc (by assumption)).symm, rfl⟩
    · go_ret
      exact ⟨ret_bool (fold_one c hc h95 (by assumption)), rfl⟩

/-- The name's test: not empty, every byte such a byte. -/
def nameOK (s : ByteArray) : Bool := decide (0 < s.size) && s.data.toList.all (fun c => nameB c.toNat)

theorem nameOK_zero {s : ByteArray} (h : s.size = 0) : nameOK s = false := by simp [nameOK, h]
theorem nameOK_yes {s : ByteArray} (h0 : 0 < s.size) (h : ∀ i (hi : i < s.size), nameB (s[i]'hi).toNat = true) : nameOK s = true := by
  unfold nameOK
  rw [Bool.and_eq_true]
  refine ⟨by simpa using h0, ?_⟩
  rw [List.all_eq_true]
  intro x hx
  obtain ⟨i, hi, rfl⟩ := List.mem_iff_getElem.1 hx
  exact h i (by simpa using hi)
theorem nameOK_no {s : ByteArray} {k : Nat} (hk : k < s.size) (h : nameB (s[k]'hk).toNat = false) : nameOK s = false := by
  unfold nameOK
  rw [Bool.and_eq_false_iff]
  right
  rw [List.all_eq_false]
  exact ⟨s.data.toList[k]'(by simpa using hk), List.getElem_mem _, by rw [show (s.data.toList[k]'(by simpa using hk)) = s[k] from rfl, h]; simp⟩

theorem model16 (s : ByteArray) (w : World) (hs : s.size ≤ 1048576) :
    Calls Try.prog 16 #[.string s] w fun e w' => e = .returned (.bool (nameOK s)) ∧ w = w' := by
  rcases Nat.eq_zero_or_pos s.size with h0 | hp
  · have e1 : ((s.size : Int) == 0) = true := by simp [h0]
    have e2 := nameOK_zero h0
    clear h0
    go_enter Try.func16, Try.ntmps16
    go_wp2
    go_ret
    exact ⟨ret_bool e2.symm, rfl⟩
  · have e1 : ((s.size : Int) == 0) = false := beq_eq_false_iff_ne.2 (by omega)
    go_enter Try.func16, Try.ntmps16
    go_wp2
    go_loop [3] (fun i => ∃ k : Nat, k ≤ s.size ∧ i = .int .i64 k ∧ Hid (∀ i (hi : i < s.size), i < k → nameB (s[i]'hi).toNat = true)) (fun i => s.size - (intOf i).toNat)
    case atStart => exact ⟨0, Nat.zero_le _, rfl, fun i _ hi => absurd hi (Nat.not_lt_zero _)⟩
    case round =>
      obtain ⟨k, hk, rfl, H⟩ := hrel
      by_cases hlt : k < s.size
      · go_wp2_with fail
        refine (byte29 _ w (by have := s[k].toNat_lt; omega)).mono ?_
        rintro e w' ⟨rfl, rfl⟩
        cases hb : nameB s[k].toNat
        · have hno := nameOK_no hlt hb
          clear hb
          go_wp2_with fail
          go_ret
          exact ⟨ret_bool hno.symm, rfl⟩
        · have HB : Hid (nameB s[k].toNat = true) := hb
          clear hb
          go_wp2_with fail
          go_round
          case rel => exact ⟨k + 1, by omega, by go_num, fun i hi hik => by
            rcases Nat.lt_succ_iff_lt_or_eq.1 hik with h | h
            · exact H.out i hi h
            · subst h; exact HB.out⟩
          case measure => simp [intOf]; omega
      · have HY : Hid (nameOK s = true) := nameOK_yes hp (fun i hi => H.out i hi (by omega))
        go_wp2_with fail
        go_ret
        exact ⟨ret_bool HY.out.symm, rfl⟩

theorem isEmpty_iff {s : ByteArray} : s.toList.isEmpty = (s.size == 0) := by
  rw [ByteArray.toList_eq]
  have e : s.size = s.data.toList.length := by simp
  rw [e]
  cases s.data.toList with
  | nil => rfl
  | cons a l => simp

theorem split_yes {c : Nat} (h : nameB c = true) : (65 ≤ c ∧ c ≤ 90) ∨ (97 ≤ c ∧ c ≤ 122) ∨ (48 ≤ c ∧ c ≤ 57) ∨ c = 95 := by
  simp [nameB] at h
  omega
theorem split_no {c : Nat} (h : nameB c = false) : c < 48 ∨ (57 < c ∧ c < 65) ∨ (90 < c ∧ c < 95) ∨ c = 96 ∨ 122 < c := by
  simp [nameB] at h
  omega

set_option maxHeartbeats 1000000 in
set_option maxRecDepth 100000 in
theorem valid28 (s : ByteArray) (w : World) (hs : s.size ≤ 1048576) :
    Calls Try.prog 28 #[.string s] w fun e w' => e = .returned (.bool (nameOK s)) ∧ Below w.heap.size w w' := by
  have hcv := fun w s => run_bytes_of_string (P := Try.prog) w 9 32 5 s Try.underlying9 Try.underlying32 Try.underlying5
  rcases Nat.eq_zero_or_pos s.size with h0 | hp
  · have e1 : s.toList.isEmpty = true := by rw [isEmpty_iff]; simp [h0]
    have e2 : Hid (nameOK s = false) := nameOK_zero h0
    clear h0
    go_enter Try.func28, Try.ntmps28
    go_wp2
    go_ret
    exact ⟨ret_bool e2.out.symm, Below.refl _ _⟩
  · have e1 : s.toList.isEmpty = false := by rw [isEmpty_iff]; exact beq_eq_false_iff_ne.2 (by omega)
    go_enter Try.func28, Try.ntmps28
    go_wp2
    obtain ⟨W, hW⟩ : ∃ W, W = (w.alloc (Obj.cells (bytesRow s (grownCap w s.size 0 5)) 5 ((bytesRow s (grownCap w s.size 0 5)).size, (bytesRow s (grownCap w s.size 0 5)).size + 1))).drew := ⟨_, rfl⟩
    have hB : Below w.heap.size w W := by rw [hW]; exact ((Below.refl _ _).alloc (Nat.le_refl _) _).drew
    have hcell : ∀ k (hk : k < s.size), W.cell? ⟨w.heap.size, k, none⟩ = some (.int .u8 (s[k].toNat : Int)) := by
      intro k hk
      rw [hW]
      exact (World.cell?_alloc_mark _ _ _ _ _).trans (bytesRow_at s (grownCap w s.size 0 5) k (by simpa using hk))
    rw [← hW]
    clear hW hcv
    go_loop [10] (fun i => ∃ k : Nat, k ≤ s.size ∧ i = .int .i64 k ∧ Hid (∀ i (hi : i < s.size), i < k → nameB (s[i]'hi).toNat = true)) (fun i => s.size - (intOf i).toNat)
    case atStart => exact ⟨0, Nat.zero_le _, rfl, fun i _ hi => absurd hi (Nat.not_lt_zero _)⟩
    case round =>
      obtain ⟨k, hk, rfl, H⟩ := hrel
      by_cases hlt : k < s.size
      · have hc := hcell k hlt
        obtain ⟨c, hcc⟩ : ∃ c : Nat, c = s[k].toNat := ⟨_, rfl⟩
        have HC : Hid (c = s[k].toNat) := hcc
        have hc256 : c < 256 := by rw [hcc]; exact s[k].toNat_lt
        rw [← hcc] at hc
        clear hcc hcell
        cases hb : nameB c
        · have HN : Hid (nameOK s = false) := nameOK_no hlt (by rw [← HC.out]; exact hb)
          have g95 : ((c : Int) == 95) = false := beq_eq_false_iff_ne.2 (by have := split_no hb; omega)
          have hcases := split_no hb
          clear hb
          rcases hcases with h | h | h | h | h
          · have d1 : decide ((65 : Int) ≤ (c : Int)) = false := decide_eq_false (by omega)
            have d3 : decide ((97 : Int) ≤ (c : Int)) = false := decide_eq_false (by omega)
            have d5 : decide ((48 : Int) ≤ (c : Int)) = false := decide_eq_false (by omega)
            clear h
            go_wp2
            go_ret
            exact ⟨ret_bool HN.out.symm, hB⟩
          · have d1 : decide ((65 : Int) ≤ (c : Int)) = false := decide_eq_false (by omega)
            have d3 : decide ((97 : Int) ≤ (c : Int)) = false := decide_eq_false (by omega)
            have d5 : decide ((48 : Int) ≤ (c : Int)) = true := decide_eq_true (by omega)
            have d6 : decide ((c : Int) ≤ 57) = false := decide_eq_false (by omega)
            clear h
            go_wp2
            go_ret
            exact ⟨ret_bool HN.out.symm, hB⟩
          · have d1 : decide ((65 : Int) ≤ (c : Int)) = true := decide_eq_true (by omega)
            have d2 : decide ((c : Int) ≤ 90) = false := decide_eq_false (by omega)
            have d3 : decide ((97 : Int) ≤ (c : Int)) = false := decide_eq_false (by omega)
            have d5 : decide ((48 : Int) ≤ (c : Int)) = true := decide_eq_true (by omega)
            have d6 : decide ((c : Int) ≤ 57) = false := decide_eq_false (by omega)
            clear h
            go_wp2
            go_ret
            exact ⟨ret_bool HN.out.symm, hB⟩
          · have d1 : decide ((65 : Int) ≤ (c : Int)) = true := decide_eq_true (by omega)
            have d2 : decide ((c : Int) ≤ 90) = false := decide_eq_false (by omega)
            have d3 : decide ((97 : Int) ≤ (c : Int)) = false := decide_eq_false (by omega)
            have d5 : decide ((48 : Int) ≤ (c : Int)) = true := decide_eq_true (by omega)
            have d6 : decide ((c : Int) ≤ 57) = false := decide_eq_false (by omega)
            clear h
            go_wp2
            go_ret
            exact ⟨ret_bool HN.out.symm, hB⟩
          · have d1 : decide ((65 : Int) ≤ (c : Int)) = true := decide_eq_true (by omega)
            have d2 : decide ((c : Int) ≤ 90) = false := decide_eq_false (by omega)
            have d3 : decide ((97 : Int) ≤ (c : Int)) = true := decide_eq_true (by omega)
            have d4 : decide ((c : Int) ≤ 122) = false := decide_eq_false (by omega)
            have d5 : decide ((48 : Int) ≤ (c : Int)) = true := decide_eq_true (by omega)
            have d6 : decide ((c : Int) ≤ 57) = false := decide_eq_false (by omega)
            clear h
            go_wp2
            go_ret
            exact ⟨ret_bool HN.out.symm, hB⟩
        · have HB : Hid (nameB s[k].toNat = true) := by rw [← HC.out]; exact hb
          rcases split_yes hb with h | h | h | h
          all_goals
            clear hb
            go_wp2
            go_round
            case rel => exact ⟨k + 1, by omega, by go_num, fun i hi hik => by
              rcases Nat.lt_succ_iff_lt_or_eq.1 hik with h | h
              · exact H.out i hi h
              · subst h; exact HB.out⟩
            case measure => simp [intOf]; omega
      · have HY : Hid (nameOK s = true) := nameOK_yes hp (fun i hi => H.out i hi (by omega))
        go_wp2
        go_ret
        exact ⟨ret_bool HY.out.symm, hB⟩
end Go.Proofs.Qxb6602028a
