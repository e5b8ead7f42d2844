namespace Go.Proofs.Qxb6604581a

/-- The candidates of the satisfied ones among the first k entries: how many. -/
def tot (s : Nat → Bool) (L : Nat → Nat) : Nat → Nat
  | 0 => 0
  | k + 1 => tot s L k + if s k then L k else 0
/-- How many entries are satisfied. -/
def cntS (s : Nat → Bool) : Nat → Nat
  | 0 => 0
  | k + 1 => cntS s k + if s k then 1 else 0
/-- The last one that is satisfied. -/
def lst (s : Nat → Bool) : Nat → Nat
  | 0 => 0
  | k + 1 => if s k then k else lst s k
/-- In which entry's list position p of the whole lies, and where in it. -/
def loc (s : Nat → Bool) (L : Nat → Nat) : Nat → Nat → Nat × Nat
  | 0, _ => (0, 0)
  | k + 1, p => if tot s L k ≤ p then (k, p - tot s L k) else loc s L k p

section
variable {s : Nat → Bool} {L : Nat → Nat}

theorem tot_yes {k : Nat} (h : s k = true) : tot s L (k + 1) = tot s L k + L k := by simp [tot, h]
theorem tot_no {k : Nat} (h : s k = false) : tot s L (k + 1) = tot s L k := by simp [tot, h]
theorem cnt_yes {k : Nat} (h : s k = true) : cntS s (k + 1) = cntS s k + 1 := by simp [cntS, h]
theorem cnt_no {k : Nat} (h : s k = false) : cntS s (k + 1) = cntS s k := by simp [cntS, h]
theorem lst_yes {k : Nat} (h : s k = true) : lst s (k + 1) = k := by simp [lst, h]
theorem lst_no {k : Nat} (h : s k = false) : lst s (k + 1) = lst s k := by simp [lst, h]

theorem tot_step (k : Nat) : tot s L k ≤ tot s L (k + 1) := by cases h : s k <;> simp [tot, h]
theorem tot_mono (k d : Nat) : tot s L k ≤ tot s L (k + d) := by
  induction d with
  | zero => exact Nat.le_refl _
  | succ d ih => exact Nat.le_trans ih (tot_step (k + d))
theorem tot_le {k n : Nat} (h : k ≤ n) : tot s L k ≤ tot s L n := by
  have := tot_mono (s := s) (L := L) k (n - k)
  rwa [show k + (n - k) = n by omega] at this
theorem cnt_le (n : Nat) : cntS s n ≤ n := by
  induction n with
  | zero => exact Nat.le_refl _
  | succ n ih => cases h : s n <;> simp [cntS, h] <;> omega

theorem loc_at {n k j : Nat} (hk : k < n) (hs : s k = true) (hj : j < L k) : loc s L n (tot s L k + j) = (k, j) := by
  induction n with
  | zero => omega
  | succ n ih =>
    unfold loc
    by_cases e : k = n
    · subst e
      rw [if_pos (by omega)]
      simp
    · have h1 : tot s L (k + 1) ≤ tot s L n := tot_le (by omega)
      rw [tot_yes hs] at h1
      rw [if_neg (by omega)]
      exact ih (by omega)

/-- Every position lies in a satisfied entry. -/
theorem loc_in {n p : Nat} (hp : p < tot s L n) : ∃ k, k < n ∧ s k = true ∧ ∃ j, j < L k ∧ p = tot s L k + j := by
  induction n with
  | zero => simp [tot] at hp
  | succ n ih =>
    by_cases h : p < tot s L n
    · obtain ⟨k, hk, r⟩ := ih h
      exact ⟨k, by omega, r⟩
    · cases hs : s n with
      | false => rw [tot_no hs] at hp; omega
      | true => rw [tot_yes hs] at hp; exact ⟨n, by omega, hs, p - tot s L n, by omega, by omega⟩

theorem tot_of_cnt0 {n : Nat} (h : cntS s n = 0) : tot s L n = 0 := by
  induction n with
  | zero => rfl
  | succ n ih =>
    cases hs : s n with
    | false => rw [cnt_no hs] at h; rw [tot_no hs]; exact ih h
    | true => rw [cnt_yes hs] at h; omega

theorem no_of_cnt0 {n : Nat} (h : cntS s n = 0) : ∀ k, k < n → s k = false := by
  induction n with
  | zero => intro k hk; omega
  | succ n ih =>
    cases hs : s n with
    | false =>
      rw [cnt_no hs] at h
      intro k hk
      rcases Nat.lt_succ_iff_lt_or_eq.1 hk with h' | rfl
      · exact ih h k h'
      · exact hs
    | true => rw [cnt_yes hs] at h; omega

theorem lst_spec {n : Nat} (h : 0 < cntS s n) : lst s n < n ∧ s (lst s n) = true := by
  induction n with
  | zero => simp [cntS] at h
  | succ n ih =>
    cases hs : s n with
    | false => rw [cnt_no hs] at h; rw [lst_no hs]; have := ih h; exact ⟨by omega, this.2⟩
    | true => rw [lst_yes hs]; exact ⟨by omega, hs⟩

/-- One satisfied entry alone. -/
theorem one_spec {n : Nat} (h : cntS s n = 1) : tot s L n = L (lst s n) ∧ tot s L (lst s n) = 0 ∧ ∀ k, k < n → s k = true → k = lst s n := by
  induction n with
  | zero => simp [cntS] at h
  | succ n ih =>
    cases hs : s n with
    | false =>
      rw [cnt_no hs] at h
      rw [lst_no hs, tot_no hs]
      obtain ⟨a, b, c⟩ := ih h
      refine ⟨a, b, fun k hk hk' => ?_⟩
      rcases Nat.lt_succ_iff_lt_or_eq.1 hk with h' | rfl
      · exact c k h' hk'
      · rw [hs] at hk'; cases hk'
    | true =>
      rw [cnt_yes hs] at h
      have h0 : cntS s n = 0 := by omega
      rw [lst_yes hs, tot_yes hs, tot_of_cnt0 h0]
      refine ⟨by omega, rfl, fun k hk hk' => ?_⟩
      rcases Nat.lt_succ_iff_lt_or_eq.1 hk with h' | rfl
      · have := no_of_cnt0 h0 k h'; rw [this] at hk'; cases hk'
      · rfl
end
end Go.Proofs.Qxb6604581a
