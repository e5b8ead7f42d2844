import Derived.Test.Qxb6603581aSlots
namespace Go.Proofs.Qxb6603581a
theorem mem_G (S : Nat → Int) (x : Int) : ∀ n, x ∈ G S n ↔ ∃ i, i < n ∧ S i = x
  | 0 => by simp [G]
  | k + 1 => by
    have ih := mem_G S x k
    have step : (∃ i, i < k + 1 ∧ S i = x) ↔ (∃ i, i < k ∧ S i = x) ∨ S k = x := by
      constructor
      · rintro ⟨i, hi, e⟩
        by_cases h : i = k
        · subst h; exact .inr e
        · exact .inl ⟨i, by omega, e⟩
      · rintro (⟨i, hi, e⟩ | e)
        · exact ⟨i, by omega, e⟩
        · exact ⟨k, by omega, e⟩
    rw [step, ← ih]
    generalize hg : G S k = g
    have eg : G S (k + 1) = if g.contains (S k) then g else g ++ [S k] := by rw [← hg]; rfl
    rw [eg]
    split
    · rename_i h
      constructor
      · exact .inl
      · rintro (h' | rfl)
        · exact h'
        · simpa using h
    · simp [eq_comm]

theorem nodup_G (S : Nat → Int) : ∀ n, (G S n).Nodup
  | 0 => by simp [G]
  | k + 1 => by
    have ih := nodup_G S k
    unfold G
    split
    · exact ih
    · rename_i h
      rw [List.nodup_append]
      refine ⟨ih, by simp, fun a ha b hb e => ?_⟩
      simp at hb h
      subst hb
      subst e
      exact h ha

theorem perm_T (S : Nat → Int) (n : Nat) : (T S n).Perm (G S n) := List.mergeSort_perm _ _

theorem mem_T (S : Nat → Int) (n : Nat) (x : Int) : x ∈ T S n ↔ ∃ i, i < n ∧ S i = x := by rw [(perm_T S n).mem_iff, mem_G]

theorem sorted_T (S : Nat → Int) (n : Nat) : (T S n).Pairwise (· < ·) := by
  have h1 : (T S n).Pairwise (fun x y => (decide (x ≤ y)) = true) := List.pairwise_mergeSort (by intro a b c; simp; omega) (by intro a b; simp; omega) _
  have h2 : (T S n).Nodup := (perm_T S n).nodup_iff.2 (nodup_G S n)
  unfold List.Nodup at h2
  have h3 := h1.and h2
  exact h3.imp (fun {a b} h => by obtain ⟨p, q⟩ := h; simp at p; omega)

theorem T_ext (S S' : Nat → Int) (n m : Nat) (h : ∀ x, (∃ i, i < n ∧ S i = x) ↔ (∃ i, i < m ∧ S' i = x)) : T S n = T S' m := by
  have hp : (T S n).Perm (T S' m) := by
    rw [List.perm_ext_iff_of_nodup ((perm_T S n).nodup_iff.2 (nodup_G S n)) ((perm_T S' m).nodup_iff.2 (nodup_G S' m))]
    intro x
    rw [mem_T, mem_T]
    exact h x
  exact hp.eq_of_pairwise (le := (· < ·)) (fun a b _ _ h1 h2 => by omega) (sorted_T S n) (sorted_T S' m)

theorem T_one (S : Nat → Int) : T S 1 = [S 0] := by simp [T, G]

/-- The i-th slot. -/
def tI (S : Nat → Int) (n i : Nat) : Int := (T S n).getD i 0

theorem tI_get (S : Nat → Int) (n i : Nat) (hi : i < (T S n).length) : tI S n i = (T S n)[i] := by simp [tI, List.getD, List.getElem?_eq_getElem hi]

theorem tI_lt (S : Nat → Int) (n i j : Nat) (hij : i < j) (hj : j < (T S n).length) : tI S n i < tI S n j := by
  rw [tI_get S n i (by omega), tI_get S n j hj]
  exact (List.pairwise_iff_getElem.1 (sorted_T S n)) i j (by omega) hj hij

theorem tI_of (S : Nat → Int) (n i : Nat) (hi : i < n) : ∃ j, j < (T S n).length ∧ tI S n j = S i := by
  have := (mem_T S n (S i)).2 ⟨i, hi, rfl⟩
  obtain ⟨j, hj, e⟩ := List.getElem_of_mem this
  exact ⟨j, hj, by rw [tI_get S n j hj, e]⟩

theorem of_tI (S : Nat → Int) (n j : Nat) (hj : j < (T S n).length) : ∃ i, i < n ∧ S i = tI S n j := by
  rw [tI_get S n j hj]
  exact (mem_T S n _).1 (List.getElem_mem hj)

theorem T_short (S : Nat → Int) (n : Nat) : (T S n).length ≤ n := by
  have : ∀ k, (G S k).length ≤ k := by
    intro k
    induction k with
    | zero => simp [G]
    | succ k ih =>
      unfold G
      split
      · omega
      · simp; omega
  have h := this n
  rw [← (perm_T S n).length_eq] at h
  exact h
end Go.Proofs.Qxb6603581a
