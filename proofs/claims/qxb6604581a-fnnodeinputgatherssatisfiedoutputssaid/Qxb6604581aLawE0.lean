import Derived.Test.Qxb6604581aLawC
namespace Go.Proofs.Qxb6604581a
open Go.RowKit
set_option linter.unusedVariables false

/-- Len(). -/
theorem len27 (a0 a1 : Option Addr) (n0 c0 n1 c1 : Nat) (w : World) :
    Calls Try.prog 27 #[.agg #[.slice a0 n0 c0, .slice a1 n1 c1]] w fun e w' => e = .returned (.int .i64 n1) ∧ Below w.heap.size w w' := by
  go_enter Try.func27, Try.ntmps27
  go_wp2
  go_ret
  exact ⟨rfl, (Below.refl _ _).alloc (Nat.le_refl _) _⟩

/-- What law 5 takes from input's result. -/
def Fiv (n : Nat) (s : Nat → Bool) (X N : Nat → Nat) (I : Nat → Nat → ByteArray) (S : Nat → Nat → Nat) (al ev : Option Addr) (nv : Nat) (w' : World) : Prop :=
  (cntS s n = 0 ∧ nv = 0) ∨
  (0 < cntS s n ∧ nv = n ∧ IntsAt w' ev n (fun k => tot s (fun k => N (X k)) (k + 1)) ∧ CandsAt w' al (tot s (fun k => N (X k)) n) (catI s X N n I) (catS s X N n S) ∧ Plain al (tot s (fun k => N (X k)) n))

theorem InRes.five {w w' : World} {n m : Nat} {s : Nat → Bool} {X N : Nat → Nat} {A : Nat → Option Addr} {So : Nat → Bool} {I : Nat → Nat → ByteArray} {S : Nat → Nat → Nat} {e : Ending} (h : InRes w n s X N A So I S e w')
    (hX : ∀ k, k < n → X k < m) (hP : ∀ x, x < m → Plain (A x) (N x)) (hC : ∀ x, x < m → CandsAt w (A x) (N x) (I x) (S x)) :
    ∃ al ev nv, e = .returned (.tuple #[.agg #[.slice al (tot s (fun k => N (X k)) n) (tot s (fun k => N (X k)) n), .slice ev nv nv], .bool (okB n (cntS s n))]) ∧ Fiv n s X N I S al ev nv w' := by
  have hb := h.1
  rcases h.2 with ⟨rfl, h1⟩ | ⟨h0, h1, h2⟩ | ⟨h0, al, E, h1, hE, _, h2⟩
  · exact ⟨none, none, 0, by rw [h1]; rfl, .inl ⟨rfl, rfl⟩⟩
  · have ht := tot_of_cnt0 (L := fun k => N (X k)) h1
    refine ⟨none, none, 0, ?_, .inl ⟨h1, rfl⟩⟩
    rw [h2, ht, h1]
    simp [okB]
    omega
  · refine ⟨al, some ⟨E, 0, none⟩, n, ?_, .inr ⟨h0, rfl, hE, ?_⟩⟩
    · rw [h1]
      simp [okB, h0]
    · rcases h2 with ⟨a, b, rfl⟩ | ⟨a, G, rfl, _, hr⟩
      · obtain ⟨t1, t2, t3⟩ := one_spec (L := fun k => N (X k)) a
        obtain ⟨l1, l2⟩ := lst_spec h0
        have hx := hX _ l1
        rw [t1]
        refine ⟨?_, hP _ hx⟩
        have hc := (hC _ hx).below hb
        intro p hp
        have hloc := loc_at (s := s) (L := fun k => N (X k)) l1 l2 hp
        rw [t2, Nat.zero_add] at hloc
        unfold catI catS
        rw [hloc]
        exact hc p hp
      · exact ⟨cands_of_row hr, .inr ⟨_, _, rfl⟩⟩

/-- What the law's own memory holds while it compares. -/
structure F5 (w wr : World) (a0 a1 a2 : Option Addr) (n0 n1 n2 : Nat) (Nd Wh O : Nat → Int) (So : Nat → Bool) (A : Nat → Option Addr) (N C : Nat → Nat) (I : Nat → Nat → ByteArray) (S : Nat → Nat → Nat) (D t : Nat) (al ev : Option Addr) (s : Nat → Bool) : Prop where
  bel : Below w.heap.size w wr
  args : Args wr a0 a1 a2 n0 n1 n2 Nd Wh O So A N C I S
  d0 : wr.cell? ⟨D, 0, none⟩ = some (.slice al t t)
  d1 : wr.cell? ⟨D, 1, none⟩ = some (.slice ev n0 n0)
  ends : IntsAt wr ev n0 (fun k => tot s (fun k => N (Nd k).toNat) (k + 1))
  cands : CandsAt wr al t (catI s (fun k => (Nd k).toNat) N n0 I) (catS s (fun k => (Nd k).toNat) N n0 S)

theorem F5.below {w wr wy : World} {a0 a1 a2 : Option Addr} {n0 n1 n2 : Nat} {Nd Wh O : Nat → Int} {So : Nat → Bool} {A : Nat → Option Addr} {N C : Nat → Nat} {I : Nat → Nat → ByteArray} {S : Nat → Nat → Nat} {D t : Nat} {al ev : Option Addr} {s : Nat → Bool}
    (h : F5 w wr a0 a1 a2 n0 n1 n2 Nd Wh O So A N C I S D t al ev s) (hb : Below wr.heap.size wr wy) : F5 w wy a0 a1 a2 n0 n1 n2 Nd Wh O So A N C I S D t al ev s :=
  ⟨h.bel.trans (hb.mono h.bel.size), h.args.below hb, (hb.cell (World.block_lt_of_cell? _ _ h.d0)).trans h.d0, (hb.cell (World.block_lt_of_cell? _ _ h.d1)).trans h.d1, h.ends.below hb, h.cands.below hb⟩

theorem pre_tot (s : Nat → Bool) (L : Nat → Nat) (k : Nat) : pre (fun k => (tot s L (k + 1) : Int)) k = tot s L k := by
  cases k with
  | zero => rfl
  | succ k => rw [pre_succ]

/-- The candidate j of entry k, in the whole. -/
theorem cat_at {s : Nat → Bool} {X N : Nat → Nat} {n k j : Nat} {I : Nat → Nat → ByteArray} {S : Nat → Nat → Nat} (hk : k < n) (hs : s k = true) (hj : j < N (X k)) :
    catI s X N n I (tot s (fun k => N (X k)) k + j) = I (X k) j ∧ catS s X N n S (tot s (fun k => N (X k)) k + j) = S (X k) j := by
  unfold catI catS
  rw [loc_at hk hs hj]
  exact ⟨rfl, rfl⟩
end Go.Proofs.Qxb6604581a
