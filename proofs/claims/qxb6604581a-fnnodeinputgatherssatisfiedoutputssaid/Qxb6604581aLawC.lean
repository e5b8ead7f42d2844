import Derived.Test.Qxb6604581aIn4
import Derived.Test.Qxb6604581aLawB
import Derived.Deep.DeepCutAuto
namespace Go.Proofs.Qxb6604581a
open Go.RowKit
set_option linter.unusedVariables false

theorem tot_le_unf (s : Nat → Bool) (N : Nat → Nat) (Nd : Nat → Int) (n : Nat) : tot s (fun k => N (Nd k).toNat) n ≤ unf N Nd n := by
  induction n with
  | zero => exact Nat.le_refl _
  | succ n ih => cases h : s n <;> simp [tot, unf, h] <;> omega

theorem LinksAt.congr {w : World} {a : Option Addr} {n : Nat} {Nd Nd' Wh : Nat → Int} {So : Nat → Bool} (h : LinksAt w a n Nd Wh So) (e : ∀ i, i < n → Nd i = Nd' i) : LinksAt w a n Nd' Wh So := by
  intro i hi
  rw [← e i hi]
  exact h i hi

/-- The law's arguments, read. -/
structure Args (w : World) (a0 a1 a2 : Option Addr) (n0 n1 n2 : Nat) (Nd Wh O : Nat → Int) (So : Nat → Bool) (A : Nat → Option Addr) (N C : Nat → Nat) (I : Nat → Nat → ByteArray) (S : Nat → Nat → Nat) : Prop where
  links : LinksAt w a0 n0 Nd Wh So
  outs : OutsAt w a1 n1 A N C I S
  ocs : ValsAt w a2 n2 (fun i => .int .u8 (O i))

theorem Args.below {w w' : World} {a0 a1 a2 : Option Addr} {n0 n1 n2 : Nat} {Nd Wh O : Nat → Int} {So : Nat → Bool} {A : Nat → Option Addr} {N C : Nat → Nat} {I : Nat → Nat → ByteArray} {S : Nat → Nat → Nat}
    (h : Args w a0 a1 a2 n0 n1 n2 Nd Wh O So A N C I S) (hb : Below w.heap.size w w') : Args w' a0 a1 a2 n0 n1 n2 Nd Wh O So A N C I S :=
  ⟨h.links.below hb, h.outs.below hb, h.ocs.below hb⟩

/-- The copies of the outputs, read. -/
structure CoR (w : World) (B0 B : Nat) (co : Option Addr) (m : Nat) (N : Nat → Nat) (A : Nat → Option Addr) (I : Nat → Nat → ByteArray) (S : Nat → Nat → Nat) : Prop where
  row : 0 < m → ∃ T, T < B ∧ co = some ⟨T, 0, none⟩ ∧ (∀ x, x < m → w.cell? ⟨T, x, none⟩ = some (.slice (A x) (N x) (N x))) ∧ ∀ x b, x < m → 0 < N x → A x = some ⟨b, 0, none⟩ → T ≠ b
  plain : ∀ x, x < m → Plain (A x) (N x)
  own : ∀ x, x < m → 0 < N x → ∃ b, A x = some ⟨b, 0, none⟩ ∧ b < B ∧ w.rowIs b 37 (N x * 2) (candCell (I x) (S x))
  inj : ∀ x y b, x < m → y < m → 0 < N x → 0 < N y → A x = some ⟨b, 0, none⟩ → A y = some ⟨b, 0, none⟩ → x = y
  lo : ∀ x b, x < m → 0 < N x → A x = some ⟨b, 0, none⟩ → B0 ≤ b

theorem CoR.of {w w' : World} {co : Option Addr} {m : Nat} {N : Nat → Nat} {A : Nat → Option Addr} {I : Nat → Nat → ByteArray} {S : Nat → Nat → Nat} (h : CoAt w w' co m N A I S) : CoR w' w.heap.size w'.heap.size co m N A I S := by
  rcases Nat.eq_zero_or_pos m with rfl | h0
  · exact ⟨fun h => absurd h (Nat.lt_irrefl _), fun x hx => absurd hx (Nat.not_lt_zero _), fun x hx => absurd hx (Nat.not_lt_zero _), fun x y b hx => absurd hx (Nat.not_lt_zero _), fun x b hx => absurd hx (Nat.not_lt_zero _)⟩
  · obtain ⟨rfl, K⟩ := h.2 h0
    refine ⟨fun _ => ⟨_, K.row.lt, rfl, fun x hx => ?_, fun x b hx h0 e => ?_⟩, K.plain, fun x hx h0 => ?_, K.inj, fun x b hx h0 e => ?_⟩
    · have := K.row.cell hx
      rwa [if_pos hx] at this
    · obtain ⟨b', e1, e2, _⟩ := K.own x hx h0
      rw [e1] at e
      simp only [Option.some.injEq, Addr.mk.injEq] at e
      omega
    · obtain ⟨b, e1, _, e3⟩ := K.own x hx h0
      exact ⟨b, e1, e3.lt, e3⟩
    · obtain ⟨b', e1, e2, _⟩ := K.own x hx h0
      rw [e1] at e
      simp only [Option.some.injEq, Addr.mk.injEq] at e
      omega

theorem CoR.below {w w' : World} {B0 B : Nat} {co : Option Addr} {m : Nat} {N : Nat → Nat} {A : Nat → Option Addr} {I : Nat → Nat → ByteArray} {S : Nat → Nat → Nat} (h : CoR w B0 B co m N A I S) (hb : Below w.heap.size w w') : CoR w' B0 B co m N A I S := by
  refine ⟨fun h0 => ?_, h.plain, fun x hx h0 => ?_, h.inj, h.lo⟩
  · obtain ⟨T, e0, e1, e2, e3⟩ := h.row h0
    exact ⟨T, e0, e1, fun x hx => (hb.cell (World.block_lt_of_cell? _ _ (e2 x hx))).trans (e2 x hx), e3⟩
  · obtain ⟨b, e1, e2, e3⟩ := h.own x hx h0
    exact ⟨b, e1, e2, e3.of_block (hb.block _ e3.lt)⟩

theorem CoR.cands {w : World} {B0 B : Nat} {co : Option Addr} {m : Nat} {N : Nat → Nat} {A : Nat → Option Addr} {I : Nat → Nat → ByteArray} {S : Nat → Nat → Nat} (h : CoR w B0 B co m N A I S) (x : Nat) (hx : x < m) : CandsAt w (A x) (N x) (I x) (S x) := by
  rcases Nat.eq_zero_or_pos (N x) with h0 | h0
  · rw [h0]; exact CandsAt.mk0
  · obtain ⟨b, e1, _, e3⟩ := h.own x hx h0
    rw [e1]
    exact cands_of_row e3

theorem mkAsk {w : World} {B0 B p Lb n0 n1 n2 : Nat} {co oc : Option Addr} {Nd Wh O : Nat → Int} {So : Nat → Bool} {A : Nat → Option Addr} {N : Nat → Nat} {I : Nat → Nat → ByteArray} {S : Nat → Nat → Nat}
    (hn : n0 ≤ 4096) (hok : AfterOK n0 n1 n2 Nd Wh O) (hW : ∀ i, i < n0 → 0 ≤ Wh i) (hO : ∀ i, i < n2 → 0 ≤ O i) (hN : ∀ x, x < n1 → N x ≤ 65536) (hu : unf N Nd n0 ≤ 65536)
    (hnode : NodeAt w p Lb n0 Nd Wh So) (hco : CoR w B0 B co n1 N A I S) (hoc : ValsAt w oc n2 (fun i => .int .u8 (O i))) :
    InAsk w p Lb n0 co n1 oc n2 Wh O (fun k => (Nd k).toNat) So (fun k => satB (Wh k) (O (Nd k).toNat)) A N I S :=
  ⟨hn, fun k hk => by obtain ⟨h1, h2, h3, _⟩ := hok k hk; exact ⟨by omega, by omega⟩, fun k hk => by obtain ⟨h1, h2, h3, h4, h5⟩ := hok k hk; exact ⟨hW k hk, h4, hO _ (by omega), h5⟩, fun k hk => rfl, hN,
    Nat.le_trans (tot_le_unf _ N Nd n0) hu, ⟨hnode.1, hnode.2.congr fun i hi => by obtain ⟨h1, _⟩ := hok i hi; omega⟩,
    fun h0 => by obtain ⟨T, _, e1, e2, _⟩ := hco.row h0; exact ⟨T, e1, e2⟩, hco.plain, hco.cands, hoc⟩


/-- Go's 'last': -1 till an entry is satisfied. -/
def lastV (s : Nat → Bool) (k : Nat) : Int := if cntS s k = 0 then -1 else (lst s k : Int)
theorem lastV_no {s : Nat → Bool} {k : Nat} (h : s k = false) : lastV s (k + 1) = lastV s k := by unfold lastV; rw [cnt_no h, lst_no h]
theorem lastV_yes {s : Nat → Bool} {k : Nat} (h : s k = true) : lastV s (k + 1) = k := by unfold lastV; rw [cnt_yes h, lst_yes h, if_neg (by omega)]
theorem lastV_pos {s : Nat → Bool} {k : Nat} (h : 0 < cntS s k) : lastV s k = lst s k := by unfold lastV; rw [if_neg (by omega)]
/-- Does the node run? -/
def okB (n c : Nat) : Bool := decide (n = 0) || decide (0 < c)

/-- What law 6 takes from input's result. -/
def Six (w : World) (n : Nat) (s : Nat → Bool) (X N : Nat → Nat) (A : Nat → Option Addr) (So : Nat → Bool) (I : Nat → Nat → ByteArray) (S : Nat → Nat → Nat) (al : Option Addr) (w' : World) : Prop :=
  ((cntS s n = 1 ∧ So (lst s n) = true) ∧ al = A (X (lst s n)) ∧ tot s (fun k => N (X k)) n = N (X (lst s n))) ∨
  (¬ (cntS s n = 1 ∧ So (lst s n) = true) ∧ (0 < tot s (fun k => N (X k)) n → ∃ G, al = some ⟨G, 0, none⟩ ∧ w.heap.size ≤ G ∧ w'.rowIs G 37 (tot s (fun k => N (X k)) n * 2) (candCell (catI s X N n I) (catS s X N n S))))

theorem InRes.six {w w' : World} {n : Nat} {s : Nat → Bool} {X N : Nat → Nat} {A : Nat → Option Addr} {So : Nat → Bool} {I : Nat → Nat → ByteArray} {S : Nat → Nat → Nat} {e : Ending} (h : InRes w n s X N A So I S e w') :
    ∃ al ev nv cv, e = .returned (.tuple #[.agg #[.slice al (tot s (fun k => N (X k)) n) (tot s (fun k => N (X k)) n), .slice ev nv cv], .bool (okB n (cntS s n))]) ∧ Six w n s X N A So I S al w' := by
  rcases h.2 with ⟨rfl, h1⟩ | ⟨h0, h1, h2⟩ | ⟨h0, al, E, h1, _, _, h2⟩
  · exact ⟨none, none, 0, 0, by rw [h1]; rfl, .inr ⟨fun h => absurd h.1 (by simp [cntS]), fun h => absurd h (by simp [tot])⟩⟩
  · have ht := tot_of_cnt0 (L := fun k => N (X k)) h1
    refine ⟨none, none, 0, 0, ?_, .inr ⟨fun h => by omega, fun h => by omega⟩⟩
    rw [h2, ht, h1]
    simp [okB]
    omega
  · refine ⟨al, some ⟨E, 0, none⟩, n, n, ?_, ?_⟩
    · rw [h1]
      simp [okB, h0]
    · rcases h2 with ⟨a, b, c⟩ | ⟨a, b⟩
      · exact .inl ⟨⟨a, b⟩, c, (one_spec a).1⟩
      · exact .inr ⟨a, fun _ => b⟩


/-- The texts of the outputs behind the write. -/
def tagI (hb : Bool) (x0 : Nat) (I : Nat → Nat → ByteArray) (x j : Nat) : ByteArray := if hb = true ∧ x = x0 ∧ j = 0 then I x j ++ ⟨#[35]⟩ else I x j
theorem tagI_yes (x0 : Nat) (I : Nat → Nat → ByteArray) : tagI true x0 I x0 0 = I x0 0 ++ ⟨#[35]⟩ := by simp [tagI]
theorem tagI_no {hb : Bool} {x0 : Nat} {I : Nat → Nat → ByteArray} {x j : Nat} (h : ¬ (hb = true ∧ x = x0 ∧ j = 0)) : tagI hb x0 I x j = I x j := by simp only [tagI]; rw [if_neg h]

structure CoW (w wx : World) (a0 a1 a2 : Option Addr) (n0 n1 n2 : Nat) (Nd Wh O : Nat → Int) (So : Nat → Bool) (A : Nat → Option Addr) (N C : Nat → Nat) (I : Nat → Nat → ByteArray) (S : Nat → Nat → Nat) (co : Option Addr) (A' : Nat → Option Addr) (hb : Bool) (x0 : Nat) : Prop where
  bel : Below w.heap.size w wx
  args : Args wx a0 a1 a2 n0 n1 n2 Nd Wh O So A N C I S
  row : ∀ x, x < n1 → ∃ T, co = some ⟨T, 0, none⟩ ∧ wx.cell? ⟨T, x, none⟩ = some (.slice (A' x) (N x) (N x))
  cands : ∀ x, x < n1 → CandsAt wx (A' x) (N x) (tagI hb x0 I x) (S x)

section
variable {w wx : World} {a0 a1 a2 : Option Addr} {n0 n1 n2 : Nat} {Nd Wh O : Nat → Int} {So : Nat → Bool} {A : Nat → Option Addr} {N C : Nat → Nat} {I : Nat → Nat → ByteArray} {S : Nat → Nat → Nat} {co : Option Addr} {A' : Nat → Option Addr} {hb : Bool} {x0 B0 B : Nat}

theorem CoW.below {wy : World} (h : CoW w wx a0 a1 a2 n0 n1 n2 Nd Wh O So A N C I S co A' hb x0) (hbl : Below wx.heap.size wx wy) : CoW w wy a0 a1 a2 n0 n1 n2 Nd Wh O So A N C I S co A' hb x0 :=
  ⟨h.bel.trans (hbl.mono h.bel.size), h.args.below hbl, fun x hx => by obtain ⟨T, e1, e2⟩ := h.row x hx; exact ⟨T, e1, (hbl.cell (World.block_lt_of_cell? _ _ e2)).trans e2⟩, fun x hx => (h.cands x hx).below hbl⟩

/-- Nothing that the outputs hold was written. -/
theorem CoW.same (hA : Args w a0 a1 a2 n0 n1 n2 Nd Wh O So A N C I S) (hb1 : Below w.heap.size w wx) (hC : CoR wx B0 B co n1 N A' I S) (h0 : hb = true → N x0 = 0) : CoW w wx a0 a1 a2 n0 n1 n2 Nd Wh O So A N C I S co A' hb x0 := by
  refine ⟨hb1, hA.below hb1, fun x hx => ?_, fun x hx => ?_⟩
  · obtain ⟨T, _, e1, e2, _⟩ := hC.row (by omega)
    exact ⟨T, e1, e2 x hx⟩
  · have := hC.cands x hx
    intro i hi
    rw [tagI_no (by rintro ⟨h1, rfl, rfl⟩; have := h0 h1; omega)]
    exact this i hi

/-- Blocks below B are as they were: so are the outputs. -/
theorem CoR.stays {wy : World} (hC : CoR wx B0 B co n1 N A' I S) (h : ∀ b, b < B → wy.heap[b]? = wx.heap[b]?) : CoR wy B0 B co n1 N A' I S := by
  refine ⟨fun h0 => ?_, hC.plain, fun x hx h0 => ?_, hC.inj, hC.lo⟩
  · obtain ⟨T, e0, e1, e2, e3⟩ := hC.row h0
    exact ⟨T, e0, e1, fun x hx => (World.cell?_of_block (w := wx) (h T e0)).trans (e2 x hx), e3⟩
  · obtain ⟨b, e1, e2, e3⟩ := hC.own x hx h0
    exact ⟨b, e1, e2, e3.of_block (h b e2)⟩

/-- The first element of output x0 was written. -/
theorem CoW.hand {wy : World} {b : Nat} (hA : Args w a0 a1 a2 n0 n1 n2 Nd Wh O So A N C I S) (hb1 : Below w.heap.size w wy) (hC : CoR wx B0 B co n1 N A' I S) (hx0 : x0 < n1) (hN0 : 0 < N x0) (hA0 : A' x0 = some ⟨b, 0, none⟩)
    (hoth : ∀ k, k < B → k ≠ b → wy.heap[k]? = wx.heap[k]?) (hrow : wy.rowIs b 37 (N x0 * 2) (fun j => if j = 0 then .string (I x0 0 ++ ⟨#[35]⟩) else candCell (I x0) (S x0) j)) :
    CoW w wy a0 a1 a2 n0 n1 n2 Nd Wh O So A N C I S co A' true x0 := by
  refine ⟨hb1, hA.below hb1, fun x hx => ?_, fun x hx => ?_⟩
  · obtain ⟨T, e0, e1, e2, e3⟩ := hC.row (by omega)
    exact ⟨T, e1, (World.cell?_of_block (w := wx) (hoth T e0 (e3 x0 b hx0 hN0 hA0))).trans (e2 x hx)⟩
  · by_cases e : x = x0
    · subst e
      rw [hA0]
      have hr : wy.rowIs b 37 (N x * 2) (candCell (tagI true x I x) (S x)) := hrow.congr (fun j hj => by
        by_cases e0 : j = 0
        · subst e0; simp [candCell, tagI_yes]
        · rw [if_neg e0]
          unfold candCell
          by_cases ep : j % 2 = 0
          · rw [if_pos ep, if_pos ep, tagI_no (by omega)]
          · rw [if_neg ep, if_neg ep])
      exact cands_of_row hr
    · rcases Nat.eq_zero_or_pos (N x) with h0 | h0
      · rw [h0]; exact CandsAt.mk0
      · obtain ⟨b', e1, e2, e3⟩ := hC.own x hx h0
        rw [e1]
        have hne : b' ≠ b := fun e' => by subst e'; exact e (hC.inj x x0 b' hx hx0 h0 hN0 e1 hA0)
        have := cands_of_row (e3.of_block (hoth b' e2 hne))
        intro i hi
        rw [tagI_no (by omega)]
        exact this i hi
end

theorem cat_bound {s : Nat → Bool} {X N : Nat → Nat} {n p : Nat} {I : Nat → Nat → ByteArray} (h : p < tot s (fun k => N (X k)) n) : ∃ k j, k < n ∧ j < N (X k) ∧ catI s X N n I p = I (X k) j := by
  obtain ⟨k, hk, hs, j, hj, rfl⟩ := loc_in h
  refine ⟨k, j, hk, hj, ?_⟩
  unfold catI
  rw [loc_at hk hs hj]

end Go.Proofs.Qxb6604581a
