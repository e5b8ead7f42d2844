import Derived.Test.Qxb6604581aIn1
import Derived.Test.Qxb6604581aIn2
import Derived.Test.Qxb6604581aIn3
namespace Go.Proofs.Qxb6604581a
open Go.RowKit
set_option linter.unusedVariables false

theorem input30e (p Lb m q : Nat) (co oc : Option Addr) (Nd Wh : Nat → Int) (X N : Nat → Nat) (So s : Nat → Bool) (A : Nat → Option Addr) (I : Nat → Nat → ByteArray) (S : Nat → Nat → Nat) (w : World) (hnode : NodeAt w p Lb 0 Nd Wh So) :
    Calls Try.prog 30 #[.pointer (some ⟨p, 0, none⟩), .slice co m m, .slice oc q q] w fun e w' => InRes w 0 s X N A So I S e w' := by
  have hp := hnode.1
  have hpl := World.block_lt_of_cell? _ _ hp
  go_enter Try.func30, Try.ntmps30
  go_wp2_with fail
  exact bodyPost_ret (v := .tuple #[.agg #[.slice none 0 0, .slice none 0 0], .bool true]) (by simp [results, Try.results30, go_sem]) rfl ⟨bel_alloc (Below.refl _ _) _, .inl ⟨rfl, rfl⟩⟩

/-- What input asks of the memory. -/
structure InAsk (w : World) (p Lb n : Nat) (co : Option Addr) (m : Nat) (oc : Option Addr) (q : Nat) (Wh O : Nat → Int) (X : Nat → Nat) (So s : Nat → Bool) (A : Nat → Option Addr) (N : Nat → Nat) (I : Nat → Nat → ByteArray) (S : Nat → Nat → Nat) : Prop where
  hn : n ≤ 4096
  hX : ∀ k, k < n → X k < m ∧ X k < q
  hW : ∀ k, k < n → 0 ≤ Wh k ∧ Wh k ≤ 2 ∧ 0 ≤ O (X k) ∧ O (X k) ≤ 2
  hs : ∀ k, k < n → satB (Wh k) (O (X k)) = s k
  hN : ∀ x, x < m → N x ≤ 65536
  htot : tot s (fun k => N (X k)) n ≤ 65536
  node : NodeAt w p Lb n (fun k => X k) Wh So
  co : 0 < m → ∃ T, co = some ⟨T, 0, none⟩ ∧ ∀ x, x < m → w.cell? ⟨T, x, none⟩ = some (.slice (A x) (N x) (N x))
  plain : ∀ x, x < m → Plain (A x) (N x)
  cands : ∀ x, x < m → CandsAt w (A x) (N x) (I x) (S x)
  oc : ValsAt w oc q (fun i => .int .u8 (O i))

theorem input30 {w : World} {p Lb n : Nat} {co : Option Addr} {m : Nat} {oc : Option Addr} {q : Nat} {Wh O : Nat → Int} {X : Nat → Nat} {So s : Nat → Bool} {A : Nat → Option Addr} {N : Nat → Nat} {I : Nat → Nat → ByteArray} {S : Nat → Nat → Nat}
    (h : InAsk w p Lb n co m oc q Wh O X So s A N I S) :
    Calls Try.prog 30 #[.pointer (some ⟨p, 0, none⟩), .slice co m m, .slice oc q q] w fun e w' => InRes w n s X N A So I S e w' := by
  rcases Nat.eq_zero_or_pos n with rfl | hn0
  · exact input30e p Lb m q co oc _ Wh X N So s A I S w h.node
  · obtain ⟨hx, _⟩ := h.hX 0 hn0
    obtain ⟨T, rfl, hrow⟩ := h.co (by omega)
    by_cases h0 : cntS s n = 0
    · exact input30z p Lb n T m q oc Wh O X So s A N I S w h0 hn0 h.hn h.hX h.hW h.hs h.hN h.htot h.node hrow h.plain h.cands h.oc
    by_cases h1 : cntS s n = 1
    · cases hso : So (lst s n) with
      | true => exact input30h p Lb n T m q oc Wh O X So s A N I S w ⟨h1, hso⟩ hn0 h.hn h.hX h.hW h.hs h.hN h.htot h.node hrow h.plain h.cands h.oc
      | false => exact input30m p Lb n T m q oc Wh O X So s A N I S w ⟨h1, hso⟩ hn0 h.hn h.hX h.hW h.hs h.hN h.htot h.node hrow h.plain h.cands h.oc
    · exact input30n p Lb n T m q oc Wh O X So s A N I S w ⟨h0, h1⟩ hn0 h.hn h.hX h.hW h.hs h.hN h.htot h.node hrow h.plain h.cands h.oc

theorem InAsk.below {w w' : World} {p Lb n : Nat} {co : Option Addr} {m : Nat} {oc : Option Addr} {q : Nat} {Wh O : Nat → Int} {X : Nat → Nat} {So s : Nat → Bool} {A : Nat → Option Addr} {N : Nat → Nat} {I : Nat → Nat → ByteArray} {S : Nat → Nat → Nat}
    (h : InAsk w p Lb n co m oc q Wh O X So s A N I S) (hb : Below w.heap.size w w') : InAsk w' p Lb n co m oc q Wh O X So s A N I S :=
  ⟨h.hn, h.hX, h.hW, h.hs, h.hN, h.htot, h.node.below hb, fun h0 => by
    obtain ⟨T, e, hrow⟩ := h.co h0
    exact ⟨T, e, fun x hx => (hb.cell (World.block_lt_of_cell? _ _ (hrow x hx))).trans (hrow x hx)⟩, h.plain, fun x hx => (h.cands x hx).below hb, h.oc.below hb⟩

/-- The result is laid into a cell of the caller's. -/
theorem InRes.lay {w w' : World} {n : Nat} {s : Nat → Bool} {X N : Nat → Nat} {A : Nat → Option Addr} {So : Nat → Bool} {I : Nat → Nat → ByteArray} {S : Nat → Nat → Nat} {e : Ending} {o : Obj} (h : InRes (w.alloc o) n s X N A So I S e w') (v0 v1 : Value) :
    InRes w n s X N A So I S e ((w'.setCell ⟨w.heap.size, 0, none⟩ v0).setCell ⟨w.heap.size, 1, none⟩ v1) := by
  obtain ⟨hb, hc⟩ := h
  have hs : (w.alloc o).heap.size = w.heap.size + 1 := by simp
  rw [hs] at hb hc
  have hb0 : Below w.heap.size w w' := (bel_alloc (Below.refl _ _) o).trans (hb.mono (by omega))
  refine ⟨(hb0.setCell (Nat.le_refl _) _).setCell (Nat.le_refl _) _, ?_⟩
  rcases hc with hc | hc | ⟨h1, al, E, he, hE, hle, hc⟩
  · exact .inl hc
  · exact .inr (.inl hc)
  · refine .inr (.inr ⟨h1, al, E, he, fun i hi => ?_, by omega, ?_⟩)
    · obtain ⟨b, off, e', h2⟩ := hE i hi
      refine ⟨b, off, e', ?_⟩
      simp only [Option.some.injEq, Addr.mk.injEq] at e'
      rw [World.cell?_of_block (Deep.blk_setCell_other _ _ _ _ (by show b ≠ w.heap.size; omega)), World.cell?_of_block (Deep.blk_setCell_other _ _ _ _ (by show b ≠ w.heap.size; omega))]
      exact h2
    · rcases hc with hc | ⟨hc, G, h3, h4, h5⟩
      · exact .inl hc
      · exact .inr ⟨hc, G, h3, by omega, (h5.setOther (by show G ≠ w.heap.size; omega) _).setOther (by show G ≠ w.heap.size; omega) _⟩

theorem zzinput25 {w : World} {p Lb n : Nat} {co : Option Addr} {m : Nat} {oc : Option Addr} {q : Nat} {Wh O : Nat → Int} {X : Nat → Nat} {So s : Nat → Bool} {A : Nat → Option Addr} {N : Nat → Nat} {I : Nat → Nat → ByteArray} {S : Nat → Nat → Nat}
    (h : InAsk w p Lb n co m oc q Wh O X So s A N I S) :
    Calls Try.prog 25 #[.pointer (some ⟨p, 0, none⟩), .slice co m m, .slice oc q q] w fun e w' => InRes w n s X N A So I S e w' := by
  go_enter Try.func25, Try.ntmps25
  go_wp2_with fail
  refine (input30 (h.below (bel_alloc (Below.refl _ _) _))).mono ?_
  intro e w1 hr
  have hbl := hr.1
  have c0 : w1.cell? ⟨w.heap.size, 0, none⟩ = some (.slice none 0 0) := by
    rw [hbl.cell (by simp)]; rw [World.cell?_alloc_at _ _ _ _ rfl]; rfl
  have c1 : w1.cell? ⟨w.heap.size, 1, none⟩ = some (.slice none 0 0) := by
    rw [hbl.cell (by simp)]; rw [World.cell?_alloc_at _ _ _ _ rfl]; rfl
  have f0 : w1.frozen? ⟨w.heap.size, 0, none⟩ = false := by rw [hbl.frozen (by simp)]; simp [World.frozen?_alloc_at]
  have f1 : w1.frozen? ⟨w.heap.size, 1, none⟩ = false := by rw [hbl.frozen (by simp)]; simp [World.frozen?_alloc_at]
  obtain ⟨v0, n0, c0', v1, n1, c1', b, rfl⟩ : ∃ v0 n0 c0' v1 n1 c1' b, e = .returned (.tuple #[.agg #[.slice v0 n0 c0', .slice v1 n1 c1'], .bool b]) := by
    rcases hr.2 with ⟨_, h⟩ | ⟨_, _, h⟩ | ⟨_, al, E, h, _⟩
    · exact ⟨_, _, _, _, _, _, _, h⟩
    · exact ⟨_, _, _, _, _, _, _, h⟩
    · exact ⟨_, _, _, _, _, _, _, h⟩
  have hL := hr.lay (.slice v0 n0 c0') (.slice v1 n1 c1')
  clear hr
  go_wp2_with fail
  exact bodyPost_ret (v := .tuple #[.agg #[.slice v0 n0 c0', .slice v1 n1 c1'], .bool b]) (by simp [results, Try.results25, go_sem, c0, c1]) rfl hL
end Go.Proofs.Qxb6604581a
