import Derived.Test.Qxb6604581aNodeD
import Derived.Test.Qxb6604581aPlain
import Derived.Deep.RegionLaw
import Derived.Deep.AppendSrc
namespace Go.Proofs.Qxb6604581a
open Go.RowKit
set_option linter.unusedVariables false

/-- The three cells of a link. -/
def lcell (a b : Int) (c : Bool) (j : Nat) : Value := if j = 0 then .int .i64 a else if j = 1 then .int .u8 b else .bool c

/-- What the first loop of input holds when k entries are read. -/
structure In1 (w wr : World) (k : Nat) (s : Nat → Bool) (X : Nat → Nat) (So : Nat → Bool) : Prop where
  bel : Below w.heap.size w wr
  res : wr.rowIs w.heap.size 31 2 (fun _ => .slice none 0 0)
  last : ∃ a b c, wr.rowIs (w.heap.size + 1) 66 3 (lcell a b c) ∧ (0 < cntS s k → a = X (lst s k) ∧ c = So (lst s k))

theorem In1.start (w : World) (s : Nat → Bool) (X : Nat → Nat) (So : Nat → Bool) :
    In1 w ((w.alloc (.cells #[.slice none 0 0, .slice none 0 0] 31)).alloc (.cells #[.int .i64 0, .int .u8 0, .bool false] 66)) 0 s X So := by
  refine ⟨bel_alloc (bel_alloc (Below.refl _ _) _) _, ?_, 0, 0, false, ?_, fun h => absurd h (Nat.lt_irrefl _)⟩
  · exact (World.rowIs_alloc w #[.slice none 0 0, .slice none 0 0] 31 (fun _ => .slice none 0 0) (fun i hi => by
      match i, hi with
      | 0, _ => rfl
      | 1, _ => rfl)).alloc _
  · have := World.rowIs_alloc (w.alloc (.cells #[.slice none 0 0, .slice none 0 0] 31)) #[.int .i64 0, .int .u8 0, .bool false] 66 (lcell 0 0 false) (fun i hi => by
      match i, hi with
      | 0, _ => rfl
      | 1, _ => rfl
      | 2, _ => rfl)
    simpa using this

theorem In1.alloc {w wr : World} {k : Nat} {s : Nat → Bool} {X : Nat → Nat} {So : Nat → Bool} (h : In1 w wr k s X So) (o : Obj) : In1 w (wr.alloc o) k s X So := by
  obtain ⟨a, b, c, h1, h2⟩ := h.last
  exact ⟨bel_alloc h.bel _, h.res.alloc _, a, b, c, h1.alloc _, h2⟩
theorem In1.drewN {w wr : World} {k : Nat} {s : Nat → Bool} {X : Nat → Nat} {So : Nat → Bool} (h : In1 w wr k s X So) (n : Nat) : In1 w (wr.drewN n) k s X So :=
  ⟨bdrewN h.bel n, h.res, h.last⟩
theorem In1.no {w wr : World} {k : Nat} {s : Nat → Bool} {X : Nat → Nat} {So : Nat → Bool} (h : In1 w wr k s X So) (hs : s k = false) : In1 w wr (k + 1) s X So := by
  obtain ⟨a, b, c, h1, h2⟩ := h.last
  exact ⟨h.bel, h.res, a, b, c, h1, by rw [cnt_no hs, lst_no hs]; exact h2⟩
theorem In1.yes {w wr : World} {k : Nat} {s : Nat → Bool} {X : Nat → Nat} {So : Nat → Bool} (h : In1 w wr k s X So) (hs : s k = true) (b : Int) :
    In1 w (((wr.setCell ⟨w.heap.size + 1, 0, none⟩ (.int .i64 (X k))).setCell ⟨w.heap.size + 1, 1, none⟩ (.int .u8 b)).setCell ⟨w.heap.size + 1, 2, none⟩ (.bool (So k))) (k + 1) s X So := by
  obtain ⟨a, b', c, h1, h2⟩ := h.last
  refine ⟨((h.bel.setCell (by show w.heap.size ≤ w.heap.size + 1; omega) _).setCell (by show w.heap.size ≤ w.heap.size + 1; omega) _).setCell (by show w.heap.size ≤ w.heap.size + 1; omega) _,
    ((h.res.setOther (by show w.heap.size ≠ w.heap.size + 1; omega) _).setOther (by show w.heap.size ≠ w.heap.size + 1; omega) _).setOther (by show w.heap.size ≠ w.heap.size + 1; omega) _, X k, b, So k,
    (((h1.set 0 _).set 1 _).set 2 _).congr (fun j hj => ?_), fun _ => by rw [lst_yes hs]; exact ⟨rfl, rfl⟩⟩
  have : j = 0 ∨ j = 1 ∨ j = 2 := by omega
  rcases this with rfl | rfl | rfl <;> rfl

/-- The candidate at place p of the whole. -/
def catI (s : Nat → Bool) (X N : Nat → Nat) (n : Nat) (I : Nat → Nat → ByteArray) (p : Nat) : ByteArray := I (X (loc s (fun k => N (X k)) n p).1) (loc s (fun k => N (X k)) n p).2
def catS (s : Nat → Bool) (X N : Nat → Nat) (n : Nat) (S : Nat → Nat → Nat) (p : Nat) : Nat := S (X (loc s (fun k => N (X k)) n p).1) (loc s (fun k => N (X k)) n p).2

/-- What input hands back. -/
def InRes (w : World) (n : Nat) (s : Nat → Bool) (X N : Nat → Nat) (A : Nat → Option Addr) (So : Nat → Bool) (I : Nat → Nat → ByteArray) (S : Nat → Nat → Nat) (e : Ending) (w' : World) : Prop :=
  Below w.heap.size w w' ∧
  ((n = 0 ∧ e = .returned (.tuple #[.agg #[.slice none 0 0, .slice none 0 0], .bool true])) ∨
   (0 < n ∧ cntS s n = 0 ∧ e = .returned (.tuple #[.agg #[.slice none 0 0, .slice none 0 0], .bool false])) ∨
   (0 < cntS s n ∧ ∃ al E, e = .returned (.tuple #[.agg #[.slice al (tot s (fun k => N (X k)) n) (tot s (fun k => N (X k)) n), .slice (some ⟨E, 0, none⟩) n n], .bool true]) ∧
      IntsAt w' (some ⟨E, 0, none⟩) n (fun k => tot s (fun k => N (X k)) (k + 1)) ∧ w.heap.size ≤ E ∧
      ((cntS s n = 1 ∧ So (lst s n) = true ∧ al = A (X (lst s n))) ∨
       (¬ (cntS s n = 1 ∧ So (lst s n) = true) ∧ ∃ G, al = some ⟨G, 0, none⟩ ∧ w.heap.size ≤ G ∧ w'.rowIs G 37 (tot s (fun k => N (X k)) n * 2) (candCell (catI s X N n I) (catS s X N n S))))))

/-- What the second loop of input holds when k entries are read: 'in' in block D, its ends in block E. -/
structure In2 (w ws : World) (D E k n : Nat) (al : Value) (s : Nat → Bool) (L : Nat → Nat) : Prop where
  bel : Below w.heap.size w ws
  gD : w.heap.size < D
  gE : w.heap.size < E
  ne : D ≠ E
  res : ws.rowIs w.heap.size 31 2 (fun _ => .slice none 0 0)
  inn : ws.rowIs D 31 2 (fun j => if j = 0 then al else .slice (some ⟨E, 0, none⟩) n n)
  ends : ws.rowIs E 3 n (fun j => if j < k then .int .i64 (tot s L (j + 1)) else .int .i64 0)

theorem In2.start {w wr : World} {k n : Nat} {s : Nat → Bool} {X : Nat → Nat} {So : Nat → Bool} (K : In1 w wr k s X So) (L : Nat → Nat) (al : Value) :
    In2 w ((wr.alloc (.cells (madeCells #[.int .i64 0] n) 3)).alloc (.cells #[al, .slice (some ⟨wr.heap.size, 0, none⟩) n n] 31)) (wr.heap.size + 1) wr.heap.size 0 n al s L := by
  obtain ⟨a, b, c, h1, _⟩ := K.last
  have h2 := h1.lt
  refine ⟨bel_alloc (bel_alloc K.bel _) _, by omega, by omega, by omega, (K.res.alloc _).alloc _, ?_, ?_⟩
  · have := World.rowIs_alloc (wr.alloc (.cells (madeCells #[.int .i64 0] n) 3)) #[al, .slice (some ⟨wr.heap.size, 0, none⟩) n n] 31 (fun j => if j = 0 then al else .slice (some ⟨wr.heap.size, 0, none⟩) n n) (fun i hi => by
      match i, hi with
      | 0, _ => rfl
      | 1, _ => rfl)
    simpa using this
  · exact ((World.rowIs_made wr (.int .i64 0) n 3).alloc _).congr (fun j _ => by simp)

section
variable {w ws : World} {D E k n : Nat} {al : Value} {s : Nat → Bool} {L : Nat → Nat}
theorem In2.alloc (h : In2 w ws D E k n al s L) (o : Obj) : In2 w (ws.alloc o) D E k n al s L := ⟨bel_alloc h.bel _, h.gD, h.gE, h.ne, h.res.alloc _, h.inn.alloc _, h.ends.alloc _⟩
theorem In2.drewN (h : In2 w ws D E k n al s L) (q : Nat) : In2 w (ws.drewN q) D E k n al s L := ⟨bdrewN h.bel _, h.gD, h.gE, h.ne, h.res, h.inn, h.ends⟩
theorem In2.drew (h : In2 w ws D E k n al s L) : In2 w ws.drew D E k n al s L := ⟨h.bel.drew, h.gD, h.gE, h.ne, h.res, h.inn, h.ends⟩
theorem In2.setAll (h : In2 w ws D E k n al s L) (v : Value) : In2 w (ws.setCell ⟨D, 0, none⟩ v) D E k n v s L :=
  ⟨h.bel.setCell (by have := h.gD; show w.heap.size ≤ D; omega) _, h.gD, h.gE, h.ne, h.res.setOther (by have := h.gD; show w.heap.size ≠ D; omega) _,
    (h.inn.set 0 v).congr (fun j _ => by by_cases e : j = 0 <;> simp [e]), h.ends.setOther (by have := h.ne; show E ≠ D; omega) _⟩
theorem In2.setEnd (h : In2 w ws D E k n al s L) : In2 w (ws.setCell ⟨E, k, none⟩ (.int .i64 (tot s L (k + 1)))) D E (k + 1) n al s L :=
  ⟨h.bel.setCell (by have := h.gE; show w.heap.size ≤ E; omega) _, h.gD, h.gE, h.ne, h.res.setOther (by have := h.gE; show w.heap.size ≠ E; omega) _,
    h.inn.setOther (by have := h.ne; show D ≠ E; omega) _, row_fill (f := fun j => .int .i64 (tot s L (j + 1))) h.ends⟩
theorem In2.setRow (h : In2 w ws D E k n al s L) {G : Nat} (gG : w.heap.size < G) (hD : D ≠ G) (hE : E ≠ G) : ∀ (xs : List Value) (o : Nat), In2 w (ws.setCells G o xs) D E k n al s L := by
  intro xs
  induction xs generalizing ws with
  | nil => intro o; exact h
  | cons x xs ih =>
    intro o
    exact ih (ws := ws.setCell ⟨G, o, none⟩ x) ⟨h.bel.setCell (by show w.heap.size ≤ G; omega) _, h.gD, h.gE, h.ne, h.res.setOther (by show w.heap.size ≠ G; omega) _, h.inn.setOther hD _, h.ends.setOther hE _⟩ (o + 1)
end

theorem In2.done {w ws : World} {D E n : Nat} {al : Value} {s : Nat → Bool} {L : Nat → Nat} (h : In2 w ws D E n n al s L) (v0 v1 : Value) :
    Below w.heap.size w ((ws.setCell ⟨w.heap.size, 0, none⟩ v0).setCell ⟨w.heap.size, 1, none⟩ v1) ∧ IntsAt ((ws.setCell ⟨w.heap.size, 0, none⟩ v0).setCell ⟨w.heap.size, 1, none⟩ v1) (some ⟨E, 0, none⟩) n (fun k => tot s L (k + 1)) := by
  have hE := h.gE
  refine ⟨(h.bel.setCell (Nat.le_refl _) _).setCell (Nat.le_refl _) _, fun i hi => ⟨E, 0, rfl, ?_⟩⟩
  have := ((h.ends.setOther (a := ⟨w.heap.size, 0, none⟩) (by show E ≠ w.heap.size; omega) v0).setOther (a := ⟨w.heap.size, 1, none⟩) (by show E ≠ w.heap.size; omega) v1).cell hi
  rw [Nat.zero_add, this, if_pos hi]

theorem rowIs_setCells {b t n : Nat} : ∀ (xs : List Value) (ws : World) (f : Nat → Value) (o : Nat), ws.rowIs b t n f → o + xs.length ≤ n →
    (ws.setCells b o xs).rowIs b t n (fun j => if o ≤ j ∧ j < o + xs.length then xs.getD (j - o) undef else f j)
  | [], ws, f, o, h, _ => h.congr (fun j _ => (if_neg (by simp only [List.length_nil]; omega)).symm)
  | x :: xs, ws, f, o, h, hle => by
    have := rowIs_setCells xs (ws.setCell ⟨b, o, none⟩ x) _ (o + 1) (h.set o x) (by simp at hle; omega)
    refine World.rowIs.congr (show ((ws.setCell ⟨b, o, none⟩ x).setCells b (o + 1) xs).rowIs b t n _ from this) (fun j hj => ?_)
    by_cases e : j = o
    · subst e
      rw [if_neg (by omega), if_pos rfl, if_pos (by simp)]
      simp
    · by_cases h1 : o + 1 ≤ j ∧ j < o + 1 + xs.length
      · rw [if_pos h1, if_pos (by simp; omega)]
        rw [show j - o = (j - (o + 1)) + 1 by omega]
        simp
      · rw [if_neg h1, if_neg e, if_neg (by simp; omega)]

theorem clip (a : Option Addr) (n : Nat) (w : World) (h : Plain a n) :
    Calls Try.prog 32 #[.slice a n n] w fun e w' => e = .returned (.slice a n n) ∧ w = w' := by
  rcases h with ⟨rfl, rfl⟩ | ⟨b, off, rfl⟩
  · exact clip32n w
  · exact clip32 b off n n w (Nat.le_refl _)

/-- The cells of n candidates, as a list. -/
def candCells (I : Nat → ByteArray) (S : Nat → Nat) (n : Nat) : List Value := (List.range (n * 2)).map (candCell I S)
theorem candCells_len (I : Nat → ByteArray) (S : Nat → Nat) (n : Nat) : (candCells I S n).length = n * 2 := by simp [candCells]
theorem candCells_get {I : Nat → ByteArray} {S : Nat → Nat} {n j : Nat} {u : Value} (h : (candCells I S n)[j]? = some u) : j < n * 2 ∧ u = candCell I S j := by
  simp only [candCells, List.getElem?_map] at h
  obtain ⟨j', hj', rfl⟩ := Option.map_eq_some_iff.1 h
  obtain ⟨hlt, e⟩ := List.getElem?_eq_some_iff.1 hj'
  rw [List.getElem_range] at e
  subst e
  rw [List.length_range] at hlt
  exact ⟨hlt, rfl⟩
theorem candCells_getD {I : Nat → ByteArray} {S : Nat → Nat} {n j : Nat} (h : j < n * 2) (d : Value) : (candCells I S n).getD j d = candCell I S j := by
  simp [candCells, h]
theorem candCells_one {I : Nat → ByteArray} {S : Nat → Nat} {n : Nat} : ∀ u ∈ candCells I S n, u.oneCell' = true := by
  intro u hu
  simp only [candCells, List.mem_map] at hu
  obtain ⟨j, _, rfl⟩ := hu
  unfold candCell
  split <;> rfl

theorem cands_cell {w : World} {b off n : Nat} {I : Nat → ByteArray} {S : Nat → Nat} (h : CandsAt w (some ⟨b, off, none⟩) n I S) {j : Nat} (hj : j < n * 2) : w.cell? ⟨b, off + j, none⟩ = some (candCell I S j) := by
  obtain ⟨b', off', e, h1, h2⟩ := h (j / 2) (by omega)
  simp only [Option.some.injEq, Addr.mk.injEq] at e
  obtain ⟨rfl, rfl, _⟩ := e
  unfold candCell
  rcases Nat.mod_two_eq_zero_or_one j with h0 | h0
  · rw [if_pos h0, show off + j = off + j / 2 * 2 by omega]; exact h1
  · rw [if_neg (by omega), show off + j = off + j / 2 * 2 + 1 by omega]; exact h2

theorem src_cells {w : World} {b off n : Nat} {I : Nat → ByteArray} {S : Nat → Nat} (h : CandsAt w (some ⟨b, off, none⟩) n I S) : ∀ j u, (candCells I S n)[j]? = some u → w.cell? ((⟨b, off, none⟩ : Addr).add j) = some u := by
  intro j u hu
  obtain ⟨hj, rfl⟩ := candCells_get hu
  rw [WideShapes.add_plain]
  exact cands_cell h hj

/-- What the second loop holds where the candidates are copied: the array they go into is block E + 2, t elements long. -/
structure InG (w ws : World) (E k n t : Nat) (s : Nat → Bool) (X N : Nat → Nat) (I : Nat → Nat → ByteArray) (S : Nat → Nat → Nat) : Prop where
  in2 : In2 w ws (E + 1) E k n (.slice (some ⟨E + 1 + 1, 0, none⟩) (tot s (fun k => N (X k)) k) t) s (fun k => N (X k))
  row : ∃ f, ws.rowIs (E + 1 + 1) 37 (t * 2) f ∧ ∀ j, j < tot s (fun k => N (X k)) k * 2 → f j = candCell (catI s X N n I) (catS s X N n S) j

theorem InG.start {w wr : World} {k n t : Nat} {s : Nat → Bool} {X N : Nat → Nat} {So : Nat → Bool} {I : Nat → Nat → ByteArray} {S : Nat → Nat → Nat} (K : In1 w wr k s X So) :
    InG w (((wr.alloc (.cells (madeCells #[.int .i64 0] n) 3)).alloc (.cells #[.slice (some ⟨wr.heap.size + 1 + 1, 0, none⟩) 0 t, .slice (some ⟨wr.heap.size, 0, none⟩) n n] 31)).alloc (.cells (madeCells #[.string ByteArray.empty, .float .f64 0] (t * 2)) 37)) wr.heap.size 0 n t s X N I S := by
  refine ⟨(In2.start K (fun k => N (X k)) (.slice (some ⟨wr.heap.size + 1 + 1, 0, none⟩) 0 t)).alloc _, fun j => if j % 2 = 0 then .string ByteArray.empty else .float .f64 0, ?_, fun j hj => absurd hj (by simp [tot])⟩
  · have := rowIs_made2 ((wr.alloc (.cells (madeCells #[.int .i64 0] n) 3)).alloc (.cells #[.slice (some ⟨wr.heap.size + 1 + 1, 0, none⟩) 0 t, .slice (some ⟨wr.heap.size, 0, none⟩) n n] 31)) (.string ByteArray.empty) (.float .f64 0) t 37
    have e : ((wr.alloc (.cells (madeCells #[.int .i64 0] n) 3)).alloc (.cells #[.slice (some ⟨wr.heap.size + 1 + 1, 0, none⟩) 0 t, .slice (some ⟨wr.heap.size, 0, none⟩) n n] 31)).heap.size = wr.heap.size + 1 + 1 := by simp
    rw [e] at this
    exact this

section
variable {w ws : World} {E k n t : Nat} {s : Nat → Bool} {X N : Nat → Nat} {I : Nat → Nat → ByteArray} {S : Nat → Nat → Nat}
theorem InG.alloc (h : InG w ws E k n t s X N I S) (o : Obj) : InG w (ws.alloc o) E k n t s X N I S := by
  obtain ⟨f, h1, h2⟩ := h.row
  exact ⟨h.in2.alloc _, f, h1.alloc _, h2⟩
theorem InG.drewN (h : InG w ws E k n t s X N I S) (q : Nat) : InG w (ws.drewN q) E k n t s X N I S := ⟨h.in2.drewN q, h.row⟩
theorem InG.drew (h : InG w ws E k n t s X N I S) : InG w ws.drew E k n t s X N I S := ⟨h.in2.drew, h.row⟩
theorem InG.no (h : InG w ws E k n t s X N I S) (hs : s k = false) : InG w (ws.setCell ⟨E, k, none⟩ (.int .i64 (tot s (fun k => N (X k)) k))) E (k + 1) n t s X N I S := by
  obtain ⟨f, h1, h2⟩ := h.row
  have h3 := h.in2.setEnd
  rw [tot_no hs] at h3
  exact ⟨by rw [tot_no hs]; exact h3, f, h1.setOther (by show E + 1 + 1 ≠ E; omega) _, by rw [tot_no hs]; exact h2⟩
theorem InG.yes (h : InG w ws E k n t s X N I S) (hk : k < n) (hs : s k = true) (ht : tot s (fun k => N (X k)) n = t) :
    InG w (((ws.setCells (E + 1 + 1) (tot s (fun k => N (X k)) k * 2) (candCells (I (X k)) (S (X k)) (N (X k)))).setCell ⟨E + 1, 0, none⟩ (.slice (some ⟨E + 1 + 1, 0, none⟩) (tot s (fun k => N (X k)) k + N (X k)) t)).setCell ⟨E, k, none⟩ (.int .i64 ((tot s (fun k => N (X k)) k + N (X k) : Nat) : Int))) E (k + 1) n t s X N I S := by
  obtain ⟨f, h1, h2⟩ := h.row
  have htt : tot s (fun k => N (X k)) (k + 1) = tot s (fun k => N (X k)) k + N (X k) := tot_yes hs
  have hle := tot_le (s := s) (L := fun k => N (X k)) (show k + 1 ≤ n by omega)
  have hE := h.in2.gE
  have h3 := ((h.in2.setRow (G := E + 1 + 1) (by omega) (by omega) (by omega) (candCells (I (X k)) (S (X k)) (N (X k))) (tot s (fun k => N (X k)) k * 2)).setAll (.slice (some ⟨E + 1 + 1, 0, none⟩) (tot s (fun k => N (X k)) k + N (X k)) t)).setEnd
  rw [htt] at h3
  have h4 := rowIs_setCells (candCells (I (X k)) (S (X k)) (N (X k))) ws f (tot s (fun k => N (X k)) k * 2) h1 (by rw [candCells_len]; omega)
  refine ⟨by rw [htt]; exact h3, _, (h4.setOther (by show E + 1 + 1 ≠ E + 1; omega) _).setOther (by show E + 1 + 1 ≠ E; omega) _, fun j hj => ?_⟩
  rw [htt] at hj
  by_cases hlo : j < tot s (fun k => N (X k)) k * 2
  · show (if _ then _ else f j) = _
    rw [if_neg (by omega)]
    exact h2 j hlo
  · show (if _ then _ else f j) = _
    rw [if_pos (by rw [candCells_len]; omega), candCells_getD (by omega)]
    have hloc := loc_at (s := s) (L := fun k => N (X k)) hk hs (show (j - tot s (fun k => N (X k)) k * 2) / 2 < N (X k) by omega)
    rw [show tot s (fun k => N (X k)) k + (j - tot s (fun k => N (X k)) k * 2) / 2 = j / 2 by omega] at hloc
    unfold candCell catI catS
    rw [hloc, show (j - tot s (fun k => N (X k)) k * 2) % 2 = j % 2 by omega]
end

theorem InG.done {w ws : World} {E n t : Nat} {s : Nat → Bool} {X N : Nat → Nat} {I : Nat → Nat → ByteArray} {S : Nat → Nat → Nat} {v0 v1 : Value} (h : InG w ws E n n t s X N I S) (ht : tot s (fun k => N (X k)) n = t) :
    Below w.heap.size w ((ws.setCell ⟨w.heap.size, 0, none⟩ v0).setCell ⟨w.heap.size, 1, none⟩ v1) ∧ IntsAt ((ws.setCell ⟨w.heap.size, 0, none⟩ v0).setCell ⟨w.heap.size, 1, none⟩ v1) (some ⟨E, 0, none⟩) n (fun k => tot s (fun k => N (X k)) (k + 1)) ∧
    ((ws.setCell ⟨w.heap.size, 0, none⟩ v0).setCell ⟨w.heap.size, 1, none⟩ v1).rowIs (E + 1 + 1) 37 (t * 2) (candCell (catI s X N n I) (catS s X N n S)) := by
  have hE := h.in2.gE
  obtain ⟨f, h1, h2⟩ := h.row
  have h3 := h.in2.done v0 v1
  refine ⟨h3.1, h3.2, ((h1.setOther (by show E + 1 + 1 ≠ w.heap.size; omega) _).setOther (by show E + 1 + 1 ≠ w.heap.size; omega) _).congr (fun j hj => h2 j (by rw [ht]; exact hj))⟩

theorem InG.yesNil {w ws : World} {E k n t : Nat} {s : Nat → Bool} {X N : Nat → Nat} {I : Nat → Nat → ByteArray} {S : Nat → Nat → Nat} (h : InG w ws E k n t s X N I S) (hs : s k = true) (h0 : N (X k) = 0) :
    InG w ((ws.setCell ⟨E + 1, 0, none⟩ (.slice (some ⟨E + 1 + 1, 0, none⟩) (tot s (fun k => N (X k)) k) t)).setCell ⟨E, k, none⟩ (.int .i64 (tot s (fun k => N (X k)) k))) E (k + 1) n t s X N I S := by
  obtain ⟨f, h1, h2⟩ := h.row
  have htt : tot s (fun k => N (X k)) (k + 1) = tot s (fun k => N (X k)) k := by rw [tot_yes hs, h0]; rfl
  have h3 := (h.in2.setAll (.slice (some ⟨E + 1 + 1, 0, none⟩) (tot s (fun k => N (X k)) k) t)).setEnd
  rw [htt] at h3
  exact ⟨by rw [htt]; exact h3, f, (h1.setOther (by show E + 1 + 1 ≠ E + 1; omega) _).setOther (by show E + 1 + 1 ≠ E; omega) _, by rw [htt]; exact h2⟩

/-- append of a nil slice, as one step of a region that draws. -/
theorem step_append_nil {P : Program} {ops : Array Oper} {o : Oper} {a : Act} {w : World} {K : Act → World → Prop} {Q : Exit → Act → World → Prop} {E : Prop}
    (hg : o.guard = none) (s x : Operand) (t : TypeId) (hop : o.op = Op.call { callee := Callee.builtin Builtin.append, args := #[s, x], argTypes := #[t, t] })
    (e : TypeId) (i : TypeInfo) (h1 : P.underlying t = some (.slice e)) (h2 : P.info? e = some i)
    (b off n cap : Nat) (hs : a.eval s = .slice (some ⟨b, off, none⟩) n cap) (hx : a.eval x = .slice none 0 0) (hroom : n ≤ cap)
    (hK : K (a.put o.dst (.slice (some ⟨b, off, none⟩) n cap)) w) :
    if Region.wanted o (yielded ops a.tmps) = true then Oper.wp P o a w K Q else E := by
  have hw : Region.wanted o (yielded ops a.tmps) = true := by simp [Region.wanted, hg]
  rw [if_pos hw]
  have hrun := run_append_room_src (P := P) (w := w) t t o.type e i h1 h2 b off n cap (.slice none 0 0) 0 [] (Src.ofNil w h1 0) (by omega) (fun j hj => absurd hj (by simp)) (fun j hj => absurd hj (by simp))
  unfold Oper.wp
  simp [execOp, hop, resolve, invoke, builtin, hs, hx, hrun, Result.andThen]
  exact hK

theorem run_make_0 {P : Program} (t e : TypeId) (z0 z1 : Value) (bytes : Nat) (ht : P.underlying t = some (.slice e)) (hinfo : (P.info? e).map (fun i => (i.zero, i.size, i.bytes)) = some (some (.agg #[z0, z1]), 2, bytes))
    (kl kc : IntKind) (n : Nat) (hbytes : bytes * n ≤ 281474976710656) (h63 : n ≤ 9223372036854775807) (w : World) :
    (Instr.makeSlice t (.int kl 0) (.int kc (n : Int))).run P w = .ok (.slice (some ⟨w.heap.size, 0, none⟩) 0 n) (w.alloc (.cells (madeCells #[z0, z1] (n * 2)) e)) := by
  obtain ⟨i, hi, hzz⟩ := Option.map_eq_some_iff.1 hinfo
  simp only [Prod.mk.injEq] at hzz
  obtain ⟨hz, hs, hb⟩ := hzz
  have hb' : (i.bytes : Int) * (n : Int) ≤ 281474976710656 := by
    have h : ((i.bytes * n : Nat) : Int) ≤ 281474976710656 := by rw [hb]; omega
    rwa [Int.natCast_mul] at h
  have hr := run_make (P := P) w t e i _ ht hi hz kl kc 0 n (by omega) (by omega) hb' (by omega)
  simp only [Int.toNat_natCast, hs] at hr
  exact hr

end Go.Proofs.Qxb6604581a
