import Derived.Test.Qxb6603581aCopy
import Derived.Conc.SmallLaws
import Derived.Laws.EntriesVeiled
import Derived.RegionTactic
import Derived.BigRegion
import Derived.Deep.QuietTactic
import Derived.BigQuiet
namespace Go.Proofs.Qxb6603581a
open Go.RowKit
set_option linter.unusedVariables false
theorem new13 (w : World) : Calls Try.prog 13 #[] w fun e w' => w' = w.alloc (.cells #[.int .u32 2166136261] 48) ∧ e = .returned (.iface 49 (.pointer (some ⟨w.heap.size, 0, none⟩))) := by
  go_enter Try.func13, Try.ntmps13
  go_wp2_with fail
  go_ret
  exact ⟨rfl, rfl⟩

theorem sum56 (p : Addr) (x : Int) (w : World) (h : w.cell? p = some (.int .u32 x)) : Calls Try.prog 56 #[.pointer (some p)] w fun e w' => w' = w ∧ e = .returned (.int .u32 x) := by
  go_enter Try.func56, Try.ntmps56
  go_wp2_with fail
  go_ret
  exact ⟨rfl, rfl⟩

theorem write57 (p : Addr) (a : Option Addr) (n c : Nat) (V : Nat → Int) (w : World) (hn : n ≤ 1048576) (h : BytesAt w a n V) (hp : w.cell? p = some (.int .u32 2166136261)) (hf : w.frozen? p = false) :
    Calls Try.prog 57 #[.pointer (some p), .slice a n c] w fun e w' => w' = w.setCell p (.int .u32 (hs V n)) ∧ ∃ v, e = .returned v := by
  go_enter Try.func57, Try.ntmps57
  go_wp2_with fail
  go_loop [6, 14] (fun z i => ∃ (k : Nat), k ≤ n ∧ i = .int .i64 k ∧ z = .int .u32 (hs V k)) (fun _ i => n - (intOf i).toNat)
  case atStart => exact ⟨0, Nat.zero_le _, rfl, rfl⟩
  case round =>
    obtain ⟨k, hk, rfl, rfl⟩ := hrel
    by_cases hlt : k < n
    · obtain ⟨b, off, rfl, hc⟩ := h k hlt
      go_wp2_with fail
      go_round
      case rel => exact ⟨k + 1, by omega, by go_num, rfl⟩
      case measure => simp [intOf]; omega
    · obtain rfl : k = n := by omega
      go_wp2_with fail
      go_ret2
      exact ⟨rfl, _, rfl⟩
theorem Try.info37 : (Try.prog.info? 37).map (fun i => (i.zero, i.size, i.bytes)) = some (some (.chan none), 1, 8) := by kernel_rfl

set_option maxRecDepth 100000 in
theorem new10 (w : World) : Calls Try.prog 10 #[] w fun e w' => Below w.heap.size w w' ∧ ∃ sb q, w'.cell? ⟨sb, 0, none⟩ = some (.slice q 4096 4096) ∧ e = .returned (.pointer (some ⟨sb, 0, none⟩)) := by
  have hmk := run_make_row' (P := Try.prog) 34 37 (.chan none) 8 Try.underlying34 Try.info37 rfl .i64 .i64 4096 (by omega) (by omega)
  have hmk2 : ∀ w : World, _ := fun w => hmk w
  simp at hmk2
  go_enter Try.func10, Try.ntmps10
  go_wp2_with fail
  clear hmk hmk2
  go_loopw [11] (fun i wr => ∃ (k : Nat), k ≤ 4096 ∧ i = .int .i64 k ∧ Below w.heap.size w wr ∧ wr.cell? ⟨w.heap.size + 1, 0, none⟩ = some (.slice (some ⟨w.heap.size, 0, none⟩) 4096 4096) ∧ ∃ f, wr.rowIs w.heap.size 37 4096 f) (fun i _ => 4096 - (intOf i).toNat)
  case atStart => exact ⟨0, Nat.zero_le _, rfl, ((Below.refl _ _).alloc (Nat.le_refl _) _).alloc (by simp) _, by
      have e1 : (w.alloc (.cells (madeCells #[.chan none] 4096) 37)).heap.size = w.heap.size + 1 := by simp
      rw [← e1]
      simp only [World.cell?, Deep.blk_alloc_new]
      rfl, _, (World.rowIs_made w _ 4096 37).alloc _⟩
  case round =>
    obtain ⟨k, hk, rfl, hbel, hs, f, hrow⟩ := hrel
    by_cases hlt : k < 4096
    · have hmc : ∀ w : World, (Instr.makeChan 37 (.int .i64 1)).run Try.prog w = .ok (.chan (some w.heap.size)) (w.alloc (.chan 1 #[] false 0 0 false)) := fun w => by kernel_rfl
      have hd := fun o => (hrow.alloc o).cell hlt
      have hf := fun o => (hrow.alloc o).frozen k
      have hd0 := hrow.cell hlt
      have hf0 := hrow.frozen k
      go_wp2_with fail
      have hs1 : ∀ o, (wr.alloc o).cell? ⟨w.heap.size + 1, 0, none⟩ = some (.slice (some ⟨w.heap.size, 0, none⟩) 4096 4096) := fun o => (((Below.refl wr.heap.size wr).alloc (Nat.le_refl _) o).cell (World.block_lt_of_cell? _ _ hs)).trans hs
      go_region
      all_goals (
        go_wp2_with fail
        go_roundw
        case rel => exact ⟨k + 1, by omega, by go_num, ((hbel.alloc hbel.size _).setCell (Nat.le_refl _) _).drew, by
            show ((wr.alloc _).setCell _ _).cell? _ = _
            rw [World.cell?_setCell_other]
            · exact hs1 _
            · simp, _, ((hrow.alloc _).set k _).drew⟩
        case measure => simp [intOf]; omega)
    · obtain rfl : k = 4096 := by omega
      go_wp2_with fail
      go_ret
      exact ⟨hbel, _, _, hs, rfl⟩
end Go.Proofs.Qxb6603581a
