import Derived.Test.YbulkcdssFmtHexTo
import Derived.Deep.RegionHeld3
import Derived.Deep.RegionLaw
namespace Go.Proofs.YbulkcdssFmt
open Go.RowKit
set_option linter.unusedVariables false

set_option maxHeartbeats 1000000 in
theorem ownHex_any (n cap : Nat) (a0 : Option Addr) (b off : Nat) (Z : Nat → Nat) (w : World) (hn : n ≤ 4096) (ha : Hid (0 < n → a0 = some ⟨b, off, none⟩)) (hZ : ∀ i, i < n → Z i ≤ 255)
    (hb : 0 < n → b < w.heap.size) (hcell : ∀ i, i < n → w.cell? ⟨b, off + i, none⟩ = some (.int .u8 (Z i))) :
    Calls Ybaf.prog 8 #[.slice a0 n cap] w fun e w' => e = .returned (.string (hexText Z n)) ∧ Below w.heap.size w w' := by
  have hmk : ∀ w : World, (Instr.makeSlice 22 (.int .i64 0) (.int .i64 (2 * (n : Int)))).run Ybaf.prog w = .ok (.slice (some ⟨w.heap.size, 0, none⟩) 0 (2 * n)) (w.alloc (.cells (madeCells #[.int .u8 0] (2 * n)) 5)) := fun w => by
    obtain ⟨i, hi, hz0, hz1, hz2⟩ := info_parts info5
    have h := run_make (P := Ybaf.prog) w 22 5 i (.int .u8 0) Ybaf.underlying22 hi hz0 .i64 .i64 0 (2 * (n : Int)) (by omega) (by omega) (by rw [hz2]; omega) (by omega)
    rw [hz1] at h
    have e : (2 * (n : Int)).toNat = 2 * n := by omega
    simpa [e, Value.cells] using h
  go_enter Ybaf.func8, Ybaf.ntmps8
  go_wp2
  go_loopw [3, 12] (fun o i wr => ∃ k : Nat, k ≤ n ∧ i = .int .i64 k ∧ o = .slice (some ⟨w.heap.size, 0, none⟩) (2 * k) (2 * n) ∧ wr.rowIs w.heap.size 5 (2 * n) (hexTo Z k) ∧ Below w.heap.size w wr) (fun _ i _ => n - (intOf i).toNat)
  case atStart => exact ⟨0, Nat.zero_le _, rfl, rfl, (World.rowIs_made w _ _ _).congr fun j _ => by simp [hexTo], (Below.refl _ w).alloc (Nat.le_refl _) _⟩
  case round =>
    obtain ⟨k, hk, rfl, rfl, hrw, hbel⟩ := hrel
    by_cases hlt : k < n
    · have hz := hZ k hlt
      have hc1 : wr.cell? ⟨b, off + k, none⟩ = some (.int .u8 (Z k)) := by rw [hbel.cell (hb (by omega))]; exact hcell k hlt
      have hc2 := fun o => (hrw.alloc o).cell (i := 2 * k) (by omega)
      have hf2 := fun o => (hrw.alloc o).frozen (2 * k)
      have hc3 := fun o v => ((hrw.alloc o).set (2 * k) v).cell (i := 2 * k + 1) (by omega)
      have hf3 := fun o v => ((hrw.alloc o).set (2 * k) v).frozen (2 * k + 1)
      have i1 : (0 : Int) ≤ (Z k : Int) / 16 ∧ (Z k : Int) / 16 < 16 := by omega
      have i2 : (0 : Int) ≤ (Z k : Int) % 16 ∧ (Z k : Int) % 16 < 16 := by omega
      obtain rfl := ha.out (by omega)
      clear hZ hcell hmk ha
      go_wp2
      go_region
      go_wp2
      go_roundw
      case rel => exact ⟨k + 1, by omega, by go_num, rfl, (hex_step (hrw.alloc _) (tab_at _ _) (tab_at _ _)).drew, (((hbel.alloc hbel.size _).setCell (Nat.le_refl _) _).setCell (Nat.le_refl _) _).drew⟩
      case measure => simp [intOf]; omega
    · have e : k = n := by omega
      subst e
      have g := text_of hrw (2 * k)
      go_wp2
      go_ret
      exact ⟨rfl, hbel⟩
end Go.Proofs.YbulkcdssFmt
