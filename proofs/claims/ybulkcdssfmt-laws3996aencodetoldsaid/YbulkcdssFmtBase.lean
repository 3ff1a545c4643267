import Derived.Test.YbulkcdssFmtRows
import Derived.WalkKit
import Derived.ProofKit
import Derived.Stop.JoinedAt
import Derived.Stop.JoinedTold
import Derived.Stop.LaidErr
import Derived.OpenShut
namespace Go.Proofs.YbulkcdssFmt
open Go.ChangeShapes Go.WideShapes Go.ChangeAt Go.RowKit
open Go.Extern.Stop Go.Stop Go.Extern
set_option linter.unusedVariables false

theorem own : ownKnob Ybaf.prog.godebug = none := by kernel_rfl
theorem laidOut : laidOutB Ybaf.prog = true := by kernel_rfl
theorem laidOutP : laidOutB Ybaf.pinned.checked.prog = true := by kernel_rfl
theorem stopKnobsAre : Ybaf.pinned.checked.prog.stopKnobs = [] := by kernel_rfl
theorem quietAt (os : Os) : Stop.quiet Ybaf.pinned.checked.prog os := by
  intro k hk
  rw [stopKnobsAre] at hk
  cases hk

/-- A start in which package-level variable 6 holds an error of that text. -/
def errWorld (P : Program) (os : Os) (s : ByteArray) : World :=
  let w0 := World.holding P os ⟨#[.cells #[.string s] 87], #[], []⟩
  { w0 with heap := w0.heap.modify 6 fun
      | .cells _ t frozen => .cells #[.iface 85 (.pointer (some ⟨(World.holding P default ⟨#[], #[], []⟩).heap.size, 0, none⟩))] t frozen
      | o => o }

def errText : ByteArray := ⟨#[101, 110, 99, 111, 100, 105, 110, 103, 47, 104, 101, 120, 58, 32, 111, 100, 100, 32, 108, 101, 110, 103, 116, 104, 32, 104, 101, 120, 32, 115, 116, 114, 105, 110, 103]⟩

theorem laid_met (os : Os) (args : Array Value) : laidMet Ybaf.prog Rows.lawS3996AShapeRow.laid ((errWorld Ybaf.prog os errText).forCall (fun _ _ => 0) ⟨#[], args, []⟩).memory :=
  laidMet_of_run (ps := [.cell 6 0, .cell (World.holding Ybaf.prog default ⟨#[], #[], []⟩).heap.size 0]) 8 (by kernel_rfl) (by kernel_rfl) (by kernel_rfl)

theorem lt_of_cell {w : World} {b o : Nat} {v : Value} (h : w.cell? ⟨b, o, none⟩ = some v) : b < w.heap.size := by
  apply Decidable.byContradiction
  intro hn
  simp [World.cell?, Array.getElem?_eq_none (Nat.le_of_not_lt hn)] at h

/-- WHAT THE WALK IS TOLD OF A SLICE OF BYTES THAT CAME IN. -/
structure IsBytes (w : World) (a0 : Option Addr) (n b off : Nat) (Z : Nat → Nat) : Prop where
  addr : Hid (0 < n → a0 = some ⟨b, off, none⟩)
  lt : 0 < n → b < w.heap.size
  max : n ≤ maxLen
  cell : ∀ i, i < n → w.cell? ⟨b, off + i, none⟩ = some (.int .u8 (Z i))
  le : ∀ i, i < n → Z i ≤ 255

theorem isBytes_open {H : Type} {enc : TypeId × Value → H} {w : World} {a0 : Option Addr} {len cap fuel : Nat} {x : DataW H × List MemPlace}
    (h : DataW.trod enc Ybaf.prog w 0 (fun _ => true) true fuel 22 [.slice a0 len cap] = some x) : ∃ b off Z, IsBytes w a0 len b off Z := by
  rcases open_ints Ybaf.underlying22 Ybaf.underlying5 (by kernel_rfl) h with ⟨hcs, _⟩ | ⟨a, l, c, zs, hcs, _, hl, hm, hz, _, hcell, hwz⟩
  · simp at hcs
    obtain ⟨rfl, rfl, rfl⟩ := hcs
    exact ⟨0, 0, fun _ => 0, fun h => by omega, fun h => by omega, Nat.zero_le _, fun i hi => by omega, fun i hi => by omega⟩
  · simp at hcs
    obtain ⟨rfl, rfl, rfl⟩ := hcs
    simp at hz
    obtain ⟨b, off, spot⟩ := a
    have hw : ∀ i, i < len → 0 ≤ zs.getD i 0 ∧ zs.getD i 0 ≤ 255 := fun i hi => by
      have hm : zs.getD i 0 ∈ zs := by
        rw [List.getD_eq_getElem?_getD, List.getElem?_eq_getElem (show i < zs.length by omega)]
        exact List.getElem_mem _
      exact bounds_u8 (hwz _ hm)
    refine ⟨b, off, fun i => (zs.getD i 0).toNat, fun h => ?_, fun h => ?_, by omega, fun i hi => ?_, fun i hi => ?_⟩
    · have hc := hcell 0 (by omega)
      have hspot : spot = none := by simpa [Addr.add] using World.cell?_spot hc
      rw [hspot]
    · have hc := hcell 0 (by omega)
      have hspot : spot = none := by simpa [Addr.add] using World.cell?_spot hc
      subst hspot
      exact lt_of_cell (o := off) (by simpa [Addr.add] using hc)
    · have hc := hcell i (by omega)
      have hspot : spot = none := by simpa [Addr.add] using World.cell?_spot (hcell 0 (by omega))
      subst hspot
      have e : (⟨b, off, none⟩ : Addr).add i = ⟨b, off + i, none⟩ := by simp [Addr.add]
      rw [← e, hc]
      have := hw i hi
      show some (Value.int .u8 (zs.getD i 0)) = some (Value.int .u8 ((zs.getD i 0).toNat : Int))
      rw [Int.toNat_of_nonneg this.1]
    · have := hw i hi
      show (zs.getD i 0).toNat ≤ 255
      omega
end Go.Proofs.YbulkcdssFmt
