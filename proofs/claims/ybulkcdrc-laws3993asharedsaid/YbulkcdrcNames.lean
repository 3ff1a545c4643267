import Derived.Test.YbulkcdrcProg
import Derived.WalkKit
import Derived.WalkSpells
import Derived.Deep.OwnRows
namespace Go.Proofs.Ybulkcdrc
open Go.RowKit
set_option linter.unusedVariables false

theorem info9 : (Yba.prog.info? 9).map (fun i => (i.zero, i.size, i.bytes)) = some (some (.string ByteArray.empty), 1, 16) := by kernel_rfl

/-- The row of names as far as the k-th. -/
def namesTo (D : Nat → ByteArray) (k : Nat) (j : Nat) : Value := if j < k then .string (D j) else .string ByteArray.empty

theorem names_start (D : Nat → ByteArray) (w : World) (n : Nat) : (w.alloc (.cells (madeCells #[.string ByteArray.empty] n) 9)).rowIs w.heap.size 9 n (namesTo D 0) :=
  (World.rowIs_made w (.string ByteArray.empty) n 9).congr fun i _ => by simp [namesTo]

theorem names_step {D : Nat → ByteArray} {wr : World} {B n k : Nat} (h : wr.rowIs B 9 n (namesTo D k)) : (wr.setCell ⟨B, k, none⟩ (.string (D k))).rowIs B 9 n (namesTo D (k + 1)) :=
  (h.set k (.string (D k))).congr fun i _ => by
    unfold namesTo
    by_cases e : i = k
    · subst e; rw [if_pos rfl, if_pos (by omega)]
    · rw [if_neg e]
      by_cases e2 : i < k
      · rw [if_pos e2, if_pos (by omega)]
      · rw [if_neg e2, if_neg (by omega)]

theorem names_end {D : Nat → ByteArray} {wr : World} {B n : Nat} (h : wr.rowIs B 9 n (namesTo D n)) : wr.rowIs B 9 n (fun j => .string (D j)) :=
  h.congr fun i hi => by simp [namesTo, hi]

set_option maxHeartbeats 400000 in
theorem names_any (b n : Nat) (P : Nat → Nat) (D : Nat → ByteArray) (w : World) (hn : n ≤ 1024) (hb : b < w.heap.size) (hP : ∀ i, i < n → P i < w.heap.size)
    (hrow : ∀ i, i < n → w.cell? ⟨b, i, none⟩ = some (.pointer (some ⟨P i, 0, none⟩))) (hd : ∀ i, i < n → w.cell? ⟨P i, 1, none⟩ = some (.string (D i))) :
    Calls Yba.prog 5 #[.slice (some ⟨b, 0, none⟩) n n] w fun e w' => e = .returned (.slice (some ⟨w.heap.size, 0, none⟩) n n) ∧
      w'.rowIs w.heap.size 9 n (fun j => .string (D j)) ∧ Below w.heap.size w w' ∧ w'.heap.size = w.heap.size + 1 := by
  have hmk := run_make_row' (P := Yba.prog) 22 9 (.string ByteArray.empty) 16 Yba.underlying22 info9 rfl .i64 .i64 n (by omega) (by omega)
  go_enter Yba.func5, Yba.ntmps5
  go_wp2
  clear hmk
  go_loopw [11] (fun i wr => ∃ k : Nat, k ≤ n ∧ i = .int .i64 k ∧ wr.rowIs w.heap.size 9 n (namesTo D k) ∧ Below w.heap.size w wr ∧ wr.heap.size = w.heap.size + 1)
    (fun i _ => n - (intOf i).toNat)
  case atStart => exact ⟨0, Nat.zero_le _, rfl, names_start D w n, (Below.refl _ _).alloc (Nat.le_refl _) _, by simp⟩
  case round =>
    obtain ⟨k, hk, rfl, hown, hbel, hsz⟩ := hrel
    have HS : Hid (wr.heap.size = w.heap.size + 1) := hsz
    clear hsz
    by_cases hlt : k < n
    · have hc1 : wr.cell? ⟨b, k, none⟩ = some (.pointer (some ⟨P k, 0, none⟩)) := (hbel.cell (by exact hb)).trans (hrow k hlt)
      have hc2 : wr.cell? ⟨P k, 1, none⟩ = some (.string (D k)) := (hbel.cell (by exact hP k hlt)).trans (hd k hlt)
      have hc3 := hown.cell hlt
      have hf3 := hown.frozen k
      go_wp2
      go_roundw
      case rel => exact ⟨k + 1, by omega, by go_num, names_step hown, hbel.setCell (Nat.le_refl _) _, by simpa using HS.out⟩
      case measure => simp [intOf]; omega
    · have e : k = n := by omega
      subst e
      go_wp2
      go_ret
      exact ⟨rfl, names_end hown, hbel, HS.out⟩
end Go.Proofs.Ybulkcdrc
