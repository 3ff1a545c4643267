import Derived.Test.YbulkcdssFmtProg
import Derived.WalkKit
import Derived.WalkSpells
import Derived.Deep.OwnRows
import Derived.Lib.HexFns
namespace Go.Proofs.YbulkcdssFmt
open Go.RowKit
set_option linter.unusedVariables false

theorem info5 : (Ybaf.prog.info? 5).map (fun i => (i.zero, i.size, i.bytes)) = some (some (.int .u8 0), 1, 1) := by kernel_rfl

/-- The j-th sign of the octets Z in hex. -/
def hexNum (Z : Nat → Nat) (j : Nat) : Int := ((Lib.Hx.digit (if j % 2 = 0 then Z (j / 2) / 16 else Z (j / 2) % 16)).toNat : Int)
/-- What the first k octets have laid. -/
def hexTo (Z : Nat → Nat) (k : Nat) (j : Nat) : Value := if j < 2 * k then .int .u8 (hexNum Z j) else .int .u8 0
/-- The text. -/
def hexText (Z : Nat → Nat) (n : Nat) : ByteArray := strOfNums ((List.range (2 * n)).map (hexNum Z))

theorem tab_at (d : Nat) (h : d < (⟨#[48, 49, 50, 51, 52, 53, 54, 55, 56, 57, 97, 98, 99, 100, 101, 102]⟩ : ByteArray).size) :
    (((⟨#[48, 49, 50, 51, 52, 53, 54, 55, 56, 57, 97, 98, 99, 100, 101, 102]⟩ : ByteArray)[d]'h).toNat : Int) = ((Lib.Hx.digit d).toNat : Int) := by
  unfold Lib.Hx.digit
  rw [Lib.Pa.at_eq Lib.Hx.tab d h]
  rfl

theorem hexNum_hi (Z : Nat → Nat) (k : Nat) : hexNum Z (2 * k) = ((Lib.Hx.digit (Z k / 16)).toNat : Int) := by
  unfold hexNum; rw [if_pos (by omega), show 2 * k / 2 = k by omega]
theorem hexNum_lo (Z : Nat → Nat) (k : Nat) : hexNum Z (2 * k + 1) = ((Lib.Hx.digit (Z k % 16)).toNat : Int) := by
  unfold hexNum; rw [if_neg (by omega), show (2 * k + 1) / 2 = k by omega]

theorem hexTo_step (Z : Nat → Nat) (k : Nat) {x y : Int} (hx : x = ((Lib.Hx.digit (Z k / 16)).toNat : Int)) (hy : y = ((Lib.Hx.digit (Z k % 16)).toNat : Int)) (j : Nat) :
    (if j = 2 * k + 1 then Value.int .u8 y else if j = 2 * k then Value.int .u8 x else hexTo Z k j) = hexTo Z (k + 1) j := by
  unfold hexTo
  by_cases h1 : j = 2 * k + 1
  · rw [if_pos h1, if_pos (by omega), h1, hexNum_lo, hy]
  · rw [if_neg h1]
    by_cases h2 : j = 2 * k
    · rw [if_pos h2, if_pos (by omega), h2, hexNum_hi, hx]
    · rw [if_neg h2]
      by_cases h3 : j < 2 * k
      · rw [if_pos h3, if_pos (by omega)]
      · rw [if_neg h3, if_neg (by omega)]

theorem hex_step {Z : Nat → Nat} {k n B : Nat} {wr : World} (h : wr.rowIs B 5 n (hexTo Z k)) {x y : Int} (hx : x = ((Lib.Hx.digit (Z k / 16)).toNat : Int)) (hy : y = ((Lib.Hx.digit (Z k % 16)).toNat : Int)) :
    ((wr.setCell ⟨B, 2 * k, none⟩ (.int .u8 x)).setCell ⟨B, 2 * k + 1, none⟩ (.int .u8 y)).rowIs B 5 n (hexTo Z (k + 1)) :=
  ((h.set _ _).set _ _).congr fun j _ => hexTo_step Z k hx hy j

/-- One own row alone is written; no block is laid. -/
structure Only (B : Nat) (w w' : World) : Prop where
  os : w'.os = w.os
  tape : w'.tape = w.tape
  output : w'.output = w.output
  size : w'.heap.size = w.heap.size
  block : ∀ k, k ≠ B → w'.heap[k]? = w.heap[k]?

theorem Only.refl (B : Nat) (w : World) : Only B w w := ⟨rfl, rfl, rfl, rfl, fun _ _ => rfl⟩
theorem Only.set {B : Nat} {w w' : World} (h : Only B w w') (o : Nat) (v : Value) : Only B w (w'.setCell ⟨B, o, none⟩ v) :=
  ⟨h.os, h.tape, h.output, by simpa using h.size, fun k hk => by rw [Below.heap_setCell _ _ _ _ hk]; exact h.block k hk⟩
theorem Only.drew {B : Nat} {w w' : World} (h : Only B w w') : Only B w w'.drew := ⟨h.os, h.tape, h.output, h.size, h.block⟩
theorem Only.cell {B : Nat} {w w' : World} (h : Only B w w') {b o : Nat} (hb : b ≠ B) : w'.cell? ⟨b, o, none⟩ = w.cell? ⟨b, o, none⟩ := World.cell?_of_block (w := w) (h.block b hb)
theorem Only.below {B : Nat} {w w' : World} (h : Only B w w') : Below B w w' := ⟨h.os, h.tape, h.output, by rw [h.size]; exact Nat.le_refl _, fun k hk => h.block k (by omega)⟩

set_option maxHeartbeats 400000 in
theorem encode_any (B n cap : Nat) (a0 : Option Addr) (b off : Nat) (Z : Nat → Nat) (w : World) (hn : n ≤ 4096) (ha : Hid (0 < n → a0 = some ⟨b, off, none⟩)) (hZ : ∀ i, i < n → Z i ≤ 255)
    (hcell : ∀ i, i < n → w.cell? ⟨b, off + i, none⟩ = some (.int .u8 (Z i))) (hne : 0 < n → b ≠ B) (hrow : w.rowIs B 5 (2 * n) (fun _ => .int .u8 0)) :
    Calls Ybaf.prog 22 #[.slice (some ⟨B, 0, none⟩) (2 * n) (2 * n), .slice a0 n cap] w fun e w' => e = .returned (.int .i64 ((n : Int) * 2)) ∧ w'.rowIs B 5 (2 * n) (hexTo Z n) ∧ Only B w w' := by
  go_enter Ybaf.func22, Ybaf.ntmps22
  go_wp2
  go_loopw [5, 10] (fun t i wr => ∃ k : Nat, k ≤ n ∧ i = .int .i64 k ∧ t = .int .i64 ((2 * k : Nat) : Int) ∧ wr.rowIs B 5 (2 * n) (hexTo Z k) ∧ Only B w wr) (fun _ i _ => n - (intOf i).toNat)
  case atStart => exact ⟨0, Nat.zero_le _, rfl, rfl, hrow.congr fun j _ => by simp [hexTo], Only.refl _ _⟩
  case round =>
    obtain ⟨k, hk, rfl, rfl, hrw, hon⟩ := hrel
    by_cases hlt : k < n
    · have hz := hZ k hlt
      have hc1 : wr.cell? ⟨b, off + k, none⟩ = some (.int .u8 (Z k)) := by rw [hon.cell (hne (by omega))]; exact hcell k hlt
      have hc2 := hrw.cell (i := 2 * k) (by omega)
      have hf2 := hrw.frozen (2 * k)
      have hc3 := fun v => (hrw.set (2 * k) v).cell (i := 2 * k + 1) (by omega)
      have hf3 := fun v => (hrw.set (2 * k) v).frozen (2 * k + 1)
      obtain rfl := ha.out (by omega)
      clear hZ hcell hrow ha
      go_wp2
      go_roundw
      case rel => exact ⟨k + 1, by omega, by go_num, by go_num, hex_step hrw (tab_at _ _) (tab_at _ _), (hon.set _ _).set _ _⟩
      case measure => simp [intOf]; omega
    · have e : k = n := by omega
      subst e
      go_wp2
      go_ret
      exact ⟨rfl, hrw, hon⟩

theorem enclen_any (n : Int) (w : World) (h0 : 0 ≤ n) (h1 : n ≤ 4096) : Calls Ybaf.prog 21 #[.int .i64 n] w fun e w' => e = .returned (.int .i64 (n * 2)) ∧ w' = w := by
  go_enter Ybaf.func21, Ybaf.ntmps21
  go_wp2
  go_ret
  exact ⟨rfl, rfl⟩

theorem text_of {B n : Nat} {Z : Nat → Nat} {w : World} (h : w.rowIs B 5 (2 * n) (hexTo Z n)) (c : Nat) :
    (convert 22 9 (.slice (some ⟨B, 0, none⟩) (2 * n) c)).run Ybaf.prog w = .ok (.string (hexText Z n)) w :=
  run_convert_bytes_arg (P := Ybaf.prog) w 22 5 Ybaf.underlying22 Ybaf.underlying5 B 0 (2 * n) c ((List.range (2 * n)).map (hexNum Z)) (by simp) (fun i hi => by
    rw [Nat.zero_add, h.cell hi]; simp [hexTo, hi]) 9 Ybaf.underlying9

set_option maxHeartbeats 400000 in
theorem encodeTo_any (n cap : Nat) (a0 : Option Addr) (b off : Nat) (Z : Nat → Nat) (w : World) (hn : n ≤ 4096) (ha : Hid (0 < n → a0 = some ⟨b, off, none⟩)) (hZ : ∀ i, i < n → Z i ≤ 255)
    (hb : 0 < n → b < w.heap.size) (hcell : ∀ i, i < n → w.cell? ⟨b, off + i, none⟩ = some (.int .u8 (Z i))) :
    Calls Ybaf.prog 14 #[.slice a0 n cap] w fun e w' => e = .returned (.string (hexText Z n)) ∧ Below w.heap.size w w' := by
  have hmk : ∀ w : World, (Instr.makeSlice 22 (.int .i64 ((n : Int) * 2)) (.int .i64 ((n : Int) * 2))).run Ybaf.prog w = .ok (.slice (some ⟨w.heap.size, 0, none⟩) (2 * n) (2 * n)) (w.alloc (.cells (madeCells #[.int .u8 0] (2 * n)) 5)) := fun w => by
    have h := run_make_row' (P := Ybaf.prog) 22 5 (.int .u8 0) 1 Ybaf.underlying22 info5 rfl .i64 .i64 (2 * n) (by omega) (by omega) w
    rwa [show ((2 * n : Nat) : Int) = (n : Int) * 2 by omega] at h
  go_enter Ybaf.func14, Ybaf.ntmps14
  go_wp2_with fail
  refine (enclen_any n _ (by omega) (by omega)).mono ?_
  rintro e w1 ⟨rfl, rfl⟩
  go_wp2_with fail
  refine (encode_any w1.heap.size n cap a0 b off Z _ hn ha hZ (fun i hi => ?_) (fun h => by have := hb h; omega) (World.rowIs_made w1 _ _ _)).mono ?_
  · rw [((Below.refl _ w1).alloc (Nat.le_refl _) _).cell (p := ⟨b, off + i, none⟩) (hb (by omega))]; exact hcell i hi
  rintro e w2 ⟨rfl, hrow, hon⟩
  have g := text_of hrow (2 * n)
  clear hmk
  go_wp2
  go_ret
  exact ⟨rfl, ((Below.refl _ w1).alloc (Nat.le_refl _) _).trans hon.below⟩
end Go.Proofs.YbulkcdssFmt
