import Derived.Test.YbulkcdrcNames
import Derived.Laws.CopyOwn
import Derived.Lib.Builder
import Derived.BigQuiet
import Derived.Deep.QuietTactic
import Derived.Deep.RegionHeld3
namespace Go.Proofs.Ybulkcdrc
open Go.RowKit
set_option linter.unusedVariables false

theorem info24 : (Yba.prog.info? 24).map (fun i => (i.zero, i.size, i.bytes)) = some (some (.pointer none), 1, 8) := by kernel_rfl

/-- The cells of a 'Type' of that name and display. -/
def tyCells (nm d : ByteArray) (c k : Int) : Array Value := #[.string nm, .string d, .int .u8 c, .bool false, .int .u8 k, .pointer none, .pointer none, .pointer none, .pointer none, .pointer none, .pointer none, .int .i64 0, .int .i64 0, .int .i64 0, .pointer none]

def hash : ByteArray := ⟨#[35]⟩

/-- The row of pointers as far as the k-th: the i-th leads to block B + i. -/
def ptrsTo (B k : Nat) (j : Nat) : Value := if j < k then .pointer (some ⟨B + j, 0, none⟩) else .pointer none

/-- What the first loop has laid behind k rounds. -/
structure Laid (B n k : Nat) (nm ds : Nat → ByteArray) (c kd : Int) (w wr : World) : Prop where
  row : wr.rowIs B 24 n (ptrsTo (B + 1) k)
  bel : Below B w wr
  size : wr.heap.size = B + 1 + k
  ty : ∀ j, j < k → wr.heap[B + 1 + j]? = some (.cells (tyCells (nm j) (ds j) c kd) 31 (0, 0))

theorem laid_start (n : Nat) (nm ds : Nat → ByteArray) (c kd : Int) (w : World) : Laid w.heap.size n 0 nm ds c kd w (w.alloc (.cells (madeCells #[.pointer none] n) 24)) :=
  ⟨(World.rowIs_made w (.pointer none) n 24).congr fun i _ => by simp [ptrsTo], (Below.refl _ _).alloc (Nat.le_refl _) _, by simp, fun j hj => by omega⟩

theorem laid_step {B n k : Nat} {nm ds : Nat → ByteArray} {c kd : Int} {w wr : World} (h : Laid B n k nm ds c kd w wr) :
    Laid B n (k + 1) nm ds c kd w ((wr.alloc (.cells (tyCells (nm k) (ds k) c kd) 31)).setCell ⟨B, k, none⟩ (.pointer (some ⟨B + 1 + k, 0, none⟩))) := by
  refine ⟨((h.row.alloc _).set k _).congr fun i hi => ?_, (h.bel.alloc (by rw [h.size]; omega) _).setCell (Nat.le_refl _) _, by simp [h.size]; omega, fun j hj => ?_⟩
  · unfold ptrsTo
    by_cases e : i = k
    · subst e; rw [if_pos rfl, if_pos (by omega)]
    · rw [if_neg e]
      by_cases e2 : i < k
      · rw [if_pos e2, if_pos (by omega)]
      · rw [if_neg e2, if_neg (by omega)]
  · rw [Below.heap_setCell _ _ _ _ (by simp; omega)]
    by_cases e : j = k
    · subst e
      rw [show B + 1 + j = wr.heap.size from h.size.symm]
      show (wr.heap.push _)[wr.heap.size]? = _
      simp
    · rw [Below.heap_alloc _ _ _ (by rw [h.size]; omega)]
      exact h.ty j (by omega)

theorem Laid.drew {B n k : Nat} {nm ds : Nat → ByteArray} {c kd : Int} {w wr : World} (h : Laid B n k nm ds c kd w wr) : Laid B n k nm ds c kd w wr.drew := ⟨h.row.drew, h.bel.drew, h.size, h.ty⟩

theorem size24 : (Yba.prog.info? 24).map (·.size) = some 1 := by kernel_rfl

/-- 'copy(kept, types)': the row of pointers once more, in the last block. -/
theorem copy_ptrs {B n : Nat} {nm ds : Nat → ByteArray} {c kd : Int} {w wr : World} (h : Laid B n n nm ds c kd w wr) :
    ∃ wk, (Builtin.copy_ #[23, 23] 3 #[.slice (some ⟨B + 1 + n, 0, none⟩) n n, .slice (some ⟨B, 0, none⟩) n n]).run Yba.prog (wr.alloc (.cells (madeCells #[.pointer none] n) 24)) = .ok (goInt n) wk ∧
      wk.rowIs (B + 1 + n) 24 n (ptrsTo (B + 1) n) ∧ Below (B + 1 + n) wr wk := by
  have hrow := h.row.alloc (.cells (madeCells #[.pointer none] n) 24)
  obtain ⟨cs, hcs⟩ : ∃ cs : List Value, cs = (List.range n).map (ptrsTo (B + 1) n) := ⟨_, rfl⟩
  have hl : cs.length = n := by simp [hcs]
  have hnew : (wr.alloc (.cells (madeCells #[.pointer none] n) 24)).heap[B + 1 + n]? = some (.cells (madeCells #[.pointer none] n) 24 (0, 0)) := by
    rw [← h.size]; show (wr.heap.push _)[wr.heap.size]? = _; simp
  have hrun := run_copy_row (P := Yba.prog) (wr.alloc (.cells (madeCells #[.pointer none] n) 24)) 23 23 3 24 (B + 1 + n) 0 n n ⟨B, 0, none⟩ n n _ 24 cs Yba.underlying23 size24 hnew (by simp [hl])
    (fun j v hj => by
      have hjn : j < n := by have := (List.getElem?_eq_some_iff.1 hj).1; omega
      have := hrow.cell hjn
      simp [hcs, hjn] at hj
      subst hj
      have e : (⟨B, 0, none⟩ : Addr).add j = ⟨B, j, none⟩ := by simp [Addr.add]; omega
      rw [e]; exact this)
    (by rw [hl, size_madeCells]; simp)
    (fun v hv => by
      simp [hcs] at hv
      obtain ⟨a, _, rfl⟩ := hv
      unfold ptrsTo
      split <;> rfl)
  rw [hl] at hrun
  refine ⟨_, hrun, ?_, below_setRow ((Below.refl _ _).alloc (by rw [h.size]; exact Nat.le_refl _) _) (Nat.le_refl _) _⟩
  refine ⟨_, setRow_heap _ _ _ _ 24 _ hnew, by simp [hl, size_madeCells], fun i hi => ?_⟩
  simp [List.getElem?_append, hcs, hi]

theorem info31 : (Yba.prog.info? 31).isSome = true := by kernel_rfl

/-- 'p != q' at one and the same pointer. -/
theorem neq_same (w : World) (a : Addr) : (binOp .neq 24 (.pointer (some a)) (.pointer (some a))).run Yba.prog w = .ok (.bool false) w := by
  obtain ⟨j, hj⟩ := Option.isSome_iff_exists.1 info31
  exact Lib.run_neq_ptr_same w a Yba.underlying24 hj

/-- All that the second loop reads. -/
structure Ready (B n b off G : Nat) (S : Nat → ByteArray) (w w' : World) : Prop where
  bel : Below B w w'
  arg : ∀ i, i < n → w'.cell? ⟨b, off + i, none⟩ = some (.string (S i))
  types : ∀ i, i < n → w'.cell? ⟨B, i, none⟩ = some (.pointer (some ⟨B + 1 + i, 0, none⟩))
  kept : ∀ i, i < n → w'.cell? ⟨B + 1 + n, i, none⟩ = some (.pointer (some ⟨B + 1 + i, 0, none⟩))
  name : ∀ i, i < n → w'.cell? ⟨B + 1 + i, 0, none⟩ = some (.string (S i ++ ⟨#[35]⟩))
  disp : ∀ i, i < n → w'.cell? ⟨B + 1 + i, 1, none⟩ = some (.string (S i))
  got : ∀ i, i < n → w'.cell? ⟨G, i, none⟩ = some (.string (S i))

theorem Laid.pointer {B n : Nat} {nm ds : Nat → ByteArray} {c kd : Int} {w wr : World} (h : Laid B n n nm ds c kd w wr) {i : Nat} (hi : i < n) :
    wr.cell? ⟨B, i, none⟩ = some (.pointer (some ⟨B + 1 + i, 0, none⟩)) := by
  have := h.row.cell hi
  rw [this]; simp [ptrsTo, hi]

theorem Laid.name {B n : Nat} {nm ds : Nat → ByteArray} {c kd : Int} {w wr : World} (h : Laid B n n nm ds c kd w wr) {i : Nat} (hi : i < n) :
    wr.cell? ⟨B + 1 + i, 0, none⟩ = some (.string (nm i)) := by
  simp [World.cell?, h.ty i hi, tyCells]

theorem Laid.disp {B n : Nat} {nm ds : Nat → ByteArray} {c kd : Int} {w wr : World} (h : Laid B n n nm ds c kd w wr) {i : Nat} (hi : i < n) :
    wr.cell? ⟨B + 1 + i, 1, none⟩ = some (.string (ds i)) := by
  simp [World.cell?, h.ty i hi, tyCells]

theorem ready_of {B n b off : Nat} {S : Nat → ByteArray} {c kd : Int} {w wr wk w' : World} (hb : 0 < n → b < B) (hcell : ∀ i, i < n → w.cell? ⟨b, off + i, none⟩ = some (.string (S i)))
    (h : Laid B n n (fun j => S j ++ ⟨#[35]⟩) S c kd w wr) (hk : wk.rowIs (B + 1 + n) 24 n (ptrsTo (B + 1) n)) (hbk : Below (B + 1 + n) wr wk)
    (hg : w'.rowIs wk.heap.size 9 n (fun j => .string (S j))) (hbg : Below wk.heap.size wk w') : Ready B n b off wk.heap.size S w w' := by
  have hlt := hk.lt
  have hb1 : Below (B + 1 + n) wr w' := hbk.trans (hbg.mono (by omega))
  refine ⟨h.bel.trans (hb1.mono (by omega)), fun i hi => ?_, fun i hi => ?_, fun i hi => ?_, fun i hi => ?_, fun i hi => ?_, fun i hi => hg.cell hi⟩
  · have hb0 := hb (by omega)
    rw [hb1.cell (by show b < _; omega), h.bel.cell (by exact hb0)]; exact hcell i hi
  · rw [hb1.cell (by show B < _; omega)]; exact h.pointer hi
  · rw [hbg.cell (by exact hlt), hk.cell hi]; simp [ptrsTo, hi]
  · rw [hb1.cell (by show B + 1 + i < _; omega)]; exact h.name hi
  · rw [hb1.cell (by show B + 1 + i < _; omega)]; exact h.disp hi

set_option maxHeartbeats 2000000 in
theorem exact_small (a0 : Option Addr) (b off n cap : Nat) (S : Nat → ByteArray) (w : World) (hn : n ≤ 1024) (hb : 0 < n → b < w.heap.size)
    (hcell : ∀ i, i < n → w.cell? ⟨b, off + i, none⟩ = some (.string (S i))) (hS : ∀ i, i < n → (S i).size ≤ 140737488351232) (ha : Hid (0 < n → a0 = some ⟨b, off, none⟩)) :
    Calls Yba.prog 3 #[.slice a0 n cap] w fun e w' => e = .returned (.bool true) ∧ Below w.heap.size w w' := by
  have hmk := run_make_row' (P := Yba.prog) 23 24 (.pointer none) 8 Yba.underlying23 info24 rfl .i64 .i64 n (by omega) (by omega)
  have hd : decide ((1024 : Int) < (n : Int)) = false := by simp; omega
  have hnil := fun (w : World) (a : Addr) => Lib.run_eql_slice_nil (P := Yba.prog) w 22 9 (some a) n n 0 0 Yba.underlying22
  go_enter Yba.func3, Yba.ntmps3
  go_wp2
  go_loopw [4] (fun i wr => ∃ k : Nat, k ≤ n ∧ i = .int .i64 k ∧ Laid w.heap.size n k (fun j => S j ++ ⟨#[35]⟩) S 83 1 w wr)
    (fun i _ => n - (intOf i).toNat)
  case atStart => exact ⟨0, Nat.zero_le _, rfl, laid_start n _ _ _ _ w⟩
  case round =>
    obtain ⟨k, hk, rfl, hlaid⟩ := hrel
    have hsz := hlaid.size
    by_cases hlt : k < n
    · have hc1 : wr.cell? ⟨b, off + k, none⟩ = some (.string (S k)) := (hlaid.bel.cell (by exact hb (by omega))).trans (hcell k hlt)
      have hc3 := fun o => (hlaid.row.alloc o).cell hlt
      have hf3 := fun o => (hlaid.row.alloc o).frozen k
      have hs := hS k hlt
      obtain rfl := ha.out (by omega)
      clear hmk hcell hS hnil ha
      go_wp2
      go_region
      go_wp2
      go_roundw
      case rel => exact ⟨k + 1, by omega, by go_num, (laid_step hlaid).drew⟩
      case measure => simp [intOf]; omega
    · have e : k = n := by omega
      subst e
      obtain ⟨wk, hcopy, hkept, hbk⟩ := copy_ptrs hlaid
      go_wp2_with fail
      refine (names_any w.heap.size k (fun j => w.heap.size + 1 + j) S wk hn (by have := hkept.lt; omega) (fun i hi => by have := hkept.lt; omega)
        (fun i hi => by rw [hbk.cell (by show w.heap.size < _; omega)]; exact hlaid.pointer hi) (fun i hi => by rw [hbk.cell (by show w.heap.size + 1 + i < _; omega)]; exact hlaid.disp hi)).mono ?_
      rintro e w' ⟨rfl, hg, hbg, hszg⟩
      have R := ready_of hb hcell hlaid hkept hbk hg hbg
      obtain ⟨G, hG⟩ : ∃ G, G = wk.heap.size := ⟨_, rfl⟩
      rw [← hG] at R ⊢
      clear hG hg hbg hszg hcopy hkept hbk hlaid hcell hsz hmk
      go_wp2
      go_loopw [7] (fun i wr => ∃ j m : Nat, j ≤ k ∧ i = .int .i64 j ∧ wr = w'.drewN m) (fun i _ => k - (intOf i).toNat)
      case atStart => exact ⟨0, 0, Nat.zero_le _, rfl, rfl⟩
      case round =>
        obtain ⟨j, m, hj, rfl, rfl⟩ := hrel
        by_cases hjk : j < k
        · have a1 := R.arg j hjk
          have a2 := R.types j hjk
          have a3 := R.kept j hjk
          have a4 := R.name j hjk
          have a5 := R.disp j hjk
          have a6 := R.got j hjk
          have a7 := hS j hjk
          have hpe := neq_same
          obtain rfl := ha.out (by omega)
          clear R hS ha
          go_wp2
          go_quiet (fail)
          go_wp2
          go_quiet (fail)
          go_wp2
          go_roundw
          case rel => exact ⟨j + 1, _, by omega, by go_num, rfl⟩
          case measure => simp [intOf]; omega
        · go_wp2
          go_ret
          exact ⟨rfl, R.bel.trans ⟨rfl, rfl, rfl, Nat.le_refl _, fun _ _ => rfl⟩⟩

theorem exact_great (a0 : Option Addr) (n cap : Nat) (w : World) (hn : 1024 < n) (hm : n ≤ 9223372036854775807) :
    Calls Yba.prog 3 #[.slice a0 n cap] w fun e w' => e = .returned (.bool true) ∧ Below w.heap.size w w' := by
  have hd : decide ((1024 : Int) < (n : Int)) = true := by simp; omega
  go_enter Yba.func3, Yba.ntmps3
  go_wp2
  go_ret
  exact ⟨rfl, Below.refl _ _⟩
end Go.Proofs.Ybulkcdrc
