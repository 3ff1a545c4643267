import Derived.Test.YbulkcdssFmtOwnHex
import Derived.Laws.EntriesVeiled
namespace Go.Proofs.YbulkcdssFmt
open Go.RowKit
set_option linter.unusedVariables false

set_option maxHeartbeats 1000000 in
theorem hexOctets_any (name : ByteArray) (n : Int) (w : World) :
    Calls Ybaf.prog 7 #[.string name, .int .i64 n] w fun e w' =>
      e = .returned (.agg #[.string name, .int .i64 (wrap64 (8 * n)), .func (.func 13) #[] #[], .func (.func 15) #[] #[.pointer (some ⟨w.heap.size, 0, none⟩)]]) ∧
      w'.cell? ⟨w.heap.size, 0, none⟩ = some (.int .i64 n) ∧ Below w.heap.size w w' ∧ w.heap.size < w'.heap.size := by
  go_enter Ybaf.func7, Ybaf.ntmps7
  go_wp2
  refine bodyPost_ret (v := .agg #[.string name, .int .i64 (wrap64 (8 * n)), .func (.func 13) #[] #[], .func (.func 15) #[] #[.pointer (some ⟨w.heap.size, 0, none⟩)]]) (by simp [results, Ybaf.results7, go_sem]) rfl
    ⟨rfl, by simp, ((Below.refl _ _).alloc (Nat.le_refl _) _).alloc (by simp) _, by simp; omega⟩

/-- 'f == nil' at a function that is there. -/
theorem run_eql_func_nil {P : Program} (w : World) {t : TypeId} {ps rs : Array TypeId} {v : Bool} (h : P.underlying t = some (.func ps rs v)) (f : Fn) (x y : Array Value) :
    (binOp .eql t (.func f x y) .nilFunc).run P w = .ok (.bool false) w := by
  have hd : ∀ d : Nat, (Op.equalIn (d + 1) t (.func f x y) .nilFunc).run P w = .ok false w := fun d => by simp [Op.equalIn, run_underlying h]
  simp only [binOp]
  simp [Op.equal, Op.maxDepth, hd 9999]

set_option maxHeartbeats 400000 in
theorem decode_any (n cap : Nat) (a0 : Option Addr) (b off : Nat) (Z : Nat → Nat) (w : World) (hn : n ≤ 4096) (ha : Hid (0 < n → a0 = some ⟨b, off, none⟩)) (hZ : ∀ i, i < n → Z i ≤ 255)
    (hb : 0 < n → b < w.heap.size) (hcell : ∀ i, i < n → w.cell? ⟨b, off + i, none⟩ = some (.int .u8 (Z i))) :
    Calls Ybaf.prog 13 #[.slice a0 n cap] w fun e w' => e = .returned (.tuple #[.string (hexText Z n), .bool true]) ∧ Below w.heap.size w w' := by
  go_enter Ybaf.func13, Ybaf.ntmps13
  go_wp2_with fail
  refine (encodeTo_any n cap a0 b off Z _ hn ha hZ hb hcell).mono ?_
  rintro e w1 ⟨rfl, hbel⟩
  go_wp2
  go_ret2
  exact ⟨rfl, hbel⟩

set_option maxHeartbeats 1000000 in
theorem shape_small (name : ByteArray) (N : Int) (n cap : Nat) (a0 : Option Addr) (b off : Nat) (Z : Nat → Nat) (w : World) (hn : n ≤ 4096) (ha : Hid (0 < n → a0 = some ⟨b, off, none⟩)) (hZ : ∀ i, i < n → Z i ≤ 255)
    (hb : 0 < n → b < w.heap.size) (hcell : ∀ i, i < n → w.cell? ⟨b, off + i, none⟩ = some (.int .u8 (Z i))) :
    Calls Ybaf.prog 3 #[.string name, .int .i64 N, .slice a0 n cap] w fun e w' => e = .returned (.bool true) ∧ Below w.heap.size w w' := by
  have hd : decide ((4096 : Int) < (n : Int)) = false := by simp; omega
  have q23 := fun (w : World) => run_eql_func_nil (P := Ybaf.prog) w Ybaf.underlying23
  have q24 := fun (w : World) => run_eql_func_nil (P := Ybaf.prog) w Ybaf.underlying24
  go_enter Ybaf.func3, Ybaf.ntmps3
  go_wp2_with fail
  refine (hexOctets_any name N _).mono ?_
  rintro e w1 ⟨rfl, hc, hbel, hlt⟩
  clear hc
  have hbW : Below w.heap.size w (w1.alloc (.cells #[.string name, .int .i64 (wrap64 (8 * N)), .func (.func 13) #[] #[], .func (.func 15) #[] #[.pointer (some ⟨w.heap.size, 0, none⟩)]] 26)) := hbel.alloc hbel.size _
  have HB : Hid (Below w.heap.size w (w1.alloc (.cells #[.string name, .int .i64 (wrap64 (8 * N)), .func (.func 13) #[] #[], .func (.func 15) #[] #[.pointer (some ⟨w.heap.size, 0, none⟩)]] 26))) := hbW
  clear hbW
  go_wp2_with fail
  refine (decode_any n cap a0 b off Z _ hn ha hZ (fun h => ?_) (fun i hi => ?_)).mono ?_
  · have := hb h; simp; omega
  · rw [HB.out.cell (p := ⟨b, off + i, none⟩) (hb (by omega))]; exact hcell i hi
  rintro e w2 ⟨rfl, hb2⟩
  have HB2 : Hid (Below w.heap.size w w2) := HB.out.trans (hb2.mono (by have := HB.out.size; exact this))
  clear hb2 HB
  go_wp2_with fail
  refine (ownHex_any n cap a0 b off Z _ hn ha hZ (fun h => ?_) (fun i hi => ?_)).mono ?_
  · have := hb h; have := HB2.out.size; omega
  · rw [HB2.out.cell (p := ⟨b, off + i, none⟩) (hb (by omega))]; exact hcell i hi
  rintro e w3 ⟨rfl, hb3⟩
  have HB3 : Hid (Below w.heap.size w w3) := HB2.out.trans (hb3.mono HB2.out.size)
  clear hb3 HB2
  go_wp2
  go_ret
  exact ⟨rfl, HB3.out⟩

theorem shape_great (name : ByteArray) (N : Int) (n cap : Nat) (a0 : Option Addr) (w : World) (hn : 4096 < n) (hm : n ≤ 9223372036854775807) :
    Calls Ybaf.prog 3 #[.string name, .int .i64 N, .slice a0 n cap] w fun e w' => e = .returned (.bool true) ∧ Below w.heap.size w w' := by
  have hd : decide ((4096 : Int) < (n : Int)) = true := by simp; omega
  go_enter Ybaf.func3, Ybaf.ntmps3
  go_wp2
  go_ret
  exact ⟨rfl, Below.refl _ _⟩
end Go.Proofs.YbulkcdssFmt
