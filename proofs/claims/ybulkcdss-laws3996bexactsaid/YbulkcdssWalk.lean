import Derived.Test.YbulkcdssLabel
import Derived.Laws.StructEq
namespace Go.Proofs.Ybulkcdss
open Go.RowKit
set_option linter.unusedVariables false
attribute [local go_sem ↓] Go.wp_at_zero Go.wp_at_succ

theorem hide {p : Prop} (h : p) : Hid p := h

theorem cell3 {w1 : World} {b o : Nat} {v : Value} (hb : b < w1.heap.size) (h : w1.cell? ⟨b, o, none⟩ = some v) (x y z : Obj) : (((w1.alloc x).alloc y).alloc z).cell? ⟨b, o, none⟩ = some v := by
  have e := (((Below.refl w1.heap.size w1).alloc (Nat.le_refl _) x).alloc (by simp) y).alloc (by simp; omega) z
  rw [e.cell (p := ⟨b, o, none⟩) hb]; exact h

theorem bcell {W w1 : World} (hb : Below W.heap.size W w1) : (∀ b o, b < W.heap.size → w1.cell? ⟨b, o, none⟩ = W.cell? ⟨b, o, none⟩) ∧ (∀ b o, b < W.heap.size → w1.frozen? ⟨b, o, none⟩ = W.frozen? ⟨b, o, none⟩) :=
  ⟨fun b o h => hb.cell (p := ⟨b, o, none⟩) h, fun b o h => hb.frozen (p := ⟨b, o, none⟩) h⟩

set_option maxHeartbeats 1000000 in
theorem law_walk (o d si ni mp sls : Int) (up : Option Addr) (len cap : Nat) (w : World) (o0 : 0 ≤ o) (o1 : o ≤ 4294967295) (d0 : 0 ≤ d) (d1 : d ≤ 4294967295) :
    Calls Yba.prog 3 #[.int .u32 o, .int .u32 d, .int .u8 si, .int .u8 ni, .int .u8 mp, .int .u8 sls, .slice up len cap] w fun e w' => e = .returned (.bool true) ∧ Below w.heap.size w w' := by
  go_enter Yba.func3, Yba.ntmps3
  go_wp2_with fail
  refine (label_any o d si ni mp sls up len cap _ o0 o1 d0 d1).mono ?_
  rintro e w1 ⟨rfl, hb⟩
  obtain ⟨hc, hf⟩ := bcell hb
  have hsz : w.heap.size < w1.heap.size := by have := hb.size; simp at this; omega
  have k0 : w1.cell? ⟨w.heap.size, 0, none⟩ = some (.int .u32 o) := by rw [hc _ _ (by simp)]; simp
  have k1 : w1.cell? ⟨w.heap.size, 1, none⟩ = some (.int .u32 d) := by rw [hc _ _ (by simp)]; simp
  have k2 : w1.cell? ⟨w.heap.size, 2, none⟩ = some (.int .u8 si) := by rw [hc _ _ (by simp)]; simp
  have k3 : w1.cell? ⟨w.heap.size, 3, none⟩ = some (.int .u8 ni) := by rw [hc _ _ (by simp)]; simp
  have k4 : w1.cell? ⟨w.heap.size, 4, none⟩ = some (.int .u8 mp) := by rw [hc _ _ (by simp)]; simp
  have k5 : w1.cell? ⟨w.heap.size, 5, none⟩ = some (.int .u8 sls) := by rw [hc _ _ (by simp)]; simp
  have HB := hide hb
  clear hc hf hb
  have K := And.intro (cell3 hsz k0) (And.intro (cell3 hsz k1) (And.intro (cell3 hsz k2) (And.intro (cell3 hsz k3) (And.intro (cell3 hsz k4) (cell3 hsz k5)))))
  have HK := hide K
  clear K k0 k1 k2 k3 k4 k5
  go_wp2_with fail
  go_region_held3 (fun w' => w'.cell? ⟨w1.heap.size, 0, none⟩ = some (.int .u8 (nw d)) ∧ w'.cell? ⟨w1.heap.size, 1, none⟩ = some (.int .u8 (cl d)) ∧ w'.cell? ⟨w1.heap.size, 2, none⟩ = some (.int .u8 (mb d))
      ∧ w'.cell? ⟨w1.heap.size, 3, none⟩ = some (.int .u8 (nw o)) ∧ w'.cell? ⟨w1.heap.size, 4, none⟩ = some (.int .u8 (cl o)) ∧ w'.cell? ⟨w1.heap.size, 5, none⟩ = some (.int .u8 (mb o)) ∧ w'.cell? ⟨w1.heap.size, 6, none⟩ = some (.int .u8 sls)) (go_keep)
    (first
      | (go_at_call_of 6 (Value.int IntKind.u32 o); refine (pc_div o _ o0 o1).mono ?_; rintro e w' ⟨rfl, rfl⟩)
      | (go_at_call_of 6 (Value.int IntKind.u32 d); refine (pc_div d _ d0 d1).mono ?_; rintro e w' ⟨rfl, rfl⟩))
  obtain ⟨k0, k1, k2, k3, k4, k5⟩ := HK.out
  clear HK
  go_wp2
  go_ret
  refine ⟨rfl, ?_⟩
  have hb := HB.out
  exact (((((Below.refl _ _).alloc (Nat.le_refl _) _).trans (hb.mono (by simp))).alloc (by omega) _).alloc (by simp; omega) _ |>.alloc (by simp; omega) _).drew
end Go.Proofs.Ybulkcdss
