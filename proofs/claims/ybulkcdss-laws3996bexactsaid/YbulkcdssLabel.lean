import Derived.Test.YbulkcdssPc
import Derived.WalkSpells
import Derived.Deep.RegionHeld3
import Derived.Deep.DrawnRows
namespace Go.Proofs.Ybulkcdss
open Go.RowKit
set_option linter.unusedVariables false
attribute [local go_sem ↓] Go.wp_at_zero Go.wp_at_succ

set_option maxHeartbeats 1000000 in
theorem label_any (o d si ni mp sls : Int) (up : Option Addr) (len cap : Nat) (w : World) (o0 : 0 ≤ o) (o1 : o ≤ 4294967295) (d0 : 0 ≤ d) (d1 : d ≤ 4294967295) :
    Calls Yba.prog 5 #[.agg #[.int .u32 o, .int .u32 d, .int .u8 si, .int .u8 ni, .int .u8 mp, .int .u8 sls, .slice up len cap]] w fun e w' =>
      e = .returned (.agg #[.int .u8 (nw d), .int .u8 (cl d), .int .u8 (mb d), .int .u8 (nw o), .int .u8 (cl o), .int .u8 (mb o), .int .u8 sls]) ∧ Below w.heap.size w w' := by
  go_enter Yba.func5, Yba.ntmps5
  go_wp2
  go_region_held3 (fun w' => w'.cell? ⟨w.heap.size, 0, none⟩ = some (.int .u32 o) ∧ w'.cell? ⟨w.heap.size, 1, none⟩ = some (.int .u32 d) ∧ w'.cell? ⟨w.heap.size, 5, none⟩ = some (.int .u8 sls)) (go_keep)
    (first
      | (go_at_call_of 7 (Value.int IntKind.u32 o); refine (pc_shr o _ o0 o1).mono ?_; rintro e w' ⟨rfl, rfl⟩)
      | (go_at_call_of 7 (Value.int IntKind.u32 d); refine (pc_shr d _ d0 d1).mono ?_; rintro e w' ⟨rfl, rfl⟩))
  all_goals go_wp2
  exact bodyPost_ret (v := .agg #[.int .u8 (nw d), .int .u8 (cl d), .int .u8 (mb d), .int .u8 (nw o), .int .u8 (cl o), .int .u8 (mb o), .int .u8 sls]) (by simp [results, Yba.results5, go_sem]) rfl
    ⟨rfl, (((((Below.refl _ _).alloc (Nat.le_refl _) _).alloc (by simp) _).alloc (by simp; omega) _).alloc (by simp; omega) _).drew⟩
end Go.Proofs.Ybulkcdss
