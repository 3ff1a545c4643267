import Derived.Test.YbulkcdssProg
import Derived.WalkKit
namespace Go.Proofs.Ybulkcdss
open Go.RowKit
set_option linter.unusedVariables false

def nw (v : Int) : Int := v / 65536 % 256
def cl (v : Int) : Int := v / 256 % 256
def mb (v : Int) : Int := v % 256

set_option maxHeartbeats 400000 in
theorem pc_div (v : Int) (w : World) (h0 : 0 ≤ v) (h1 : v ≤ 4294967295) :
    Calls Yba.prog 6 #[.int .u32 v] w fun e w' => e = .returned (.agg #[.int .u8 (nw v), .int .u8 (cl v), .int .u8 (mb v)]) ∧ w' = w.alloc (.cells #[.int .u8 (nw v), .int .u8 (cl v), .int .u8 (mb v)] 27) := by
  go_enter Yba.func6, Yba.ntmps6
  go_wp2
  exact bodyPost_ret (v := .agg #[.int .u8 (nw v), .int .u8 (cl v), .int .u8 (mb v)]) (by simp [results, Yba.results6, go_sem, nw, cl, mb]) rfl ⟨rfl, rfl⟩

set_option maxHeartbeats 400000 in
theorem pc_shr (v : Int) (w : World) (h0 : 0 ≤ v) (h1 : v ≤ 4294967295) :
    Calls Yba.prog 7 #[.int .u32 v] w fun e w' => e = .returned (.agg #[.int .u8 (nw v), .int .u8 (cl v), .int .u8 (mb v)]) ∧ w' = w.alloc (.cells #[.int .u8 (nw v), .int .u8 (cl v), .int .u8 (mb v)] 27) := by
  go_enter Yba.func7, Yba.ntmps7
  go_wp2
  exact bodyPost_ret (v := .agg #[.int .u8 (nw v), .int .u8 (cl v), .int .u8 (mb v)]) (by simp [results, Yba.results7, go_sem, nw, cl, mb]) rfl ⟨rfl, rfl⟩
end Go.Proofs.Ybulkcdss
