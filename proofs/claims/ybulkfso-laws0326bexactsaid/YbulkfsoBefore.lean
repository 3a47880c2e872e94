import Derived.Test.YbulkfsoRows
import Derived.WalkKit
import Derived.ProofKit
import Derived.Below
namespace Go.Proofs.Ybulkfso
open Go.RowKit

/-- 'before' in plain words: the untold first, then the fewer holders. -/
def bef (t1 : Bool) (h1 : Int) (t2 : Bool) (h2 : Int) : Bool := if t1 = t2 then decide (h1 < h2) else !t1

set_option maxHeartbeats 400000 in
theorem before_any (t1 : Bool) (h1 : Int) (t2 : Bool) (h2 : Int) (w : World) :
    Calls Yba.prog 14 #[.agg #[.bool t1, .int .i64 h1], .agg #[.bool t2, .int .i64 h2]] w fun e w' => e = .returned (.bool (bef t1 h1 t2 h2)) ∧ w' = (w.alloc (.cells #[.bool t1, .int .i64 h1] 36)).alloc (.cells #[.bool t2, .int .i64 h2] 36) := by
  cases t1 <;> cases t2
  · have he : bef false h1 false h2 = decide (h1 < h2) := by simp [bef]
    rw [he]
    clear he
    go_enter Yba.func14, Yba.ntmps14
    go_wp2
    go_ret
    exact ⟨rfl, rfl⟩
  · have he : bef false h1 true h2 = true := by simp [bef]
    rw [he]
    clear he
    go_enter Yba.func14, Yba.ntmps14
    go_wp2
    go_ret
    exact ⟨rfl, rfl⟩
  · have he : bef true h1 false h2 = false := by simp [bef]
    rw [he]
    clear he
    go_enter Yba.func14, Yba.ntmps14
    go_wp2
    go_ret
    exact ⟨rfl, rfl⟩
  · have he : bef true h1 true h2 = decide (h1 < h2) := by simp [bef]
    rw [he]
    clear he
    go_enter Yba.func14, Yba.ntmps14
    go_wp2
    go_ret
    exact ⟨rfl, rfl⟩
end Go.Proofs.Ybulkfso
