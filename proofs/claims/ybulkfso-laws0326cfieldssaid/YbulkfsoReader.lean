/-
  Contracts of bufio.NewReaderSize (at a source that is no bufio.Reader, 65536 bytes) and of wire.newReader, and two closed comparisons of arrays.
-/
import Derived.Test.YbulkfsoRows
import Derived.WalkKit
import Derived.ProofKit
import Derived.Below
import Derived.Laws.StructEq
import Derived.WalkLawsBesides
namespace Go.Proofs.Ybulkfso
open Go.RowKit

def bufCells : Array Value := madeCells #[.int .u8 0] 65536
theorem mk_buf (w : World) : (Instr.makeSlice 22 (.int .i64 65536) (.int .i64 65536)).run Yba.prog w = .ok (.slice (some ⟨w.heap.size, 0, none⟩) 65536 65536) (w.alloc (.cells bufCells 5)) := by
  obtain ⟨i, hi, hz⟩ : ∃ i, Yba.prog.info? 5 = some i ∧ (i.zero = some (.int .u8 0) ∧ i.size = 1 ∧ i.bytes = 1) := by
    have h : (Yba.prog.info? 5).map (fun i => (i.zero, i.size, i.bytes)) = some (some (.int .u8 0), 1, 1) := by kernel_rfl
    cases hq : Yba.prog.info? 5 with
    | none => rw [hq] at h; simp at h
    | some i => rw [hq] at h; simp at h; exact ⟨i, rfl, h⟩
  have h := run_make (P := Yba.prog) w 22 5 i (.int .u8 0) Yba.underlying22 hi hz.1 .i64 .i64 65536 65536 (by decide) (by decide) (by rw [hz.2.2]; decide) (by decide)
  rw [hz.2.1] at h
  exact h
theorem assert_no (a : Addr) (w : World) : (Instr.typeAssert (.iface 41 (.pointer (some a))) 57 46 true).run Yba.prog w = .ok (.tuple #[.pointer none, .bool false]) w := by kernel_rfl

set_option maxHeartbeats 400000 in
theorem nrs (a : Addr) (w : World) :
    Calls Yba.prog 19 #[.iface 41 (.pointer (some a)), .int .i64 65536] w fun e w' => e = .returned (.pointer (some ⟨w.heap.size, 0, none⟩)) ∧ w' = (w.alloc (.cells #[.slice (some ⟨w.heap.size + 1, 0, none⟩) 65536 65536, .iface 41 (.pointer (some a)), .int .i64 0, .int .i64 0, .nilIface, .int .i64 (-1), .int .i64 (-1)] 63)).alloc (.cells bufCells 5) := by
  have hm := mk_buf
  have ha := assert_no
  go_enter Yba.func19, Yba.ntmps19
  go_wp2
  go_end0
  go_wp2
  go_ret
  exact ⟨rfl, rfl⟩

/-- The cells of the Reader that newReader makes: the bufio.Reader's block, the pieces, sized, no extension, the limit, the two arrays zero. -/
def rdCells (g : Nat) (n : Int) (b : Bool) (lim : Int) : Array Value :=
  #[.pointer (some ⟨g, 0, none⟩), .int .i64 n, .bool b, .int .u8 0, .int .u32 lim, .int .u8 0, .int .u8 0, .int .u8 0, .int .u8 0, .int .u8 0, .int .u8 0, .int .u8 0, .int .u8 0, .int .u8 0, .int .u8 0, .int .u8 0, .int .u8 0]
def bufioCells (g : Nat) (a : Addr) : Array Value :=
  #[.slice (some ⟨g, 0, none⟩) 65536 65536, .iface 41 (.pointer (some a)), .int .i64 0, .int .i64 0, .nilIface, .int .i64 (-1), .int .i64 (-1)]
/-- The world behind newReader: three new blocks. -/
def nrWorld (w : World) (a : Addr) (n : Int) (b : Bool) (lim : Int) : World :=
  ((w.alloc (.cells (bufioCells (w.heap.size + 1) a) 63)).alloc (.cells bufCells 5)).alloc (.cells (rdCells w.heap.size n b lim) 51)

set_option maxHeartbeats 400000 in
theorem nr_big (a : Addr) (n : Int) (b : Bool) (w : World) (h0 : 0 ≤ n) (h1 : n ≤ 17179869184) (h : 131081 < 1 + (n + 7) / 8) :
    Calls Yba.prog 15 #[.iface 41 (.pointer (some a)), .int .i64 n, .bool b] w fun e w' => e = .returned (.pointer (some ⟨w.heap.size + 1 + 1, 0, none⟩)) ∧ w' = nrWorld w a n b (1 + (n + 7) / 8) := by
  go_enter Yba.func15, Yba.ntmps15
  go_wp2_with (first | (go_at_call 19; refine (nrs _ _).mono ?_; rintro e w' ⟨rfl, rfl⟩) | go_in)
  go_ret
  exact ⟨rfl, rfl⟩

set_option maxHeartbeats 400000 in
theorem nr_small (a : Addr) (n : Int) (b : Bool) (w : World) (h0 : 0 ≤ n) (h1 : n ≤ 17179869184) (h : 1 + (n + 7) / 8 ≤ 131081) :
    Calls Yba.prog 15 #[.iface 41 (.pointer (some a)), .int .i64 n, .bool b] w fun e w' => e = .returned (.pointer (some ⟨w.heap.size + 1 + 1, 0, none⟩)) ∧ w' = nrWorld w a n b 131081 := by
  go_enter Yba.func15, Yba.ntmps15
  go_wp2_with (first | (go_at_call 19; refine (nrs _ _).mono ?_; rintro e w' ⟨rfl, rfl⟩) | go_in)
  go_ret
  exact ⟨rfl, rfl⟩

theorem neq4 (w : World) : (binOp .neq 48 (.agg #[.int .u8 0, .int .u8 0, .int .u8 0, .int .u8 0]) (.agg #[.int .u8 0, .int .u8 0, .int .u8 0, .int .u8 0])).run Yba.prog w = .ok (.bool false) w := by kernel_rfl
theorem neq8 (w : World) : (binOp .neq 49 (.agg #[.int .u8 0, .int .u8 0, .int .u8 0, .int .u8 0, .int .u8 0, .int .u8 0, .int .u8 0, .int .u8 0]) (.agg #[.int .u8 0, .int .u8 0, .int .u8 0, .int .u8 0, .int .u8 0, .int .u8 0, .int .u8 0, .int .u8 0])).run Yba.prog w = .ok (.bool false) w := by kernel_rfl

end Go.Proofs.Ybulkfso
