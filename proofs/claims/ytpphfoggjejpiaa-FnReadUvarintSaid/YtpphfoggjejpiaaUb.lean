/-
  The walks from the law's reader of a number down to the library's. Conditions: at most 2000 bytes.
-/
import Derived.Test.YtpphfoggjejpiaaUa
namespace Go.Proofs.Ytpphfoggjejpiaa
open Go.RowKit

/-- The cells of a new parser over the bytes of a slice, and the place that it has come to. -/
def parserCells (s : Value) (pos : Int) : List Value :=
  [s, .int .i64 pos, .int .i64 0, .int .u8 0, .int .i64 2, .int .i64 0, .bool false, .bool false, .int .i64 0, .int .i64 0, .float .f64 0, .float .f64 0, .float .f64 0, .float .f64 0,
   .bool false, .bool false, .bool false, .bool false, .bool false, .slice none 0 0, .slice none 0 0, .int .i64 0, .int .i64 0, .int .i64 0, .int .i64 0]

def parserZero : List Value :=
  [.slice none 0 0, .int .i64 0, .int .i64 0, .int .u8 0, .int .i64 0, .int .i64 0, .bool false, .bool false, .int .i64 0, .int .i64 0, .float .f64 0, .float .f64 0, .float .f64 0, .float .f64 0,
   .bool false, .bool false, .bool false, .bool false, .bool false, .slice none 0 0, .slice none 0 0, .int .i64 0, .int .i64 0, .int .i64 0, .int .i64 0]

theorem parser_info : (Try.prog.info? 177).map (·.size) = some 25 := by kernel_rfl

theorem parser_one (ao : Option Addr) (n cap : Nat) (pos : Int) : (parserCells (.slice ao n cap) pos).toArray.all (·.oneCell') = true :=
  all_oneCell_toArray (by intro v hv; simp only [parserCells, List.mem_cons, List.not_mem_nil, or_false] at hv; rcases hv with rfl | rfl | rfl | rfl | rfl | rfl | rfl | rfl | rfl | rfl | rfl | rfl | rfl | rfl | rfl | rfl | rfl | rfl | rfl | rfl | rfl | rfl | rfl | rfl | rfl <;> rfl)

set_option maxRecDepth 100000 in
theorem newParser_any (s : Option Addr) (n cap : Nat) (w : World) :
    Calls Try.prog 114 #[.slice s n cap] w fun e w' => e = .returned (.agg (parserCells (.slice s n cap) 0).toArray) ∧ Below w.heap.size w w' := by
  go_enter Try.func114, Try.ntmps114
  iterate 3 go_step
  refine wpList_run rfl (.pointer (some ⟨w.heap.size, 0, none⟩)) (w.alloc (.cells parserZero.toArray 177)) (by kernel_rfl) ?_
  go_wp2_with (first | (refine wpList_run (op := { dst := some 4, op := .build _ _, type := _, pos := _, after := _, guard := _ }) rfl (.agg (parserCells (.slice s n cap) 0).toArray) _ (by kernel_rfl) ?_) | refine wpList_store_new rfl 177 _ _ rfl parserZero.toArray (parserCells (.slice s n cap) 0).toArray rfl rfl parser_info rfl (parser_one _ _ _ _) ?_)
  refine bodyPost_ret (results_cell (fn := Try.f114) rfl _ _ w.heap.size 0 rfl (parserCells (.slice s n cap) 0) _ (range_new w (parserCells (.slice s n cap) 0).toArray _) Try.underlying177 rfl parser_info) rfl ?_
  exact ⟨rfl, (Below.refl _ _).alloc (Nat.le_refl _) _⟩

/-- An error's cells: only that it is one is told. -/
def EndErr (w : World) (e : Ending) (w' : World) : Prop := (∃ t v, e = .returned (.tuple #[.int .u64 0, .iface t v])) ∧ Below w.heap.size w w'

end Go.Proofs.Ytpphfoggjejpiaa
