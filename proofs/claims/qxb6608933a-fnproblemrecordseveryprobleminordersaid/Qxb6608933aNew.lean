import Derived.Test.Qxb6608933aRows
import Derived.WalkKit
import Derived.WalkSpells
namespace Go.Proofs.Qxb6608933a
open Go.RowKit

/-- What 'newListBuilder' lays: a map, the list, two maps, the builder. -/
def laid (w : World) (file : ByteArray) (year : Int) (unit : ByteArray) : World :=
  ((((w.alloc (.map #[] 0)).alloc (.cells #[.int .i64 year, .string file, .slice none 0 0, .map (some w.heap.size)] 30)).alloc (.map #[] 0)).alloc (.map #[] 0)).alloc
    (.cells #[.pointer (some ⟨w.heap.size + 1, 0, none⟩), .string unit, .map (some (w.heap.size + 2)), .map (some (w.heap.size + 3)), .slice none 0 0] 57)

set_option maxHeartbeats 400000 in
theorem new20 (file : ByteArray) (year : Int) (unit : ByteArray) (w : World) :
    Calls Try.prog 20 #[.string file, .int .i64 year, .string unit] w fun e w' => e = .returned (.pointer (some ⟨w.heap.size + 4, 0, none⟩)) ∧ w' = laid w file year unit := by
  have hmm := @run_makeMap Try.prog
  go_enter Try.func20, Try.ntmps20
  go_wp2
  go_ret
  exact ⟨rfl, rfl⟩

end Go.Proofs.Qxb6608933a
