import Derived.Test.Qxb6608933aList
import Derived.Maps.OwnSet
namespace Go.Proofs.Qxb6608933a
open Go.RowKit Go.Maps Go.WideMaps

/-- 'v, ok := m[k]' of a map that was made and has no entry. -/
theorem lookup_empty (w : World) (M : Nat) (s : ByteArray) (hs : s.size ≤ maxLen) (h : w.heap[M]? = some (.map #[] 0)) :
    (Instr.lookup 28 (.map (some M)) (.string s) true).run Try.prog w = .ok (.tuple #[.int .i64 0, .bool false]) w := by
  have hkey := keyOf_string_mk (P := Try.prog) Try.underlying9 hs
  have K : Keyed Try.prog 9 := string_keyed Try.underlying9
  rcases K.find w hkey [] (by simp) with ⟨f1, _⟩ | ⟨j, e0, _, f2, _⟩
  · simp [Instr.lookup, run_underlying Try.underlying28, K.check w _ hkey, f1, MapKept.run_getObj_map h, Result.andThen]
  · simp at f2

/-- The zero Area's cells. -/
abbrev zeroArea : Array Value := #[.string ⟨#[]⟩, .string ⟨#[]⟩, .string ⟨#[]⟩, .pointer none, .int .i32 0, .pointer none, .int .i32 0, .pointer none, .int .i32 0, .pointer none, .int .i32 0]

set_option maxHeartbeats 400000 in
theorem area12 (L M : Nat) (s : ByteArray) (w : World) (hs : s.size ≤ maxLen) (c3 : w.cell? ⟨L, 3, none⟩ = some (.map (some M))) (h : w.heap[M]? = some (.map #[] 0)) :
    Calls Try.prog 12 #[.pointer (some ⟨L, 0, none⟩), .string s] w fun e w' => e = .returned (.tuple #[.agg zeroArea, .bool false]) ∧ w' = w.alloc (.cells zeroArea 38) := by
  have hlk : ∀ o, (Instr.lookup 28 (.map (some M)) (.string s) true).run Try.prog (w.alloc o) = .ok (.tuple #[.int .i64 0, .bool false]) (w.alloc o) := fun o => lookup_empty _ M s hs ((heap_alloc_old w o (lt_of_heap h)).trans h)
  have c3' : ∀ o, (w.alloc o).cell? ⟨L, 3, none⟩ = some (.map (some M)) := fun o => (World.cell?_of_block (w := w) (heap_alloc_old w o (World.block_lt_of_cell? w _ c3))).trans c3
  go_enter Try.func12, Try.ntmps12
  go_wp2
  exact bodyPost_ret (v := .tuple #[.agg zeroArea, .bool false]) (by simp [results, Try.results12, go_sem]) rfl ⟨rfl, rfl⟩

end Go.Proofs.Qxb6608933a
