import Derived.Test.Qxb6614196aRows
import Derived.WalkKit
import Derived.WalkSpells
namespace Go.Proofs.Qxb6614196a
open Go.RowKit

/-- The header, boxed as tocEnd's receiver. -/
def header (a b c f : Int) : Obj := .cells #[.int .u8 a, .int .u8 b, .int .u8 c, .int .i64 f] 51

set_option maxHeartbeats 400000 in
theorem tocEnd21 (a b c f : Int) (w : World) (h0 : 0 ≤ f) (h1 : f ≤ 32) :
    Calls Try.prog 21 #[.agg #[.int .u8 a, .int .u8 b, .int .u8 c, .int .i64 f]] w fun e w' => e = .returned (.int .i64 (2 + (f + 1) / 2)) ∧ w' = w.alloc (header a b c f) := by
  go_enter Try.func21, Try.ntmps21
  go_wp2
  go_ret
  exact ⟨rfl, rfl⟩

set_option maxHeartbeats 400000 in
theorem tocEnd8 (a b c f : Int) (w : World) (h0 : 0 ≤ f) (h1 : f ≤ 32) :
    Calls Try.prog 8 #[.int .u8 a, .int .u8 b, .int .u8 c, .int .i64 f] w fun e w' => e = .returned (.int .i64 (2 + (f + 1) / 2)) ∧ w' = w.alloc (header a b c f) := by
  go_enter Try.func8, Try.ntmps8
  go_wp2_with (go_at_call 21; refine (tocEnd21 a b c f w h0 h1).mono ?_; rintro e w' ⟨rfl, rfl⟩)
  go_ret
  exact ⟨rfl, rfl⟩

set_option maxHeartbeats 400000 in
theorem toc_all (a b c f : Int) (w : World) : Calls Try.prog 3 #[.int .u8 a, .int .u8 b, .int .u8 c, .int .i64 f] w fun e w' => e = .returned (.bool true) ∧ Grown w w' := by
  by_cases h1 : f < 1
  · go_enter Try.func3, Try.ntmps3
    go_wp2
    go_ret
    exact ⟨rfl, Grown.refl _⟩
  by_cases h2 : 32 < f
  · go_enter Try.func3, Try.ntmps3
    go_wp2
    go_ret
    exact ⟨rfl, Grown.refl _⟩
  by_cases h3 : f = 1
  · subst h3
    go_enter Try.func3, Try.ntmps3
    go_wp2_with (go_at_call 8; refine (tocEnd8 a b c 1 w (by omega) (by omega)).mono ?_; rintro e w' ⟨rfl, rfl⟩)
    go_ret
    exact ⟨rfl, (Grown.refl _).alloc _ _⟩
  · have h4 : 1 < f := by omega
    have e1 : (f - 1 + 1) / 2 = f / 2 := by omega
    go_enter Try.func3, Try.ntmps3
    go_wp2_with (go_at_call 8; refine (tocEnd8 a b c _ _ (by omega) (by omega)).mono ?_; rintro e w' ⟨rfl, rfl⟩)
    go_ret
    exact ⟨rfl, ((Grown.refl _).alloc _ _).alloc _ _⟩

end Go.Proofs.Qxb6614196a
