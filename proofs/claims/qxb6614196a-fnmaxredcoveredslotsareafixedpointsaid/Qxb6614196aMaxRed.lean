import Derived.Test.Qxb6614196aRows
import Derived.WalkKit
import Derived.WalkSpells
import Derived.Deep.QuietTactic
import Derived.BigQuiet
namespace Go.Proofs.Qxb6614196a
open Go.RowKit

/-! ### THE PLAIN ARITHMETIC -/
/-- The least whole number of payloads of p slots that covers r slots, in slots. -/
theorem cover_bd (p r : Int) (hp : 1 ≤ p) (hr : 0 ≤ r) : 0 ≤ (r + p - 1) / p ∧ (r + p - 1) / p ≤ r + p - 1 ∧ r ≤ (r + p - 1) / p * p ∧ (r + p - 1) / p * p ≤ r + p - 1 := by
  have h1 := Int.emod_nonneg (r + p - 1) (b := p) (by omega)
  have h2 := Int.emod_lt_of_pos (r + p - 1) (b := p) (by omega)
  have h3 := Int.mul_ediv_add_emod (r + p - 1) p
  rw [Int.mul_comm] at h3
  have h4 : 0 ≤ (r + p - 1) / p := Int.ediv_nonneg (by omega) (by omega)
  refine ⟨h4, ?_, by omega, by omega⟩
  have := Int.mul_le_mul_of_nonneg_left hp h4
  omega

/-- The slots that MaxRed covers. -/
def cov (p r : Int) : Int := (r + p - 1) / p * p
theorem cov_lo (p r : Int) (hp : 1 ≤ p) (hr : 0 ≤ r) : r ≤ cov p r := (cover_bd p r hp hr).2.2.1
theorem cov_hi (p r : Int) (hp : 1 ≤ p) (hr : 0 ≤ r) : cov p r ≤ r + p - 1 := (cover_bd p r hp hr).2.2.2
/-- One payload more. -/
theorem cov_add (p r : Int) (hp : 1 ≤ p) : cov p (r + p) = cov p r + p := by
  unfold cov
  rw [show r + p + p - 1 = r + p - 1 + 1 * p from by omega, Int.add_mul_ediv_right _ _ (by omega), Int.add_mul]
  omega
/-- Whole payloads. -/
theorem cov_mod (p r : Int) : cov p r % p = 0 := by unfold cov; exact Int.mul_emod_left _ _
theorem cov_unit (p r : Int) : cov p r * 20000000 % (p * 20000000) = 0 := by
  unfold cov
  rw [Int.mul_assoc]
  exact Int.mul_emod_left _ _
/-- The slots covered are covered by just themselves. -/
theorem cov_fix (p r : Int) (hp : 1 ≤ p) : cov p (cov p r) = cov p r := by
  generalize hq : (r + p - 1) / p = q
  have h : cov p r = q * p := by unfold cov; rw [hq]
  rw [h]
  unfold cov
  rw [show q * p + p - 1 = p - 1 + q * p from by omega, Int.add_mul_ediv_right _ _ (by omega), Int.ediv_eq_zero_of_lt (by omega) (by omega), Int.zero_add]

/-! ### THE WALKS -/
/-- The packer as ZZnewGSMHRPacker lays it. -/
def packer (p r : Int) : Obj := .cells #[.int .i64 p, .int .i64 r, .int .u32 0, .bool false, .slice none 0 0, .int .i64 0, .int .i64 0, .bool false] 77

set_option maxHeartbeats 400000 in
theorem new19 (p r : Int) (w : World) :
    Calls Try.prog 19 #[.int .i64 p, .int .i64 r] w fun e w' => e = .returned (.pointer (some ⟨w.heap.size, 0, none⟩)) ∧ w' = w.alloc (packer p r) := by
  go_enter Try.func19, Try.ntmps19
  go_wp2
  go_ret
  exact ⟨rfl, rfl⟩

set_option maxHeartbeats 400000 in
theorem maxRed20 (g : Nat) (p r : Int) (w : World) (hp : 1 ≤ p) (hp2 : p ≤ 536870912) (hr : 0 ≤ r) (hr2 : r ≤ 1073741824)
    (c0 : w.cell? ⟨g, 0, none⟩ = some (.int .i64 p)) (c1 : w.cell? ⟨g, 1, none⟩ = some (.int .i64 r)) :
    Calls Try.prog 20 #[.pointer (some ⟨g, 0, none⟩)] w fun e w' => e = .returned (.int .i64 (cov p r * 20000000)) ∧ ∃ n, w' = w.drewN n := by
  obtain ⟨b1, b2, b3, b4⟩ := cover_bd p r hp hr
  go_enter Try.func20, Try.ntmps20
  go_wp2
  go_quiet (fail)
  go_wp2
  go_ret
  exact ⟨rfl, _, rfl⟩

theorem below_draws {B n : Nat} {a w : World} (h : Below B a w) : Below B a (w.drewN n) := ⟨h.os, h.tape, h.output, h.size, h.block⟩

/-- MaxRed of the packer that has just been laid. -/
theorem maxRed20_new (p r : Int) (w : World) (hp : 1 ≤ p) (hp2 : p ≤ 536870912) (hr : 0 ≤ r) (hr2 : r ≤ 1073741824) :
    Calls Try.prog 20 #[.pointer (some ⟨w.heap.size, 0, none⟩)] (w.alloc (packer p r)) fun e w' => e = .returned (.int .i64 (cov p r * 20000000)) ∧ Below w.heap.size w w' := by
  refine (maxRed20 w.heap.size p r (w.alloc (packer p r)) hp hp2 hr hr2 ?_ ?_).mono ?_
  · unfold packer; rw [World.cell?_alloc_at _ _ _ _ rfl]; rfl
  · unfold packer; rw [World.cell?_alloc_at _ _ _ _ rfl]; rfl
  · rintro e w' ⟨rfl, n, rfl⟩
    exact ⟨rfl, below_draws ((Below.refl _ w).alloc (Nat.le_refl _) _)⟩

set_option maxHeartbeats 400000 in
theorem least_walk (p r : Int) (w : World) (hp : 1 ≤ p) (hp2 : p ≤ 536870912) (hr : 0 ≤ r) (hr2 : r ≤ 536870912) :
    Calls Try.prog 6 #[.int .i64 p, .int .i64 r] w fun e w' => e = .returned (.bool true) ∧ Below w.heap.size w w' := by
  have e1 := cov_add p r hp
  have e2 := cov_unit p r
  have e3 := cov_lo p r hp hr
  have e4 := cov_hi p r hp hr
  have e5 : decide (cov p r * 20000000 < r * 20000000 + p * 20000000) = true := decide_eq_true (by omega)
  go_enter Try.func6, Try.ntmps6
  go_wp2_with (go_at_call 19; refine (new19 _ _ _).mono ?_; rintro e w' ⟨rfl, rfl⟩)
  refine (maxRed20_new p r w hp hp2 hr (by omega)).mono ?_
  rintro e W1 ⟨rfl, g1⟩
  go_wp2_with (go_at_call 19; refine (new19 _ _ _).mono ?_; rintro e w' ⟨rfl, rfl⟩)
  refine (maxRed20_new p (r + p) W1 hp hp2 (by omega) (by omega)).mono ?_
  rintro e W2 ⟨rfl, g2⟩
  go_wp2
  go_ret
  exact ⟨rfl, g1.trans (g2.mono g1.size)⟩

set_option maxHeartbeats 400000 in
theorem least_all (p r : Int) (w : World) : Calls Try.prog 6 #[.int .i64 p, .int .i64 r] w fun e w' => e = .returned (.bool true) ∧ Below w.heap.size w w' := by
  by_cases h1 : p < 1
  · go_enter Try.func6, Try.ntmps6
    go_wp2
    go_ret
    exact ⟨rfl, Below.refl _ _⟩
  by_cases h2 : 536870912 < p
  · go_enter Try.func6, Try.ntmps6
    go_wp2
    go_ret
    exact ⟨rfl, Below.refl _ _⟩
  by_cases h3 : r < 0
  · go_enter Try.func6, Try.ntmps6
    go_wp2
    go_ret
    exact ⟨rfl, Below.refl _ _⟩
  by_cases h4 : 536870912 < r
  · go_enter Try.func6, Try.ntmps6
    go_wp2
    go_ret
    exact ⟨rfl, Below.refl _ _⟩
  exact least_walk p r w (by omega) (by omega) (by omega) (by omega)

set_option maxHeartbeats 400000 in
theorem fixed_walk (p r : Int) (w : World) (hp : 1 ≤ p) (hp2 : p ≤ 536870912) (hr : 0 ≤ r) (hr2 : r ≤ 536870912) :
    Calls Try.prog 7 #[.int .i64 p, .int .i64 r] w fun e w' => e = .returned (.bool true) ∧ Below w.heap.size w w' := by
  have e1 := cov_fix p r hp
  have e2 := cov_mod p r
  have e3 := cov_lo p r hp hr
  have e4 := cov_hi p r hp hr
  have e5 : cov p r * 20000000 % 20000000 = 0 := by omega
  have e6 : cov p r * 20000000 / 20000000 = cov p r := by omega
  go_enter Try.func7, Try.ntmps7
  go_wp2_with (go_at_call 19; refine (new19 _ _ _).mono ?_; rintro e w' ⟨rfl, rfl⟩)
  refine (maxRed20_new p r w hp hp2 hr (by omega)).mono ?_
  rintro e W1 ⟨rfl, g1⟩
  go_wp2_with (go_at_call 19; refine (new19 _ _ _).mono ?_; rintro e w' ⟨rfl, rfl⟩)
  refine (maxRed20_new p (cov p r) W1 hp hp2 (by omega) (by omega)).mono ?_
  rintro e W2 ⟨rfl, g2⟩
  go_wp2
  go_ret
  exact ⟨rfl, g1.trans (g2.mono g1.size)⟩

set_option maxHeartbeats 400000 in
theorem fixed_all (p r : Int) (w : World) : Calls Try.prog 7 #[.int .i64 p, .int .i64 r] w fun e w' => e = .returned (.bool true) ∧ Below w.heap.size w w' := by
  by_cases h1 : p < 1
  · go_enter Try.func7, Try.ntmps7
    go_wp2
    go_ret
    exact ⟨rfl, Below.refl _ _⟩
  by_cases h2 : 536870912 < p
  · go_enter Try.func7, Try.ntmps7
    go_wp2
    go_ret
    exact ⟨rfl, Below.refl _ _⟩
  by_cases h3 : r < 0
  · go_enter Try.func7, Try.ntmps7
    go_wp2
    go_ret
    exact ⟨rfl, Below.refl _ _⟩
  by_cases h4 : 536870912 < r
  · go_enter Try.func7, Try.ntmps7
    go_wp2
    go_ret
    exact ⟨rfl, Below.refl _ _⟩
  exact fixed_walk p r w (by omega) (by omega) (by omega) (by omega)

end Go.Proofs.Qxb6614196a
