import Derived.Test.Qxb6608933aList
namespace Go.Proofs.Qxb6608933a
open Go.RowKit

set_option maxHeartbeats 400000 in
theorem bytes19_true (a0 : ByteArray) (a1 : Int) (a2 : ByteArray) (w : World) (h : a0.size + a2.size ≤ 1048576) :
    Calls Try.prog 19 #[.string a0, .int .i64 a1, .string a2] w fun e w' => e = .returned (.bool true) ∧ w = w' := by
  go_enter Try.func19, Try.ntmps19
  go_wp2
  go_ret
  exact ⟨rfl, rfl⟩

set_option maxHeartbeats 400000 in
theorem bytes19_false (a0 : ByteArray) (a1 : Int) (a2 : ByteArray) (w : World) (w0 : a0.size ≤ maxLen) (w2 : a2.size ≤ maxLen) (h : 1048576 < a0.size + a2.size) :
    Calls Try.prog 19 #[.string a0, .int .i64 a1, .string a2] w fun e w' => e = .returned (.bool false) ∧ w = w' := by
  unfold maxLen at w0 w2
  by_cases h0 : 1048576 < a0.size
  · go_enter Try.func19, Try.ntmps19
    go_wp2
    go_ret
    exact ⟨rfl, rfl⟩
  · by_cases h2 : 1048576 < a2.size
    · go_enter Try.func19, Try.ntmps19
      go_wp2
      go_ret
      exact ⟨rfl, rfl⟩
    · go_enter Try.func19, Try.ntmps19
      go_wp2
      go_ret
      exact ⟨rfl, rfl⟩

/-- Two problems behind one another: the four cells. -/
theorem cells4 {w : World} {base g cap : Nat} {x0 x1 x2 x3 : Value} (hown : w.ownsRow base 49 2 (.slice (some ⟨g, 0, none⟩) (1 + 1) cap) (1 + 1) ([x0, x1] ++ [x2, x3])) :
    w.cell? ⟨g, 0, none⟩ = some x0 ∧ w.cell? ⟨g, 1, none⟩ = some x1 ∧ w.cell? ⟨g, 2, none⟩ = some x2 ∧ w.cell? ⟨g, 3, none⟩ = some x3 :=
  ⟨hown.cells rfl 0 _ rfl, hown.cells rfl 1 _ rfl, hown.cells rfl 2 _ rfl, hown.cells rfl 3 _ rfl⟩

set_option maxHeartbeats 1000000 in
theorem appends_walk (a0 : ByteArray) (a1 : Int) (a2 : ByteArray) (w : World) (w0 : a0.size ≤ 262144) (w2 : a2.size ≤ 262144) :
    Calls Try.prog 6 #[.string a0, .int .i64 a1, .string a2] w fun e w' => e = .returned (.bool true) ∧ Below w.heap.size w w' := by
  go_enter Try.func6, Try.ntmps6
  go_wp2_with (first
    | (go_at_call 19; refine (bytes19_true a0 a1 a2 _ (by omega)).mono ?_; rintro e w' ⟨rfl, rfl⟩)
    | (go_at_call 8; refine (new8 a0 0 _ _).mono ?_; rintro e w' ⟨rfl, rfl⟩))
  have hb0 := laid_bld w a0 0 ⟨#[108, 105, 110, 101]⟩
  have hz0 := laid_size w a0 0 ⟨#[108, 105, 110, 101]⟩
  have hl0 := laid_below w a0 0 ⟨#[108, 105, 110, 101]⟩
  refine (list13_none _ _ _ _ _ _ _ _ w.heap.size _ (by omega) hb0).mono ?_
  rintro e W1 ⟨q1, rfl, g1, cap1, hb1, hown1, hk1⟩
  have hbel1 := hl0.trans (hk1.below (by omega) (by omega) (by simp))
  clear hb0 hl0 hk1
  go_wp2_with fail
  refine (problem16 _ _ _ _ _ _ _ _ _ w.heap.size 1 _ a1 a2 _ hb1 hown1 hbel1.size (by decide)).mono ?_
  rintro e W2 ⟨rfl, g2, cap2, hb2, hown2, hk2, _⟩
  have hbel2 := hbel1.trans (hk2.below hbel1.size (by omega) (fun k h => (hown1.lt k h).1))
  clear hb1 hown1 hk2 hbel1
  go_wp2_with fail
  refine (list13_some _ _ _ _ _ _ _ _ g2 (1 + 1) cap2 _ (by decide) hb2).mono ?_
  rintro e W3 ⟨q3, rfl, hg3⟩
  have hb3 := hb2.grown hg3
  have hown3 := owns_grown hown2 hg3
  have hbel3 := hbel2.trans (grown_below hg3 hbel2.size)
  clear hb2 hown2 hg3 hbel2
  go_wp2_with fail
  refine (problems11 _ _ _ _ _ _ _ _ _ _ hb3).mono ?_
  rintro e w' ⟨rfl, rfl⟩
  obtain ⟨c0, c1, c2, c3⟩ := cells4 hown3
  clear hb3 hown3
  go_wp2_with fail
  go_ret
  exact ⟨rfl, hbel3⟩

theorem appends_all (a0 : ByteArray) (a1 : Int) (a2 : ByteArray) (w0 : a0.size ≤ maxLen) (w2 : a2.size ≤ maxLen) (w : World) :
    Calls Try.prog 6 #[.string a0, .int .i64 a1, .string a2] w fun e w' => e = .returned (.bool true) ∧ Below w.heap.size w w' := by
  by_cases hs : a0.size + a2.size ≤ 1048576
  · by_cases h0 : a0.size ≤ 262144
    · by_cases h2 : a2.size ≤ 262144
      · exact appends_walk a0 a1 a2 w h0 h2
      · go_enter Try.func6, Try.ntmps6
        go_wp2_with (go_at_call 19; refine (bytes19_true a0 a1 a2 _ hs).mono ?_; rintro e w' ⟨rfl, rfl⟩)
        go_ret
        exact ⟨rfl, Below.refl _ _⟩
    · go_enter Try.func6, Try.ntmps6
      go_wp2_with (go_at_call 19; refine (bytes19_true a0 a1 a2 _ hs).mono ?_; rintro e w' ⟨rfl, rfl⟩)
      go_ret
      exact ⟨rfl, Below.refl _ _⟩
  · go_enter Try.func6, Try.ntmps6
    go_wp2_with (go_at_call 19; refine (bytes19_false a0 a1 a2 _ w0 w2 (by omega)).mono ?_; rintro e w' ⟨rfl, rfl⟩)
    go_ret
    exact ⟨rfl, Below.refl _ _⟩

end Go.Proofs.Qxb6608933a
