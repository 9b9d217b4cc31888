import Derived.Test.Qxb6608933aArea
namespace Go.Proofs.Qxb6608933a
open Go.RowKit

set_option maxHeartbeats 400000 in
theorem bytes7_true (a0 : ByteArray) (a1 : Int) (a2 a3 : ByteArray) (w : World) (h : a0.size + a2.size + a3.size ≤ 1048576) :
    Calls Try.prog 7 #[.string a0, .int .i64 a1, .string a2, .string a3] w fun e w' => e = .returned (.bool true) ∧ w = w' := by
  go_enter Try.func7, Try.ntmps7
  go_wp2
  go_ret
  exact ⟨rfl, rfl⟩

set_option maxHeartbeats 400000 in
theorem bytes7_false (a0 : ByteArray) (a1 : Int) (a2 a3 : ByteArray) (w : World) (w0 : a0.size ≤ maxLen) (w2 : a2.size ≤ maxLen) (w3 : a3.size ≤ maxLen) (h : 1048576 < a0.size + a2.size + a3.size) :
    Calls Try.prog 7 #[.string a0, .int .i64 a1, .string a2, .string a3] w fun e w' => e = .returned (.bool false) ∧ w = w' := by
  unfold maxLen at w0 w2 w3
  by_cases h0 : 1048576 < a0.size
  · go_enter Try.func7, Try.ntmps7
    go_wp2
    go_ret
    exact ⟨rfl, rfl⟩
  by_cases h2 : 1048576 < a2.size
  · go_enter Try.func7, Try.ntmps7
    go_wp2
    go_ret
    exact ⟨rfl, rfl⟩
  by_cases h02 : 1048576 < a0.size + a2.size
  · go_enter Try.func7, Try.ntmps7
    go_wp2
    go_ret
    exact ⟨rfl, rfl⟩
  by_cases h3 : 1048576 < a3.size
  · go_enter Try.func7, Try.ntmps7
    go_wp2
    go_ret
    exact ⟨rfl, rfl⟩
  · go_enter Try.func7, Try.ntmps7
    go_wp2
    go_ret
    exact ⟨rfl, rfl⟩

theorem grown_alloc2 (w : World) (o1 o2 : Obj) : w.grownBy ((w.alloc o1).alloc o2) none := by
  have h1 := World.grownBy_alloc w o1 none
  have h2 := World.grownBy_alloc (w.alloc o1) o2 none
  exact ⟨rfl, rfl, rfl, Nat.le_trans h1.size h2.size, fun k hk hn => (h2.block k (Nat.lt_of_lt_of_le hk h1.size) hn).trans (h1.block k hk hn)⟩

set_option maxHeartbeats 1000000 in
theorem starts_walk (a0 : ByteArray) (a1 : Int) (a2 a3 : ByteArray) (w : World) (w0 : a0.size ≤ 262144) (w2 : a2.size ≤ 262144) (w3 : a3.size ≤ 262144) :
    Calls Try.prog 3 #[.string a0, .int .i64 a1, .string a2, .string a3] w fun e w' => e = .returned (.bool true) ∧ Below w.heap.size w w' := by
  have hb0 := laid_bld w a0 a1 a2
  have hm0 := laid_map w a0 a1 a2
  have hl0 := laid_below w a0 a1 a2
  have k0 := hb0.year
  have k1 := hb0.file
  have k2 := hb0.areas
  go_enter Try.func3, Try.ntmps3
  go_wp2_with (first
    | (go_at_call 7; refine (bytes7_true a0 a1 a2 a3 _ (by omega)).mono ?_; rintro e w' ⟨rfl, rfl⟩)
    | (go_at_call 8; refine (new8 a0 a1 a2 _).mono ?_; rintro e w' ⟨rfl, rfl⟩)
    | (go_at_call 9; refine (list9 _ _ _ _ _ _ _ _ _ _ hb0).mono ?_; rintro e w' ⟨rfl, rfl⟩)
    | (go_at_call 10; refine (unit10 _ _ _ _ _ _ _ _ _ _ hb0).mono ?_; rintro e w' ⟨rfl, rfl⟩)
    | (go_at_call 11; refine (problems11 _ _ _ _ _ _ _ _ _ _ hb0).mono ?_; rintro e w' ⟨rfl, rfl⟩)
    | (go_at_call 12; refine (area12 _ _ a3 _ (by unfold maxLen; omega) hb0.map hm0).mono ?_; rintro e w' ⟨rfl, rfl⟩))
  have hg1 := grown_alloc2 (laid w a0 a1 a2) (.cells zeroArea 38) (.cells zeroArea 38)
  have hs1 : w.heap.size ≤ (((laid w a0 a1 a2).alloc (.cells zeroArea 38)).alloc (.cells zeroArea 38)).heap.size := Nat.le_trans hl0.size hg1.size
  refine (list13_none _ _ _ _ _ _ _ _ w.heap.size _ hs1 (hb0.grown hg1)).mono ?_
  rintro e W1 ⟨q1, rfl, g1, cap1, hb1, hown1, hk1⟩
  have hbel1 := (hl0.trans (grown_below hg1 hl0.size)).trans (hk1.below hs1 (by omega) (by simp))
  clear hb0 hm0 hl0 k0 k1 k2 hk1 hg1 hs1
  go_wp2_with (first
    | (go_at_call 11; refine (problems11 _ _ _ _ _ _ _ _ _ _ hb1).mono ?_; rintro e w' ⟨rfl, rfl⟩)
    | (go_at_call 14; refine (only14 _ _ _ _ hown1).mono ?_; rintro e w' ⟨rfl, rfl⟩))
  refine (list13_some _ _ _ _ _ _ _ _ g1 1 cap1 _ (by decide) hb1).mono ?_
  rintro e W2 ⟨q2, rfl, hg2⟩
  have hb2 := hb1.grown hg2
  have hown2 := owns_grown hown1 hg2
  have hbel2 := hbel1.trans (grown_below hg2 hbel1.size)
  clear hb1 hown1 hbel1 hg2
  go_wp2_with (first
    | (go_at_call 11; refine (problems11 _ _ _ _ _ _ _ _ _ _ hb2).mono ?_; rintro e w' ⟨rfl, rfl⟩)
    | (go_at_call 14; refine (only14 _ _ _ _ hown2).mono ?_; rintro e w' ⟨rfl, rfl⟩))
  go_ret
  exact ⟨rfl, hbel2⟩

theorem starts_all (a0 : ByteArray) (a1 : Int) (a2 a3 : ByteArray) (w0 : a0.size ≤ maxLen) (w2 : a2.size ≤ maxLen) (w3 : a3.size ≤ maxLen) (w : World) :
    Calls Try.prog 3 #[.string a0, .int .i64 a1, .string a2, .string a3] w fun e w' => e = .returned (.bool true) ∧ Below w.heap.size w w' := by
  by_cases hs : a0.size + a2.size + a3.size ≤ 1048576
  · by_cases h0 : a0.size ≤ 262144
    · by_cases h2 : a2.size ≤ 262144
      · by_cases h3 : a3.size ≤ 262144
        · exact starts_walk a0 a1 a2 a3 w h0 h2 h3
        · go_enter Try.func3, Try.ntmps3
          go_wp2_with (go_at_call 7; refine (bytes7_true a0 a1 a2 a3 _ hs).mono ?_; rintro e w' ⟨rfl, rfl⟩)
          go_ret
          exact ⟨rfl, Below.refl _ _⟩
      · go_enter Try.func3, Try.ntmps3
        go_wp2_with (go_at_call 7; refine (bytes7_true a0 a1 a2 a3 _ hs).mono ?_; rintro e w' ⟨rfl, rfl⟩)
        go_ret
        exact ⟨rfl, Below.refl _ _⟩
    · go_enter Try.func3, Try.ntmps3
      go_wp2_with (go_at_call 7; refine (bytes7_true a0 a1 a2 a3 _ hs).mono ?_; rintro e w' ⟨rfl, rfl⟩)
      go_ret
      exact ⟨rfl, Below.refl _ _⟩
  · go_enter Try.func3, Try.ntmps3
    go_wp2_with (go_at_call 7; refine (bytes7_false a0 a1 a2 a3 _ w0 w2 w3 (by omega)).mono ?_; rintro e w' ⟨rfl, rfl⟩)
    go_ret
    exact ⟨rfl, Below.refl _ _⟩

end Go.Proofs.Qxb6608933a
