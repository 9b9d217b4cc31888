import Derived.Test.Qxb6608933aList
import Derived.LaidEqlPtr
namespace Go.Proofs.Qxb6608933a
open Go.RowKit

set_option maxHeartbeats 400000 in
theorem bytes15_true (a0 : ByteArray) (a1 : Int) (a2 a3 : ByteArray) (a4 : Int) (a5 : ByteArray) (a6 : Int) (a7 : ByteArray) (w : World) (h : a0.size + a2.size + a3.size + a5.size + a7.size ≤ 1048576) :
    Calls Try.prog 15 #[.string a0, .int .i64 a1, .string a2, .string a3, .int .i64 a4, .string a5, .int .i64 a6, .string a7] w fun e w' => e = .returned (.bool true) ∧ w = w' := by
  go_enter Try.func15, Try.ntmps15
  go_wp2
  go_ret
  exact ⟨rfl, rfl⟩

set_option maxHeartbeats 1000000 in
theorem bytes15_false (a0 : ByteArray) (a1 : Int) (a2 a3 : ByteArray) (a4 : Int) (a5 : ByteArray) (a6 : Int) (a7 : ByteArray) (w : World) (w0 : a0.size ≤ maxLen) (w2 : a2.size ≤ maxLen) (w3 : a3.size ≤ maxLen) (w5 : a5.size ≤ maxLen) (w7 : a7.size ≤ maxLen) (h : 1048576 < a0.size + a2.size + a3.size + a5.size + a7.size) :
    Calls Try.prog 15 #[.string a0, .int .i64 a1, .string a2, .string a3, .int .i64 a4, .string a5, .int .i64 a6, .string a7] w fun e w' => e = .returned (.bool false) ∧ w = w' := by
  unfold maxLen at w0 w2 w3 w5 w7
  by_cases c0 : 1048576 < a0.size
  · go_enter Try.func15, Try.ntmps15
    go_wp2
    go_ret
    exact ⟨rfl, rfl⟩
  by_cases d1 : 1048576 < a2.size
  · go_enter Try.func15, Try.ntmps15
    go_wp2
    go_ret
    exact ⟨rfl, rfl⟩
  by_cases c1 : 1048576 < a0.size + a2.size
  · go_enter Try.func15, Try.ntmps15
    go_wp2
    go_ret
    exact ⟨rfl, rfl⟩
  by_cases d2 : 1048576 < a3.size
  · go_enter Try.func15, Try.ntmps15
    go_wp2
    go_ret
    exact ⟨rfl, rfl⟩
  by_cases c2 : 1048576 < a0.size + a2.size + a3.size
  · go_enter Try.func15, Try.ntmps15
    go_wp2
    go_ret
    exact ⟨rfl, rfl⟩
  by_cases d3 : 1048576 < a5.size
  · go_enter Try.func15, Try.ntmps15
    go_wp2
    go_ret
    exact ⟨rfl, rfl⟩
  by_cases c3 : 1048576 < a0.size + a2.size + a3.size + a5.size
  · go_enter Try.func15, Try.ntmps15
    go_wp2
    go_ret
    exact ⟨rfl, rfl⟩
  by_cases d4 : 1048576 < a7.size
  · go_enter Try.func15, Try.ntmps15
    go_wp2
    go_ret
    exact ⟨rfl, rfl⟩
  go_enter Try.func15, Try.ntmps15
  go_wp2
  go_ret
  exact ⟨rfl, rfl⟩

/-- ZZnewListBuilder, its blocks under letters. -/
theorem new8x (file : ByteArray) (year : Int) (unit : ByteArray) (w : World) :
    Calls Try.prog 8 #[.string file, .int .i64 year, .string unit] w fun e w' => ∃ B L M m1 m2, e = .returned (.pointer (some ⟨B, 0, none⟩)) ∧ Bld w' B L M m1 m2 file year unit (.slice none 0 0) ∧
      Below w.heap.size w w' ∧ w.heap.size ≤ L ∧ L < B ∧ B < w'.heap.size := by
  refine (new8 file year unit w).mono ?_
  rintro e w' ⟨rfl, rfl⟩
  exact ⟨_, _, _, _, _, rfl, laid_bld w file year unit, laid_below w file year unit, by omega, by omega, by rw [laid_size]; omega⟩

theorem Bld.of_same {w w' : World} {B L M m1 m2 : Nat} {file : ByteArray} {year : Int} {unit : ByteArray} {v : Value} (h : Bld w B L M m1 m2 file year unit v) (hB : w'.heap[B]? = w.heap[B]?) (hL : w'.heap[L]? = w.heap[L]?) : Bld w' B L M m1 m2 file year unit v :=
  ⟨hB.trans h.1, hL.trans h.2⟩

theorem Try.info30 : (Try.prog.info? 30).map (fun i => i.size) = some 4 := by kernel_rfl
/-- 'l1 == l2' at two lists. -/
theorem lists_apart {w : World} {B L M m1 m2 B' L' M' m1' m2' : Nat} {file file' : ByteArray} {year year' : Int} {unit unit' : ByteArray} {v v' : Value} (h : Bld w B L M m1 m2 file year unit v) (h' : Bld w B' L' M' m1' m2' file' year' unit' v') (hne : L ≠ L') :
    (binOp .eql 25 (.pointer (some ⟨L, 0, none⟩)) (.pointer (some ⟨L', 0, none⟩))).run Try.prog w = .ok (.bool false) w := by
  obtain ⟨j, hj, hz⟩ : ∃ j, Try.prog.info? 30 = some j ∧ j.size = 4 := by
    have h0 := Try.info30
    cases hi : Try.prog.info? 30 with
    | none => rw [hi] at h0; simp at h0
    | some j => rw [hi] at h0; exact ⟨j, rfl, by simpa using h0⟩
  exact run_eql_ptr_other w Try.underlying25 hj (by omega) (fun e => hne (congrArg Addr.block e)) h.2 h'.2

/-- What a row owns stays owned while another builder turns. -/
theorem owns_kept {w w' : World} {base n : Nat} {v : Value} {xs : List Value} (h : w.ownsRow base 49 2 v n xs) {B : Nat} {cs : Array Value} {fr : Nat × Nat} (hB : w.heap[B]? = some (.cells cs 57 fr)) (hk : Kept B none w w') : w'.ownsRow base 49 2 v n xs := by
  refine ⟨h.1, ?_⟩
  have hne := ne_row h hB (by decide)
  rcases h.2 with h2 | ⟨g, cap, cur, rfl, h1, h2, h3⟩
  · exact .inl h2
  · refine .inr ⟨g, cap, cur, rfl, h1, ?_, h3⟩
    rw [hk.block g (lt_of_heap h2) (fun e => hne (by rw [e]; rfl)) (by simp)]
    exact h2

set_option maxRecDepth 100000 in
set_option maxHeartbeats 2000000 in
theorem indep_walk (a0 : ByteArray) (a1 : Int) (a2 a3 : ByteArray) (a4 : Int) (a5 : ByteArray) (a6 : Int) (a7 : ByteArray) (w : World) (w0 : a0.size ≤ 131072) (w2 : a2.size ≤ 131072) (w3 : a3.size ≤ 131072) (w5 : a5.size ≤ 131072) (w7 : a7.size ≤ 131072) :
    Calls Try.prog 4 #[.string a0, .int .i64 a1, .string a2, .string a3, .int .i64 a4, .string a5, .int .i64 a6, .string a7] w fun e w' => e = .returned (.bool true) ∧ Below w.heap.size w w' := by
  go_enter Try.func4, Try.ntmps4
  go_wp2_with (go_at_call 15; refine (bytes15_true a0 a1 a2 a3 a4 a5 a6 a7 _ (by omega)).mono ?_; rintro e w' ⟨rfl, rfl⟩)
  refine (new8x a0 a1 a2 _).mono ?_
  rintro e W1 ⟨B1, L1, M1, m1, m1', rfl, hb1, hl1, o1, o2, o3⟩
  go_wp2_with fail
  refine (new8x a3 a4 a5 _).mono ?_
  rintro e W2 ⟨B2, L2, M2, m2, m2', rfl, hb2, hl2, o4, o5, o6⟩
  have hb1' := hb1.of_same (hl2.block B1 o3) (hl2.block L1 (by omega))
  have bel2 := hl1.trans (hl2.mono hl1.size)
  clear hb1 hl1 hl2
  go_wp2_with fail
  refine (problem16 _ _ _ _ _ _ _ _ _ w.heap.size 0 [] a6 a7 _ hb1' (World.ownsRow_nil _ _ _ _) bel2.size (by decide)).mono ?_
  rintro e W3 ⟨rfl, g1, cap1, hb1, hown1, hk3, _⟩
  have hb2' := hb2.of_same (hk3.block B2 o6 (by omega) (by simp [Value.ownBlock])) (hk3.block L2 (by omega) (by omega) (by simp [Value.ownBlock]))
  have bel3 := bel2.trans (hk3.below bel2.size (by omega) (by simp [Value.ownBlock]))
  clear hb1' hb2 hk3 bel2
  go_wp2_with fail
  refine (list13_some _ _ _ _ _ _ _ _ g1 (0 + 1) cap1 _ (by decide) hb1).mono ?_
  rintro e W4 ⟨q1, rfl, hg4⟩
  have hb1' := hb1.grown hg4
  have hown1' := owns_grown hown1 hg4
  have hb2 := hb2'.grown hg4
  have bel4 := bel3.trans (grown_below hg4 bel3.size)
  clear hb1 hown1 hb2' hg4 bel3
  go_wp2_with fail
  refine (list13_none _ _ _ _ _ _ _ _ w.heap.size _ bel4.size hb2).mono ?_
  rintro e W5 ⟨q2, rfl, g2, cap2, hb2', hown2, hk5⟩
  have hb1 := hb1'.of_same (hk5.block B1 (lt_of_heap hb1'.1) (by omega) (by simp)) (hk5.block L1 (lt_of_heap hb1'.2) (by omega) (by simp))
  have hown1 := owns_kept hown1' hb2.1 hk5
  have bel5 := bel4.trans (hk5.below bel4.size (by omega) (by simp))
  clear hb1' hown1' hb2 hk5 bel4
  have c0 : W5.cell? ⟨g1, 0, none⟩ = some (.int .i64 a6) := hown1.cells rfl 0 _ rfl
  have c1 : W5.cell? ⟨g1, 1, none⟩ = some (.string a7) := hown1.cells rfl 1 _ rfl
  have f1 := hb1.file
  have y1 := hb1.year
  have f2 := hb2'.file
  have y2 := hb2'.year
  go_wp2_with fail
  refine (problems11 _ _ _ _ _ _ _ _ _ _ hb1).mono ?_
  rintro e w' ⟨rfl, rfl⟩
  go_wp2_with fail
  refine (problems11 _ _ _ _ _ _ _ _ _ _ hb2').mono ?_
  rintro e w' ⟨rfl, rfl⟩
  go_wp2_with fail
  refine (only14 _ _ _ _ hown2).mono ?_
  rintro e w' ⟨rfl, rfl⟩
  go_wp2_with fail
  refine (list9 _ _ _ _ _ _ _ _ _ _ hb1).mono ?_
  rintro e w' ⟨rfl, rfl⟩
  go_wp2_with fail
  refine (list9 _ _ _ _ _ _ _ _ _ _ hb2').mono ?_
  rintro e w' ⟨rfl, rfl⟩
  have hne := lists_apart hb1 hb2' (by omega)
  go_wp2_with fail
  refine (unit10 _ _ _ _ _ _ _ _ _ _ hb1).mono ?_
  rintro e w' ⟨rfl, rfl⟩
  go_wp2_with fail
  refine (unit10 _ _ _ _ _ _ _ _ _ _ hb2').mono ?_
  rintro e w' ⟨rfl, rfl⟩
  go_wp2_with fail
  go_ret
  exact ⟨rfl, bel5⟩

set_option maxRecDepth 100000 in
set_option maxHeartbeats 1000000 in
theorem indep_all (a0 : ByteArray) (a1 : Int) (a2 a3 : ByteArray) (a4 : Int) (a5 : ByteArray) (a6 : Int) (a7 : ByteArray) (w0 : a0.size ≤ maxLen) (w2 : a2.size ≤ maxLen) (w3 : a3.size ≤ maxLen) (w5 : a5.size ≤ maxLen) (w7 : a7.size ≤ maxLen) (w : World) :
    Calls Try.prog 4 #[.string a0, .int .i64 a1, .string a2, .string a3, .int .i64 a4, .string a5, .int .i64 a6, .string a7] w fun e w' => e = .returned (.bool true) ∧ Below w.heap.size w w' := by
  by_cases hs : a0.size + a2.size + a3.size + a5.size + a7.size ≤ 1048576
  · by_cases ha0 : 131072 < a0.size
    · go_enter Try.func4, Try.ntmps4
      go_wp2_with (go_at_call 15; refine (bytes15_true a0 a1 a2 a3 a4 a5 a6 a7 _ hs).mono ?_; rintro e w' ⟨rfl, rfl⟩)
      go_ret
      exact ⟨rfl, Below.refl _ _⟩
    by_cases ha2 : 131072 < a2.size
    · go_enter Try.func4, Try.ntmps4
      go_wp2_with (go_at_call 15; refine (bytes15_true a0 a1 a2 a3 a4 a5 a6 a7 _ hs).mono ?_; rintro e w' ⟨rfl, rfl⟩)
      go_ret
      exact ⟨rfl, Below.refl _ _⟩
    by_cases ha3 : 131072 < a3.size
    · go_enter Try.func4, Try.ntmps4
      go_wp2_with (go_at_call 15; refine (bytes15_true a0 a1 a2 a3 a4 a5 a6 a7 _ hs).mono ?_; rintro e w' ⟨rfl, rfl⟩)
      go_ret
      exact ⟨rfl, Below.refl _ _⟩
    by_cases ha5 : 131072 < a5.size
    · go_enter Try.func4, Try.ntmps4
      go_wp2_with (go_at_call 15; refine (bytes15_true a0 a1 a2 a3 a4 a5 a6 a7 _ hs).mono ?_; rintro e w' ⟨rfl, rfl⟩)
      go_ret
      exact ⟨rfl, Below.refl _ _⟩
    by_cases ha7 : 131072 < a7.size
    · go_enter Try.func4, Try.ntmps4
      go_wp2_with (go_at_call 15; refine (bytes15_true a0 a1 a2 a3 a4 a5 a6 a7 _ hs).mono ?_; rintro e w' ⟨rfl, rfl⟩)
      go_ret
      exact ⟨rfl, Below.refl _ _⟩
    exact indep_walk a0 a1 a2 a3 a4 a5 a6 a7 w (by omega) (by omega) (by omega) (by omega) (by omega)
  · go_enter Try.func4, Try.ntmps4
    go_wp2_with (go_at_call 15; refine (bytes15_false a0 a1 a2 a3 a4 a5 a6 a7 _ w0 w2 w3 w5 w7 (by omega)).mono ?_; rintro e w' ⟨rfl, rfl⟩)
    go_ret
    exact ⟨rfl, Below.refl _ _⟩

end Go.Proofs.Qxb6608933a
