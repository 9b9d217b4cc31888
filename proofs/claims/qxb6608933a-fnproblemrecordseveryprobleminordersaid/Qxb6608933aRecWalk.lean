import Derived.Test.Qxb6608933aRecSame
import Derived.Deep.RegionHeld3
namespace Go.Proofs.Qxb6608933a
open Go.RowKit

/-- ZZnewListBuilder, its blocks under letters. -/
theorem new8y (file : ByteArray) (year : Int) (unit : ByteArray) (w : World) :
    Calls Try.prog 8 #[.string file, .int .i64 year, .string unit] w fun e w' => ∃ B L M m1 m2, e = .returned (.pointer (some ⟨B, 0, none⟩)) ∧ Bld w' B L M m1 m2 file year unit (.slice none 0 0) ∧
      Below w.heap.size w w' ∧ w.heap.size ≤ B := by
  refine (new8 file year unit w).mono ?_
  rintro e w' ⟨rfl, rfl⟩
  exact ⟨_, _, _, _, _, rfl, laid_bld w file year unit, laid_below w file year unit, by omega⟩

theorem Bld.drew {w : World} {B L M m1 m2 : Nat} {file : ByteArray} {year : Int} {unit : ByteArray} {v : Value} (h : Bld w B L M m1 m2 file year unit v) : Bld w.drew B L M m1 m2 file year unit v := h
theorem Bld.drewN {w : World} {B L M m1 m2 : Nat} {file : ByteArray} {year : Int} {unit : ByteArray} {v : Value} (h : Bld w B L M m1 m2 file year unit v) (n : Nat) : Bld (w.drewN n) B L M m1 m2 file year unit v := h
theorem owns_drewN {w : World} {base n : Nat} {v : Value} {xs : List Value} (h : w.ownsRow base 49 2 v n xs) (k : Nat) : (w.drewN k).ownsRow base 49 2 v n xs := h
theorem below_draws {B n : Nat} {a w : World} (h : Below B a w) : Below B a (w.drewN n) := ⟨h.os, h.tape, h.output, h.size, h.block⟩
theorem Probs.later {w w' : World} {b off len : Nat} {L : Nat → Int} {R : Nat → ByteArray} (h : Probs w b off len L R) (hb : b < w.heap.size) (hbel : Below w.heap.size w w') : Probs w' b off len L R := fun j hj =>
  ⟨(hbel.cell (p := ⟨b, off + j * 2, none⟩) hb).trans (h j hj).1, (hbel.cell (p := ⟨b, off + j * 2 + 1, none⟩) hb).trans (h j hj).2⟩

set_option maxRecDepth 100000 in
set_option maxHeartbeats 2000000 in
theorem records_walk (a0 : ByteArray) (a1 : Int) (a2 : ByteArray) (b off len cap : Nat) (L : Nat → Int) (R : Nat → ByteArray) (w : World) (w0 : a0.size ≤ maxLen) (w2 : a2.size ≤ maxLen) (wl : len ≤ maxLen) (hpos : 0 < len)
    (hp : Probs w b off len L R) (hR : ∀ j, j < len → (R j).size ≤ maxLen) (hbw : b < w.heap.size) :
    Calls Try.prog 5 #[.string a0, .int .i64 a1, .string a2, .slice (some ⟨b, off, none⟩) len cap] w fun e w' => e = .returned (.bool true) ∧ Below w.heap.size w w' := by
  go_enter Try.func5, Try.ntmps5
  go_wp2_with fail
  refine (bytes17_any a0 a1 a2 b off len cap L R w w0 w2 wl hp hR).mono ?_
  rintro e w' ⟨rfl, rfl | ⟨rfl, hl, hsm⟩⟩
  · go_wp2_with fail
    go_ret
    exact ⟨rfl, Below.refl _ _⟩
  clear hR wl
  unfold maxLen at w0 w2
  by_cases h0 : 262144 < a0.size
  · go_wp2_with fail
    go_ret
    exact ⟨rfl, Below.refl _ _⟩
  by_cases h2 : 262144 < a2.size
  · go_wp2_with fail
    go_ret
    exact ⟨rfl, Below.refl _ _⟩
  go_wp2_with fail
  go_loop [9, 30] (fun n i => ∃ (k : Nat) (z : Int), k ≤ len ∧ i = .int .i64 k ∧ n = .int .i64 z ∧ 0 ≤ z ∧ z ≤ 524288) (fun _ i => len - (intOf i).toNat)
  case atStart => exact ⟨0, 0, Nat.zero_le _, rfl, rfl, by omega, by omega⟩
  case round =>
    obtain ⟨k, z, hk, rfl, rfl, hz0, hz1⟩ := hrel
    by_cases hlt : k < len
    · obtain ⟨c0, c1⟩ := hp k hlt
      have hRk := hsm k hlt
      by_cases h3 : z + 24 + (R k).size ≤ 524288
      · go_wp2_with fail
        go_round
        case rel => exact ⟨k + 1, _, by omega, by go_num, rfl, by omega, by omega⟩
        case measure => simp [intOf]; omega
      · go_wp2_with fail
        go_ret
        exact ⟨rfl, Below.refl _ _⟩
    · go_wp2_with fail
      clear hlt hk hz0 hz1
      refine (new8y a0 a1 a2 _).mono ?_
      rintro e W1 ⟨B, Lb, M, m1, m2, rfl, hb1, hl1, hHB⟩
      go_wp2_with fail
      go_loopw [54] (fun i wr => ∃ (k : Nat) (v : Value), k ≤ len ∧ i = .int .i64 k ∧ Bld wr B Lb M m1 m2 a0 a1 a2 v ∧ wr.ownsRow w.heap.size 49 2 v k (pairs L R k) ∧ Below w.heap.size w wr) (fun i _ => len - (intOf i).toNat)
      case atStart => exact ⟨0, _, Nat.zero_le _, rfl, hb1, World.ownsRow_nil _ _ _ _, hl1⟩
      case round =>
        obtain ⟨k, v, hk, rfl, hb, hown, hbel⟩ := hrel
        by_cases hlt : k < len
        · obtain ⟨c0, c1⟩ := hp.later hbw hbel k hlt
          have i0 : (0 : Int) ≤ (k : Int) := by omega
          have i1 : (k : Int) < (len : Int) := by omega
          go_wp2_with fail
          go_region_held3 (fun w' => w'.cell? ⟨b, off + k * 2, none⟩ = some (.int .i64 (L k)) ∧ w'.cell? ⟨b, off + k * 2 + 1, none⟩ = some (.string (R k))) (go_keep)
            ((go_at_call 16; refine (problem16 B Lb M m1 m2 a0 a1 a2 v w.heap.size k (pairs L R k) (L k) (R k) _ hb.drew hown.drew hbel.size (by omega)).mono ?_; rintro e W2 ⟨rfl, g, cap2, hb2, hown2, hk2, _⟩; have hbel2 := (hbel.drew).trans (hk2.below hbel.size hHB (fun j h => (hown.lt j h).1)); obtain ⟨d0, d1⟩ := hp.later hbw hbel2 k hlt))
          go_wp2_with fail
          go_roundw
          case rel => exact ⟨k + 1, _, by omega, by go_num, hb2, hown2, hbel2⟩
          case measure => simp [intOf]; omega
        · obtain rfl : k = len := by omega
          obtain ⟨g, cap3, rfl, _, _⟩ := hown.form hpos
          have hk0 : ((k : Int) == 0) = false := by simp; omega
          have hp3 := hp.later hbw hbel
          go_wp2_with fail
          refine (problems11 _ _ _ _ _ _ _ _ _ _ hb).mono ?_
          rintro e w' ⟨rfl, rfl⟩
          go_wp2_with fail
          refine (same18 g b off k cap cap3 L R _ _ hl hown hp3).mono ?_
          rintro e w' ⟨rfl, n1, rfl⟩
          go_wp2_with fail
          refine (list13_some _ _ _ _ _ _ _ _ g k cap3 _ hpos (hb.drewN n1)).mono ?_
          rintro e W4 ⟨q1, rfl, hg4⟩
          have hb4 := (hb.drewN n1).grown hg4
          have hown4 := owns_grown (owns_drewN hown n1) hg4
          have hbel4 := (below_draws (n := n1) hbel).trans (grown_below hg4 hbel.size)
          have hp4 := hp.later hbw hbel4
          clear hb hown hbel hg4 hp3
          go_wp2_with fail
          refine (problems11 _ _ _ _ _ _ _ _ _ _ hb4).mono ?_
          rintro e w' ⟨rfl, rfl⟩
          go_wp2_with fail
          refine (same18 g b off k cap cap3 L R _ _ hl hown4 hp4).mono ?_
          rintro e w' ⟨rfl, n2, rfl⟩
          go_wp2_with fail
          go_ret
          exact ⟨rfl, below_draws hbel4⟩

set_option maxRecDepth 100000 in
set_option maxHeartbeats 2000000 in
/-- No problem is reported: the no-rows problem alone. -/
theorem records_none (a0 : ByteArray) (a1 : Int) (a2 : ByteArray) (a : Option Addr) (cap : Nat) (w : World) (w0 : a0.size ≤ maxLen) (w2 : a2.size ≤ maxLen) :
    Calls Try.prog 5 #[.string a0, .int .i64 a1, .string a2, .slice a 0 cap] w fun e w' => e = .returned (.bool true) ∧ Below w.heap.size w w' := by
  go_enter Try.func5, Try.ntmps5
  go_wp2_with fail
  refine (bytes17_zero a0 a1 a2 a cap (fun _ => ByteArray.empty) w w0 w2).mono ?_
  rintro e w' ⟨rfl, rfl | ⟨rfl, _, _⟩⟩
  · go_wp2_with fail
    go_ret
    exact ⟨rfl, Below.refl _ _⟩
  unfold maxLen at w0 w2
  by_cases h0 : 262144 < a0.size
  · go_wp2_with fail
    go_ret
    exact ⟨rfl, Below.refl _ _⟩
  by_cases h2 : 262144 < a2.size
  · go_wp2_with fail
    go_ret
    exact ⟨rfl, Below.refl _ _⟩
  go_wp2_with fail
  refine wp_loop_rounds 1 ?_
  rw [rounds_succ]
  go_wp2_with fail
  refine (new8y a0 a1 a2 _).mono ?_
  rintro e W1 ⟨B, Lb, M, m1, m2, rfl, hb, hbel, hHB⟩
  go_wp2_with fail
  refine wp_loop_rounds 1 ?_
  rw [rounds_succ]
  go_wp2_with fail
  refine (problems11 _ _ _ _ _ _ _ _ _ _ hb).mono ?_
  rintro e w' ⟨rfl, rfl⟩
  go_wp2_with fail
  refine (same18_none a cap _).mono ?_
  rintro e w' ⟨rfl, rfl⟩
  go_wp2_with fail
  refine (list13_none _ _ _ _ _ _ _ _ w.heap.size _ hbel.size hb).mono ?_
  rintro e W4 ⟨q1, rfl, g, cap4, hb4, hown4, hk4⟩
  have hbel4 := hbel.trans (hk4.below hbel.size hHB (by simp))
  clear hb hbel hk4
  go_wp2_with fail
  refine (problems11 _ _ _ _ _ _ _ _ _ _ hb4).mono ?_
  rintro e w' ⟨rfl, rfl⟩
  go_wp2_with fail
  refine (only14 _ _ _ _ hown4).mono ?_
  rintro e w' ⟨rfl, rfl⟩
  go_wp2_with fail
  go_ret
  exact ⟨rfl, hbel4⟩

end Go.Proofs.Qxb6608933a
