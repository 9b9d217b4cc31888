import Derived.Test.Qxb6608933aList
namespace Go.Proofs.Qxb6608933a
open Go.RowKit

/-- The problems that a law takes: element j's line is L j, its reason R j. -/
def Probs (w : World) (b off len : Nat) (L : Nat → Int) (R : Nat → ByteArray) : Prop :=
  ∀ j, j < len → w.cell? ⟨b, off + j * 2, none⟩ = some (.int .i64 (L j)) ∧ w.cell? ⟨b, off + j * 2 + 1, none⟩ = some (.string (R j))

/-- What the bound on lengths answers: true only where every length is small. -/
def Small (len : Nat) (R : Nat → ByteArray) (w : World) (e : Ending) (w' : World) : Prop :=
  w = w' ∧ (e = .returned (.bool false) ∨ (e = .returned (.bool true) ∧ len ≤ 1048576 ∧ ∀ j, j < len → (R j).size ≤ 1048576))

set_option maxHeartbeats 1000000 in
theorem bytes17_loop (a0 : ByteArray) (a1 : Int) (a2 : ByteArray) (b off len cap : Nat) (L : Nat → Int) (R : Nat → ByteArray) (w : World) (hs : a0.size + a2.size + len ≤ 1048576) (hp : Probs w b off len L R) (hR : ∀ j, j < len → (R j).size ≤ maxLen) :
    Calls Try.prog 17 #[.string a0, .int .i64 a1, .string a2, .slice (some ⟨b, off, none⟩) len cap] w (Small len R w) := by
  unfold maxLen at hR
  go_enter Try.func17, Try.ntmps17
  go_wp2
  go_loop [9, 10] (fun n i => ∃ (k : Nat) (z : Int), k ≤ len ∧ i = .int .i64 k ∧ n = .int .i64 z ∧ 0 ≤ z ∧ z ≤ 1048576 ∧ ∀ j, j < k → (R j).size ≤ 1048576) (fun _ i => len - (intOf i).toNat)
  case atStart => exact ⟨0, _, Nat.zero_le _, rfl, rfl, by omega, by omega, fun j hj => absurd hj (Nat.not_lt_zero _)⟩
  case round =>
    obtain ⟨k, z, hk, rfl, rfl, hz0, hz1, hall⟩ := hrel
    have HA : Hid (∀ j, j < k → (R j).size ≤ 1048576) := hall
    clear hall
    by_cases hlt : k < len
    · obtain ⟨c0, c1⟩ := hp k hlt
      have hRk := hR k hlt
      by_cases h1 : (R k).size ≤ 1048576
      · by_cases h2 : z + (R k).size ≤ 1048576
        · go_wp2
          go_round
          case rel => exact ⟨k + 1, _, by omega, by go_num, rfl, by omega, by omega, fun j hj => if h : j < k then HA.out j h else by rw [show j = k from by omega]; exact h1⟩
          case measure => simp [intOf]; omega
        · go_wp2
          go_ret
          exact ⟨rfl, .inl rfl⟩
      · go_wp2
        go_ret
        exact ⟨rfl, .inl rfl⟩
    · go_wp2
      go_ret
      exact ⟨rfl, .inr ⟨rfl, by omega, fun j hj => HA.out j (by omega)⟩⟩

set_option maxHeartbeats 1000000 in
/-- No problem at all: whatever the slice's address. -/
theorem bytes17_none (a0 : ByteArray) (a1 : Int) (a2 : ByteArray) (a : Option Addr) (cap : Nat) (R : Nat → ByteArray) (w : World) (hs : a0.size + a2.size ≤ 1048576) :
    Calls Try.prog 17 #[.string a0, .int .i64 a1, .string a2, .slice a 0 cap] w (Small 0 R w) := by
  go_enter Try.func17, Try.ntmps17
  go_wp2
  refine wp_loop_rounds 1 ?_
  rw [rounds_succ]
  go_wp2
  go_ret
  exact ⟨rfl, .inr ⟨rfl, by omega, fun j hj => absurd hj (Nat.not_lt_zero _)⟩⟩

set_option maxHeartbeats 1000000 in
/-- Too long ahead of the loop. -/
theorem bytes17_big (a0 : ByteArray) (a1 : Int) (a2 : ByteArray) (a : Option Addr) (len cap : Nat) (R : Nat → ByteArray) (w : World) (w0 : a0.size ≤ maxLen) (w2 : a2.size ≤ maxLen) (wl : len ≤ maxLen) (hs : 1048576 < a0.size + a2.size + len) :
    Calls Try.prog 17 #[.string a0, .int .i64 a1, .string a2, .slice a len cap] w (Small len R w) := by
  unfold maxLen at w0 w2 wl
  by_cases c0 : 1048576 < a0.size
  · go_enter Try.func17, Try.ntmps17
    go_wp2
    go_ret
    exact ⟨rfl, .inl rfl⟩
  by_cases c2 : 1048576 < a2.size
  · go_enter Try.func17, Try.ntmps17
    go_wp2
    go_ret
    exact ⟨rfl, .inl rfl⟩
  by_cases c3 : 1048576 < a0.size + a2.size
  · go_enter Try.func17, Try.ntmps17
    go_wp2
    go_ret
    exact ⟨rfl, .inl rfl⟩
  by_cases c4 : 1048576 < len
  · go_enter Try.func17, Try.ntmps17
    go_wp2
    go_ret
    exact ⟨rfl, .inl rfl⟩
  go_enter Try.func17, Try.ntmps17
  go_wp2
  go_ret
  exact ⟨rfl, .inl rfl⟩

end Go.Proofs.Qxb6608933a
