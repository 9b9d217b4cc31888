import Derived.Test.Qxb6608933aRecBytes
import Derived.Deep.QuietTactic
import Derived.BigQuiet
namespace Go.Proofs.Qxb6608933a
open Go.RowKit

/-- The cells of the first n problems. -/
def pairs (L : Nat → Int) (R : Nat → ByteArray) : Nat → List Value
  | 0 => []
  | n + 1 => pairs L R n ++ [.int .i64 (L n), .string (R n)]
theorem pairs_length (L : Nat → Int) (R : Nat → ByteArray) (n : Nat) : (pairs L R n).length = n * 2 := by
  induction n with
  | zero => rfl
  | succ n ih => simp [pairs, ih]; omega
theorem pairs_line (L : Nat → Int) (R : Nat → ByteArray) (n j : Nat) (h : j < n) : (pairs L R n)[j * 2]? = some (.int .i64 (L j)) := by
  induction n with
  | zero => omega
  | succ n ih =>
    have hl := pairs_length L R n
    by_cases hj : j < n
    · rw [pairs, List.getElem?_append_left (by omega)]; exact ih hj
    · have e : j = n := by omega
      subst e
      rw [pairs, List.getElem?_append_right (by omega), hl]; simp
theorem pairs_reason (L : Nat → Int) (R : Nat → ByteArray) (n j : Nat) (h : j < n) : (pairs L R n)[j * 2 + 1]? = some (.string (R j)) := by
  induction n with
  | zero => omega
  | succ n ih =>
    have hl := pairs_length L R n
    by_cases hj : j < n
    · rw [pairs, List.getElem?_append_left (by omega)]; exact ih hj
    · have e : j = n := by omega
      subst e
      rw [pairs, List.getElem?_append_right (by omega), hl]; simp

theorem addr_add (g j : Nat) : (⟨g, 0, none⟩ : Addr).add j = ⟨g, j, none⟩ := by unfold Addr.add; split <;> simp_all

/-- What the builder's row holds. -/
theorem row_cells {w : World} {base g n cap : Nat} {L : Nat → Int} {R : Nat → ByteArray} (hown : w.ownsRow base 49 2 (.slice (some ⟨g, 0, none⟩) n cap) n (pairs L R n)) (j : Nat) (hj : j < n) :
    w.cell? ⟨g, j * 2, none⟩ = some (.int .i64 (L j)) ∧ w.cell? ⟨g, j * 2 + 1, none⟩ = some (.string (R j)) := by
  have h0 := hown.cells (g := g) rfl (j * 2) _ (pairs_line L R n j hj)
  have h1 := hown.cells (g := g) rfl (j * 2 + 1) _ (pairs_reason L R n j hj)
  rw [addr_add] at h0 h1
  exact ⟨h0, h1⟩

set_option maxHeartbeats 1000000 in
theorem same18 (g b off len cap cap' : Nat) (L : Nat → Int) (R : Nat → ByteArray) (base : Nat) (w : World) (hlen : len ≤ 1048576) (hown : w.ownsRow base 49 2 (.slice (some ⟨g, 0, none⟩) len cap') len (pairs L R len)) (hp : Probs w b off len L R) :
    Calls Try.prog 18 #[.slice (some ⟨g, 0, none⟩) len cap', .slice (some ⟨b, off, none⟩) len cap] w fun e w' => e = .returned (.bool true) ∧ ∃ n, w' = w.drewN n := by
  go_enter Try.func18, Try.ntmps18
  go_wp2
  go_loopw [13] (fun i wr => ∃ k n : Nat, k ≤ len ∧ i = .int .i64 k ∧ wr = w.drewN n) (fun i _ => len - (intOf i).toNat)
  case atStart => exact ⟨0, 0, Nat.zero_le _, rfl, rfl⟩
  case round =>
    obtain ⟨k, n, hk, rfl, rfl⟩ := hrel
    by_cases hlt : k < len
    · obtain ⟨c0, c1⟩ := hp k hlt
      obtain ⟨d0, d1⟩ := row_cells hown k hlt
      have i0 : (0 : Int) ≤ (k : Int) := by omega
      have i1 : (k : Int) < (len : Int) := by omega
      go_wp2
      go_quiet (fail)
      go_wp2
      go_roundw
      case rel => exact ⟨k + 1, n + nq, by omega, by go_num, rfl⟩
      case measure => simp [intOf]; omega
    · go_wp2
      go_ret
      exact ⟨rfl, n, rfl⟩

set_option maxHeartbeats 1000000 in
/-- No problem on either side. -/
theorem same18_none (a : Option Addr) (cap : Nat) (w : World) :
    Calls Try.prog 18 #[.slice none 0 0, .slice a 0 cap] w fun e w' => e = .returned (.bool true) ∧ w = w' := by
  go_enter Try.func18, Try.ntmps18
  go_wp2
  refine wp_loop_rounds 1 ?_
  rw [rounds_succ]
  go_wp2
  go_ret
  exact ⟨rfl, rfl⟩

/-- The bound on lengths, whatever the slice. -/
theorem bytes17_any (a0 : ByteArray) (a1 : Int) (a2 : ByteArray) (b off len cap : Nat) (L : Nat → Int) (R : Nat → ByteArray) (w : World) (w0 : a0.size ≤ maxLen) (w2 : a2.size ≤ maxLen) (wl : len ≤ maxLen) (hp : Probs w b off len L R) (hR : ∀ j, j < len → (R j).size ≤ maxLen) :
    Calls Try.prog 17 #[.string a0, .int .i64 a1, .string a2, .slice (some ⟨b, off, none⟩) len cap] w (Small len R w) := by
  by_cases hs : a0.size + a2.size + len ≤ 1048576
  · exact bytes17_loop a0 a1 a2 b off len cap L R w hs hp hR
  · exact bytes17_big a0 a1 a2 _ len cap R w w0 w2 wl (by omega)
theorem bytes17_zero (a0 : ByteArray) (a1 : Int) (a2 : ByteArray) (a : Option Addr) (cap : Nat) (R : Nat → ByteArray) (w : World) (w0 : a0.size ≤ maxLen) (w2 : a2.size ≤ maxLen) :
    Calls Try.prog 17 #[.string a0, .int .i64 a1, .string a2, .slice a 0 cap] w (Small 0 R w) := by
  by_cases hs : a0.size + a2.size ≤ 1048576
  · exact bytes17_none a0 a1 a2 a cap R w hs
  · exact bytes17_big a0 a1 a2 _ 0 cap R w w0 w2 (Nat.zero_le _) (by omega)

end Go.Proofs.Qxb6608933a
