/-
  THE PROOF OF 'Rows.FnProblemRecordsEveryProblemInOrderSaid': the walk; the frame is the guide's, for three plain arguments and a slice of structs, the world behind the call told by 'Below'.
-/
import Derived.Test.Qxb6608933aRecWalk
import Derived.WalkKit
import Derived.ProofKit
import Derived.OpenShut
import Derived.ShutString
import Derived.ChangeOld
import Derived.Below
import Derived.Deep.SlicePairs
namespace Go.Proofs.Qxb6608933a.fnProblemRecordsEveryProblemInOrder
open Go.ChangeShapes Go.WideShapes Go.ChangeAt Go.RowKit
open Go.ChangeMaps (open_string shut_string)
set_option linter.unusedVariables false      -- a walk need not use every 'w<i>' (that an integer argument fits its kind)

theorem own : ownKnob Try.prog.godebug = none := by kernel_rfl
theorem laidOut : laidOutB Try.prog = true := by kernel_rfl

/-- What the walk is told of the slice of problems: no element; or each element's two cells. -/
def IsProbs (w : World) (a : Option Addr) (len : Nat) : Prop :=
  len ≤ maxLen ∧ (len = 0 ∨ ∃ b off L R, a = some ⟨b, off, none⟩ ∧ b < w.heap.size ∧ Probs w b off len L R ∧ ∀ j, j < len → (R j).size ≤ maxLen)

/-! ### THE WALK -/
theorem walk (a0 : ByteArray) (a1 : Int) (a2 : ByteArray) (a3 : Option Addr) (len3 cap3 : Nat) (w : World) (w0 : a0.size ≤ maxLen) (w1 : (Lit.int .i64 a1).wf = true) (w2 : a2.size ≤ maxLen) (w3 : IsProbs w a3 len3) :
    Calls Try.prog 5 #[.string a0, .int .i64 a1, .string a2, .slice a3 len3 cap3] w fun e w' => e = .returned (.bool true) ∧ Below w.heap.size w w' := by
  obtain ⟨wl, h⟩ := w3
  by_cases h0 : len3 = 0
  · subst h0
    exact records_none a0 a1 a2 a3 cap3 w w0 w2
  · rcases h with h | ⟨b, off, L, R, rfl, hb, hp, hR⟩
    · exact absurd h h0
    · exact records_walk a0 a1 a2 b off len3 cap3 L R w w0 w2 wl (by omega) hp hR hb

/-- The bytes of a string value. -/
def strOf : Value → ByteArray | .string s => s | _ => ByteArray.empty

/-- The argument, opened. -/
theorem opened {H : Type} {enc : TypeId × Value → H} {W : World} {a3 : Option Addr} {len3 cap3 fuel : Nat} {x : DataW H × List MemPlace}
    (hf : DataW.trod enc Try.prog W 0 (fun _ => true) true fuel 50 [.slice a3 len3 cap3] = some x) : IsProbs W a3 len3 := by
  rcases Deep.open_slice_pairs Try.underlying50 Try.underlying52 (by kernel_rfl) rfl rfl (by kernel_rfl) (by kernel_rfl) hf with ⟨hcs, _⟩ | ⟨a, l, c, m, n, V0, V1, D0, D1, P0, P1, hcs, _, hl, hm, hmm, _, hx⟩
  · simp at hcs
    obtain ⟨rfl, rfl, rfl⟩ := hcs
    exact ⟨Nat.zero_le _, .inl rfl⟩
  · simp at hcs
    obtain ⟨rfl, rfl, rfl⟩ := hcs
    simp at hmm
    subst hmm
    refine ⟨by omega, ?_⟩
    by_cases h0 : len3 = 0
    · exact .inl h0
    right
    obtain ⟨b, off, spot⟩ := a
    have hspot : spot = none := by simpa [Addr.add] using World.cell?_spot (hx 0 (by omega)).1
    subst hspot
    have hv : ∀ j, j < len3 → V0 j = .int .i64 (intOf (V0 j)) ∧ V1 j = .string (strOf (V1 j)) ∧ (strOf (V1 j)).size ≤ maxLen := by
      intro j hj
      obtain ⟨_, _, t0, t1⟩ := hx j (by omega)
      obtain ⟨z, e0, _, _⟩ := DataW.trod_int Try.underlying3 t0
      obtain ⟨r, e1, _, hr⟩ := DataW.trod_string Try.underlying9 t1
      have e0' : V0 j = .int .i64 z := by simpa using e0
      have e1' : V1 j = .string r := by simpa using e1
      rw [e0', e1']
      exact ⟨rfl, rfl, hr⟩
    refine ⟨b, off, fun j => intOf (V0 j), fun j => strOf (V1 j), rfl, World.block_lt_of_cell? W _ (hx 0 (by omega)).1, fun j hj => ?_, fun j hj => (hv j hj).2.2⟩
    obtain ⟨c0, c1, _, _⟩ := hx j (by omega)
    rw [add_plain] at c0 c1
    exact ⟨c0.trans (congrArg some (hv j hj).1), c1.trans (congrArg some (hv j hj).2.1)⟩

/-! ### THE ROW's STEP -/
set_option maxRecDepth 100000 in
theorem lifted (os : Os) (started : os.Started) (H : Type) (enc : TypeId × Value → H) :
    ReturnsInHanded {} Try.checked os 5 .any (Rows.fnProblemRecordsEveryProblemInOrderSpec.pre6 enc Try.prog Try.f5 Rows.fnProblemRecordsEveryProblemInOrderRow.domain false) (Rows.fnProblemRecordsEveryProblemInOrderSpec.post enc Try.prog Try.f5 false true false false) := by
  refine returnsInHanded_of_change (C := Try.checked) own started (by kernel_rfl) Try.func5
    (ChangeSpec.witness6 (enc := enc) (C := Try.checked) false ⟨#[], #[.string ByteArray.empty, .int .i64 0, .string ByteArray.empty, .slice none 0 0], []⟩ 8 (by kernel_rfl) (by kernel_rfl) (by kernel_rfl) (by kernel_rfl)) ?_
  intro W base args ds gs before hval0 hW hcnd _
  have hval : ∀ (j : Nat) t v, Try.f5.params[j]? = some t → args[j]? = some v → Value.okWide Try.prog W .any base t v := hval0
  have hW' := hW
  obtain ⟨p, q, hA0, hV, rfl, hfz, hnd⟩ := hW
  have hA : DataW.TrodAll enc Try.prog W 0 (fun _ => true) true Try.f5.params.toList args.toList ds p := hA0
  rw [Try.params5] at hA hval
  obtain ⟨v0, vs0, d0, ds0, p0, q0, hargs, rfl, rfl, h0, r0⟩ := trodAll_cons hA
  obtain ⟨v1, vs1, d1, ds1, p1, q1, rfl, rfl, rfl, h1, r1⟩ := trodAll_cons r0
  obtain ⟨v2, vs2, d2, ds2, p2, q2, rfl, rfl, rfl, h2, r2⟩ := trodAll_cons r1
  obtain ⟨v3, vs3, d3, ds3, p3, q3, rfl, rfl, rfl, h3, r3⟩ := trodAll_cons r2
  obtain ⟨rfl, rfl, rfl⟩ := trodAll_nil r3
  obtain rfl : args = #[v0, v1, v2, v3] := by cases args; simp_all
  obtain ⟨rfl, rfl⟩ := trodVars_none hV
  obtain ⟨a0, rfl, rfl, rfl, w0⟩ := open_string Try.underlying9 (hval 0 9 v0 rfl rfl) h0
  obtain ⟨a1, rfl, rfl, rfl, w1⟩ := open_int Try.underlying3 (hval 1 3 v1 rfl rfl) h1
  obtain ⟨a2, rfl, rfl, rfl, w2⟩ := open_string Try.underlying9 (hval 2 9 v2 rfl rfl) h2
  obtain ⟨a3, len3, cap3, rfl⟩ := okWide_slice Try.underlying50 (hval 3 50 v3 rfl rfl)
  have k3 := h3
  have lt3 : ∀ x ∈ p3, x.block < W.heap.size := by obtain ⟨m, hm⟩ := k3; exact DataW.trod_lt m _ _ _ hm
  have w3 : IsProbs W a3 len3 := by
    obtain ⟨fuel, hf⟩ := h3
    exact opened (cap3 := cap3) (by simpa [Value.cells] using hf)
  clear hA0 hval0
  refine (walk a0 a1 a2 a3 len3 cap3 W w0 w1 w2 w3).mono fun e W' ⟨he, bel⟩ => ?_
  subst he
  exact ⟨_, rfl, _, _, _, [], _, [], hW', trodAll_mk1 (shut_bool Try.underlying4 _), (trodAll_cons_mk (shut_string Try.underlying9 w0) (trodAll_cons_mk (shut_int Try.underlying3 w1) (trodAll_cons_mk (shut_string Try.underlying9 w2) (trodAll_cons_mk (Below.trod laidOut (by kernel_rfl) (of_decide_eq_true (by kernel_rfl)) k3 bel lt3) trodAll_mk0)))), rfl, bel.frame _, fun h => by cases h⟩

theorem over : Rows.fnProblemRecordsEveryProblemInOrderRow.holds Try.pinned (OpenSpec.ofChange Rows.fnProblemRecordsEveryProblemInOrderSpec) :=
  OpenClaim.holds_of_wide 5 Try.f5 rfl rfl rfl rfl rfl rfl rfl ⟨rfl, rfl, rfl, rfl, rfl⟩ rfl rfl rfl rfl rfl (by kernel_rfl) Try.func5 (by kernel_rfl)
    (of_decide_eq_true (by kernel_rfl)) (by unfold Func.isWrapper; first | (rw [if_pos (by decide +kernel)]; kernel_rfl) | (rw [if_neg (by decide +kernel)]; exact ⟨rfl, rfl⟩))
    (fun os started H enc _ => lifted os started H enc)

/-- THE STATEMENT. -/
theorem proved : Rows.FnProblemRecordsEveryProblemInOrderSaid :=
  over

end Go.Proofs.Qxb6608933a.fnProblemRecordsEveryProblemInOrder
