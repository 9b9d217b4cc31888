import Derived.Test.Qxb6608933aNew
import Derived.Deep.AppendLies
namespace Go.Proofs.Qxb6608933a
open Go.RowKit

/-- A builder in memory: block B the builder, block L its list; v: its problems. -/
def Bld (w : World) (B L M m1 m2 : Nat) (file : ByteArray) (year : Int) (unit : ByteArray) (v : Value) : Prop :=
  w.heap[B]? = some (.cells #[.pointer (some ⟨L, 0, none⟩), .string unit, .map (some m1), .map (some m2), v] 57 (0, 0)) ∧
  w.heap[L]? = some (.cells #[.int .i64 year, .string file, .slice none 0 0, .map (some M)] 30 (0, 0))

/-- What was there has not turned, but for the blocks B and r. -/
structure Kept (B : Nat) (r : Option Nat) (w w' : World) : Prop where
  os : w'.os = w.os
  tape : w'.tape = w.tape
  output : w'.output = w.output
  size : w.heap.size ≤ w'.heap.size
  block : ∀ k, k < w.heap.size → k ≠ B → some k ≠ r → w'.heap[k]? = w.heap[k]?

theorem Try.info49 : (Try.prog.info? 49).map (fun i => (i.zero, i.size, i.bytes)) = some (some (.agg #[.int .i64 0, .string ByteArray.empty]), 2, 24) := by kernel_rfl

theorem cellAt {w : World} {B : Nat} {cs : Array Value} {t : TypeId} {fr : Nat × Nat} (h : w.heap[B]? = some (.cells cs t fr)) (j : Nat) : w.cell? ⟨B, j, none⟩ = cs[j]? := cell_of_row w B j cs t fr h

theorem Bld.cell4 {w : World} {B L M m1 m2 : Nat} {file : ByteArray} {year : Int} {unit : ByteArray} {v : Value} (h : Bld w B L M m1 m2 file year unit v) : w.cell? ⟨B, 4, none⟩ = some v := by
  rw [cellAt h.1]; rfl
theorem Bld.free {w : World} {B L M m1 m2 : Nat} {file : ByteArray} {year : Int} {unit : ByteArray} {v : Value} (h : Bld w B L M m1 m2 file year unit v) (j : Nat) : w.frozen? ⟨B, j, none⟩ = false := by
  simp [World.frozen?, h.1]
theorem lt_of_heap {w : World} {B : Nat} {o : Obj} (h : w.heap[B]? = some o) : B < w.heap.size := (Array.getElem?_eq_some_iff.1 h).1

/-- The row that the problems own is neither the builder nor its list: their blocks bear other types. -/
theorem ne_row {w : World} {base n : Nat} {v : Value} {xs : List Value} (hown : w.ownsRow base 49 2 v n xs) {k : Nat} {cs : Array Value} {t : TypeId} {fr : Nat × Nat} (hk : w.heap[k]? = some (.cells cs t fr)) (ht : t ≠ 49) : some k ≠ v.ownBlock := by
  intro h
  rcases hown.2 with ⟨rfl, _⟩ | ⟨g, cap, cur, rfl, _, hg, _⟩
  · simp [Value.ownBlock] at h
  · simp [Value.ownBlock] at h
    subst h
    rw [hg] at hk
    simp at hk
    exact ht hk.2.1.symm

theorem heap_set {w : World} {B : Nat} {cs : Array Value} {t : TypeId} (h : w.heap[B]? = some (.cells cs t (0, 0))) (j : Nat) (u : Value) : (w.setCell ⟨B, j, none⟩ u).heap[B]? = some (.cells (cs.setIfInBounds j u) t (0, 0)) := by
  simp [World.setCell, Array.getElem?_modify, h]

theorem problem_end {B L M m1 m2 : Nat} {file : ByteArray} {year : Int} {unit : ByteArray} {v : Value} {base n : Nat} {xs ys : List Value} {w w1 : World} {o : Obj} {g cap : Nat}
    (hb : Bld w B L M m1 m2 file year unit v) (hown : w.ownsRow base 49 2 v n xs)
    (hown1 : w1.ownsRow base 49 2 (.slice (some ⟨g, 0, none⟩) (n + 1) cap) (n + 1) ys) (hgrow : (w.alloc o).grownBy w1 v.ownBlock) :
    Bld (w1.setCell ⟨B, 4, none⟩ (.slice (some ⟨g, 0, none⟩) (n + 1) cap)) B L M m1 m2 file year unit (.slice (some ⟨g, 0, none⟩) (n + 1) cap) ∧
    (w1.setCell ⟨B, 4, none⟩ (.slice (some ⟨g, 0, none⟩) (n + 1) cap)).ownsRow base 49 2 (.slice (some ⟨g, 0, none⟩) (n + 1) cap) (n + 1) ys ∧
    Kept B v.ownBlock w (w1.setCell ⟨B, 4, none⟩ (.slice (some ⟨g, 0, none⟩) (n + 1) cap)) := by
  have hB := lt_of_heap hb.1
  have hL := lt_of_heap hb.2
  have eB : w1.heap[B]? = w.heap[B]? := (hgrow.block B (by simp; omega) (ne_row hown hb.1 (by decide))).trans (heap_alloc_old w o hB)
  have eL : w1.heap[L]? = w.heap[L]? := (hgrow.block L (by simp; omega) (ne_row hown hb.2 (by decide))).trans (heap_alloc_old w o hL)
  have hLB : L ≠ B := by
    rintro rfl
    have := hb.1.symm.trans hb.2
    simp at this
  have hgB : g ≠ B := by
    rintro rfl
    exact ne_row hown1 (eB.trans hb.1) (by decide) rfl
  refine ⟨⟨?_, ?_⟩, ⟨hown1.1, ?_⟩, ⟨hgrow.os, hgrow.tape, hgrow.output, ?_, fun k hk hkB hkr => ?_⟩⟩
  · rw [heap_set (eB.trans hb.1)]; rfl
  · rw [Below.heap_setCell _ _ _ _ (by exact hLB)]; exact eL.trans hb.2
  · rcases hown1.2 with ⟨h, _⟩ | ⟨g', cap', cur, h, h1, h2, h3⟩
    · exact absurd h (by simp)
    · refine .inr ⟨g', cap', cur, h, h1, ?_, h3⟩
      simp at h
      obtain ⟨rfl, rfl⟩ := h
      rw [Below.heap_setCell _ _ _ _ (by exact hgB)]; exact h2
  · have := hgrow.size; simp at this; simp [World.setCell]; omega
  · rw [Below.heap_setCell _ _ _ _ (by exact hkB)]
    exact (hgrow.block k (by simp; omega) hkr).trans (heap_alloc_old w o hk)

set_option maxHeartbeats 400000 in
theorem problem22 (B L M m1 m2 : Nat) (file : ByteArray) (year : Int) (unit : ByteArray) (v : Value) (base n : Nat) (xs : List Value) (line : Int) (reason : ByteArray) (w : World)
    (hb : Bld w B L M m1 m2 file year unit v) (hown : w.ownsRow base 49 2 v n xs) (hbase : base ≤ w.heap.size) (hn : (n + 1) * 24 ≤ 140737488355328) :
    Calls Try.prog 22 #[.pointer (some ⟨B, 0, none⟩), .int .i64 line, .string reason] w fun e w' => e = .returned (.tuple #[]) ∧
      ∃ g cap, Bld w' B L M m1 m2 file year unit (.slice (some ⟨g, 0, none⟩) (n + 1) cap) ∧
        w'.ownsRow base 49 2 (.slice (some ⟨g, 0, none⟩) (n + 1) cap) (n + 1) (xs ++ [.int .i64 line, .string reason]) ∧ Kept B v.ownBlock w w' ∧ (v.ownBlock = some g ∨ g = w.heap.size + 1) := by
  obtain ⟨i0, hi0, hz0, hz1, hz2⟩ := info_parts Try.info49
  have hB := lt_of_heap hb.1
  have c4 := hb.cell4
  have f4 := hb.free 4
  go_enter Try.func22, Try.ntmps22
  go_wp2_with (at_builtin; refine wpList_append_lies _ rfl (.tmp 10) (.tmp 14) 32 rfl base 49 i0 _ 2 24 Try.underlying32 hi0 hz0 hz1 hz2 rfl (by omega) v n xs rfl (hown.alloc _) ⟨w.heap.size, 0, none⟩ 1 1 [.int .i64 line, .string reason] rfl rfl (World.news_of_block (cs := #[.int .i64 line, .string reason]) (t := 49) (fr := (0, 0)) (heap_alloc_new w _)) (by simp [Value.oneCell']) (by omega) (by unfold maxLen; omega) hn (by simp; omega) (w.heap.size + 1) (by simp) ?_)
  intro g cap w1 hown1 hgrow hat hlt
  have R := problem_end hb hown hown1 hgrow
  have hv1 : w1.cell? ⟨B, 4, none⟩ = some v := by
    rw [World.cell?_of_block (w := w) ((hgrow.block B (by simp; omega) (ne_row hown hb.1 (by decide))).trans (heap_alloc_old w _ hB))]; exact c4
  have hf1 : w1.frozen? ⟨B, 4, none⟩ = false := by
    rw [World.frozen?_of_block (w := w) ((hgrow.block B (by simp; omega) (ne_row hown hb.1 (by decide))).trans (heap_alloc_old w _ hB))]; exact f4
  go_wp2
  go_end0
  exact ⟨rfl, g, cap, R.1, R.2.1, R.2.2, hat⟩

set_option maxHeartbeats 400000 in
theorem problem16 (B L M m1 m2 : Nat) (file : ByteArray) (year : Int) (unit : ByteArray) (v : Value) (base n : Nat) (xs : List Value) (line : Int) (reason : ByteArray) (w : World)
    (hb : Bld w B L M m1 m2 file year unit v) (hown : w.ownsRow base 49 2 v n xs) (hbase : base ≤ w.heap.size) (hn : (n + 1) * 24 ≤ 140737488355328) :
    Calls Try.prog 16 #[.pointer (some ⟨B, 0, none⟩), .int .i64 line, .string reason] w fun e w' => e = .returned (.tuple #[]) ∧
      ∃ g cap, Bld w' B L M m1 m2 file year unit (.slice (some ⟨g, 0, none⟩) (n + 1) cap) ∧
        w'.ownsRow base 49 2 (.slice (some ⟨g, 0, none⟩) (n + 1) cap) (n + 1) (xs ++ [.int .i64 line, .string reason]) ∧ Kept B v.ownBlock w w' ∧ (v.ownBlock = some g ∨ g = w.heap.size + 1) := by
  go_enter Try.func16, Try.ntmps16
  go_wp2_with (go_at_call 22; refine (problem22 B L M m1 m2 file year unit v base n xs line reason w hb hown hbase hn).mono ?_; rintro e w' ⟨rfl, hR⟩)
  go_end0
  exact ⟨rfl, hR⟩

end Go.Proofs.Qxb6608933a
