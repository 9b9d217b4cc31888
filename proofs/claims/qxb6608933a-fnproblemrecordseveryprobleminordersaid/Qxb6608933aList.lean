import Derived.Test.Qxb6608933aProblem
import Derived.Deep.RegionHeld3
namespace Go.Proofs.Qxb6608933a
open Go.RowKit

theorem Bld.cell0 {w : World} {B L M m1 m2 : Nat} {file : ByteArray} {year : Int} {unit : ByteArray} {v : Value} (h : Bld w B L M m1 m2 file year unit v) : w.cell? ⟨B, 0, none⟩ = some (.pointer (some ⟨L, 0, none⟩)) := by
  rw [cellAt h.1]; rfl
theorem Bld.cell1 {w : World} {B L M m1 m2 : Nat} {file : ByteArray} {year : Int} {unit : ByteArray} {v : Value} (h : Bld w B L M m1 m2 file year unit v) : w.cell? ⟨B, 1, none⟩ = some (.string unit) := by
  rw [cellAt h.1]; rfl
theorem Bld.year {w : World} {B L M m1 m2 : Nat} {file : ByteArray} {year : Int} {unit : ByteArray} {v : Value} (h : Bld w B L M m1 m2 file year unit v) : w.cell? ⟨L, 0, none⟩ = some (.int .i64 year) := by
  rw [cellAt h.2]; rfl
theorem Bld.file {w : World} {B L M m1 m2 : Nat} {file : ByteArray} {year : Int} {unit : ByteArray} {v : Value} (h : Bld w B L M m1 m2 file year unit v) : w.cell? ⟨L, 1, none⟩ = some (.string file) := by
  rw [cellAt h.2]; rfl
theorem Bld.areas {w : World} {B L M m1 m2 : Nat} {file : ByteArray} {year : Int} {unit : ByteArray} {v : Value} (h : Bld w B L M m1 m2 file year unit v) : w.cell? ⟨L, 2, none⟩ = some (.slice none 0 0) := by
  rw [cellAt h.2]; rfl
theorem Bld.map {w : World} {B L M m1 m2 : Nat} {file : ByteArray} {year : Int} {unit : ByteArray} {v : Value} (h : Bld w B L M m1 m2 file year unit v) : w.cell? ⟨L, 3, none⟩ = some (.map (some M)) := by
  rw [cellAt h.2]; rfl

theorem grown_alloc_drew (w : World) (o : Obj) : w.grownBy (w.alloc o).drew none :=
  have h := World.grownBy_alloc w o none
  ⟨h.os, h.tape, h.output, h.size, h.block⟩

set_option maxHeartbeats 800000 in
theorem list21_some (B L M m1 m2 : Nat) (file : ByteArray) (year : Int) (unit : ByteArray) (g n cap : Nat) (w : World) (hn : 1 ≤ n)
    (hb : Bld w B L M m1 m2 file year unit (.slice (some ⟨g, 0, none⟩) n cap)) :
    Calls Try.prog 21 #[.pointer (some ⟨B, 0, none⟩)] w fun e w' => ∃ q, e = .returned (.tuple #[.pointer none, .iface 61 (.pointer (some ⟨q, 0, none⟩))]) ∧ w.grownBy w' none := by
  have c0 := hb.cell0
  have c4 := hb.cell4
  have l1 := hb.file
  have l2 := hb.areas
  have hn0 : (0 : Int) < (n : Int) := by omega
  have hn1 : ((n : Int) == 0) = false := by simp; omega
  go_enter Try.func21, Try.ntmps21
  go_wp2
  go_region_held3 (fun w' => w'.cell? ⟨B, 0, none⟩ = some (.pointer (some ⟨L, 0, none⟩)) ∧ w'.cell? ⟨B, 4, none⟩ = some (.slice (some ⟨g, 0, none⟩) n cap) ∧ w'.cell? ⟨L, 1, none⟩ = some (.string file)) (go_keep) (fail)
  go_wp2
  go_ret2
  exact ⟨_, rfl, grown_alloc_drew w _⟩

/-- 'no rows after the header'. -/
abbrev noRows : ByteArray := ⟨#[110, 111, 32, 114, 111, 119, 115, 32, 97, 102, 116, 101, 114, 32, 116, 104, 101, 32, 104, 101, 97, 100, 101, 114]⟩

theorem list_end {B L M m1 m2 : Nat} {file : ByteArray} {year : Int} {unit : ByteArray} {v v' : Value} {base n : Nat} {xs : List Value} {w w1 w2 : World}
    (hb : Bld w1 B L M m1 m2 file year unit v') (hown : w1.ownsRow base 49 2 v' n xs) (hk : Kept B v.ownBlock w w1) (hg : w1.grownBy w2 none) :
    Bld w2 B L M m1 m2 file year unit v' ∧ w2.ownsRow base 49 2 v' n xs ∧ Kept B v.ownBlock w w2 := by
  refine ⟨⟨(hg.block B (lt_of_heap hb.1) (by simp)).trans hb.1, (hg.block L (lt_of_heap hb.2) (by simp)).trans hb.2⟩, ?_, ⟨hg.os.trans hk.os, hg.tape.trans hk.tape, hg.output.trans hk.output, Nat.le_trans hk.size hg.size, fun k h1 h2 h3 => ?_⟩⟩
  · refine hown.kept hg ?_
    cases h : v'.ownBlock with
    | none => exact .inl rfl
    | some k => exact .inr (by simp)
  · exact (hg.block k (Nat.lt_of_lt_of_le h1 hk.size) (by simp)).trans (hk.block k h1 h2 h3)

set_option maxHeartbeats 800000 in
theorem list21_none (B L M m1 m2 : Nat) (file : ByteArray) (year : Int) (unit : ByteArray) (base : Nat) (w : World) (hbase : base ≤ w.heap.size)
    (hb : Bld w B L M m1 m2 file year unit (.slice none 0 0)) :
    Calls Try.prog 21 #[.pointer (some ⟨B, 0, none⟩)] w fun e w' => ∃ q, e = .returned (.tuple #[.pointer none, .iface 61 (.pointer (some ⟨q, 0, none⟩))]) ∧
      ∃ g cap, Bld w' B L M m1 m2 file year unit (.slice (some ⟨g, 0, none⟩) 1 cap) ∧
        w'.ownsRow base 49 2 (.slice (some ⟨g, 0, none⟩) 1 cap) 1 [.int .i64 0, .string noRows] ∧ Kept B none w w' := by
  have c0 := hb.cell0
  have c4 := hb.cell4
  have l2 := hb.areas
  go_enter Try.func21, Try.ntmps21
  go_wp2_with (go_at_call 22; refine (problem22 B L M m1 m2 file year unit _ base 0 [] 0 noRows w hb (World.ownsRow_nil w base 49 2) hbase (by decide)).mono ?_; rintro e w1 ⟨rfl, g, cap, hb1, hown1, hk1, _⟩; have d0 := hb1.cell0; have d4 := hb1.cell4; have d1 := hb1.file)
  go_region_held3 (fun w' => w'.cell? ⟨B, 0, none⟩ = some (.pointer (some ⟨L, 0, none⟩)) ∧ w'.cell? ⟨B, 4, none⟩ = some (.slice (some ⟨g, 0, none⟩) 1 cap) ∧ w'.cell? ⟨L, 1, none⟩ = some (.string file)) (go_keep) (fail)
  go_wp2
  go_ret2
  exact ⟨_, rfl, g, cap, list_end hb1 hown1 hk1 (grown_alloc_drew w1 _)⟩

set_option maxHeartbeats 400000 in
theorem list13_some (B L M m1 m2 : Nat) (file : ByteArray) (year : Int) (unit : ByteArray) (g n cap : Nat) (w : World) (hn : 1 ≤ n)
    (hb : Bld w B L M m1 m2 file year unit (.slice (some ⟨g, 0, none⟩) n cap)) :
    Calls Try.prog 13 #[.pointer (some ⟨B, 0, none⟩)] w fun e w' => ∃ q, e = .returned (.tuple #[.pointer none, .iface 61 (.pointer (some ⟨q, 0, none⟩))]) ∧ w.grownBy w' none := by
  go_enter Try.func13, Try.ntmps13
  go_wp2_with (go_at_call 21; refine (list21_some B L M m1 m2 file year unit g n cap w hn hb).mono ?_; rintro e w' ⟨q, rfl, hR⟩)
  go_ret2
  exact ⟨q, rfl, hR⟩

set_option maxHeartbeats 400000 in
theorem list13_none (B L M m1 m2 : Nat) (file : ByteArray) (year : Int) (unit : ByteArray) (base : Nat) (w : World) (hbase : base ≤ w.heap.size)
    (hb : Bld w B L M m1 m2 file year unit (.slice none 0 0)) :
    Calls Try.prog 13 #[.pointer (some ⟨B, 0, none⟩)] w fun e w' => ∃ q, e = .returned (.tuple #[.pointer none, .iface 61 (.pointer (some ⟨q, 0, none⟩))]) ∧
      ∃ g cap, Bld w' B L M m1 m2 file year unit (.slice (some ⟨g, 0, none⟩) 1 cap) ∧
        w'.ownsRow base 49 2 (.slice (some ⟨g, 0, none⟩) 1 cap) 1 [.int .i64 0, .string noRows] ∧ Kept B none w w' := by
  go_enter Try.func13, Try.ntmps13
  go_wp2_with (go_at_call 21; refine (list21_none B L M m1 m2 file year unit base w hbase hb).mono ?_; rintro e w' ⟨q, rfl, hR⟩)
  go_ret2
  exact ⟨q, rfl, hR⟩

set_option maxHeartbeats 400000 in
/-- ZZproblems. -/
theorem problems11 (B L M m1 m2 : Nat) (file : ByteArray) (year : Int) (unit : ByteArray) (v : Value) (w : World) (hb : Bld w B L M m1 m2 file year unit v) :
    Calls Try.prog 11 #[.pointer (some ⟨B, 0, none⟩)] w fun e w' => e = .returned v ∧ w = w' := by
  have c4 := hb.cell4
  go_enter Try.func11, Try.ntmps11
  go_wp2
  go_ret
  exact ⟨rfl, rfl⟩

set_option maxHeartbeats 400000 in
/-- ZZunit. -/
theorem unit10 (B L M m1 m2 : Nat) (file : ByteArray) (year : Int) (unit : ByteArray) (v : Value) (w : World) (hb : Bld w B L M m1 m2 file year unit v) :
    Calls Try.prog 10 #[.pointer (some ⟨B, 0, none⟩)] w fun e w' => e = .returned (.string unit) ∧ w = w' := by
  have c1 := hb.cell1
  go_enter Try.func10, Try.ntmps10
  go_wp2
  go_ret
  exact ⟨rfl, rfl⟩

set_option maxHeartbeats 400000 in
/-- ZZbuilderList. -/
theorem list9 (B L M m1 m2 : Nat) (file : ByteArray) (year : Int) (unit : ByteArray) (v : Value) (w : World) (hb : Bld w B L M m1 m2 file year unit v) :
    Calls Try.prog 9 #[.pointer (some ⟨B, 0, none⟩)] w fun e w' => e = .returned (.pointer (some ⟨L, 0, none⟩)) ∧ w = w' := by
  have c0 := hb.cell0
  go_enter Try.func9, Try.ntmps9
  go_wp2
  go_ret
  exact ⟨rfl, rfl⟩

set_option maxHeartbeats 400000 in
/-- zzOnlyNoRows, at the one problem. -/
theorem only14 (base g cap : Nat) (w : World) (hown : w.ownsRow base 49 2 (.slice (some ⟨g, 0, none⟩) 1 cap) 1 [.int .i64 0, .string noRows]) :
    Calls Try.prog 14 #[.slice (some ⟨g, 0, none⟩) 1 cap] w fun e w' => e = .returned (.bool true) ∧ w = w' := by
  have c0 : w.cell? ⟨g, 0, none⟩ = some (.int .i64 0) := hown.cells rfl 0 _ rfl
  have c1 : w.cell? ⟨g, 1, none⟩ = some (.string noRows) := hown.cells rfl 1 _ rfl
  go_enter Try.func14, Try.ntmps14
  go_wp2
  go_ret
  exact ⟨rfl, rfl⟩

set_option maxHeartbeats 400000 in
/-- ZZnewListBuilder. -/
theorem new8 (file : ByteArray) (year : Int) (unit : ByteArray) (w : World) :
    Calls Try.prog 8 #[.string file, .int .i64 year, .string unit] w fun e w' => e = .returned (.pointer (some ⟨w.heap.size + 4, 0, none⟩)) ∧ w' = laid w file year unit := by
  go_enter Try.func8, Try.ntmps8
  go_wp2_with (go_at_call 20; refine (new20 file year unit w).mono ?_; rintro e w' ⟨rfl, rfl⟩)
  go_ret
  exact ⟨rfl, rfl⟩

/-! ### What 'newListBuilder' lays is a builder without problems -/
theorem laid_size (w : World) (file : ByteArray) (year : Int) (unit : ByteArray) : (laid w file year unit).heap.size = w.heap.size + 5 := by simp [laid]
theorem heap_alloc_at {w : World} {o : Obj} {n : Nat} (h : n = w.heap.size) : (w.alloc o).heap[n]? = some o := by subst h; exact heap_alloc_new _ _
theorem laid_bld (w : World) (file : ByteArray) (year : Int) (unit : ByteArray) : Bld (laid w file year unit) (w.heap.size + 4) (w.heap.size + 1) w.heap.size (w.heap.size + 2) (w.heap.size + 3) file year unit (.slice none 0 0) := by
  constructor
  · unfold laid
    exact heap_alloc_at (by simp)
  · unfold laid
    rw [heap_alloc_old _ _ (by simp), heap_alloc_old _ _ (by simp), heap_alloc_old _ _ (by simp)]
    exact heap_alloc_at (by simp)
theorem laid_map (w : World) (file : ByteArray) (year : Int) (unit : ByteArray) : (laid w file year unit).heap[w.heap.size]? = some (.map #[] 0) := by
  unfold laid
  rw [heap_alloc_old _ _ (by simp; omega), heap_alloc_old _ _ (by simp; omega), heap_alloc_old _ _ (by simp; omega), heap_alloc_old _ _ (by simp)]
  exact heap_alloc_new _ _
theorem laid_below (w : World) (file : ByteArray) (year : Int) (unit : ByteArray) : Below w.heap.size w (laid w file year unit) := by
  unfold laid
  exact (((((Below.refl _ w).alloc (Nat.le_refl _) _).alloc (by simp) _).alloc (by simp; omega) _).alloc (by simp; omega) _).alloc (by simp; omega) _

theorem Kept.below {H B : Nat} {r : Option Nat} {w w' : World} (h : Kept B r w w') (hH : H ≤ w.heap.size) (hB : H ≤ B) (hr : ∀ k, r = some k → H ≤ k) : Below H w w' :=
  ⟨h.os, h.tape, h.output, h.size, fun k hk => h.block k (by omega) (by omega) (fun e => by have := hr k e.symm; omega)⟩
theorem grown_below {H : Nat} {w w' : World} (h : w.grownBy w' none) (hH : H ≤ w.heap.size) : Below H w w' :=
  ⟨h.os, h.tape, h.output, h.size, fun k hk => h.block k (by omega) (by simp)⟩
theorem Bld.grown {w w' : World} {B L M m1 m2 : Nat} {file : ByteArray} {year : Int} {unit : ByteArray} {v : Value} (h : Bld w B L M m1 m2 file year unit v) (hg : w.grownBy w' none) : Bld w' B L M m1 m2 file year unit v :=
  ⟨(hg.block B (lt_of_heap h.1) (by simp)).trans h.1, (hg.block L (lt_of_heap h.2) (by simp)).trans h.2⟩
theorem owns_grown {w w' : World} {base n : Nat} {v : Value} {xs : List Value} (h : w.ownsRow base 49 2 v n xs) (hg : w.grownBy w' none) : w'.ownsRow base 49 2 v n xs := by
  refine h.kept hg ?_
  cases h : v.ownBlock with
  | none => exact .inl rfl
  | some k => exact .inr (by simp)

end Go.Proofs.Qxb6608933a
