/-
  DERIVED. THE WALKS of rebalanceUp (61) at a tree of one node and of two; (*File).key (49).
-/
import Derived.Test.Qxb6616684aFmtUpd
import Derived.WalkSpells
import Derived.Deep.AppendLies
import Derived.Deep.RegionHeld3
namespace Go.Proofs.Qxb6616684aFmt
open Go.RowKit
set_option linter.unusedVariables false

/-- a node's block -/
abbrev node (p l r f : Value) (ks ke : Int) (bal h : Int) : Obj := .cells #[p, l, r, f, .int .i64 ks, .int .i64 ke, .int .i32 bal, .int .i32 h] 104

set_option maxRecDepth 100000 in
set_option maxHeartbeats 1600000 in
theorem reb0 (w : World) (t : Value) (n : Nat) (f : Value) (ks ke bal : Int) (hn : w.heap[n]? = some (node (.pointer none) (.pointer none) (.pointer none) f ks ke bal (-1))) :
    Calls Tryf.prog 61 #[t, .pointer (some ⟨n, 0, none⟩)] w fun e w' => e = .returned (.tuple #[]) ∧ Fr [n] w w' ∧ w'.heap[n]? = some (node (.pointer none) (.pointer none) (.pointer none) f ks ke 0 0) := by
  have c7 := cell_at hn 7
  simp at c7
  have U := hide (upd0 w n _ f _ _ bal (-1) hn)
  clear hn
  go_enter Tryf.func61, Tryf.ntmps61
  go_wp2_with fail
  refine wp_loop_rounds 2 ?_
  rw [rounds_succ]
  go_wp2_with fail
  refine (unhide U).mono ?_
  rintro e w1 ⟨rfl, hf, hn1⟩
  have c0 := cell_at hn1 0
  have c6 := cell_at hn1 6
  have c7' := cell_at hn1 7
  simp at c0 c6 c7'
  have HF := hide hf
  have HN := hide hn1
  clear hf hn1 U c7
  go_wp2_with fail
  rw [rounds_succ]
  go_wp2
  go_end0
  exact ⟨rfl, HF.out, HN.out⟩

set_option maxRecDepth 100000 in
set_option maxHeartbeats 1600000 in
theorem reb1 (w : World) (t : Value) (n m : Nat) (f g : Value) (ks ke bal ks' ke' bal' : Int) (hne : n ≠ m)
    (hm : w.heap[m]? = some (node (.pointer (some ⟨n, 0, none⟩)) (.pointer none) (.pointer none) g ks' ke' bal' (-1)))
    (hn : w.heap[n]? = some (node (.pointer none) (.pointer none) (.pointer (some ⟨m, 0, none⟩)) f ks ke bal 0)) :
    Calls Tryf.prog 61 #[t, .pointer (some ⟨m, 0, none⟩)] w fun e w' => e = .returned (.tuple #[]) ∧ Fr [n, m] w w' := by
  have c7 := cell_at hm 7
  simp at c7
  have U := hide (upd0 w m _ g _ _ bal' (-1) hm)
  have HN := hide hn
  clear hm hn
  go_enter Tryf.func61, Tryf.ntmps61
  go_wp2_with fail
  refine wp_loop_rounds 3 ?_
  rw [rounds_succ]
  go_wp2_with fail
  refine (unhide U).mono ?_
  rintro e w1 ⟨rfl, hf, hm1⟩
  have c0 := cell_at hm1 0
  have c6 := cell_at hm1 6
  have c7' := cell_at hm1 7
  simp at c0 c6 c7'
  have hn1 := hf.at HN.out (by simpa using hne)
  have d7 := cell_at hn1 7
  simp at d7
  have U1 := hide (upd1 w1 n m _ f _ _ bal 0 hn1 c7')
  have HF := hide hf
  clear hf hm1 hn1 HN U c7
  go_wp2_with fail
  rw [rounds_succ]
  go_wp2_with fail
  refine (unhide U1).mono ?_
  rintro e w2 ⟨rfl, hf2, hn2⟩
  have HF2 := hide ((HF.out.mono (T := [n, m]) (by simp)).trans (hf2.mono (by simp)))
  have d0 := cell_at hn2 0
  have d6 := cell_at hn2 6
  have d7' := cell_at hn2 7
  simp at d0 d6 d7'
  clear hf2 hn2 HF U1 c0 c6 c7' d7
  go_wp2_with fail
  rw [rounds_succ]
  go_wp2
  go_end0
  exact ⟨rfl, HF2.out⟩

/-- the file set's block -/
abbrev fset (l0 l1 l2 l3 l4 l5 : Value) (base : Int) (root last : Value) : Obj := .cells #[l0, l1, l2, l3, l4, l5, .int .i64 base, root, last] 75

theorem cell_lt {w : World} {a : Addr} {x : Value} (h : w.cell? a = some x) : a.block < w.heap.size := World.block_lt_of_cell? w a h
theorem old_at {W : World} {a : Addr} {x : Value} (h : W.cell? a = some x) (o : Obj) : (W.alloc o).cell? a = some x := by
  rw [World.cell?_of_block (w := W) (Below.heap_alloc _ _ _ (cell_lt h))]; exact h

set_option maxRecDepth 100000 in
set_option maxHeartbeats 1600000 in
theorem key49 (w : World) (f : Nat) (b z : Int) (hb : w.cell? ⟨f, 1, none⟩ = some (.int .i64 b)) (hz : w.cell? ⟨f, 2, none⟩ = some (.int .i64 z)) (b0 : 0 ≤ b) (b1 : b ≤ 1048576) (z0 : 0 ≤ z) (z1 : z ≤ 1048576) :
    Calls Tryf.prog 49 #[.pointer (some ⟨f, 0, none⟩)] w fun e w' => e = .returned (.agg #[.int .i64 b, .int .i64 (b + z)]) ∧ Fr [] w w' := by
  have hb' := old_at hb (.cells #[.int .i64 0, .int .i64 0] 100)
  have hz' := old_at hz (.cells #[.int .i64 0, .int .i64 0] 100)
  go_enter Tryf.func49, Tryf.ntmps49
  go_wp2_with fail
  go_region
  go_wp2
  refine bodyPost_ret (results_cell_row (p := 2) (ty := 100) rfl _ _ w.heap.size 100 _ _ _ rfl (alloc_new w _) Tryf.underlying100 rfl (by kernel_rfl)) rfl ?_
  exact ⟨rfl, ((Fr.refl _ w).alloc _).drew⟩

end Go.Proofs.Qxb6616684aFmt
