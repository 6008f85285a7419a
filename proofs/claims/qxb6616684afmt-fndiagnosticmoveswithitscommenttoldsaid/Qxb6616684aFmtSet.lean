/-
  DERIVED. THE WALKS of (*tree).set (50), compareKey (60), locate (48) at an empty tree.
-/
import Derived.Test.Qxb6616684aFmtReb
import Derived.Deep.RegionWith
namespace Go.Proofs.Qxb6616684aFmt
open Go.RowKit
set_option linter.unusedVariables false

theorem Fr.cell {S : List Nat} {x y : World} (h : Fr S x y) {a : Addr} {v : Value} (hc : x.cell? a = some v) (hs : a.block ∉ S) : y.cell? a = some v := by
  rw [World.cell?_of_block (w := x) (h.block a.block (cell_lt hc) hs)]; exact hc

theorem setalloc_new (w : World) (b o : Nat) (u : Value) (O : Obj) : ((w.setCell ⟨b, o, none⟩ u).alloc O).heap[w.heap.size]? = some O := by
  have := alloc_new (w.setCell ⟨b, o, none⟩ u) O
  rwa [show (w.setCell ⟨b, o, none⟩ u).heap.size = w.heap.size by simp [World.setCell]] at this

set_option maxRecDepth 100000 in
set_option maxHeartbeats 1600000 in
theorem set0 (w : World) (s f : Nat) (l0 l1 l2 l3 l4 l5 last : Value) (base b z : Int) (hs : w.heap[s]? = some (fset l0 l1 l2 l3 l4 l5 base (.pointer none) last))
    (hb : w.cell? ⟨f, 1, none⟩ = some (.int .i64 b)) (hz : w.cell? ⟨f, 2, none⟩ = some (.int .i64 z)) (b0 : 0 ≤ b) (b1 : b ≤ 1048576) (z0 : 0 ≤ z) (z1 : z ≤ 1048576) :
    Calls Tryf.prog 50 #[.pointer (some ⟨s, 7, none⟩), .pointer (some ⟨f, 0, none⟩), .pointer (some ⟨s, 7, none⟩), .pointer none] w fun e w' => e = .returned (.tuple #[]) ∧ Fr [s] w w' ∧
      ∃ n, w.heap.size ≤ n ∧ w'.heap[s]? = some (fset l0 l1 l2 l3 l4 l5 base (.pointer (some ⟨n, 0, none⟩)) last) ∧ w'.heap[n]? = some (node (.pointer none) (.pointer none) (.pointer none) (.pointer (some ⟨f, 0, none⟩)) b (b + z) 0 0) := by
  have c7 := cell_at hs 7
  have z7 := frozen_at hs 7
  simp at c7
  have HS := hide hs
  have K := hide (key49 w f b z hb hz b0 b1 z0 z1)
  clear hs hb hz
  go_enter Tryf.func50, Tryf.ntmps50
  go_wp2_with fail
  refine (unhide K).mono ?_
  rintro e w1 ⟨rfl, hf1⟩
  have hs1 := hf1.block s (heap_lt HS.out) (by simp)
  rw [HS.out] at hs1
  have HF1 := hide (hf1.mono (T := [s]) (by simp))
  have c71 := cell_at hs1 7
  have z71 := frozen_at hs1 7
  simp at c71
  have HS1 := hide hs1
  have hlt1 := heap_lt hs1
  clear hf1 hs1 K HS c7 z7
  go_wp2_with fail
  refine (reb0 _ _ w1.heap.size _ b (b + z) 0 (setalloc_new w1 _ _ _ _)).mono ?_
  rintro e w2 ⟨rfl, hf2, hn2⟩
  have F2 := ((Fr.refl [s] w1).setCell s (by simp) 7 (.pointer (some ⟨w1.heap.size, 0, none⟩))).alloc (node (.pointer none) (.pointer none) (.pointer none) (.pointer (some ⟨f, 0, none⟩)) b (b + z) 0 (-1))
  have hs2 := hf2.at (alloc_at (set_at HS1.out 7 (.pointer (some ⟨w1.heap.size, 0, none⟩))) _) (by simp; omega)
  simp at hs2
  have HX := hide (show Fr [s] w w2 from HF1.out.trans ⟨hf2.os.trans F2.os, hf2.tape.trans F2.tape, hf2.output.trans F2.output, Nat.le_trans F2.size hf2.size, fun k hk hS => (hf2.block k (Nat.lt_of_lt_of_le hk F2.size) (by simp; omega)).trans (F2.block k hk hS)⟩)
  have HS2 := hide hs2
  have HN2 := hide hn2
  have hsz := HF1.out.size
  clear hf2 hn2 hs2 F2
  go_wp2
  go_end0
  exact ⟨rfl, HX.out, w1.heap.size, hsz, HS2.out, HN2.out⟩

set_option maxRecDepth 100000 in
set_option maxHeartbeats 1600000 in
theorem set1 (w : World) (s n f : Nat) (g : Value) (ks ke b z : Int) (hn : w.heap[n]? = some (node (.pointer none) (.pointer none) (.pointer none) g ks ke 0 0))
    (hb : w.cell? ⟨f, 1, none⟩ = some (.int .i64 b)) (hz : w.cell? ⟨f, 2, none⟩ = some (.int .i64 z)) (b0 : 0 ≤ b) (b1 : b ≤ 1048576) (z0 : 0 ≤ z) (z1 : z ≤ 1048576) :
    Calls Tryf.prog 50 #[.pointer (some ⟨s, 7, none⟩), .pointer (some ⟨f, 0, none⟩), .pointer (some ⟨n, 2, none⟩), .pointer (some ⟨n, 0, none⟩)] w fun e w' => e = .returned (.tuple #[]) ∧ Fr [n] w w' := by
  have c2 := cell_at hn 2
  have z2 := frozen_at hn 2
  simp at c2
  have HN := hide hn
  have K := hide (key49 w f b z hb hz b0 b1 z0 z1)
  clear hn hb hz
  go_enter Tryf.func50, Tryf.ntmps50
  go_wp2_with fail
  refine (unhide K).mono ?_
  rintro e w1 ⟨rfl, hf1⟩
  have hn1 := hf1.block n (heap_lt HN.out) (by simp)
  rw [HN.out] at hn1
  have HF1 := hide (hf1.mono (T := [n]) (by simp))
  have c21 := cell_at hn1 2
  have z21 := frozen_at hn1 2
  simp at c21
  have HN1 := hide hn1
  have hlt1 := heap_lt hn1
  clear hf1 hn1 K HN c2 z2
  go_wp2_with fail
  have F2 := ((Fr.refl [n] w1).setCell n (by simp) 2 (.pointer (some ⟨w1.heap.size, 0, none⟩))).alloc (node (.pointer (some ⟨n, 0, none⟩)) (.pointer none) (.pointer none) (.pointer (some ⟨f, 0, none⟩)) b (b + z) 0 (-1))
  have hn2 := alloc_at (set_at HN1.out 2 (.pointer (some ⟨w1.heap.size, 0, none⟩))) (node (.pointer (some ⟨n, 0, none⟩)) (.pointer none) (.pointer none) (.pointer (some ⟨f, 0, none⟩)) b (b + z) 0 (-1))
  simp at hn2
  refine (reb1 _ _ n w1.heap.size g _ ks ke 0 b (b + z) 0 (by omega) (setalloc_new w1 _ _ _ _) hn2).mono ?_
  rintro e w2 ⟨rfl, hf2⟩
  have HX := hide (show Fr [n] w w2 from HF1.out.trans ⟨hf2.os.trans F2.os, hf2.tape.trans F2.tape, hf2.output.trans F2.output, Nat.le_trans F2.size hf2.size, fun k hk hS => (hf2.block k (Nat.lt_of_lt_of_le hk F2.size) (by simp at hS ⊢; omega)).trans (F2.block k hk hS)⟩)
  clear hf2 hn2 F2
  go_wp2
  go_end0
  exact ⟨rfl, HX.out⟩

theorem cmp1 (w : World) (a b c d : Int) (h : d < a) (hab : a ≤ b) (hcd : c ≤ d) : Calls Tryf.prog 60 #[.agg #[.int .i64 a, .int .i64 b], .agg #[.int .i64 c, .int .i64 d]] w fun e w' => e = .returned (.int .i64 1) ∧ Fr [] w w' := by
  have h1 : ¬ b < c := by omega
  go_enter Tryf.func60, Tryf.ntmps60
  go_wp2_with fail
  go_ret
  exact ⟨rfl, ((Fr.refl _ w).alloc _).alloc _⟩

set_option maxRecDepth 100000 in
set_option maxHeartbeats 1600000 in
theorem loc0 (w : World) (s : Nat) (k : Array Value) (hr : w.cell? ⟨s, 7, none⟩ = some (.pointer none)) (a b : Int) :
    Calls Tryf.prog 48 #[.pointer (some ⟨s, 7, none⟩), .agg #[.int .i64 a, .int .i64 b]] w fun e w' => e = .returned (.tuple #[.pointer (some ⟨s, 7, none⟩), .pointer none]) ∧ Fr [] w w' := by
  have hr' := old_at hr (.cells #[.int .i64 a, .int .i64 b] 100)
  go_enter Tryf.func48, Tryf.ntmps48
  go_wp2_with fail
  go_quiet (fail)
  go_wp2
  refine wp_loop_rounds 1 ?_
  rw [rounds_succ]
  go_wp2
  go_ret2
  exact ⟨rfl, ((Fr.refl _ w).alloc _).drewN _⟩
end Go.Proofs.Qxb6616684aFmt
