/-
  DERIVED. THE WALKS of locate (48) at a tree of one node, (*tree).add (28).
-/
import Derived.Test.Qxb6616684aFmtSet
namespace Go.Proofs.Qxb6616684aFmt
open Go.RowKit
set_option linter.unusedVariables false

set_option maxRecDepth 100000 in
set_option maxHeartbeats 1600000 in
theorem loc1 (w : World) (s n : Nat) (g : Value) (ks ke a b : Int) (hr : w.cell? ⟨s, 7, none⟩ = some (.pointer (some ⟨n, 0, none⟩))) (hn : w.heap[n]? = some (node (.pointer none) (.pointer none) (.pointer none) g ks ke 0 0)) (h : ke < a) (hab : a ≤ b) (hk : ks ≤ ke) :
    Calls Tryf.prog 48 #[.pointer (some ⟨s, 7, none⟩), .agg #[.int .i64 a, .int .i64 b]] w fun e w' => e = .returned (.tuple #[.pointer (some ⟨n, 2, none⟩), .pointer (some ⟨n, 0, none⟩)]) ∧ Fr [] w w' := by
  have hr' := old_at hr (.cells #[.int .i64 a, .int .i64 b] 100)
  have c2 := cell_at hn 2
  have c4 := cell_at hn 4
  have c5 := cell_at hn 5
  simp at c2 c4 c5
  have c2' := old_at c2 (.cells #[.int .i64 a, .int .i64 b] 100)
  have c4' := old_at c4 (.cells #[.int .i64 a, .int .i64 b] 100)
  have c5' := old_at c5 (.cells #[.int .i64 a, .int .i64 b] 100)
  clear hn
  go_enter Tryf.func48, Tryf.ntmps48
  go_wp2_with fail
  go_quiet (fail)
  go_wp2_with fail
  refine wp_loop_rounds 2 ?_
  rw [rounds_succ]
  go_wp2_with fail
  go_region_with (go_at_call 60; refine (cmp1 _ a b ks ke h hab hk).mono ?_; rintro e w1 ⟨rfl, hf1⟩; have c2'' := hf1.cell (a := ⟨n, 2, none⟩) c2' (by simp); clear c2' c4' c5' hr')
  all_goals
    have HX := hide (show Fr [] w w1 from (((Fr.refl [] w).alloc _).drewN _).trans hf1)
    clear hf1
    go_wp2_with fail
    go_quiet (fail)
    go_wp2_with fail
    rw [rounds_succ]
    go_wp2
    go_ret2
    exact ⟨rfl, HX.out.drewN _⟩

set_option maxRecDepth 100000 in
set_option maxHeartbeats 1600000 in
theorem add0 (w : World) (s f : Nat) (l0 l1 l2 l3 l4 l5 last : Value) (base b z : Int) (hs : w.heap[s]? = some (fset l0 l1 l2 l3 l4 l5 base (.pointer none) last))
    (hb : w.cell? ⟨f, 1, none⟩ = some (.int .i64 b)) (hz : w.cell? ⟨f, 2, none⟩ = some (.int .i64 z)) (b0 : 0 ≤ b) (b1 : b ≤ 1048576) (z0 : 0 ≤ z) (z1 : z ≤ 1048576) :
    Calls Tryf.prog 28 #[.pointer (some ⟨s, 7, none⟩), .pointer (some ⟨f, 0, none⟩)] w fun e w' => e = .returned (.tuple #[]) ∧ Fr [s] w w' ∧
      ∃ n, w.heap.size ≤ n ∧ w'.heap[s]? = some (fset l0 l1 l2 l3 l4 l5 base (.pointer (some ⟨n, 0, none⟩)) last) ∧ w'.heap[n]? = some (node (.pointer none) (.pointer none) (.pointer none) (.pointer (some ⟨f, 0, none⟩)) b (b + z) 0 0) := by
  have HS := hide hs
  have HB := hide hb
  have HZ := hide hz
  have K := hide (key49 w f b z hb hz b0 b1 z0 z1)
  clear hs hb hz
  go_enter Tryf.func28, Tryf.ntmps28
  go_wp2_with fail
  refine (unhide K).mono ?_
  rintro e w1 ⟨rfl, hf1⟩
  have hs1 := hf1.at HS.out (by simp)
  have c7 := cell_at hs1 7
  simp at c7
  have HF1 := hide hf1
  have HS1 := hide hs1
  have L := hide (loc0 w1 s #[] c7 b (b + z))
  clear hf1 hs1 c7 K
  go_wp2_with fail
  refine (unhide L).mono ?_
  rintro e w2 ⟨rfl, hf2⟩
  have HF2 := hide (HF1.out.trans hf2)
  have hs2 := HF2.out.at HS.out (by simp)
  have c7 := cell_at hs2 7
  simp at c7
  have T := hide (set0 w2 s f l0 l1 l2 l3 l4 l5 last base b z hs2 (HF2.out.cell HB.out (by simp)) (HF2.out.cell HZ.out (by simp)) b0 b1 z0 z1)
  clear hf2 hs2 L HS1 HF1
  go_wp2_with fail
  refine (unhide T).mono ?_
  rintro e w3 ⟨rfl, hf3, n, hn, hs3, hn3⟩
  have HF3 := hide ((HF2.out.mono (T := [s]) (by simp)).trans hf3)
  have HS3 := hide hs3
  have HN3 := hide hn3
  have hsz := HF2.out.size
  clear hf3 hs3 hn3 T c7
  go_wp2
  (try simp only [Exit.inBlock, Exit.then])
  refine bodyPost_ret (results_none rfl _ _ _) rfl ?_
  exact ⟨rfl, HF3.out, n, by omega, HS3.out, HN3.out⟩

set_option maxRecDepth 100000 in
set_option maxHeartbeats 1600000 in
theorem add1 (w : World) (s n f : Nat) (g : Value) (ks ke b z : Int) (hr : w.cell? ⟨s, 7, none⟩ = some (.pointer (some ⟨n, 0, none⟩))) (hn : w.heap[n]? = some (node (.pointer none) (.pointer none) (.pointer none) g ks ke 0 0)) (hk : ks ≤ ke) (hkb : ke < b)
    (hb : w.cell? ⟨f, 1, none⟩ = some (.int .i64 b)) (hz : w.cell? ⟨f, 2, none⟩ = some (.int .i64 z)) (b0 : 0 ≤ b) (b1 : b ≤ 1048576) (z0 : 0 ≤ z) (z1 : z ≤ 1048576) :
    Calls Tryf.prog 28 #[.pointer (some ⟨s, 7, none⟩), .pointer (some ⟨f, 0, none⟩)] w fun e w' => e = .returned (.tuple #[]) ∧ Fr [n] w w' := by
  have HR := hide hr
  have HN := hide hn
  have HB := hide hb
  have HZ := hide hz
  have K := hide (key49 w f b z hb hz b0 b1 z0 z1)
  clear hr hn hb hz
  go_enter Tryf.func28, Tryf.ntmps28
  go_wp2_with fail
  refine (unhide K).mono ?_
  rintro e w1 ⟨rfl, hf1⟩
  have L := hide (loc1 w1 s n g ks ke b (b + z) (hf1.cell HR.out (by simp)) (hf1.at HN.out (by simp)) hkb (by omega) hk)
  have HF1 := hide hf1
  clear hf1 K
  go_wp2_with fail
  refine (unhide L).mono ?_
  rintro e w2 ⟨rfl, hf2⟩
  have HF2 := hide (HF1.out.trans hf2)
  have hn2 := HF2.out.at HN.out (by simp)
  have c2 := cell_at hn2 2
  simp at c2
  have T := hide (set1 w2 s n f g ks ke b z hn2 (HF2.out.cell HB.out (by simp)) (HF2.out.cell HZ.out (by simp)) b0 b1 z0 z1)
  clear hf2 hn2 L HF1
  go_wp2_with fail
  refine (unhide T).mono ?_
  rintro e w3 ⟨rfl, hf3⟩
  have HF3 := hide ((HF2.out.mono (T := [n]) (by simp)).trans hf3)
  clear hf3 T c2
  go_wp2
  (try simp only [Exit.inBlock, Exit.then])
  refine bodyPost_ret (results_none rfl _ _ _) rfl ?_
  exact ⟨rfl, HF3.out⟩
end Go.Proofs.Qxb6616684aFmt
