/-
  DERIVED. THE WALKS of safeHeight (83), update (69).
-/
import Derived.Test.Qxb6616684aFmtFrame
import Derived.Deep.QuietTactic
import Derived.BigQuiet
namespace Go.Proofs.Qxb6616684aFmt
open Go.RowKit
set_option linter.unusedVariables false

theorem safe_nil (w : World) : Calls Tryf.prog 83 #[.pointer none] w fun e w' => e = .returned (.int .i32 (-1)) ∧ w' = w := by
  go_enter Tryf.func83, Tryf.ntmps83
  go_wp2
  go_ret
  exact ⟨rfl, rfl⟩
theorem safe_some (w : World) (n : Nat) (h : Int) (hc : w.cell? ⟨n, 7, none⟩ = some (.int .i32 h)) : Calls Tryf.prog 83 #[.pointer (some ⟨n, 0, none⟩)] w fun e w' => e = .returned (.int .i32 h) ∧ w' = w := by
  go_enter Tryf.func83, Tryf.ntmps83
  go_wp2
  go_ret
  exact ⟨rfl, rfl⟩

set_option maxRecDepth 100000 in
set_option maxHeartbeats 1600000 in
theorem upd0 (w : World) (n : Nat) (p f ks ke : Value) (bal h : Int) (hn : w.heap[n]? = some (.cells #[p, .pointer none, .pointer none, f, ks, ke, .int .i32 bal, .int .i32 h] 104)) :
    Calls Tryf.prog 69 #[.pointer (some ⟨n, 0, none⟩)] w fun e w' => e = .returned (.tuple #[]) ∧ Fr [n] w w' ∧ w'.heap[n]? = some (.cells #[p, .pointer none, .pointer none, f, ks, ke, .int .i32 0, .int .i32 0] 104) := by
  have c1 := cell_at hn 1
  have c2 := cell_at hn 2
  have c6 := cell_at hn 6
  have c7 := cell_at hn 7
  have z6 := frozen_at hn 6
  have z7 := frozen_at hn 7
  simp at c1 c2 c6 c7
  have HN := hide hn
  clear hn
  go_enter Tryf.func69, Tryf.ntmps69
  go_wp2_with fail
  go_quiet ((go_at_call 83; exact Calls.quiet_of_same (safe_nil _)))
  go_wp2
  go_end0
  refine ⟨rfl, (((Fr.refl _ w).drewN _).setCell n (by simp) 7 _).setCell n (by simp) 6 _, ?_⟩
  have := set_at (set_at HN.out 7 (.int .i32 0)) 6 (.int .i32 0)
  simp at this
  exact this

set_option maxRecDepth 100000 in
set_option maxHeartbeats 1600000 in
theorem upd1 (w : World) (n m : Nat) (p f ks ke : Value) (bal h : Int) (hn : w.heap[n]? = some (.cells #[p, .pointer none, .pointer (some ⟨m, 0, none⟩), f, ks, ke, .int .i32 bal, .int .i32 h] 104)) (hm : w.cell? ⟨m, 7, none⟩ = some (.int .i32 0)) :
    Calls Tryf.prog 69 #[.pointer (some ⟨n, 0, none⟩)] w fun e w' => e = .returned (.tuple #[]) ∧ Fr [n] w w' ∧ w'.heap[n]? = some (.cells #[p, .pointer none, .pointer (some ⟨m, 0, none⟩), f, ks, ke, .int .i32 1, .int .i32 1] 104) := by
  have c1 := cell_at hn 1
  have c2 := cell_at hn 2
  have c6 := cell_at hn 6
  have c7 := cell_at hn 7
  have z6 := frozen_at hn 6
  have z7 := frozen_at hn 7
  simp at c1 c2 c6 c7
  have HN := hide hn
  clear hn
  go_enter Tryf.func69, Tryf.ntmps69
  go_wp2_with fail
  go_quiet ((go_at_call 83; first | exact Calls.quiet_of_same (safe_nil _) | exact Calls.quiet_of_same (safe_some _ m 0 hm)))
  go_wp2
  go_end0
  refine ⟨rfl, (((Fr.refl _ w).drewN _).setCell n (by simp) 7 _).setCell n (by simp) 6 _, ?_⟩
  have := set_at (set_at HN.out 7 (.int .i32 1)) 6 (.int .i32 1)
  simp at this
  exact this
end Go.Proofs.Qxb6616684aFmt
