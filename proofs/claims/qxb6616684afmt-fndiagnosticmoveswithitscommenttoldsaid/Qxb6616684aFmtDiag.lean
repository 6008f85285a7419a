/-
  DERIVED. THE WALKS of (*Comment).Pos (36), End (37), (*directive).diagnostic (24), ZZdiagnosticSpan (16).
-/
import Derived.Test.Qxb6616684aFmtSpr
namespace Go.Proofs.Qxb6616684aFmt
open Go.RowKit Go.RwLone Go.MuLone
open Go.Extern.Stop Go.Stop Go.Extern
set_option linter.unusedVariables false

theorem pos36 (w : World) (c : Nat) (p : Int) (hp : w.cell? ⟨c, 0, none⟩ = some (.int .i64 p)) : Calls Tryf.prog 36 #[.pointer (some ⟨c, 0, none⟩)] w fun e w' => e = .returned (.int .i64 p) ∧ w' = w := by
  go_enter Tryf.func36, Tryf.ntmps36
  go_wp2
  go_ret
  exact ⟨rfl, rfl⟩
theorem end37 (w : World) (c : Nat) (p : Int) (t : ByteArray) (hp : w.cell? ⟨c, 0, none⟩ = some (.int .i64 p)) (ht : w.cell? ⟨c, 1, none⟩ = some (.string t)) (p0 : 0 ≤ p) (p1 : p ≤ 1048576) (t1 : (t.size : Int) ≤ 1048576) :
    Calls Tryf.prog 37 #[.pointer (some ⟨c, 0, none⟩)] w fun e w' => e = .returned (.int .i64 (p + t.size)) ∧ ∃ m, w' = w.drewN m := by
  have t0 : (0 : Int) ≤ (t.size : Int) := by omega
  go_enter Tryf.func37, Tryf.ntmps37
  go_wp2_with fail
  go_quiet (fail)
  go_wp2
  go_ret
  exact ⟨rfl, _, rfl⟩

set_option maxRecDepth 100000 in
set_option maxHeartbeats 4000000 in
theorem diag24_none (F : Interp) (w : World) (d c : Nat) (p : Int) (f t : ByteArray) (hF : F.answers w.tape) (hd : w.cell? ⟨d, 0, none⟩ = some (.pointer (some ⟨c, 0, none⟩))) (hp : w.cell? ⟨c, 0, none⟩ = some (.int .i64 p)) (ht : w.cell? ⟨c, 1, none⟩ = some (.string t)) (p0 : 0 ≤ p) (p1 : p ≤ 1048576) (t1 : (t.size : Int) ≤ 1048576) (h : FmtStop.printed? f 0 = none) :
    Calls Tryf.prog 24 #[.pointer (some ⟨d, 0, none⟩), .string f, .slice none 0 0] w fun e w' => e = .returned (.agg #[.int .i64 p, .int .i64 (p + t.size), .string ⟨#[]⟩, .string (said F f), .string ⟨#[]⟩, .slice none 0 0, .slice none 0 0]) ∧ Fr [] w w' := by
  have h27 : ∀ w' : World, w'.tape = w.tape → (callFunc 27 #[.string f, .slice none 0 0]).run Tryf.prog w' = .ok (.value (.string (said F f))) w'.drew := fun w' hw' => spr_none F f w' (by rw [hw']; exact hF) h
  have h27a : ∀ (X : Obj) (m : Nat), (callFunc 27 #[.string f, .slice none 0 0]).run Tryf.prog ((w.alloc X).drewN m) = .ok (.value (.string (said F f))) ((w.alloc X).drewN m).drew := fun X m => h27 _ rfl
  clear h27
  have n1 := World.new_ne w ⟨d, 0, none⟩ hd
  have n2 := World.new_ne w ⟨c, 0, none⟩ hp
  have n3 := World.new_ne w ⟨c, 1, none⟩ ht
  have hd' := old_at hd (.cells #[.int .i64 0, .int .i64 0, .string ⟨#[]⟩, .string ⟨#[]⟩, .string ⟨#[]⟩, .slice none 0 0, .slice none 0 0] 53)
  have hp' := old_at hp (.cells #[.int .i64 0, .int .i64 0, .string ⟨#[]⟩, .string ⟨#[]⟩, .string ⟨#[]⟩, .slice none 0 0, .slice none 0 0] 53)
  have ht' := old_at ht (.cells #[.int .i64 0, .int .i64 0, .string ⟨#[]⟩, .string ⟨#[]⟩, .string ⟨#[]⟩, .slice none 0 0, .slice none 0 0] 53)
  go_enter Tryf.func24, Tryf.ntmps24
  go_wp2_with fail
  go_region_held3 (fun w' => w'.cell? ⟨d, 0, none⟩ = some (.pointer (some ⟨c, 0, none⟩)) ∧ w'.cell? ⟨c, 0, none⟩ = some (.int .i64 p) ∧ w'.cell? ⟨c, 1, none⟩ = some (.string t)) (go_keep)
    (first | (go_at_call 36; refine (pos36 _ c p ?_).mono ?_; exact hp'; rintro e w' ⟨rfl, rfl⟩) | (go_at_call 37; refine (end37 _ c p t ?_ ?_ p0 p1 t1).mono ?_; exact hp'; exact ht'; rintro e w' ⟨rfl, m, rfl⟩))
  generalize 1 + m + 1 = m1 at *
  have H0 := alloc_new w (.cells #[.int .i64 0, .int .i64 0, .string ⟨#[]⟩, .string ⟨#[]⟩, .string ⟨#[]⟩, .slice none 0 0, .slice none 0 0] 53)
  have H1 : ((w.alloc (.cells #[.int .i64 0, .int .i64 0, .string ⟨#[]⟩, .string ⟨#[]⟩, .string ⟨#[]⟩, .slice none 0 0, .slice none 0 0] 53)).drewN m1).heap[w.heap.size]? = _ := H0
  have H2 := set_at (set_at (set_at (set_at (set_at (set_at (set_at H1 0 (.int .i64 p)) 1 (.int .i64 (p + t.size))) 2 (.string ⟨#[]⟩)) 3 (.string (said F f))) 4 (.string ⟨#[]⟩)) 5 (.slice none 0 0)) 6 (.slice none 0 0)
  have H3 := (((((((((Fr.refl [] w).alloc (.cells #[.int .i64 0, .int .i64 0, .string ⟨#[]⟩, .string ⟨#[]⟩, .string ⟨#[]⟩, .slice none 0 0, .slice none 0 0] 53)).drewN m1).setNew w.heap.size (Nat.le_refl _) 0 (.int .i64 p)).setNew w.heap.size (Nat.le_refl _) 1 (.int .i64 (p + t.size))).setNew w.heap.size (Nat.le_refl _) 2 (.string ⟨#[]⟩)).setNew w.heap.size (Nat.le_refl _) 3 (.string (said F f))).setNew w.heap.size (Nat.le_refl _) 4 (.string ⟨#[]⟩)).setNew w.heap.size (Nat.le_refl _) 5 (.slice none 0 0)).setNew w.heap.size (Nat.le_refl _) 6 (.slice none 0 0)
  have H2' := H2.trans (congrArg some (congrArg (fun a => Obj.cells a 53) (show _ = #[.int .i64 p, .int .i64 (p + t.size), .string ⟨#[]⟩, .string (said F f), .string ⟨#[]⟩, .slice none 0 0, .slice none 0 0] by simp)))
  generalize ((((((((w.alloc (.cells #[.int .i64 0, .int .i64 0, .string ⟨#[]⟩, .string ⟨#[]⟩, .string ⟨#[]⟩, .slice none 0 0, .slice none 0 0] 53)).drewN m1).setCell ⟨w.heap.size, 0, none⟩ (.int .i64 p)).setCell ⟨w.heap.size, 1, none⟩ (.int .i64 (p + t.size))).setCell ⟨w.heap.size, 2, none⟩ (.string ⟨#[]⟩)).setCell ⟨w.heap.size, 3, none⟩ (.string (said F f))).setCell ⟨w.heap.size, 4, none⟩ (.string ⟨#[]⟩)).setCell ⟨w.heap.size, 5, none⟩ (.slice none 0 0)).setCell ⟨w.heap.size, 6, none⟩ (.slice none 0 0) = wz at H2' H3 ⊢
  have HH2 := hide H2'
  have HH3 := hide H3
  clear H0 H1 H2 H2' H3 hd' hp' ht'
  go_wp2
  refine bodyPost_ret (results_cell_row (p := 6) (ty := 53) rfl _ _ w.heap.size 53 _ _ _ rfl HH2.out Tryf.underlying53 rfl (by kernel_rfl)) rfl ?_
  exact ⟨rfl, HH3.out⟩

set_option maxRecDepth 100000 in
set_option maxHeartbeats 4000000 in
theorem diag24_some (F : Interp) (w : World) (d c : Nat) (p : Int) (f t : ByteArray) (hF : F.answers w.tape) (hd : w.cell? ⟨d, 0, none⟩ = some (.pointer (some ⟨c, 0, none⟩))) (hp : w.cell? ⟨c, 0, none⟩ = some (.int .i64 p)) (ht : w.cell? ⟨c, 1, none⟩ = some (.string t)) (p0 : 0 ≤ p) (p1 : p ≤ 1048576) (t1 : (t.size : Int) ≤ 1048576) (h : FmtStop.printed? f 0 = some []) :
    Calls Tryf.prog 24 #[.pointer (some ⟨d, 0, none⟩), .string f, .slice none 0 0] w fun e w' => e = .returned (.agg #[.int .i64 p, .int .i64 (p + t.size), .string ⟨#[]⟩, .string (said F f), .string ⟨#[]⟩, .slice none 0 0, .slice none 0 0]) ∧ Fr [] w w' := by
  have h27 : ∀ w' : World, w'.tape = w.tape → (callFunc 27 #[.string f, .slice none 0 0]).run Tryf.prog w' = .ok (.row FmtCalls.turnsRow (FmtCalls.save 0 0 (.slice none 0 0) f [] [])) w' := fun w' hw' => spr_some F f w' (by rw [hw']; exact hF) h
  have h27a : ∀ (X : Obj) (m : Nat), (callFunc 27 #[.string f, .slice none 0 0]).run Tryf.prog ((w.alloc X).drewN m) = .ok (.row FmtCalls.turnsRow (FmtCalls.save 0 0 (.slice none 0 0) f [] [])) ((w.alloc X).drewN m) := fun X m => h27 _ rfl
  clear h27
  have n1 := World.new_ne w ⟨d, 0, none⟩ hd
  have n2 := World.new_ne w ⟨c, 0, none⟩ hp
  have n3 := World.new_ne w ⟨c, 1, none⟩ ht
  have hd' := old_at hd (.cells #[.int .i64 0, .int .i64 0, .string ⟨#[]⟩, .string ⟨#[]⟩, .string ⟨#[]⟩, .slice none 0 0, .slice none 0 0] 53)
  have hp' := old_at hp (.cells #[.int .i64 0, .int .i64 0, .string ⟨#[]⟩, .string ⟨#[]⟩, .string ⟨#[]⟩, .slice none 0 0, .slice none 0 0] 53)
  have ht' := old_at ht (.cells #[.int .i64 0, .int .i64 0, .string ⟨#[]⟩, .string ⟨#[]⟩, .string ⟨#[]⟩, .slice none 0 0, .slice none 0 0] 53)
  go_enter Tryf.func24, Tryf.ntmps24
  go_wp2_with fail
  go_region_held3 (fun w' => w'.cell? ⟨d, 0, none⟩ = some (.pointer (some ⟨c, 0, none⟩)) ∧ w'.cell? ⟨c, 0, none⟩ = some (.int .i64 p) ∧ w'.cell? ⟨c, 1, none⟩ = some (.string t)) (go_keep)
    (first | (go_at_call 36; refine (pos36 _ c p ?_).mono ?_; exact hp'; rintro e w' ⟨rfl, rfl⟩) | (go_at_call 37; refine (end37 _ c p t ?_ ?_ p0 p1 t1).mono ?_; exact hp'; exact ht'; rintro e w' ⟨rfl, m, rfl⟩) | (refine rows_value Tryf.nextTurns (spr_rows F f _ ?_) ?_; exact hF))
  generalize 1 + m + 1 = m1 at *
  have H0 := alloc_new w (.cells #[.int .i64 0, .int .i64 0, .string ⟨#[]⟩, .string ⟨#[]⟩, .string ⟨#[]⟩, .slice none 0 0, .slice none 0 0] 53)
  have H1 : ((w.alloc (.cells #[.int .i64 0, .int .i64 0, .string ⟨#[]⟩, .string ⟨#[]⟩, .string ⟨#[]⟩, .slice none 0 0, .slice none 0 0] 53)).drewN m1).heap[w.heap.size]? = _ := H0
  have H2 := set_at (set_at (set_at (set_at (set_at (set_at (set_at H1 0 (.int .i64 p)) 1 (.int .i64 (p + t.size))) 2 (.string ⟨#[]⟩)) 3 (.string (said F f))) 4 (.string ⟨#[]⟩)) 5 (.slice none 0 0)) 6 (.slice none 0 0)
  have H3 := (((((((((Fr.refl [] w).alloc (.cells #[.int .i64 0, .int .i64 0, .string ⟨#[]⟩, .string ⟨#[]⟩, .string ⟨#[]⟩, .slice none 0 0, .slice none 0 0] 53)).drewN m1).setNew w.heap.size (Nat.le_refl _) 0 (.int .i64 p)).setNew w.heap.size (Nat.le_refl _) 1 (.int .i64 (p + t.size))).setNew w.heap.size (Nat.le_refl _) 2 (.string ⟨#[]⟩)).setNew w.heap.size (Nat.le_refl _) 3 (.string (said F f))).setNew w.heap.size (Nat.le_refl _) 4 (.string ⟨#[]⟩)).setNew w.heap.size (Nat.le_refl _) 5 (.slice none 0 0)).setNew w.heap.size (Nat.le_refl _) 6 (.slice none 0 0)
  have H2' := H2.trans (congrArg some (congrArg (fun a => Obj.cells a 53) (show _ = #[.int .i64 p, .int .i64 (p + t.size), .string ⟨#[]⟩, .string (said F f), .string ⟨#[]⟩, .slice none 0 0, .slice none 0 0] by simp)))
  generalize ((((((((w.alloc (.cells #[.int .i64 0, .int .i64 0, .string ⟨#[]⟩, .string ⟨#[]⟩, .string ⟨#[]⟩, .slice none 0 0, .slice none 0 0] 53)).drewN m1).setCell ⟨w.heap.size, 0, none⟩ (.int .i64 p)).setCell ⟨w.heap.size, 1, none⟩ (.int .i64 (p + t.size))).setCell ⟨w.heap.size, 2, none⟩ (.string ⟨#[]⟩)).setCell ⟨w.heap.size, 3, none⟩ (.string (said F f))).setCell ⟨w.heap.size, 4, none⟩ (.string ⟨#[]⟩)).setCell ⟨w.heap.size, 5, none⟩ (.slice none 0 0)).setCell ⟨w.heap.size, 6, none⟩ (.slice none 0 0) = wz at H2' H3 ⊢
  have HH2 := hide H2'
  have HH3 := hide H3
  clear H0 H1 H2 H2' H3 hd' hp' ht'
  go_wp2
  refine bodyPost_ret (results_cell_row (p := 6) (ty := 53) rfl _ _ w.heap.size 53 _ _ _ rfl HH2.out Tryf.underlying53 rfl (by kernel_rfl)) rfl ?_
  exact ⟨rfl, HH3.out⟩

theorem diag24 (F : Interp) (w : World) (d c : Nat) (p : Int) (f t : ByteArray) (hF : F.answers w.tape) (hd : w.cell? ⟨d, 0, none⟩ = some (.pointer (some ⟨c, 0, none⟩))) (hp : w.cell? ⟨c, 0, none⟩ = some (.int .i64 p)) (ht : w.cell? ⟨c, 1, none⟩ = some (.string t)) (p0 : 0 ≤ p) (p1 : p ≤ 1048576) (t1 : (t.size : Int) ≤ 1048576) :
    Calls Tryf.prog 24 #[.pointer (some ⟨d, 0, none⟩), .string f, .slice none 0 0] w fun e w' => e = .returned (.agg #[.int .i64 p, .int .i64 (p + t.size), .string ⟨#[]⟩, .string (said F f), .string ⟨#[]⟩, .slice none 0 0, .slice none 0 0]) ∧ Fr [] w w' := by
  rcases printed0 f with h | h
  · exact diag24_none F w d c p f t hF hd hp ht p0 p1 t1 h
  · exact diag24_some F w d c p f t hF hd hp ht p0 p1 t1 h

set_option maxRecDepth 100000 in
set_option maxHeartbeats 4000000 in
theorem span16 (F : Interp) (w : World) (d c : Nat) (p : Int) (f t : ByteArray) (hF : F.answers w.tape) (hd : w.cell? ⟨d, 0, none⟩ = some (.pointer (some ⟨c, 0, none⟩))) (hp : w.cell? ⟨c, 0, none⟩ = some (.int .i64 p)) (ht : w.cell? ⟨c, 1, none⟩ = some (.string t)) (p0 : 0 ≤ p) (p1 : p ≤ 1048576) (t1 : (t.size : Int) ≤ 1048576) :
    Calls Tryf.prog 16 #[.pointer (some ⟨d, 0, none⟩), .string f] w fun e w' => e = .returned (.tuple #[.int .i64 p, .int .i64 (p + t.size)]) ∧ Fr [] w w' := by
  have D := hide (diag24 F w d c p f t hF hd hp ht p0 p1 t1)
  clear hF hd hp ht
  go_enter Tryf.func16, Tryf.ntmps16
  go_wp2_with fail
  refine (unhide D).mono ?_
  rintro e w1 ⟨rfl, hf1⟩
  have HF1 := hide hf1
  clear hf1 D
  go_wp2_with fail
  go_quiet (fail)
  go_wp2
  go_ret2
  exact ⟨rfl, (HF1.out.alloc _).drewN _⟩
end Go.Proofs.Qxb6616684aFmt
