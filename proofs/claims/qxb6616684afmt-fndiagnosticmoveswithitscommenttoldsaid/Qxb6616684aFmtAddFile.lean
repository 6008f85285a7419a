/-
  DERIVED. THE WALKS of (*atomic.Pointer).Store (29), NewFileSet (17), (*FileSet).AddFile (18) at an empty set and at a set of one file.
-/
import Derived.Test.Qxb6616684aFmtAdd
namespace Go.Proofs.Qxb6616684aFmt
open Go.RowKit Go.RwLone Go.MuLone
set_option linter.unusedVariables false

theorem run_call_storeP {P : Program} {f : FuncId} {fn : Func} (hf : P.funcs[f]? = some fn) (hname : (fn.name == "runtime.NumGoroutine") = false) (hb : fn.body.isNone = true) (hn : Extern.findNext fn = none)
    (he : Extern.find fn = some Extern.Atomic.storeT) {a : Addr} {y : Option Addr} {u : Value} {w : World} (hc : w.cell? a = some u) (hz : w.frozen? a = false) :
    (callFunc f #[.pointer (some a), .pointer y]).run P w = .ok (.value (.tuple #[])) (w.setCell a (.pointer y)) := by
  rw [run_callFunc_extern hf hname hb hn he]
  change (Sem.run P (do
    store (← asAddr (.pointer (some a))) (.pointer y) .atomic
    pure Extern.Atomic.none_) w).andThen _ = _
  simp [asAddr, hc, hz, run_store P w a (.pointer y) .atomic rfl, Result.andThen, Extern.Atomic.none_]

set_option maxRecDepth 100000 in
theorem toWord (w : World) (f : Nat) (v : Value) (hf : w.cell? ⟨f, 0, none⟩ = some v) : (convert 36 71 (.pointer (some ⟨f, 0, none⟩))).run Tryf.prog w = .ok (.pointer (some ⟨f, 0, none⟩)) w := by
  obtain ⟨e, n, hsh, hlt, _⟩ := World.shape?_of_cell? hf
  have hge : ¬ (n ≤ 0) := by simpa using Nat.not_le.2 hlt
  have hsz : ((Tryf.prog.info? 79).map (fun i => decide (i.size = 0))) = some false := by kernel_rfl
  obtain ⟨i, hi, hz0⟩ := Option.map_eq_some_iff.1 hsz
  have hz : i.size ≠ 0 := by simpa using hz0
  simp [convert, run_underlying Tryf.underlying36, run_underlying Tryf.underlying71]
  conv => lhs; arg 2; whnf
  have hp : ∀ (k : Program → Sem Value) (w : World), Sem.run Tryf.prog (Sem.program k) w = Sem.run Tryf.prog (k Tryf.prog) w := fun _ _ => rfl
  have hb : ∀ (m : Sem TypeDesc) (k : TypeDesc → Sem Value), Sem.bind m k = (m >>= k) := fun _ _ => rfl
  have hb2 : ∀ (p : Program) (k : Program → Sem TypeDesc), (Sem.pure p).bind k = k p := fun _ _ => rfl
  rw [hp]
  simp only [hb, hb2, Tryf.underlying36]
  simp [Conv.seenAt, viewAt, cellsIn, sizeOf, typeInfo, run_underlying Tryf.underlying71, hi, hz, hsh, Result.andThen]
  intro h0
  exact absurd h0 (by omega)

theorem store29 (w : World) (s f : Nat) (u v : Value) (hc : w.cell? ⟨s, 8, none⟩ = some u) (hz : w.frozen? ⟨s, 8, none⟩ = false) (hf : w.cell? ⟨f, 0, none⟩ = some v) :
    Calls Tryf.prog 29 #[.pointer (some ⟨s, 8, none⟩), .pointer (some ⟨f, 0, none⟩)] w fun e w' => e = .returned (.tuple #[]) ∧ w' = w.setCell ⟨s, 8, none⟩ (.pointer (some ⟨f, 0, none⟩)) := by
  have h1 := toWord w f v hf
  have h2 := run_call_storeP (P := Tryf.prog) Tryf.func54 (by kernel_rfl) (by kernel_rfl) (by kernel_rfl) (by kernel_rfl) (y := some ⟨f, 0, none⟩) hc hz
  go_enter Tryf.func29, Tryf.ntmps29
  go_wp2
  go_end0
  exact ⟨rfl, rfl⟩

theorem newFset (w : World) : Calls Tryf.prog 17 #[] w fun e w' => e = .returned (.pointer (some ⟨w.heap.size, 0, none⟩)) ∧ w' = w.alloc (fset (.int .i32 0) (.int .u32 0) (.int .u32 0) (.int .u32 0) (.int .i32 0) (.int .i32 0) 1 (.pointer none) (.pointer none)) := by
  go_enter Tryf.func17, Tryf.ntmps17
  go_wp2
  go_ret
  exact ⟨rfl, rfl⟩

/-- a file's block -/
abbrev file (name : ByteArray) (base size : Int) (lines : Value) : Obj := .cells #[.string name, .int .i64 base, .int .i64 size, .int .i32 0, .int .u32 0, lines, .slice none 0 0] 79

set_option maxRecDepth 100000 in
set_option maxHeartbeats 1600000 in
theorem addFile0 (w : World) (s : Nat) (name : ByteArray) (z : Int) (hs : w.heap[s]? = some (fset (.int .i32 0) (.int .u32 0) (.int .u32 0) (.int .u32 0) (.int .i32 0) (.int .i32 0) 1 (.pointer none) (.pointer none))) (z0 : 0 ≤ z) (z1 : z ≤ 65536) :
    Calls Tryf.prog 18 #[.pointer (some ⟨s, 0, none⟩), .string name, .int .i64 (-1), .int .i64 z] w fun e w' => ∃ f n v, e = .returned (.pointer (some ⟨f, 0, none⟩)) ∧ w.heap.size ≤ f ∧ w.heap.size ≤ n ∧ f ≠ n ∧ Fr [s] w w' ∧
      w'.heap[s]? = some (fset (.int .i32 0) (.int .u32 0) (.int .u32 0) (.int .u32 0) (.int .i32 0) (.int .i32 0) (1 + (z + 1)) (.pointer (some ⟨n, 0, none⟩)) (.pointer (some ⟨f, 0, none⟩))) ∧
      w'.heap[n]? = some (node (.pointer none) (.pointer none) (.pointer none) (.pointer (some ⟨f, 0, none⟩)) 1 (1 + z) 0 0) ∧ w'.heap[f]? = some (file name 1 z v) := by
  have HS := hide hs
  have hlt := heap_lt hs
  clear hs
  go_enter_defers Tryf.func18, Tryf.ntmps18
  go_wp2_with fail
  have FA : Fr [s] w ((w.alloc (.cells #[.int .i64 0] 3)).alloc (file name 0 z (.slice (some ⟨w.heap.size, 0, none⟩) 1 1))) := ((Fr.refl _ w).alloc _).alloc _
  have hsA : ((w.alloc (.cells #[.int .i64 0] 3)).alloc (file name 0 z (.slice (some ⟨w.heap.size, 0, none⟩) 1 1))).heap[s]? = _ := alloc_at (alloc_at HS.out _) _
  have hfA : ((w.alloc (.cells #[.int .i64 0] 3)).alloc (file name 0 z (.slice (some ⟨w.heap.size, 0, none⟩) 1 1))).heap[w.heap.size + 1]? = _ := heap_alloc2_new w _ _
  have HFA := hide FA
  have HSA := hide hsA
  have HfA := hide hfA
  have hfs : s ≠ w.heap.size + 1 := by omega
  have hge : w.heap.size ≤ w.heap.size + 1 := by omega
  clear FA hsA hfA HS
  generalize (w.alloc (.cells #[.int .i64 0] 3)).alloc (file name 0 z (.slice (some ⟨w.heap.size, 0, none⟩) 1 1)) = wA at *
  generalize hgf : w.heap.size + 1 = f at HfA hfs hge ⊢
  clear hgf
  generalize (Value.slice (some ⟨w.heap.size, 0, none⟩) 1 1) = v at HfA ⊢
  refine (wlock_free Tryf.rwWLib s 0 (.int .u32 0) (.int .u32 0) wA (cell_at HSA.out 0) (cell_at HSA.out 2) (cell_at HSA.out 3) (cell_at HSA.out 4) (frozen_at HSA.out 0) (frozen_at HSA.out 4)).mono ?_
  rintro e w2 ⟨rfl, hw2⟩
  have hs2 : w2.heap[s]? = some (fset (.int .i32 1) (.int .u32 0) (.int .u32 0) (.int .u32 0) (.int .i32 (-1073741824)) (.int .i32 0) 1 (.pointer none) (.pointer none)) := by
    rw [hw2]
    have := set_at (set_at HSA.out 0 (.int .i32 1)) 4 (.int .i32 (-1073741824))
    simp at this
    exact this
  have hf2 : w2.heap[f]? = some (file name 0 z v) := by
    rw [hw2]
    exact (set_far (by omega) _ _).trans ((set_far (by omega) _ _).trans HfA.out)
  have F2 : Fr [s] w w2 := by rw [hw2]; exact (HFA.out.setCell s (by simp) 0 _).setCell s (by simp) 4 _
  have c6 := cell_at hs2 6
  have z6 := frozen_at hs2 6
  have d1 := cell_at hf2 1
  have zd1 := frozen_at hf2 1
  simp at c6 d1
  have hf3 := set_at hf2 1 (.int .i64 1)
  have hs3 : (w2.setCell ⟨f, 1, none⟩ (.int .i64 1)).heap[s]? = _ := (set_far hfs 1 (.int .i64 1)).trans hs2
  have c6' := cell_at hs3 6
  simp at hf3 c6'
  have hs4 := set_at hs3 6 (.int .i64 (1 + (z + 1)))
  simp at hs4
  have hf4 : ((w2.setCell ⟨f, 1, none⟩ (.int .i64 1)).setCell ⟨s, 6, none⟩ (.int .i64 (1 + (z + 1)))).heap[f]? = _ := (set_far (Ne.symm hfs) 6 _).trans hf3
  have F4 : Fr [s] w ((w2.setCell ⟨f, 1, none⟩ (.int .i64 1)).setCell ⟨s, 6, none⟩ (.int .i64 (1 + (z + 1)))) := (F2.setNew f hge 1 _).setCell s (by simp) 6 _
  have HS4 := hide hs4
  have HF4 := hide hf4
  have HFr4 := hide F4
  clear hw2 hs2 hf2 F2 hf3 hs3 hs4 hf4 F4 HSA HFA HfA
  go_wp2_with fail
  refine (add0 _ s f _ _ _ _ _ _ _ _ 1 z HS4.out (cell_at HF4.out 1) (cell_at HF4.out 2) (by omega) (by omega) z0 (by omega)).mono ?_
  rintro e w5 ⟨rfl, hf5, n, hn, hs5, hn5⟩
  have F5 := HFr4.out.trans hf5
  have hff := hf5.at HF4.out (by simp; omega)
  have hflt := heap_lt HF4.out
  have hsz := HFr4.out.size
  have c8 := cell_at hs5 8
  have z8 := frozen_at hs5 8
  have d0 := cell_at hff 0
  simp at c8 d0
  have T := hide (store29 w5 s f _ _ c8 z8 d0)
  have HF5 := hide F5
  have HS5 := hide hs5
  have HN5 := hide hn5
  have Hff := hide hff
  clear hf5 hs5 hn5 hff F5 HS4 HF4 HFr4 c8 z8 d0 c6 z6 d1 zd1 c6'
  go_wp2_with fail
  refine (unhide T).mono ?_
  rintro e w6 ⟨rfl, hw6⟩
  have hs6 : w6.heap[s]? = some (fset (.int .i32 1) (.int .u32 0) (.int .u32 0) (.int .u32 0) (.int .i32 (-1073741824)) (.int .i32 0) (1 + (z + 1)) (.pointer (some ⟨n, 0, none⟩)) (.pointer (some ⟨f, 0, none⟩))) := by
    rw [hw6]
    have := set_at HS5.out 8 (.pointer (some ⟨f, 0, none⟩))
    simp at this
    exact this
  have hns : n ≠ s := by omega
  have hn6 : w6.heap[n]? = some (node (.pointer none) (.pointer none) (.pointer none) (.pointer (some ⟨f, 0, none⟩)) 1 (1 + z) 0 0) := by rw [hw6]; exact (set_far hns _ _).trans HN5.out
  have hf6 : w6.heap[f]? = some (file name 1 z v) := by rw [hw6]; exact (set_far (Ne.symm hfs) _ _).trans Hff.out
  have F6 : Fr [s] w w6 := by rw [hw6]; exact HF5.out.setCell s (by simp) 8 _
  have HS6 := hide hs6
  have HN6 := hide hn6
  have Hf6 := hide hf6
  have HF6 := hide F6
  clear hw6 hs6 hn6 hf6 F6 T HS5 HN5 Hff HF5
  go_wp2
  refine leaves_cons (f := 26) (args := #[.pointer (some ⟨s, 0, none⟩)]) (by simp) (by simp [go_sem]) ?_
  refine (wunlock_deferred Tryf.rwWLib s 0 (.int .u32 0) (.int .u32 0) .returning _ (cell_at HS6.out 0) (cell_at HS6.out 2) (cell_at HS6.out 3) (cell_at HS6.out 4) (frozen_at HS6.out 0) (frozen_at HS6.out 4)).mono ?_
  rintro e u' w'' ⟨rfl, rfl, rfl⟩
  refine ⟨_, results_tmp rfl _ _ _, f, n, v, rfl, hge, by omega, by omega, (HF6.out.setCell s (by simp) 4 _).setCell s (by simp) 0 _, ?_, ?_, ?_⟩
  · have := set_at (set_at HS6.out 4 (.int .i32 0)) 0 (.int .i32 0)
    simp at this
    exact this
  · exact (set_far hns _ _).trans ((set_far hns _ _).trans HN6.out)
  · exact (set_far (Ne.symm hfs) _ _).trans ((set_far (Ne.symm hfs) _ _).trans Hf6.out)
set_option maxRecDepth 100000 in
set_option maxHeartbeats 1600000 in
theorem addFile1 (w : World) (s n : Nat) (g last : Value) (ks ke B : Int) (name : ByteArray) (z : Int) (hs : w.heap[s]? = some (fset (.int .i32 0) (.int .u32 0) (.int .u32 0) (.int .u32 0) (.int .i32 0) (.int .i32 0) B (.pointer (some ⟨n, 0, none⟩)) last))
    (hn : w.heap[n]? = some (node (.pointer none) (.pointer none) (.pointer none) g ks ke 0 0)) (hns : n ≠ s) (hk : ks ≤ ke) (hkb : ke < B) (B0 : 0 ≤ B) (B1 : B ≤ 200000) (z0 : 0 ≤ z) (z1 : z ≤ 65536) :
    Calls Tryf.prog 18 #[.pointer (some ⟨s, 0, none⟩), .string name, .int .i64 (-1), .int .i64 z] w fun e w' => ∃ f v, e = .returned (.pointer (some ⟨f, 0, none⟩)) ∧ w.heap.size ≤ f ∧ Fr [s, n] w w' ∧ w'.heap[f]? = some (file name B z v) := by
  have HN := hide hn
  have hnlt := heap_lt hn
  clear hn
  have HS := hide hs
  have hlt := heap_lt hs
  clear hs
  go_enter_defers Tryf.func18, Tryf.ntmps18
  go_wp2_with fail
  have FA : Fr [s] w ((w.alloc (.cells #[.int .i64 0] 3)).alloc (file name 0 z (.slice (some ⟨w.heap.size, 0, none⟩) 1 1))) := ((Fr.refl _ w).alloc _).alloc _
  have hsA : ((w.alloc (.cells #[.int .i64 0] 3)).alloc (file name 0 z (.slice (some ⟨w.heap.size, 0, none⟩) 1 1))).heap[s]? = _ := alloc_at (alloc_at HS.out _) _
  have hfA : ((w.alloc (.cells #[.int .i64 0] 3)).alloc (file name 0 z (.slice (some ⟨w.heap.size, 0, none⟩) 1 1))).heap[w.heap.size + 1]? = _ := heap_alloc2_new w _ _
  have hnA : ((w.alloc (.cells #[.int .i64 0] 3)).alloc (file name 0 z (.slice (some ⟨w.heap.size, 0, none⟩) 1 1))).heap[n]? = _ := alloc_at (alloc_at HN.out _) _
  have HNA := hide hnA
  have hfn : n ≠ w.heap.size + 1 := by omega
  have HFA := hide FA
  have HSA := hide hsA
  have HfA := hide hfA
  have hfs : s ≠ w.heap.size + 1 := by omega
  have hge : w.heap.size ≤ w.heap.size + 1 := by omega
  clear FA hsA hfA hnA HS
  generalize (w.alloc (.cells #[.int .i64 0] 3)).alloc (file name 0 z (.slice (some ⟨w.heap.size, 0, none⟩) 1 1)) = wA at *
  generalize hgf : w.heap.size + 1 = f at HfA hfs hge hfn ⊢
  clear hgf
  generalize (Value.slice (some ⟨w.heap.size, 0, none⟩) 1 1) = v at HfA ⊢
  refine (wlock_free Tryf.rwWLib s 0 (.int .u32 0) (.int .u32 0) wA (cell_at HSA.out 0) (cell_at HSA.out 2) (cell_at HSA.out 3) (cell_at HSA.out 4) (frozen_at HSA.out 0) (frozen_at HSA.out 4)).mono ?_
  rintro e w2 ⟨rfl, hw2⟩
  have hs2 : w2.heap[s]? = some (fset (.int .i32 1) (.int .u32 0) (.int .u32 0) (.int .u32 0) (.int .i32 (-1073741824)) (.int .i32 0) B (.pointer (some ⟨n, 0, none⟩)) last) := by
    rw [hw2]
    have := set_at (set_at HSA.out 0 (.int .i32 1)) 4 (.int .i32 (-1073741824))
    simp at this
    exact this
  have hf2 : w2.heap[f]? = some (file name 0 z v) := by
    rw [hw2]
    exact (set_far (by omega) _ _).trans ((set_far (by omega) _ _).trans HfA.out)
  have hn2 : w2.heap[n]? = some (node (.pointer none) (.pointer none) (.pointer none) g ks ke 0 0) := by
    rw [hw2]
    exact (set_far hns _ _).trans ((set_far hns _ _).trans HNA.out)
  have F2 : Fr [s] w w2 := by rw [hw2]; exact (HFA.out.setCell s (by simp) 0 _).setCell s (by simp) 4 _
  have c6 := cell_at hs2 6
  have z6 := frozen_at hs2 6
  have d1 := cell_at hf2 1
  have zd1 := frozen_at hf2 1
  simp at c6 d1
  have hf3 := set_at hf2 1 (.int .i64 B)
  have hs3 : (w2.setCell ⟨f, 1, none⟩ (.int .i64 B)).heap[s]? = _ := (set_far hfs 1 (.int .i64 B)).trans hs2
  have c6' := cell_at hs3 6
  simp at hf3 c6'
  have hs4 := set_at hs3 6 (.int .i64 (B + (z + 1)))
  simp at hs4
  have hf4 : ((w2.setCell ⟨f, 1, none⟩ (.int .i64 B)).setCell ⟨s, 6, none⟩ (.int .i64 (B + (z + 1)))).heap[f]? = _ := (set_far (Ne.symm hfs) 6 _).trans hf3
  have F4 : Fr [s] w ((w2.setCell ⟨f, 1, none⟩ (.int .i64 B)).setCell ⟨s, 6, none⟩ (.int .i64 (B + (z + 1)))) := (F2.setNew f hge 1 _).setCell s (by simp) 6 _
  have hn4 : ((w2.setCell ⟨f, 1, none⟩ (.int .i64 B)).setCell ⟨s, 6, none⟩ (.int .i64 (B + (z + 1)))).heap[n]? = some (node (.pointer none) (.pointer none) (.pointer none) g ks ke 0 0) := (set_far hns _ _).trans ((set_far hfn _ _).trans hn2)
  have HN4 := hide hn4
  have HS4 := hide hs4
  have HF4 := hide hf4
  have HFr4 := hide F4
  clear hw2 hs2 hf2 hn2 hn4 F2 hf3 hs3 hs4 hf4 F4 HSA HFA HfA
  go_wp2_with fail
  refine (add1 _ s n f g ks ke B z (cell_at HS4.out 7) HN4.out hk hkb (cell_at HF4.out 1) (cell_at HF4.out 2) B0 (by omega) z0 (by omega)).mono ?_
  rintro e w5 ⟨rfl, hf5⟩
  have F5 := (HFr4.out.mono (T := [s, n]) (by simp)).trans (hf5.mono (by simp))
  have hff := hf5.at HF4.out (by simp; omega)
  have hs5 := hf5.at HS4.out (by simp; omega)
  have c8 := cell_at hs5 8
  have z8 := frozen_at hs5 8
  have d0 := cell_at hff 0
  simp at c8 d0
  have T := hide (store29 w5 s f _ _ c8 z8 d0)
  have HF5 := hide F5
  have HS5 := hide hs5
  have Hff := hide hff
  clear hf5 hs5 hff F5 HS4 HF4 HFr4 HN4 c8 z8 d0 c6 z6 d1 zd1 c6'
  go_wp2_with fail
  refine (unhide T).mono ?_
  rintro e w6 ⟨rfl, hw6⟩
  have hs6 : w6.heap[s]? = some (fset (.int .i32 1) (.int .u32 0) (.int .u32 0) (.int .u32 0) (.int .i32 (-1073741824)) (.int .i32 0) (B + (z + 1)) (.pointer (some ⟨n, 0, none⟩)) (.pointer (some ⟨f, 0, none⟩))) := by
    rw [hw6]
    have := set_at HS5.out 8 (.pointer (some ⟨f, 0, none⟩))
    simp at this
    exact this
  have hf6 : w6.heap[f]? = some (file name B z v) := by rw [hw6]; exact (set_far (Ne.symm hfs) _ _).trans Hff.out
  have F6 : Fr [s, n] w w6 := by rw [hw6]; exact HF5.out.setCell s (by simp) 8 _
  have HS6 := hide hs6
  have Hf6 := hide hf6
  have HF6 := hide F6
  clear hw6 hs6 hf6 F6 T HS5 Hff HF5
  go_wp2
  refine leaves_cons (f := 26) (args := #[.pointer (some ⟨s, 0, none⟩)]) (by simp) (by simp [go_sem]) ?_
  refine (wunlock_deferred Tryf.rwWLib s 0 (.int .u32 0) (.int .u32 0) .returning _ (cell_at HS6.out 0) (cell_at HS6.out 2) (cell_at HS6.out 3) (cell_at HS6.out 4) (frozen_at HS6.out 0) (frozen_at HS6.out 4)).mono ?_
  rintro e u' w'' ⟨rfl, rfl, rfl⟩
  exact ⟨_, results_tmp rfl _ _ _, f, v, rfl, hge, (HF6.out.setCell s (by simp) 4 _).setCell s (by simp) 0 _, (set_far (Ne.symm hfs) _ _).trans ((set_far (Ne.symm hfs) _ _).trans Hf6.out)⟩
end Go.Proofs.Qxb6616684aFmt
