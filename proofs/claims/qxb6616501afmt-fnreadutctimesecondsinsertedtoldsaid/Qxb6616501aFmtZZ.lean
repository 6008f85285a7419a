/-
  DERIVED. THE WALK of ZZreadUTCTime (function 8).
-/
import Derived.Test.Qxb6616501aFmtUtc
namespace Go.Proofs.Qxb6616501aFmt
open Go.RowKit Go.Extern.Stop Go.Stop Go.Extern
set_option linter.unusedVariables false

theorem results_tmp11 {fn : Func} {a0 a1 a2 a3 a4 a5 a6 a7 a8 a9 a10 : Tmp} (h : fn.results = #[.tmp a0, .tmp a1, .tmp a2, .tmp a3, .tmp a4, .tmp a5, .tmp a6, .tmp a7, .tmp a8, .tmp a9, .tmp a10]) (tmps : Array Value) (P : Program) (w : World) :
    (results fn tmps).run P w = .ok (.tuple #[tmps.getD a0 undef, tmps.getD a1 undef, tmps.getD a2 undef, tmps.getD a3 undef, tmps.getD a4 undef, tmps.getD a5 undef, tmps.getD a6 undef, tmps.getD a7 undef, tmps.getD a8 undef, tmps.getD a9 undef, tmps.getD a10 undef]) w := by
  simp [results, h]

theorem But2.toBelow {b g : Nat} {x y : World} (h : But2 b g x y) {B : Nat} (hB : B ≤ b) (hG : B ≤ g) (hs : B ≤ x.heap.size) : Below B x y :=
  ⟨h.os, h.tape, h.output, h.size, fun k hk => h.block k (by omega) (by omega) (by omega)⟩

theorem heap_alloc_new' (w : World) (x : Obj) : (w.alloc x).heap[w.heap.size]? = some x := by
  show (w.heap.push _)[w.heap.size]? = _
  simp
theorem heap_alloc_new2 (w : World) (x y : Obj) : ((w.alloc x).alloc y).heap[w.heap.size + 1]? = some y := by
  have := heap_alloc_new' (w.alloc x) y
  simpa using this

abbrev tup (y mo d h mi sec un z o q : Int) (ev : Value) : Value := .tuple #[.int .i64 y, .int .i64 mo, .int .i64 d, .int .i64 h, .int .i64 mi, .int .i64 sec, .int .i64 un, .int .u8 z, .int .i64 o, .int .i64 q, ev]

set_option maxHeartbeats 2000000 in
theorem zz_any (w : World) (s : ByteArray) (p : Nat) (sec z o : Int) (hs : s.size ≤ 2097152) (hp : p ≤ s.size) :
    Calls Tryf.prog 8 #[.string s, .int .i64 (p : Int), .int .i64 sec, .int .u8 z, .int .i64 o] w fun e w' => Below w.heap.size w w' ∧
      (((pre s p = false ∨ tailR s p sec o = none) ∧ ∃ y mo d h mi sec' un z' o' q a, e = .returned (tup y mo d h mi sec' un z' o' q (.iface 47 (.pointer (some a))))) ∨
       (pre s p = true ∧ ∃ sec' un' z' o' n, tailR s p sec o = some (sec', un', z', o', n) ∧ e = .returned (tup (yr (val s p 2)) (val s (p + 2) 2) (val s (p + 4) 2) (val s (p + 6) 2) (val s (p + 8) 2) sec' un' z' o' ((p + n : Nat) : Int) .nilIface))) := by
  go_enter Tryf.func8, Tryf.ntmps8
  go_wp2_with fail
  have H0 : scOk ((w.alloc (.cells #[.string s, .int .i64 (p : Int), .nilIface] 37)).alloc (.cells #[.int .i64 0, .int .i64 0, .int .i64 0, .int .i64 0, .int .i64 0, .int .i64 sec, .int .i64 0, .string ⟨#[]⟩, .int .u8 0, .int .u8 z, .int .i64 o] 40)) w.heap.size s p := alloc_at (heap_alloc_new' w _) _
  have H1 : fld ((w.alloc (.cells #[.string s, .int .i64 (p : Int), .nilIface] 37)).alloc (.cells #[.int .i64 0, .int .i64 0, .int .i64 0, .int .i64 0, .int .i64 0, .int .i64 sec, .int .i64 0, .string ⟨#[]⟩, .int .u8 0, .int .u8 z, .int .i64 o] 40)) (w.heap.size + 1) 0 0 0 0 0 sec 0 (.string ⟨#[]⟩) (.int .u8 0) z o := heap_alloc_new2 w _ _
  have H2 : Below w.heap.size w ((w.alloc (.cells #[.string s, .int .i64 (p : Int), .nilIface] 37)).alloc (.cells #[.int .i64 0, .int .i64 0, .int .i64 0, .int .i64 0, .int .i64 0, .int .i64 sec, .int .i64 0, .string ⟨#[]⟩, .int .u8 0, .int .u8 z, .int .i64 o] 40)) := ((Below.refl _ _).alloc (Nat.le_refl _) _).alloc (by simp) _
  have H3 : ((w.alloc (.cells #[.string s, .int .i64 (p : Int), .nilIface] 37)).alloc (.cells #[.int .i64 0, .int .i64 0, .int .i64 0, .int .i64 0, .int .i64 0, .int .i64 sec, .int .i64 0, .string ⟨#[]⟩, .int .u8 0, .int .u8 z, .int .i64 o] 40)).heap.size = w.heap.size + 2 := by simp
  generalize ((w.alloc (.cells #[.string s, .int .i64 (p : Int), .nilIface] 37)).alloc (.cells #[.int .i64 0, .int .i64 0, .int .i64 0, .int .i64 0, .int .i64 0, .int .i64 sec, .int .i64 0, .string ⟨#[]⟩, .int .u8 0, .int .u8 z, .int .i64 o] 40)) = W at *
  refine (utc_any W w.heap.size (w.heap.size + 1) (by omega) s p 0 0 0 0 0 sec 0 (.string ⟨#[]⟩) (.int .u8 0) z o H0 H1 hs hp).mono ?_
  rintro e w1 ⟨rfl, hbt, hres⟩
  have HBL : Hid (Below w.heap.size w w1) := H2.trans (hbt.toBelow (by omega) (by omega) (by omega))
  clear H0 H1 H2 H3 hbt
  rcases hres with ⟨hno, ⟨q, a, hq, hh⟩, ⟨y, mo, d, h, mi, sc, un, x7, x8, z', o', hf⟩⟩ | ⟨hpre, sec', un', z', o', n, ht, hok, hf⟩
  · have HN := hide hno
    have k1 := (cell_at hh 1).trans (by rfl : _ = some (Value.int .i64 (q : Int)))
    have k2 := (cell_at hh 2).trans (by rfl : _ = some (Value.iface 47 (.pointer (some a))))
    have g0 := (cell_at hf 0).trans (by rfl : _ = some (Value.int .i64 y))
    have g1 := (cell_at hf 1).trans (by rfl : _ = some (Value.int .i64 mo))
    have g2 := (cell_at hf 2).trans (by rfl : _ = some (Value.int .i64 d))
    have g3 := (cell_at hf 3).trans (by rfl : _ = some (Value.int .i64 h))
    have g4 := (cell_at hf 4).trans (by rfl : _ = some (Value.int .i64 mi))
    have g5 := (cell_at hf 5).trans (by rfl : _ = some (Value.int .i64 sc))
    have g6 := (cell_at hf 6).trans (by rfl : _ = some (Value.int .i64 un))
    have g9 := (cell_at hf 9).trans (by rfl : _ = some (Value.int .u8 z'))
    have g10 := (cell_at hf 10).trans (by rfl : _ = some (Value.int .i64 o'))
    clear hno hh hf
    go_wp2_with fail
    go_quiet (fail)
    go_wp2_with fail
    (try simp only [Exit.inBlock, Exit.then])
    refine bodyPost_ret (results_tmp11 rfl _ _ _) rfl ?_
    exact ⟨below_drewN HBL.out _, Or.inl ⟨HN.out, _, _, _, _, _, _, _, _, _, _, _, rfl⟩⟩
  · have HN := hide hpre
    have HT := hide ht
    generalize hpn : p + n = pn at hok
    have HPN := hide hpn
    generalize hv0 : yr (val s p 2) = V0 at hf
    generalize hv1 : val s (p + 2) 2 = V1 at hf
    generalize hv2 : val s (p + 4) 2 = V2 at hf
    generalize hv3 : val s (p + 6) 2 = V3 at hf
    generalize hv4 : val s (p + 8) 2 = V4 at hf
    have A0 := hide hv0
    have A1 := hide hv1
    have A2 := hide hv2
    have A3 := hide hv3
    have A4 := hide hv4
    have k1 := (cell_at hok 1).trans (by rfl : _ = some (Value.int .i64 (pn : Int)))
    have k2 := (cell_at hok 2).trans (by rfl : _ = some Value.nilIface)
    have g0 := (cell_at hf 0).trans (by rfl : _ = some (Value.int .i64 V0))
    have g1 := (cell_at hf 1).trans (by rfl : _ = some (Value.int .i64 V1))
    have g2 := (cell_at hf 2).trans (by rfl : _ = some (Value.int .i64 V2))
    have g3 := (cell_at hf 3).trans (by rfl : _ = some (Value.int .i64 V3))
    have g4 := (cell_at hf 4).trans (by rfl : _ = some (Value.int .i64 V4))
    have g5 := (cell_at hf 5).trans (by rfl : _ = some (Value.int .i64 sec'))
    have g6 := (cell_at hf 6).trans (by rfl : _ = some (Value.int .i64 un'))
    have g9 := (cell_at hf 9).trans (by rfl : _ = some (Value.int .u8 z'))
    have g10 := (cell_at hf 10).trans (by rfl : _ = some (Value.int .i64 o'))
    clear hpre ht hok hf hpn hv0 hv1 hv2 hv3 hv4
    go_wp2_with fail
    go_quiet (fail)
    go_wp2_with fail
    (try simp only [Exit.inBlock, Exit.then])
    refine bodyPost_ret (results_tmp11 rfl _ _ _) rfl ?_
    refine ⟨below_drewN HBL.out _, Or.inr ⟨HN.out, sec', un', z', o', n, HT.out, ?_⟩⟩
    rw [A0.out, A1.out, A2.out, A3.out, A4.out, HPN.out]
    rfl
end Go.Proofs.Qxb6616501aFmt
