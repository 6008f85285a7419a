/-
  DERIVED. THE WALKS of (*File).Pos (20), ZZbuild (7), ZZnewPlain (15), ZZwritten (14), zzBytes (13).
-/
import Derived.Test.Qxb6616684aFmtLines
import Derived.WalkLawsBesides
namespace Go.Proofs.Qxb6616684aFmt
open Go.RowKit Go.RwLone Go.MuLone
set_option linter.unusedVariables false

theorem Fr.weak {S : List Nat} {x y z : World} (h : Fr [] x y) (k : Fr S y z) (hS : ∀ i, i ∈ S → x.heap.size ≤ i) : Fr [] x z :=
  ⟨k.os.trans h.os, k.tape.trans h.tape, k.output.trans h.output, Nat.le_trans h.size k.size, fun i hi _ => (k.block i (Nat.lt_of_lt_of_le hi h.size) (fun e => by have := hS i e; omega)).trans (h.block i hi (by simp))⟩
theorem Fr.bytes (w : World) (e : TypeId) (s : ByteArray) : Fr [] w (Go.Lib.bytesWorld w e s) :=
  ⟨rfl, rfl, rfl, by rw [Go.Lib.bytesWorld_size]; omega, fun k hk _ => Go.Lib.bytesWorld_at_old w e s k hk⟩

theorem fix32 (w : World) (f : Nat) (z o : Int) (hz : w.cell? ⟨f, 2, none⟩ = some (.int .i64 z)) (o0 : 0 ≤ o) (o1 : o ≤ z) : Calls Tryf.prog 32 #[.pointer (some ⟨f, 0, none⟩), .int .i64 o] w fun e w' => e = .returned (.int .i64 o) ∧ w' = w := by
  have e1 : min z o = o := by omega
  have e2 : max o 0 = o := by omega
  go_enter Tryf.func32, Tryf.ntmps32
  go_wp2
  all_goals
    go_ret
    refine ⟨?_, rfl⟩
    first | rfl | (obtain rfl : z = o := (by omega); rfl)
theorem pos20 (w : World) (f : Nat) (b z o : Int) (hb : w.cell? ⟨f, 1, none⟩ = some (.int .i64 b)) (hz : w.cell? ⟨f, 2, none⟩ = some (.int .i64 z)) (b0 : 0 ≤ b) (b1 : b ≤ 65536) (o0 : 0 ≤ o) (o1 : o ≤ z) (z1 : z ≤ 65536) :
    Calls Tryf.prog 20 #[.pointer (some ⟨f, 0, none⟩), .int .i64 o] w fun e w' => e = .returned (.int .i64 (b + o)) ∧ ∃ m, w' = w.drewN m := by
  go_enter Tryf.func20, Tryf.ntmps20
  go_wp2_with fail
  go_quiet ((go_at_call 32; exact Calls.quiet_of_same (fix32 _ f z o hz o0 o1)))
  go_wp2
  go_ret
  exact ⟨rfl, _, rfl⟩

set_option maxRecDepth 100000 in
set_option maxHeartbeats 4000000 in
theorem build7 (w : World) (src text verb : ByteArray) (o : Int) (al : Bool) (hs : (src.size : Int) ≤ 65536) (o0 : 0 ≤ o) (o1 : o ≤ (src.size : Int)) :
    Calls Tryf.prog 7 #[.string src, .string ⟨#[]⟩, .int .i64 o, .string text, .string verb, .bool al] w fun e w' => ∃ d c s, e = .returned (.tuple #[.pointer (some ⟨d, 0, none⟩), .pointer (some ⟨s, 0, none⟩)]) ∧ Fr [] w w' ∧
      w'.cell? ⟨d, 0, none⟩ = some (.pointer (some ⟨c, 0, none⟩)) ∧ w'.cell? ⟨c, 0, none⟩ = some (.int .i64 (1 + o)) ∧ w'.cell? ⟨c, 1, none⟩ = some (.string text) := by
  have s0 : (0 : Int) ≤ (src.size : Int) := by omega
  go_enter Tryf.func7, Tryf.ntmps7
  go_wp2_with fail
  refine (newFset w).mono ?_
  rintro e w1 ⟨rfl, hw1⟩
  have hs1 := alloc_new w (fset (.int .i32 0) (.int .u32 0) (.int .u32 0) (.int .u32 0) (.int .i32 0) (.int .i32 0) 1 (.pointer none) (.pointer none))
  rw [← hw1] at hs1
  have F1 : Fr [] w w1 := by rw [hw1]; exact (Fr.refl _ w).alloc _
  have hsge : w.heap.size ≤ w.heap.size := Nat.le_refl _
  generalize hsn : w.heap.size = s at hs1 ⊢
  have HF1 := hide F1
  have HS1 := hide hs1
  have HSN := hide hsn
  clear hw1 F1 hs1 hsn hsge
  go_wp2_with fail
  refine (addFile0 w1 s _ (src.size : Int) HS1.out s0 hs).mono ?_
  rintro e w2 ⟨f, n, v, rfl, hfge, hnge, hfn, hF2, hs2, hn2, hf2⟩
  have hslt := heap_lt HS1.out
  have HF2 := hide (HF1.out.weak hF2 (by intro i hi; simp at hi; have := HSN.out; omega))
  have HS2 := hide hs2
  have HN2 := hide hn2
  have Hf2 := hide hf2
  have hsz1 := HF1.out.size
  have hne1 : n ≠ s := by omega
  have hne2 : f ≠ s := by omega
  clear hF2 hs2 hn2 hf2 HS1
  have hcv := Go.Lib.run_convert_string_bytes (P := Tryf.prog) w2 9 39 5 src Tryf.underlying9 Tryf.underlying39 Tryf.underlying5
  go_wp2_with fail
  have FB := Fr.bytes w2 5 src
  have hcell := Go.Lib.bytesWorld_cell w2 5 src
  have hf3 := FB.at Hf2.out (by simp)
  have hs3 := FB.at HS2.out (by simp)
  have hn3 := FB.at HN2.out (by simp)
  refine (lines19 _ f w2.heap.size src.size _ _ 1 _ _ _ hf3 (by omega) hcell).mono ?_
  rintro e w4 ⟨rfl, hF4, v4, hf4⟩
  have hs4 := hF4.at hs3 (by simpa using Ne.symm hne2)
  have hn4 := hF4.at hn3 (by simpa using Ne.symm hfn)
  have HF4 := hide ((HF2.out.trans FB).weak hF4 (by intro i hi; simp at hi; omega))
  have HS4 := hide hs4
  have HN4 := hide hn4
  have Hf4 := hide hf4
  have hsz2 := HF2.out.size
  clear hcv FB hcell hf3 hs3 hn3 hF4 hs4 hn4 hf4 HF2 HS2 HN2 Hf2
  go_wp2_with fail
  refine (addFile1 w4 s n _ _ 1 _ _ _ 0 HS4.out HN4.out hne1 (by omega) (by omega) (by omega) (by omega) (by omega) (by omega)).mono ?_
  rintro e w5 ⟨f2, v2, rfl, hf2ge, hF5, hf5⟩
  have hflt4 := heap_lt Hf4.out
  have hff5 := hF5.at Hf4.out (by simp; omega)
  have hsz4 := HF4.out.size
  have hssn := HSN.out
  have HF5 := hide (HF4.out.weak hF5 (by intro i hi; simp at hi; omega))
  have Hf5 := hide hf5
  have Hff5 := hide hff5
  clear hF5 hf5 hff5 HF4 HS4 HN4 Hf4
  have hcv := Go.Lib.run_convert_string_bytes (P := Tryf.prog) w5 9 39 5 ⟨#[]⟩ Tryf.underlying9 Tryf.underlying39 Tryf.underlying5
  go_wp2_with fail
  have FB := Fr.bytes w5 5 ⟨#[]⟩
  have hf6 := FB.at Hf5.out (by simp)
  have hff6 := FB.at Hff5.out (by simp)
  refine (lines19 _ f2 w5.heap.size _ _ _ _ 0 _ (fun _ => 0) hf6 (by first | omega | decide | simp) (by intro j hj; exact absurd hj (by first | omega | simp))).mono ?_
  rintro e w7 ⟨rfl, hF7, v7, hf7⟩
  have hff7 := hF7.at hff6 (by simp; omega)
  have HF7 := hide ((HF5.out.trans FB).weak hF7 (by intro i hi; simp at hi; omega))
  have P := hide (pos20 w7 f 1 (src.size : Int) o (cell_at hff7 1) (cell_at hff7 2) (by omega) (by omega) o0 o1 hs)
  clear hcv FB hf6 hff6 hF7 hf7 hff7 HF5 Hf5 Hff5
  go_wp2_with fail
  refine (unhide P).mono ?_
  rintro e w8 ⟨rfl, m8, hw8⟩
  have HF8 := hide (show Fr [] w w8 by rw [hw8]; exact HF7.out.drewN _)
  clear hw8 P HF7
  go_wp2_with fail
  go_ret2
  exact ⟨w8.heap.size + 1, w8.heap.size, s, rfl, (HF8.out.alloc _).alloc _, cell_at (heap_alloc2_new w8 _ _) 0, cell_at (alloc_at (alloc_new w8 _) _) 0, cell_at (alloc_at (alloc_new w8 _) _) 1⟩

theorem newPlain15 (w : World) (verb reason : ByteArray) (al : Bool) : Calls Tryf.prog 15 #[.string verb, .string reason, .bool al] w fun e w' => ∃ d, e = .returned (.pointer (some ⟨d, 0, none⟩)) ∧ Fr [] w w' ∧ w'.cell? ⟨d, 2, none⟩ = some (.string verb) := by
  go_enter Tryf.func15, Tryf.ntmps15
  go_wp2
  go_ret
  exact ⟨_, rfl, (Fr.refl _ w).alloc _, cell_at (alloc_new w _) 2⟩
abbrev PP : ByteArray := ⟨#[47, 47, 108, 101, 110, 99, 97, 112, 58]⟩
theorem pp_size (a : ByteArray) : (PP ++ a).size = 9 + a.size := by simp [PP]; rfl
theorem written14 (w : World) (d : Nat) (verb : ByteArray) (hv : verb.size ≤ 65536) (h : w.cell? ⟨d, 2, none⟩ = some (.string verb)) : Calls Tryf.prog 14 #[.pointer (some ⟨d, 0, none⟩)] w fun e w' => e = .returned (.string (PP ++ verb)) ∧ w' = w := by
  have i0 : (verb.size : Int) ≤ 65536 := by omega
  go_enter Tryf.func14, Tryf.ntmps14
  go_wp2
  go_ret
  exact ⟨rfl, rfl⟩

set_option maxRecDepth 100000 in
set_option maxHeartbeats 4000000 in
theorem bytes13 (w : World) (src verb rest f1 f2 : ByteArray) (a b : Int) (h1 : (src.size : Int) ≤ 9223372036854775807) (h2 : (verb.size : Int) ≤ 9223372036854775807) (h3 : (rest.size : Int) ≤ 9223372036854775807) (h4 : (f1.size : Int) ≤ 9223372036854775807) (h5 : (f2.size : Int) ≤ 9223372036854775807) :
    Calls Tryf.prog 13 #[.string src, .int .i64 a, .int .i64 b, .string verb, .string rest, .string f1, .string f2] w fun e w' => (e = .returned (.bool true) ∨ e = .returned (.bool false)) ∧ w' = w := by
  have g1 : (0 : Int) ≤ (src.size : Int) := by omega
  have g2 : (0 : Int) ≤ (verb.size : Int) := by omega
  have g3 : (0 : Int) ≤ (rest.size : Int) := by omega
  have g4 : (0 : Int) ≤ (f1.size : Int) := by omega
  have g5 : (0 : Int) ≤ (f2.size : Int) := by omega
  go_enter Tryf.func13, Tryf.ntmps13
  go_wp2
  all_goals
    go_ret
    first | exact ⟨Or.inl rfl, rfl⟩ | exact ⟨Or.inr rfl, rfl⟩
end Go.Proofs.Qxb6616684aFmt
