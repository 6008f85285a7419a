/-
  DERIVED. THE WALK of the law FnDiagnosticMovesWithItsComment (function 5).
-/
import Derived.Test.Qxb6616684aFmtBuild
namespace Go.Proofs.Qxb6616684aFmt
open Go.RowKit Go.RwLone Go.MuLone
open Go.Extern.Stop Go.Stop Go.Extern
set_option linter.unusedVariables false

set_option maxRecDepth 100000 in
set_option maxHeartbeats 4000000 in
theorem law5_early (w : World) (src verb rest f1 f2 : ByteArray) (a b : Int) (h1 : (src.size : Int) ≤ 9223372036854775807) (h2 : (verb.size : Int) ≤ 9223372036854775807) (h3 : (rest.size : Int) ≤ 9223372036854775807) (h4 : (f1.size : Int) ≤ 9223372036854775807) (h5 : (f2.size : Int) ≤ 9223372036854775807)
    (h : ¬ ((src.size : Int) ≤ 65536 ∧ (verb.size : Int) ≤ 65536 ∧ (rest.size : Int) ≤ 65536 ∧ (f1.size : Int) ≤ 65536 ∧ (f2.size : Int) ≤ 65536 ∧ 0 ≤ a ∧ a ≤ (src.size : Int) ∧ 0 ≤ b ∧ b ≤ (src.size : Int))) :
    Calls Tryf.prog 5 #[.string src, .int .i64 a, .int .i64 b, .string verb, .string rest, .string f1, .string f2] w fun e w' => e = .returned (.bool true) ∧ Below w.heap.size w w' := by
  have B := hide (bytes13 w src verb rest f1 f2 a b h1 h2 h3 h4 h5)
  have HH := hide h
  clear h
  go_enter Tryf.func5, Tryf.ntmps5
  go_wp2_with fail
  refine (unhide B).mono ?_
  rintro e w0 ⟨hb, hw0⟩
  replace hw0 := hw0.symm
  subst hw0
  clear B
  rcases hb with rfl | rfl
  · go_wp2_with fail
    all_goals first
      | (go_ret; exact ⟨rfl, Below.refl _ _⟩)
      | (exfalso; have := HH.out; omega)
  · go_wp2
    go_ret
    exact ⟨rfl, Below.refl _ _⟩

set_option maxRecDepth 100000 in
set_option maxHeartbeats 4000000 in
theorem law5_main (F : Interp) (w : World) (src verb rest f1 f2 : ByteArray) (a b : Int) (hF : F.answers w.tape) (h1 : (src.size : Int) ≤ 65536) (h2 : (verb.size : Int) ≤ 65536) (h3 : (rest.size : Int) ≤ 65536) (h4 : (f1.size : Int) ≤ 65536) (h5 : (f2.size : Int) ≤ 65536)
    (a0 : 0 ≤ a) (a1 : a ≤ (src.size : Int)) (b0 : 0 ≤ b) (b1 : b ≤ (src.size : Int)) :
    Calls Tryf.prog 5 #[.string src, .int .i64 a, .int .i64 b, .string verb, .string rest, .string f1, .string f2] w fun e w' => e = .returned (.bool true) ∧ Below w.heap.size w w' := by
  have B := hide (bytes13 w src verb rest f1 f2 a b (by omega) (by omega) (by omega) (by omega) (by omega))
  have HF := hide hF
  clear hF
  have h2n : verb.size ≤ 65536 := by omega
  have h3n : rest.size ≤ 65536 := by omega
  go_enter Tryf.func5, Tryf.ntmps5
  go_wp2_with fail
  refine (unhide B).mono ?_
  rintro e w0 ⟨hb, hw0⟩
  replace hw0 := hw0.symm
  subst hw0
  clear B
  rcases hb with rfl | rfl
  · go_wp2_with fail
    refine (newPlain15 w verb ⟨#[]⟩ false).mono ?_
    rintro e w1 ⟨d0, rfl, hf1, hc1⟩
    have HF1 := hide hf1
    have W := hide (written14 w1 d0 verb h2n hc1)
    clear hf1 hc1
    go_wp2_with fail
    refine (unhide W).mono ?_
    rintro e w2 ⟨rfl, hw2⟩
    replace hw2 := hw2.symm
    subst hw2
    clear W
    have hS : (PP ++ verb).size = 9 + verb.size := pp_size verb
    generalize PP ++ verb = S at hS ⊢
    have hSn : S.size ≤ 65545 := by omega
    have hSi : (S.size : Int) ≤ 65545 := by omega
    have hS0 : (0 : Int) ≤ (S.size : Int) := by omega
    have hr0 : (0 : Int) ≤ (rest.size : Int) := by omega
    clear hS
    go_wp2_with fail
    have hT : (S ++ rest).size = S.size + rest.size := by simp
    have HT := hide (show ((S ++ rest).size : Int) = (S.size : Int) + (rest.size : Int) by rw [hT]; omega)
    clear hT
    generalize hTe : S ++ rest = T at HT ⊢
    have HTE := hide hTe
    clear hTe
    refine (build7 w1 src T verb a false h1 a0 a1).mono ?_
    rintro e w3 ⟨d1, c1, s1, rfl, hf3, hd1, hc1, ht1⟩
    have HF3 := hide (HF1.out.trans hf3)
    have HD1 := hide hd1
    have HC1 := hide hc1
    have HT1 := hide ht1
    clear hf3 hd1 hc1 ht1 HF1
    go_wp2_with fail
    rw [HTE.out]
    refine (build7 w3 src T verb b true h1 b0 b1).mono ?_
    rintro e w4 ⟨d2, c2, s2, rfl, hf4, hd2, hc2, ht2⟩
    have hd1' := hf4.cell HD1.out (by simp)
    have hc1' := hf4.cell HC1.out (by simp)
    have ht1' := hf4.cell HT1.out (by simp)
    have F4 := HF3.out.trans hf4
    have hTi : (T.size : Int) ≤ 1048576 := by have := HT.out; omega
    have P1 := hide (span16 F w4 d1 c1 (1 + a) f1 T (by rw [F4.tape]; exact HF.out) hd1' hc1' ht1' (by omega) (by omega) hTi)
    have HF4 := hide F4
    have HD2 := hide hd2
    have HC2 := hide hc2
    have HT2 := hide ht2
    clear hf4 hd2 hc2 ht2 hd1' hc1' ht1' F4 HF3 HD1 HC1 HT1
    go_wp2_with fail
    refine (unhide P1).mono ?_
    rintro e w5 ⟨rfl, hf5⟩
    have F5 := HF4.out.trans hf5
    have P2 := hide (span16 F w5 d2 c2 (1 + b) f2 T (by rw [F5.tape]; exact HF.out) (hf5.cell HD2.out (by simp)) (hf5.cell HC2.out (by simp)) (hf5.cell HT2.out (by simp)) (by omega) (by omega) hTi)
    have HF5 := hide F5
    clear hf5 F5 P1 HF4 HD2 HC2 HT2
    go_wp2_with fail
    refine (unhide P2).mono ?_
    rintro e w6 ⟨rfl, hf6⟩
    have HF6 := hide (HF5.out.trans hf6)
    clear hf6 P2 HF5
    have hTT := HT.out
    have q1 : (1 + b - (1 + a) == b - a) = true := by simp; omega
    have q2 : (1 + a + (T.size : Int) - (1 + a) == (S.size : Int) + (rest.size : Int)) = true := by simp; omega
    have q3 : (1 + b + (T.size : Int) - (1 + b) == 1 + a + (T.size : Int) - (1 + a)) = true := by simp; omega
    have hT0 : (0 : Int) ≤ (T.size : Int) := by omega
    go_wp2
    go_ret
    have q4 : (1 + b + ((S.size : Int) + (rest.size : Int)) - (1 + b) == (S.size : Int) + (rest.size : Int)) = true := by simp; omega
    exact ⟨congrArg (fun x => Ending.returned (.bool x)) q4, HF6.out.below (by simp) (Nat.le_refl _)⟩
  · go_wp2
    go_ret
    exact ⟨rfl, Below.refl _ _⟩

theorem law5_all (F : Interp) (w : World) (src verb rest f1 f2 : ByteArray) (a b : Int) (hF : F.answers w.tape) (h1 : src.size ≤ maxLen) (h2 : verb.size ≤ maxLen) (h3 : rest.size ≤ maxLen) (h4 : f1.size ≤ maxLen) (h5 : f2.size ≤ maxLen) :
    Calls Tryf.prog 5 #[.string src, .int .i64 a, .int .i64 b, .string verb, .string rest, .string f1, .string f2] w fun e w' => e = .returned (.bool true) ∧ Below w.heap.size w w' := by
  unfold maxLen at h1 h2 h3 h4 h5
  by_cases h : (src.size : Int) ≤ 65536 ∧ (verb.size : Int) ≤ 65536 ∧ (rest.size : Int) ≤ 65536 ∧ (f1.size : Int) ≤ 65536 ∧ (f2.size : Int) ≤ 65536 ∧ 0 ≤ a ∧ a ≤ (src.size : Int) ∧ 0 ≤ b ∧ b ≤ (src.size : Int)
  · obtain ⟨g1, g2, g3, g4, g5, a0, a1, b0, b1⟩ := h
    exact law5_main F w src verb rest f1 f2 a b hF g1 g2 g3 g4 g5 a0 a1 b0 b1
  · exact law5_early w src verb rest f1 f2 a b (by omega) (by omega) (by omega) (by omega) (by omega) h
end Go.Proofs.Qxb6616684aFmt
