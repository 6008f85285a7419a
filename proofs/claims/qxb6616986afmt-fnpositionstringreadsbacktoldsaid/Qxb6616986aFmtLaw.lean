/-
  DERIVED. THE WALKS of (position).String, ZZpositionString (4) and the law FnPositionStringReadsBack (3).
-/
import Derived.Test.Qxb6616986aFmtParse
import Derived.Test.Qxb6616986aFmtFacts
import Derived.Stop.FmtTextKit
import Derived.Stop.FmtTextVerbs
import Derived.Stop.Texts
import Derived.WalkSmall
import Derived.WalkSpells
namespace Go.Proofs.Qxb6616986aFmt
open Go.RowKit Go.Extern.Stop Go.Stop Go.Extern
set_option linter.unusedVariables false

def reading (a b : Int) : List (List UInt8) := [[37, 100, 58, 37, 100], Tryf.shape3, digits 8 (a % 18446744073709551616).toNat, Tryf.shape3, digits 8 (b % 18446744073709551616).toNat]
def txt (a b : Int) : List UInt8 := Lib.itoa a ++ 58 :: Lib.itoa b

theorem the_text (a b : Int) (ha : (Lit.int .i64 a).wf = true) (hb : (Lit.int .i64 b).wf = true) : FmtText.text "fmt.Sprintf" (reading a b) = some (txt a b) := by
  have h1 := FmtText.operand_int_at (sh := Tryf.shape3) (k := .i64) rfl rfl a ha
  have h2 := FmtText.operand_int_at (sh := Tryf.shape3) (k := .i64) rfl rfl b hb
  rw [reading, FmtText.text_sprintf_glued Tryf.fmt0t (FmtText.operands_cons h1 (FmtText.operands_cons h2 FmtText.operands_nil))]
  simp [FmtText.render, FmtText.printArg_d _ _ ha, FmtText.printArg_d _ _ hb, txt]

set_option maxHeartbeats 800000 in
theorem str6 (F : Interp) (w : World) (a b : Int) (hF : F.answers w.tape) :
    Calls Tryf.prog 4 #[.int .i64 a, .int .i64 b] w fun e w' => e = .returned (.string (FmtStop.textOf (F "fmt.Sprintf" (reading a b) 0))) ∧ Below w.heap.size w w' := by
  have hF' := answers_open hF
  go_enter Tryf.func4, Tryf.ntmps4
  go_wp2
  go_ret
  exact ⟨rfl, by repeat (first | exact Below.refl _ _ | exact below_drewN (Below.refl _ _) _ | refine Below.drew ?_ | refine Below.alloc ?_ (by simp; try omega) _)⟩
theorem dec_ne (u : Nat) : ∀ c ∈ Lib.decDigits u, c.toNat ≠ 58 := by
  intro c hc
  rw [Lib.decDigits_eq] at hc
  obtain ⟨t, _, rfl⟩ := List.mem_map.1 hc
  have h := DG_lt u (Lib.nDigits u) t
  have e : Lib.dg u (Lib.nDigits u - 1 - t) = UInt8.ofNat (48 + DG u (Lib.nDigits u) t) := by simp [Lib.dg, DG]
  rw [e, byte_val _ h]
  omega
theorem itoa_ne (x : Int) : ∀ c ∈ Lib.itoa x, c.toNat ≠ 58 := by
  intro c hc
  unfold Lib.itoa at hc
  split at hc
  · rcases List.mem_cons.1 hc with rfl | h
    · decide
    · exact dec_ne _ c h
  · exact dec_ne _ c hc

theorem ext_list (s : ByteArray) (a b : Nat) : (s.extract a b).data.toList = (s.data.toList.take b).drop a := by
  simp [ByteArray.data_extract, List.drop_take]

structure Txt (s : ByteArray) (c : Nat) (a b : Int) : Prop where
  lt : c < s.size
  size : s.size ≤ 100
  at_ : ∀ (h : c < s.size), (s[c].toNat : Int) = 58
  ne : ∀ j (h : j < s.size), j ≠ c → (s[j].toNat : Int) ≠ 58
  left : (s.extract 0 c).data.toList = Lib.itoa a
  right : (s.extract (c + 1) s.size).data.toList = Lib.itoa b

theorem txt_of (s : ByteArray) (a b : Int) (h : s.data.toList = txt a b) (ha : (Lit.int .i64 a).wf = true) (hb : (Lit.int .i64 b).wf = true) : Txt s (Lib.itoa a).length a b := by
  have l1 := FmtText.itoa_length_le ha
  have l2 := FmtText.itoa_length_le hb
  have hsz : s.size = (Lib.itoa a).length + 1 + (Lib.itoa b).length := by
    have e : s.data.toList.length = s.size := by simp
    have := congrArg List.length h
    simp [txt] at this
    omega
  have hget : ∀ j (hj : j < s.size), some s[j] = (txt a b)[j]? := by
    intro j hj
    rw [← h, ← get_list]
    simp [hj]
  refine ⟨by omega, by omega, fun hc => ?_, fun j hj hne => ?_, ?_, ?_⟩
  · have := hget _ hc
    simp [txt] at this
    rw [this]
    rfl
  · have := hget j hj
    unfold txt at this
    rcases Nat.lt_or_ge j (Lib.itoa a).length with h1 | h1
    · rw [List.getElem?_append_left h1, List.getElem?_eq_getElem h1] at this
      have h2 := itoa_ne a s[j] (by have := Option.some.inj this; rw [this]; exact List.getElem_mem _)
      omega
    · rw [List.getElem?_append_right h1] at this
      obtain ⟨m, hm⟩ : ∃ m, j - (Lib.itoa a).length = m + 1 := ⟨j - (Lib.itoa a).length - 1, by omega⟩
      rw [hm, List.getElem?_cons_succ] at this
      have h2 := itoa_ne b s[j] (List.mem_of_getElem? this.symm)
      omega
  · rw [ext_list, h]; simp [txt]
  · rw [ext_list, List.take_of_length_le (by simp), h]
    unfold txt
    rw [List.drop_append, List.drop_of_length_le (by omega)]
    simp

set_option maxHeartbeats 2000000 in
theorem law_any (F : Interp) (w : World) (a b : Int) (hF : F.answers w.tape) (c : Nat) (ht : Txt (FmtStop.textOf (F "fmt.Sprintf" (reading a b) 0)) c a b) (a0 : -9223372036854775808 ≤ a) (a1 : a ≤ 9223372036854775807) (b0 : -9223372036854775808 ≤ b) (b1 : b ≤ 9223372036854775807) :
    Calls Tryf.prog 3 #[.int .i64 a, .int .i64 b] w fun e w' => e = .returned (.bool true) ∧ Below w.heap.size w w' := by
  have C := hide (str6 F w a b hF)
  clear hF
  go_enter Tryf.func3, Tryf.ntmps3
  go_wp2_with fail
  refine (unhide C).mono ?_
  rintro e w1 ⟨rfl, hbl⟩
  have HB := hide hbl
  clear hbl C
  generalize FmtStop.textOf (F "fmt.Sprintf" (reading a b) 0) = s at *
  have HT := hide ht
  have hcl : c < s.size := ht.lt
  have hs100 : s.size ≤ 100 := ht.size
  have hs1 : (s.size : Int) ≤ 100 := by omega
  clear ht
  go_wp2
  go_loop [6, 7, 8] (fun co cn i => ∃ k : Nat, k ≤ s.size ∧ i = .int .i64 k ∧ ((k ≤ c ∧ co = .int .i64 (-1) ∧ cn = .int .i64 0) ∨ (c < k ∧ co = .int .i64 c ∧ cn = .int .i64 1))) (fun _ _ i => s.size - (intOf i).toNat)
  case atStart => exact ⟨0, by omega, rfl, Or.inl ⟨by omega, rfl, rfl⟩⟩
  case round =>
    obtain ⟨k, hk, rfl, hst⟩ := hrel
    by_cases hkl : k < s.size
    · have hki : (k : Int) < (s.size : Int) := by omega
      have hk0 : (0 : Int) ≤ (k : Int) := by omega
      rcases hst with ⟨h1, rfl, rfl⟩ | ⟨h1, rfl, rfl⟩
      · by_cases hkc : k = c
        · subst hkc
          have g : ((s[k].toNat : Int) == 58) = true := beq_iff_eq.2 (HT.out.at_ hkl)
          go_wp2
          go_round
          case rel => exact ⟨k + 1, by omega, by go_num, Or.inr ⟨by omega, rfl, rfl⟩⟩
          case measure => simp [intOf]; omega
        · have g : ((s[k].toNat : Int) == 58) = false := beq_eq_false_iff_ne.2 (HT.out.ne k hkl hkc)
          go_wp2
          go_round
          case rel => exact ⟨k + 1, by omega, by go_num, Or.inl ⟨by omega, rfl, rfl⟩⟩
          case measure => simp [intOf]; omega
      · have g : ((s[k].toNat : Int) == 58) = false := beq_eq_false_iff_ne.2 (HT.out.ne k hkl (by omega))
        go_wp2
        go_round
        case rel => exact ⟨k + 1, by omega, by go_num, Or.inr ⟨by omega, rfl, rfl⟩⟩
        case measure => simp [intOf]; omega
    · obtain rfl : k = s.size := by omega
      rcases hst with ⟨h1, _⟩ | ⟨h1, rfl, rfl⟩
      · omega
      · have hc0 : (0 : Int) ≤ (c : Int) := by omega
        have hc1 : (c : Int) < (s.size : Int) := by omega
        have hc2 : (c : Int) + 1 ≤ (s.size : Int) := by omega
        go_wp2_with fail
        refine (parse_any w1 (s.extract 0 c) a HT.out.left a0 a1 (by simp; omega)).mono ?_
        rintro e w2 ⟨rfl, hw2⟩
        replace hw2 := hw2.symm
        subst hw2
        go_wp2_with fail
        refine (parse_any w1 (s.extract (c + 1) s.size) b HT.out.right b0 b1 (by simp; omega)).mono ?_
        rintro e w2 ⟨rfl, hw2⟩
        replace hw2 := hw2.symm
        subst hw2
        go_wp2
        go_ret
        exact ⟨rfl, HB.out⟩
end Go.Proofs.Qxb6616986aFmt
