/-
  DERIVED. THE WALK of zzParseInt (function 5) at a canonical numeral.
-/
import Derived.Test.Qxb6616986aFmtProg
import Derived.Test.Qxb6616986aFmtPlain
import Derived.WalkKit
import Derived.WalkSpells
import Derived.BigQuiet
namespace Go.Proofs.Qxb6616986aFmt
open Go.RowKit
set_option linter.unusedVariables false
theorem hide {p : Prop} (h : p) : Hid p := h
theorem unhide {p : Prop} (h : Hid p) : p := h

set_option maxHeartbeats 2000000 in
theorem parse_pos (w : World) (s : ByteArray) (u : Nat) (hd : Digs s 0 u) (hu : u ≤ 9223372036854775807) (hn : s.size ≤ 100) :
    Calls Tryf.prog 5 #[.string s] w fun e w' => e = .returned (.tuple #[.int .i64 (u : Int), .bool true]) ∧ w' = w := by
  have HD := hide hd
  have hs0 : s.size = Lib.nDigits u := by have := hd.size; omega
  have hpos := Lib.nDigits_pos u
  have h0 : 0 < s.size := by omega
  have e0 := hd.at_ 0 (by omega) (by omega)
  simp only [Nat.add_zero] at e0
  have b0 := DG_lt u (Lib.nDigits u) 0
  have hlo : 48 ≤ (s[0].toNat : Int) := by omega
  have hhi : (s[0].toNat : Int) ≤ 57 := by omega
  have hm : ((s[0].toNat : Int) == 45) = false := beq_eq_false_iff_ne.2 (by omega)
  have hz : ((s.size : Int) == 0) = false := beq_eq_false_iff_ne.2 (by omega)
  have hz' : ((0 : Int) == (s.size : Int)) = false := beq_eq_false_iff_ne.2 (by omega)
  have hlt : (0 : Int) < (s.size : Int) := by omega
  have hlt' : (s.size : Int) ≤ 100 := by omega
  have HN := hide hs0
  have HU := hide hu
  have hcase : ((s[0].toNat : Int) == 48) = false ∨ (((s[0].toNat : Int) == 48) = true ∧ decide ((1 : Int) < (s.size : Int)) = false) := by
    by_cases hu0 : 1 ≤ u
    · left
      have := DG_first u hu0
      exact beq_eq_false_iff_ne.2 (by omega)
    · right
      have : u = 0 := by omega
      subst this
      rw [Lib.nDigits_small (by omega)] at hs0 e0
      simp [DG] at e0
      refine ⟨beq_iff_eq.2 (by omega), by simp; omega⟩
  clear hd hs0 hpos e0 b0 hu
  rcases hcase with hc | ⟨hc, hc2⟩
  all_goals
    go_enter Tryf.func5, Tryf.ntmps5
    go_wp2
    go_loop [5, 6, 7] (fun i U c => ∃ k : Nat, k ≤ s.size ∧ i = .int .i64 k ∧ U = .int .u64 (PV u s.size k : Nat)) (fun i _ _ => s.size - (intOf i).toNat)
    case atStart => exact ⟨0, by omega, rfl, by rw [HN.out, PV_zero _ _ (Lib.lt_pow_nDigits u)]; rfl⟩
    case round =>
      obtain ⟨k, hk, rfl, rfl⟩ := hrel
      by_cases hkl : k < s.size
      · have g := HD.out.at_ k (by have := HN.out; omega) (by omega)
        simp only [Nat.zero_add] at g
        rw [← HN.out] at g
        have d9 := DG_lt u s.size k
        have hsu := PV_succ u s.size k hkl
        have hle := PV_ten u s.size k hkl
        have hle2 := PV_le u s.size (k + 1)
        have hUU := HU.out
        have HSU := hide hsu
        generalize PV u s.size k = U at *
        have HG := hide g
        have U0 : (0 : Int) ≤ (U : Int) := by omega
        have U1 : (U : Int) ≤ 922337203685477580 := by omega
        have c0 : 48 ≤ (s[k].toNat : Int) := by omega
        have c1 : (s[k].toNat : Int) ≤ 57 := by omega
        have hki : (k : Int) < (s.size : Int) := by omega
        have hk0 : (0 : Int) ≤ (k : Int) := by omega
        have hbig : (U : Int) * 10 + ((s[k].toNat : Int) - 48) ≤ 9223372036854775807 := by omega
        clear g hsu hle hle2 hUU
        go_wp2
        go_round
        case rel =>
          refine ⟨k + 1, by omega, by go_num, ?_⟩
          rw [HSU.out]
          have := HG.out
          exact congrArg (Value.int .u64) (by omega)
        case measure => simp [intOf]; omega
      · obtain rfl : k = s.size := by omega
        rw [PV_n]
        have hu1 : (u : Int) ≤ 9223372036854775807 := by have := HU.out; omega
        have hu0 : (0 : Int) ≤ (u : Int) := by omega
        go_wp2
        go_ret2
        exact ⟨rfl, rfl⟩

theorem wrap_neg (u : Nat) (h1 : 1 ≤ u) (h2 : u ≤ 9223372036854775808) : wrap64 (IntKind.u64.wrap (-(u : Int))) = -(u : Int) := by
  simp only [wrap64, IntKind.wrap, IntKind.bits, IntKind.signed]
  simp
  omega

set_option maxHeartbeats 2000000 in
theorem parse_neg (w : World) (s : ByteArray) (u : Nat) (hd : Digs s 1 u) (h45 : s[0]? = some 45) (hu : u ≤ 9223372036854775808) (hu1 : 1 ≤ u) (hn : s.size ≤ 100) :
    Calls Tryf.prog 5 #[.string s] w fun e w' => e = .returned (.tuple #[.int .i64 (-(u : Int)), .bool true]) ∧ w' = w := by
  have HD := hide hd
  have hs0 : s.size = 1 + Lib.nDigits u := hd.size
  have hpos := Lib.nDigits_pos u
  have h0 : 0 < s.size := by omega
  have h1 : 1 < s.size := by omega
  have e0 := hd.at_ 0 (by omega) (by omega)
  simp only [Nat.add_zero] at e0
  have b0 := DG_lt u (Lib.nDigits u) 0
  have b1 := DG_first u hu1
  have hlo : 49 ≤ (s[1].toNat : Int) := by omega
  have hhi : (s[1].toNat : Int) ≤ 57 := by omega
  have hz45 : s[0] = 45 := by simpa [h0] using h45
  have hm : ((s[0].toNat : Int) == 45) = true := by rw [hz45]; rfl
  have hc : ((s[1].toNat : Int) == 48) = false := beq_eq_false_iff_ne.2 (by omega)
  have hz : ((s.size : Int) == 1) = false := beq_eq_false_iff_ne.2 (by omega)
  have hz' : ((1 : Int) == (s.size : Int)) = false := beq_eq_false_iff_ne.2 (by omega)
  have hlt : (1 : Int) < (s.size : Int) := by omega
  have hlt' : (s.size : Int) ≤ 100 := by omega
  have HN := hide hs0
  have HU := hide hu
  clear hd hs0 hpos e0 b0 hu h45 hz45 b1
  go_enter Tryf.func5, Tryf.ntmps5
  go_wp2
  go_loop [5, 6, 7] (fun i U c => ∃ k : Nat, k + 1 ≤ s.size ∧ i = .int .i64 ((k + 1 : Nat) : Int) ∧ U = .int .u64 (PV u (Lib.nDigits u) k : Nat)) (fun i _ _ => s.size - (intOf i).toNat)
  case atStart => exact ⟨0, by omega, rfl, by rw [PV_zero _ _ (Lib.lt_pow_nDigits u)]; rfl⟩
  case round =>
    obtain ⟨k, hk, hi, rfl⟩ := hrel
    by_cases hkl : k + 1 < s.size
    · have hkn : k < Lib.nDigits u := by have := HN.out; omega
      have g := HD.out.at_ k hkn (by omega)
      have d9 := DG_lt u (Lib.nDigits u) k
      have hsu := PV_succ u (Lib.nDigits u) k hkn
      have hle := PV_ten u (Lib.nDigits u) k hkn
      have hle2 := PV_le u (Lib.nDigits u) (k + 1)
      have hUU := HU.out
      have HSU := hide hsu
      generalize PV u (Lib.nDigits u) k = U at *
      have g' : (s[k + 1].toNat : Int) = 48 + (DG u (Lib.nDigits u) k : Nat) := by rw [← g]; simp [Nat.add_comm]
      clear g
      generalize hq : k + 1 = q at hi hkl g' hk
      have HQ := hide hq
      clear hq
      subst hi
      have HG := hide g'
      have U0 : (0 : Int) ≤ (U : Int) := by omega
      have U1 : (U : Int) ≤ 922337203685477580 := by omega
      have c0 : 48 ≤ (s[q].toNat : Int) := by omega
      have c1 : (s[q].toNat : Int) ≤ 57 := by omega
      have hki : (q : Int) < (s.size : Int) := by omega
      have hk0 : (0 : Int) ≤ (q : Int) := by omega
      have hbig : (U : Int) * 10 + ((s[q].toNat : Int) - 48) ≤ 9223372036854775808 := by omega
      clear g' hsu hle hle2 hUU
      go_wp2
      go_round
      case rel =>
        refine ⟨k + 1, by have := HQ.out; omega, by rw [HQ.out]; go_num, ?_⟩
        rw [HSU.out]
        have := HG.out
        exact congrArg (Value.int .u64) (by omega)
      case measure => simp [intOf]; omega
    · have hkn : k = Lib.nDigits u := by have := HN.out; omega
      subst hkn
      rw [PV_n]
      have hu1' : (u : Int) ≤ 9223372036854775808 := by have := HU.out; omega
      have hu0 : (1 : Int) ≤ (u : Int) := by omega
      have hsz : Lib.nDigits u + 1 = s.size := by omega
      rw [hsz] at hi
      subst hi
      go_wp2
      go_ret2
      exact ⟨congrArg (fun x => Ending.returned (.tuple #[.int .i64 x, .bool true])) (wrap_neg u hu1 HU.out), rfl⟩

theorem parse_any (w : World) (s : ByteArray) (x : Int) (h : s.data.toList = Lib.itoa x) (x0 : -9223372036854775808 ≤ x) (x1 : x ≤ 9223372036854775807) (hn : s.size ≤ 100) :
    Calls Tryf.prog 5 #[.string s] w fun e w' => e = .returned (.tuple #[.int .i64 x, .bool true]) ∧ w' = w := by
  unfold Lib.itoa at h
  by_cases hx : x < 0
  · rw [if_pos hx] at h
    obtain ⟨hd, h45⟩ := digs_neg s x.natAbs h
    have := parse_neg w s x.natAbs hd h45 (by omega) (by omega) hn
    rw [show (-(x.natAbs : Int)) = x by omega] at this
    exact this
  · rw [if_neg hx] at h
    have := parse_pos w s x.toNat (digs_pos s x.toNat h) (by omega) hn
    rw [show ((x.toNat : Nat) : Int) = x by omega] at this
    exact this
end Go.Proofs.Qxb6616986aFmt
