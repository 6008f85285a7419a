/-
  DERIVED. THE WALK of the law FnReadUTCTimeSecondsInserted (function 4), every input. (Laid by a small script of the prover's own: one text for three ways.)
-/
import Derived.Test.Qxb6616501aFmtPlain
import Derived.WalkLawsBesides
namespace Go.Proofs.Qxb6616501aFmt
open Go.RowKit Go.Extern.Stop Go.Stop Go.Extern
set_option linter.unusedVariables false

theorem conv_two (w : World) (a b : Int) : (convert 32 9 (.slice (some ⟨w.heap.size, 0, none⟩) 2 2)).run Tryf.prog (w.alloc (.cells #[.int .u8 a, .int .u8 b] 5)).drew = .ok (.string (strOfNums [a, b])) (w.alloc (.cells #[.int .u8 a, .int .u8 b] 5)).drew :=
  run_convert_bytes_arg _ 32 5 Tryf.underlying32 Tryf.underlying5 w.heap.size 0 2 2 [a, b] rfl (fun i hi => by
    refine (new_at w w.heap.size #[.int .u8 a, .int .u8 b] 5 rfl (0 + i)).trans ?_
    match i, hi with
    | 0, _ => rfl
    | 1, _ => rfl) 9 Tryf.underlying9

set_option maxRecDepth 100000 in
set_option maxHeartbeats 4000000 in
theorem law_end (w : World) (s : ByteArray) (p : Nat) (a b sec z o : Int) (hs : s.size ≤ 1048576) (hp : p + 10 ≤ s.size) (a0 : 48 ≤ a) (a1 : a ≤ 57) (b0 : 48 ≤ b) (b1 : b ≤ 57) (hlt : ¬ p + 10 < s.size) (hnd : isDig s (p + 10) = false) :
    Calls Tryf.prog 4 #[.string s, .int .i64 (p : Int), .int .u8 a, .int .u8 b, .int .i64 sec, .int .u8 z, .int .i64 o] w fun e w' => e = .returned (.bool true) ∧ Below w.heap.size w w' := by
  have hp' : (p : Int) + 10 ≤ (s.size : Int) := by omega
  have hp0 : (0 : Int) ≤ (p : Int) := by omega
  have hs' : (s.size : Int) ≤ 1048576 := by omega
  have hp10 : (0 : Int) ≤ (p : Int) + 10 := by omega
  have hlt' : ¬ (p : Int) + 10 < (s.size : Int) := by omega
  have hcv := conv_two w a b
  have hsz : (strOfNums [a, b]).size = 2 := strOfNums_size _
  have HI := hide (ins s p a b hp a0 a1 b0 b1)
  have HN := hide hnd
  clear hnd
  generalize strOfNums [a, b] = AB at *
  go_enter Tryf.func4, Tryf.ntmps4
  go_wp2
  go_region
  go_wp2_with fail
  have HBL0 : Hid (Below w.heap.size w (w.alloc (.cells #[.int .u8 a, .int .u8 b] 5)).drew) := ((Below.refl _ _).alloc (Nat.le_refl _) _).drew
  clear hcv
  generalize (w.alloc (.cells #[.int .u8 a, .int .u8 b] 5)).drew = W at *
  refine (zz_any W s p sec z o (by omega) (by omega)).mono ?_
  rintro e w1 ⟨hb1, hr1⟩
  have HBL1 : Hid (Below w.heap.size w w1) := HBL0.out.trans (hb1.mono HBL0.out.size)
  clear hb1 HBL0
  rcases hr1 with ⟨n1, y1, mo1, d1, h1, mi1, s1, u1, z1, o1, q1, x1, rfl⟩ | ⟨pr1, s1, u1, z1, o1, m1, t1, rfl⟩
  · have N1 := hide n1
    clear n1
    go_wp2_with fail
    refine (zz_any w1 _ p sec z o (by have := HI.out.size; omega) (by have := HI.out.size; omega)).mono ?_
    rintro e w2 ⟨hb2, hr2⟩
    have HBL2 : Hid (Below w.heap.size w w2) := HBL1.out.trans (hb2.mono HBL1.out.size)
    clear hb2
    rcases hr2 with ⟨n2, y2, mo2, d2, h2, mi2, s2, u2, z2, o2, q2, x2, rfl⟩ | ⟨pr2, s2, u2, z2, o2, m2, t2, rfl⟩
    · clear n2
      go_wp2_with fail
      go_quiet (fail)
      go_wp2
      go_ret
      exact ⟨rfl, below_drewN HBL2.out _⟩
    · exfalso
      rcases N1.out with h | h
      · rw [HI.out.pre, h] at pr2; cases pr2
      · rw [(none_none HI.out HN.out).1 h] at t2; cases t2
  · have P1 := hide pr1
    have T1 := hide t1
    clear pr1 t1
    go_wp2_with fail
    refine (zz_any w1 _ p sec z o (by have := HI.out.size; omega) (by have := HI.out.size; omega)).mono ?_
    rintro e w2 ⟨hb2, hr2⟩
    have HBL2 : Hid (Below w.heap.size w w2) := HBL1.out.trans (hb2.mono HBL1.out.size)
    clear hb2
    rcases hr2 with ⟨n2, y2, mo2, d2, h2, mi2, s2, u2, z2, o2, q2, x2, rfl⟩ | ⟨pr2, s2, u2, z2, o2, m2, t2, he⟩
    · exfalso
      rcases n2 with h | h
      · rw [HI.out.pre, P1.out] at h; cases h
      · have := (none_none HI.out HN.out).2 h
        rw [T1.out] at this; cases this
    · rw [HI.out.v0, HI.out.v1, HI.out.v2, HI.out.v3, HI.out.v4] at he
      obtain ⟨n, hn, rfl, rfl, rfl, rfl, rfl, rfl, rfl, rfl⟩ := good_good HI.out HN.out T1.out t2
      clear pr2 t2 P1 T1 HI
      generalize yr (val s p 2) = Y at *
      generalize val s (p + 2) 2 = MO at *
      generalize val s (p + 4) 2 = DD at *
      generalize val s (p + 6) 2 = HO at *
      generalize val s (p + 8) 2 = MI at *
      subst he
      have hn' : (n : Int) ≤ 5 := by omega
      have hn0 : (0 : Int) ≤ (n : Int) := by omega
      have hp1 : (p : Int) ≤ 1048576 := by omega
      go_wp2_with fail
      go_quiet (fail)
      go_wp2
      go_ret
      have e : ((p : Int) + (12 + (n : Int)) == (p : Int) + (10 + (n : Int)) + 2) = true := by simp; omega
      exact ⟨congrArg (fun x => Ending.returned (.bool x)) e, below_drewN HBL2.out _⟩


set_option maxRecDepth 100000 in
set_option maxHeartbeats 4000000 in
theorem law_lo (w : World) (s : ByteArray) (p : Nat) (a b sec z o : Int) (hs : s.size ≤ 1048576) (hp : p + 10 ≤ s.size) (a0 : 48 ≤ a) (a1 : a ≤ 57) (b0 : 48 ≤ b) (b1 : b ≤ 57) (hlt : p + 10 < s.size) (c0 : (s[p + 10].toNat : Int) < 48) (hnd : isDig s (p + 10) = false) :
    Calls Tryf.prog 4 #[.string s, .int .i64 (p : Int), .int .u8 a, .int .u8 b, .int .i64 sec, .int .u8 z, .int .i64 o] w fun e w' => e = .returned (.bool true) ∧ Below w.heap.size w w' := by
  have hp' : (p : Int) + 10 ≤ (s.size : Int) := by omega
  have hp0 : (0 : Int) ≤ (p : Int) := by omega
  have hs' : (s.size : Int) ≤ 1048576 := by omega
  have hp10 : (0 : Int) ≤ (p : Int) + 10 := by omega
  have hlt' : (p : Int) + 10 < (s.size : Int) := by omega
  have hcv := conv_two w a b
  have hsz : (strOfNums [a, b]).size = 2 := strOfNums_size _
  have HI := hide (ins s p a b hp a0 a1 b0 b1)
  have HN := hide hnd
  clear hnd
  generalize strOfNums [a, b] = AB at *
  go_enter Tryf.func4, Tryf.ntmps4
  go_wp2
  go_region
  go_wp2_with fail
  have HBL0 : Hid (Below w.heap.size w (w.alloc (.cells #[.int .u8 a, .int .u8 b] 5)).drew) := ((Below.refl _ _).alloc (Nat.le_refl _) _).drew
  clear hcv
  generalize (w.alloc (.cells #[.int .u8 a, .int .u8 b] 5)).drew = W at *
  refine (zz_any W s p sec z o (by omega) (by omega)).mono ?_
  rintro e w1 ⟨hb1, hr1⟩
  have HBL1 : Hid (Below w.heap.size w w1) := HBL0.out.trans (hb1.mono HBL0.out.size)
  clear hb1 HBL0
  rcases hr1 with ⟨n1, y1, mo1, d1, h1, mi1, s1, u1, z1, o1, q1, x1, rfl⟩ | ⟨pr1, s1, u1, z1, o1, m1, t1, rfl⟩
  · have N1 := hide n1
    clear n1
    go_wp2_with fail
    refine (zz_any w1 _ p sec z o (by have := HI.out.size; omega) (by have := HI.out.size; omega)).mono ?_
    rintro e w2 ⟨hb2, hr2⟩
    have HBL2 : Hid (Below w.heap.size w w2) := HBL1.out.trans (hb2.mono HBL1.out.size)
    clear hb2
    rcases hr2 with ⟨n2, y2, mo2, d2, h2, mi2, s2, u2, z2, o2, q2, x2, rfl⟩ | ⟨pr2, s2, u2, z2, o2, m2, t2, rfl⟩
    · clear n2
      go_wp2_with fail
      go_quiet (fail)
      go_wp2
      go_ret
      exact ⟨rfl, below_drewN HBL2.out _⟩
    · exfalso
      rcases N1.out with h | h
      · rw [HI.out.pre, h] at pr2; cases pr2
      · rw [(none_none HI.out HN.out).1 h] at t2; cases t2
  · have P1 := hide pr1
    have T1 := hide t1
    clear pr1 t1
    go_wp2_with fail
    refine (zz_any w1 _ p sec z o (by have := HI.out.size; omega) (by have := HI.out.size; omega)).mono ?_
    rintro e w2 ⟨hb2, hr2⟩
    have HBL2 : Hid (Below w.heap.size w w2) := HBL1.out.trans (hb2.mono HBL1.out.size)
    clear hb2
    rcases hr2 with ⟨n2, y2, mo2, d2, h2, mi2, s2, u2, z2, o2, q2, x2, rfl⟩ | ⟨pr2, s2, u2, z2, o2, m2, t2, he⟩
    · exfalso
      rcases n2 with h | h
      · rw [HI.out.pre, P1.out] at h; cases h
      · have := (none_none HI.out HN.out).2 h
        rw [T1.out] at this; cases this
    · rw [HI.out.v0, HI.out.v1, HI.out.v2, HI.out.v3, HI.out.v4] at he
      obtain ⟨n, hn, rfl, rfl, rfl, rfl, rfl, rfl, rfl, rfl⟩ := good_good HI.out HN.out T1.out t2
      clear pr2 t2 P1 T1 HI
      generalize yr (val s p 2) = Y at *
      generalize val s (p + 2) 2 = MO at *
      generalize val s (p + 4) 2 = DD at *
      generalize val s (p + 6) 2 = HO at *
      generalize val s (p + 8) 2 = MI at *
      subst he
      have hn' : (n : Int) ≤ 5 := by omega
      have hn0 : (0 : Int) ≤ (n : Int) := by omega
      have hp1 : (p : Int) ≤ 1048576 := by omega
      go_wp2_with fail
      go_quiet (fail)
      go_wp2
      go_ret
      have e : ((p : Int) + (12 + (n : Int)) == (p : Int) + (10 + (n : Int)) + 2) = true := by simp; omega
      exact ⟨congrArg (fun x => Ending.returned (.bool x)) e, below_drewN HBL2.out _⟩


set_option maxRecDepth 100000 in
set_option maxHeartbeats 4000000 in
theorem law_hi (w : World) (s : ByteArray) (p : Nat) (a b sec z o : Int) (hs : s.size ≤ 1048576) (hp : p + 10 ≤ s.size) (a0 : 48 ≤ a) (a1 : a ≤ 57) (b0 : 48 ≤ b) (b1 : b ≤ 57) (hlt : p + 10 < s.size) (c0 : 48 ≤ (s[p + 10].toNat : Int)) (c1 : 57 < (s[p + 10].toNat : Int)) (hnd : isDig s (p + 10) = false) :
    Calls Tryf.prog 4 #[.string s, .int .i64 (p : Int), .int .u8 a, .int .u8 b, .int .i64 sec, .int .u8 z, .int .i64 o] w fun e w' => e = .returned (.bool true) ∧ Below w.heap.size w w' := by
  have hp' : (p : Int) + 10 ≤ (s.size : Int) := by omega
  have hp0 : (0 : Int) ≤ (p : Int) := by omega
  have hs' : (s.size : Int) ≤ 1048576 := by omega
  have hp10 : (0 : Int) ≤ (p : Int) + 10 := by omega
  have hlt' : (p : Int) + 10 < (s.size : Int) := by omega
  have hcv := conv_two w a b
  have hsz : (strOfNums [a, b]).size = 2 := strOfNums_size _
  have HI := hide (ins s p a b hp a0 a1 b0 b1)
  have HN := hide hnd
  clear hnd
  generalize strOfNums [a, b] = AB at *
  go_enter Tryf.func4, Tryf.ntmps4
  go_wp2
  go_region
  go_wp2_with fail
  have HBL0 : Hid (Below w.heap.size w (w.alloc (.cells #[.int .u8 a, .int .u8 b] 5)).drew) := ((Below.refl _ _).alloc (Nat.le_refl _) _).drew
  clear hcv
  generalize (w.alloc (.cells #[.int .u8 a, .int .u8 b] 5)).drew = W at *
  refine (zz_any W s p sec z o (by omega) (by omega)).mono ?_
  rintro e w1 ⟨hb1, hr1⟩
  have HBL1 : Hid (Below w.heap.size w w1) := HBL0.out.trans (hb1.mono HBL0.out.size)
  clear hb1 HBL0
  rcases hr1 with ⟨n1, y1, mo1, d1, h1, mi1, s1, u1, z1, o1, q1, x1, rfl⟩ | ⟨pr1, s1, u1, z1, o1, m1, t1, rfl⟩
  · have N1 := hide n1
    clear n1
    go_wp2_with fail
    refine (zz_any w1 _ p sec z o (by have := HI.out.size; omega) (by have := HI.out.size; omega)).mono ?_
    rintro e w2 ⟨hb2, hr2⟩
    have HBL2 : Hid (Below w.heap.size w w2) := HBL1.out.trans (hb2.mono HBL1.out.size)
    clear hb2
    rcases hr2 with ⟨n2, y2, mo2, d2, h2, mi2, s2, u2, z2, o2, q2, x2, rfl⟩ | ⟨pr2, s2, u2, z2, o2, m2, t2, rfl⟩
    · clear n2
      go_wp2_with fail
      go_quiet (fail)
      go_wp2
      go_ret
      exact ⟨rfl, below_drewN HBL2.out _⟩
    · exfalso
      rcases N1.out with h | h
      · rw [HI.out.pre, h] at pr2; cases pr2
      · rw [(none_none HI.out HN.out).1 h] at t2; cases t2
  · have P1 := hide pr1
    have T1 := hide t1
    clear pr1 t1
    go_wp2_with fail
    refine (zz_any w1 _ p sec z o (by have := HI.out.size; omega) (by have := HI.out.size; omega)).mono ?_
    rintro e w2 ⟨hb2, hr2⟩
    have HBL2 : Hid (Below w.heap.size w w2) := HBL1.out.trans (hb2.mono HBL1.out.size)
    clear hb2
    rcases hr2 with ⟨n2, y2, mo2, d2, h2, mi2, s2, u2, z2, o2, q2, x2, rfl⟩ | ⟨pr2, s2, u2, z2, o2, m2, t2, he⟩
    · exfalso
      rcases n2 with h | h
      · rw [HI.out.pre, P1.out] at h; cases h
      · have := (none_none HI.out HN.out).2 h
        rw [T1.out] at this; cases this
    · rw [HI.out.v0, HI.out.v1, HI.out.v2, HI.out.v3, HI.out.v4] at he
      obtain ⟨n, hn, rfl, rfl, rfl, rfl, rfl, rfl, rfl, rfl⟩ := good_good HI.out HN.out T1.out t2
      clear pr2 t2 P1 T1 HI
      generalize yr (val s p 2) = Y at *
      generalize val s (p + 2) 2 = MO at *
      generalize val s (p + 4) 2 = DD at *
      generalize val s (p + 6) 2 = HO at *
      generalize val s (p + 8) 2 = MI at *
      subst he
      have hn' : (n : Int) ≤ 5 := by omega
      have hn0 : (0 : Int) ≤ (n : Int) := by omega
      have hp1 : (p : Int) ≤ 1048576 := by omega
      go_wp2_with fail
      go_quiet (fail)
      go_wp2
      go_ret
      have e : ((p : Int) + (12 + (n : Int)) == (p : Int) + (10 + (n : Int)) + 2) = true := by simp; omega
      exact ⟨congrArg (fun x => Ending.returned (.bool x)) e, below_drewN HBL2.out _⟩


set_option maxRecDepth 100000 in
set_option maxHeartbeats 4000000 in
theorem law_early (w : World) (s : ByteArray) (pos a b sec z o : Int) (hs : s.size ≤ maxLen) (ha : 0 ≤ a ∧ a ≤ 255) (hb : 0 ≤ b ∧ b ≤ 255) (hpb : -9223372036854775808 ≤ pos ∧ pos ≤ 9223372036854775807)
    (h : 1048576 < s.size ∨ pos < 0 ∨ (s.size : Int) - 10 < pos ∨ ¬ (48 ≤ a ∧ a ≤ 57) ∨ ¬ (48 ≤ b ∧ b ≤ 57)) :
    Calls Tryf.prog 4 #[.string s, .int .i64 pos, .int .u8 a, .int .u8 b, .int .i64 sec, .int .u8 z, .int .i64 o] w fun e w' => e = .returned (.bool true) ∧ Below w.heap.size w w' := by
  unfold maxLen at hs
  obtain ⟨ha0, ha1⟩ := ha
  obtain ⟨hb0, hb1⟩ := hb
  obtain ⟨hp0, hp1⟩ := hpb
  by_cases c0 : 1048576 < s.size
  · have c0' : (1048576 : Int) < (s.size : Int) := by omega
    clear h
    go_enter Tryf.func4, Tryf.ntmps4
    go_wp2
    go_ret
    exact ⟨rfl, Below.refl _ _⟩
  have c0' : (s.size : Int) ≤ 1048576 := by omega
  by_cases c1 : pos < 0
  · clear h
    go_enter Tryf.func4, Tryf.ntmps4
    go_wp2
    go_ret
    exact ⟨rfl, Below.refl _ _⟩
  by_cases c2 : (s.size : Int) - 10 < pos
  · clear h
    go_enter Tryf.func4, Tryf.ntmps4
    go_wp2
    go_ret
    exact ⟨rfl, Below.refl _ _⟩
  by_cases c3 : 48 ≤ a
  · by_cases c4 : a ≤ 57
    · by_cases c5 : 48 ≤ b
      · have c6 : ¬ b ≤ 57 := by omega
        clear h
        go_enter Tryf.func4, Tryf.ntmps4
        go_wp2
        go_ret
        exact ⟨rfl, Below.refl _ _⟩
      · clear h
        go_enter Tryf.func4, Tryf.ntmps4
        go_wp2
        go_ret
        exact ⟨rfl, Below.refl _ _⟩
    · clear h
      go_enter Tryf.func4, Tryf.ntmps4
      go_wp2
      go_ret
      exact ⟨rfl, Below.refl _ _⟩
  · clear h
    go_enter Tryf.func4, Tryf.ntmps4
    go_wp2
    go_ret
    exact ⟨rfl, Below.refl _ _⟩

set_option maxRecDepth 100000 in
set_option maxHeartbeats 4000000 in
theorem law_dig (w : World) (s : ByteArray) (p : Nat) (a b sec z o : Int) (hs : s.size ≤ 1048576) (hp : p + 10 < s.size) (a0 : 48 ≤ a) (a1 : a ≤ 57) (b0 : 48 ≤ b) (b1 : b ≤ 57) (c0 : 48 ≤ (s[p + 10].toNat : Int)) (c1 : (s[p + 10].toNat : Int) ≤ 57) :
    Calls Tryf.prog 4 #[.string s, .int .i64 (p : Int), .int .u8 a, .int .u8 b, .int .i64 sec, .int .u8 z, .int .i64 o] w fun e w' => e = .returned (.bool true) ∧ Below w.heap.size w w' := by
  have hp' : (p : Int) + 10 < (s.size : Int) := by omega
  have hp0 : (0 : Int) ≤ (p : Int) := by omega
  have hs' : (s.size : Int) ≤ 1048576 := by omega
  have hp10 : (0 : Int) ≤ (p : Int) + 10 := by omega
  go_enter Tryf.func4, Tryf.ntmps4
  go_wp2
  go_ret
  exact ⟨rfl, Below.refl _ _⟩

theorem law_all (w : World) (s : ByteArray) (pos a b sec z o : Int) (hs : s.size ≤ maxLen) (ha : 0 ≤ a ∧ a ≤ 255) (hb : 0 ≤ b ∧ b ≤ 255) (hpb : -9223372036854775808 ≤ pos ∧ pos ≤ 9223372036854775807) :
    Calls Tryf.prog 4 #[.string s, .int .i64 pos, .int .u8 a, .int .u8 b, .int .i64 sec, .int .u8 z, .int .i64 o] w fun e w' => e = .returned (.bool true) ∧ Below w.heap.size w w' := by
  by_cases h : 1048576 < s.size ∨ pos < 0 ∨ (s.size : Int) - 10 < pos ∨ ¬ (48 ≤ a ∧ a ≤ 57) ∨ ¬ (48 ≤ b ∧ b ≤ 57)
  · exact law_early w s pos a b sec z o hs ha hb hpb h
  · have h0 : 0 ≤ pos := by omega
    obtain ⟨p, rfl⟩ := Int.eq_ofNat_of_zero_le h0
    have hs1 : s.size ≤ 1048576 := by omega
    have hp : p + 10 ≤ s.size := by omega
    have a0 : 48 ≤ a := by omega
    have a1 : a ≤ 57 := by omega
    have b0 : 48 ≤ b := by omega
    have b1 : b ≤ 57 := by omega
    clear h
    by_cases hlt : p + 10 < s.size
    · by_cases c0 : 48 ≤ (s[p + 10].toNat : Int)
      · by_cases c1 : (s[p + 10].toNat : Int) ≤ 57
        · exact law_dig w s p a b sec z o hs1 hlt a0 a1 b0 b1 c0 c1
        · exact law_hi w s p a b sec z o hs1 hp a0 a1 b0 b1 hlt c0 (by omega) (by simp only [isDig, hlt, dif_pos, decide_eq_false c1, Bool.and_false])
      · exact law_lo w s p a b sec z o hs1 hp a0 a1 b0 b1 hlt (by omega) (by simp only [isDig, hlt, dif_pos, decide_eq_false c0, Bool.false_and])
    · exact law_end w s p a b sec z o hs1 hp a0 a1 b0 b1 hlt (by simp [isDig, hlt])

end Go.Proofs.Qxb6616501aFmt
