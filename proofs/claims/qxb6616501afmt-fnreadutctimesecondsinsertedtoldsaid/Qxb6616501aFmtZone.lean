/-
  DERIVED. THE WALK of (*timeFields).readZone (function 16) at minutesDue = true.
-/
import Derived.Test.Qxb6616501aFmtNum
namespace Go.Proofs.Qxb6616501aFmt
open Go.RowKit Go.Extern.Stop Go.Stop Go.Extern
set_option linter.unusedVariables false

structure But2 (b g : Nat) (w w' : World) : Prop where
  os : w'.os = w.os
  tape : w'.tape = w.tape
  output : w'.output = w.output
  size : w.heap.size ≤ w'.heap.size
  block : ∀ k, k < w.heap.size → k ≠ b → k ≠ g → w'.heap[k]? = w.heap[k]?

theorem But2.refl (b g : Nat) (w : World) : But2 b g w w := ⟨rfl, rfl, rfl, Nat.le_refl _, fun _ _ _ _ => rfl⟩
theorem But2.trans {b g : Nat} {x y z : World} (h : But2 b g x y) (k : But2 b g y z) : But2 b g x z :=
  ⟨k.os.trans h.os, k.tape.trans h.tape, k.output.trans h.output, Nat.le_trans h.size k.size, fun i hi hb hg => (k.block i (Nat.lt_of_lt_of_le hi h.size) hb hg).trans (h.block i hi hb hg)⟩
theorem But.to2 {b : Nat} {x y : World} (h : But b x y) (g : Nat) : But2 b g x y := ⟨h.os, h.tape, h.output, h.size, fun k hk hb _ => h.block k hk hb⟩
theorem But2.drewN {b g : Nat} {x y : World} (h : But2 b g x y) (n : Nat) : But2 b g x (y.drewN n) := ⟨h.os, h.tape, h.output, h.size, h.block⟩
theorem But2.drew {b g : Nat} {x y : World} (h : But2 b g x y) : But2 b g x y.drew := ⟨h.os, h.tape, h.output, h.size, h.block⟩
theorem But2.alloc {b g : Nat} {x y : World} (h : But2 b g x y) (o : Obj) : But2 b g x (y.alloc o) :=
  h.trans ⟨rfl, rfl, rfl, by simp, fun k hk _ _ => Below.heap_alloc _ _ _ hk⟩
theorem But2.set1 {b g : Nat} {x y : World} (h : But2 b g x y) (o : Nat) (u : Value) : But2 b g x (y.setCell ⟨b, o, none⟩ u) :=
  h.trans ⟨rfl, rfl, rfl, by simp [World.setCell], fun k _ hb _ => Below.heap_setCell _ _ _ _ hb⟩
theorem But2.set2 {b g : Nat} {x y : World} (h : But2 b g x y) (o : Nat) (u : Value) : But2 b g x (y.setCell ⟨g, o, none⟩ u) :=
  h.trans ⟨rfl, rfl, rfl, by simp [World.setCell], fun k _ _ hg => Below.heap_setCell _ _ _ _ hg⟩
theorem But2.but {b g : Nat} {x y z : World} (h : But2 b g x y) (k : But b y z) : But2 b g x z := h.trans (k.to2 g)

/-- the scanner's block, no error yet / with an error -/
abbrev scOk (w : World) (b : Nat) (s : ByteArray) (q : Nat) : Prop := w.heap[b]? = some (.cells #[.string s, .int .i64 (q : Int), .nilIface] 37)
abbrev scBad (w : World) (b : Nat) (s : ByteArray) : Prop := ∃ (q : Nat) (a : Addr), q ≤ s.size ∧ w.heap[b]? = some (.cells #[.string s, .int .i64 (q : Int), .iface 47 (.pointer (some a))] 37)
/-- the fields' block -/
abbrev fld (w : World) (g : Nat) (y mo d h mi sec un : Int) (x7 x8 : Value) (z o : Int) : Prop :=
  w.heap[g]? = some (.cells #[.int .i64 y, .int .i64 mo, .int .i64 d, .int .i64 h, .int .i64 mi, .int .i64 sec, .int .i64 un, x7, x8, .int .u8 z, .int .i64 o] 40)

def zoneR (s : ByteArray) (q : Nat) (o0 : Int) : Option (Int × Int × Nat) :=
  match s[q]? with
  | none => none
  | some c =>
    if c.toNat = 90 then some (c.toNat, o0, 1)
    else if c.toNat = 43 ∨ c.toNat = 45 then
      if two s (q + 1) && two s (q + 3) then
        if val s (q + 1) 2 ≤ 23 ∧ val s (q + 3) 2 ≤ 59 then some (c.toNat, (if c.toNat = 45 then -(val s (q + 1) 2 * 60 + val s (q + 3) 2) else val s (q + 1) 2 * 60 + val s (q + 3) 2), 5) else none
      else none
    else none

set_option maxHeartbeats 400000 in
theorem errorfH (w : World) (k : Nat) (c : Int) (h0 : w.cell? ⟨k, 0, none⟩ = some (.iface 3 (.int .i64 c))) :
    Calls Tryf.prog 20 #[.string ⟨#[119, 105, 116, 104, 32, 97, 110, 32, 111, 102, 102, 115, 101, 116, 32, 111, 102, 32, 37, 100, 32, 104, 111, 117, 114, 115, 59, 32, 111, 102, 102, 115, 101, 116, 115, 32, 97, 114, 101, 32, 117, 110, 100, 101, 114, 32, 50, 52, 32, 104, 111, 117, 114, 115]⟩, .slice (some ⟨k, 0, none⟩) 1 1] w fun e w' =>
      ∃ a, e = .returned (.iface 47 (.pointer (some a))) ∧ Below w.heap.size w w' := by
  go_enter Tryf.func20, Tryf.ntmps20
  go_wp2
  go_ret
  exact ⟨_, rfl, ((Below.refl _ _).alloc (Nat.le_refl _) _).drew⟩
set_option maxHeartbeats 400000 in
theorem errorfM (w : World) (k : Nat) (c : Int) (h0 : w.cell? ⟨k, 0, none⟩ = some (.iface 3 (.int .i64 c))) :
    Calls Tryf.prog 20 #[.string ⟨#[119, 105, 116, 104, 32, 97, 110, 32, 111, 102, 102, 115, 101, 116, 32, 111, 102, 32, 37, 100, 32, 109, 105, 110, 117, 116, 101, 115, 32, 112, 97, 115, 116, 32, 116, 104, 101, 32, 104, 111, 117, 114, 59, 32, 109, 105, 110, 117, 116, 101, 115, 32, 97, 114, 101, 32, 48, 48, 32, 116, 111, 32, 53, 57]⟩, .slice (some ⟨k, 0, none⟩) 1 1] w fun e w' =>
      ∃ a, e = .returned (.iface 47 (.pointer (some a))) ∧ Below w.heap.size w w' := by
  go_enter Tryf.func20, Tryf.ntmps20
  go_wp2
  go_ret
  exact ⟨_, rfl, ((Below.refl _ _).alloc (Nat.le_refl _) _).drew⟩

theorem below_old {w w3 : World} {x : Obj} (h : Below (w.alloc x).heap.size (w.alloc x) w3) : Below w.heap.size w w3 :=
  ((Below.refl _ _).alloc (Nat.le_refl _) x).trans (h.mono (by simp))
theorem But2.below {b g : Nat} {x y z : World} (h : But2 b g x y) (k : Below y.heap.size y z) : But2 b g x z :=
  h.trans ⟨k.os, k.tape, k.output, k.size, fun i hi _ _ => k.block i hi⟩

theorem off_but {w W : World} {b g : Nat} (HB : But2 b g w W) (o' : Int) : But2 b g w (W.setCell ⟨g, 10, none⟩ (.int .i64 o')) := HB.set2 _ _
theorem off_fld {W : World} {g : Nat} {y mo d h mi sec un : Int} {x7 x8 : Value} {z o : Int} (HF : fld W g y mo d h mi sec un x7 x8 z o) (o' : Int) : fld (W.setCell ⟨g, 10, none⟩ (.int .i64 o')) g y mo d h mi sec un x7 x8 z o' := set_at HF 10 _
theorem off_bad {W : World} {b g : Nat} {s : ByteArray} (hne : g ≠ b) (H : scBad W b s) (o' : Int) : scBad (W.setCell ⟨g, 10, none⟩ (.int .i64 o')) b s := by
  obtain ⟨q, a, hq, hh⟩ := H
  exact ⟨q, a, hq, (set_far hne.symm _ _).trans hh⟩
theorem off_ok {W : World} {b g : Nat} {s : ByteArray} {q : Nat} (hne : g ≠ b) (H : scOk W b s q) (o' : Int) : scOk (W.setCell ⟨g, 10, none⟩ (.int .i64 o')) b s q := (set_far hne.symm _ _).trans H

theorem err_bad {W : World} {b : Nat} {s : ByteArray} {q : Nat} (H : scOk W b s q) (hq : q ≤ s.size) (a : Addr) : scBad (W.setCell ⟨b, 2, none⟩ (.iface 47 (.pointer (some a)))) b s := ⟨q, a, hq, set_at H 2 _⟩
theorem err_fld {W : World} {b g : Nat} (hne : g ≠ b) {y mo d h mi sec un : Int} {x7 x8 : Value} {z o : Int} (HF : fld W g y mo d h mi sec un x7 x8 z o) (u : Value) : fld (W.setCell ⟨b, 2, none⟩ u) g y mo d h mi sec un x7 x8 z o := (set_far hne _ _).trans HF

theorem two_false {s : ByteArray} {q : Nat} (h : ∃ j, j < 2 ∧ isDig s (q + j) = false) : two s q = false := by
  obtain ⟨j, hj, h⟩ := h
  match j, hj with
  | 0, _ => simp at h; simp [two, h]
  | 1, _ => simp [two, h]
theorem two_true {s : ByteArray} {q : Nat} (h : ∀ j, j < 2 → isDig s (q + j) = true) : two s q = true := by
  simp [two, h 1 (by omega)]
  exact h 0 (by omega)

theorem zoneR_bad {s : ByteArray} {q : Nat} (o : Int) (hq : q < s.size) (hc : s[q].toNat = 43 ∨ s[q].toNat = 45) (h : (two s (q + 1) && two s (q + 3)) = false) : zoneR s q o = none := by
  have e : s[q]? = some s[q] := by simp [hq]
  simp only [zoneR, e]
  rw [if_neg (by omega), if_pos hc, h]
  rfl
theorem zoneR_big {s : ByteArray} {q : Nat} (o : Int) (hq : q < s.size) (hc : s[q].toNat = 43 ∨ s[q].toNat = 45) (h : (two s (q + 1) && two s (q + 3)) = true) (hb : ¬ (val s (q + 1) 2 ≤ 23 ∧ val s (q + 3) 2 ≤ 59)) : zoneR s q o = none := by
  have e : s[q]? = some s[q] := by simp [hq]
  simp only [zoneR, e]
  rw [if_neg (by omega), if_pos hc, if_pos h, if_neg hb]
theorem zoneR_ok {s : ByteArray} {q : Nat} (o : Int) (hq : q < s.size) (hc : s[q].toNat = 43 ∨ s[q].toNat = 45) (h : (two s (q + 1) && two s (q + 3)) = true) (hb : val s (q + 1) 2 ≤ 23 ∧ val s (q + 3) 2 ≤ 59) : zoneR s q o = some ((s[q].toNat : Int), (if s[q].toNat = 45 then -(val s (q + 1) 2 * 60 + val s (q + 3) 2) else val s (q + 1) 2 * 60 + val s (q + 3) 2), 5) := by
  have e : s[q]? = some s[q] := by simp [hq]
  simp only [zoneR, e]
  rw [if_neg (by omega), if_pos hc, if_pos h, if_pos hb]
theorem zoneR_Z {s : ByteArray} {q : Nat} (o : Int) (hq : q < s.size) (hc : s[q].toNat = 90) : zoneR s q o = some ((s[q].toNat : Int), o, 1) := by
  have e : s[q]? = some s[q] := by simp [hq]
  simp only [zoneR, e]
  rw [if_pos hc]
theorem zoneR_other {s : ByteArray} {q : Nat} (o : Int) (hq : q < s.size) (h1 : s[q].toNat ≠ 90) (h2 : ¬ (s[q].toNat = 43 ∨ s[q].toNat = 45)) : zoneR s q o = none := by
  have e : s[q]? = some s[q] := by simp [hq]
  simp only [zoneR, e]
  rw [if_neg h1, if_neg h2]

set_option maxHeartbeats 1000000 in
theorem zone_Z (w : World) (b g : Nat) (hne : g ≠ b) (s : ByteArray) (q : Nat) (y mo d h mi sec un : Int) (x7 x8 : Value) (z o : Int) (hb : scOk w b s q) (hg : fld w g y mo d h mi sec un x7 x8 z o) (hs : s.size ≤ 2097152) (hq : q < s.size) (hc : s[q].toNat = 90) :
    Calls Tryf.prog 16 #[.pointer (some ⟨g, 0, none⟩), .pointer (some ⟨b, 0, none⟩), .bool true] w fun e w' => e = .returned (.tuple #[]) ∧ But2 b g w w' ∧ scOk w' b s (q + 1) ∧ fld w' g y mo d h mi sec un x7 x8 (s[q].toNat : Int) o := by
  have h0 : w.cell? ⟨b, 0, none⟩ = some (.string s) := cell_at hb 0
  have h1 : w.cell? ⟨b, 1, none⟩ = some (.int .i64 (q : Int)) := cell_at hb 1
  have h2 : w.cell? ⟨b, 2, none⟩ = some .nilIface := cell_at hb 2
  have hz1 : w.frozen? ⟨b, 1, none⟩ = false := frozen_at hb 1
  have h9 : w.cell? ⟨g, 9, none⟩ = some (.int .u8 z) := cell_at hg 9
  have hz9 : w.frozen? ⟨g, 9, none⟩ = false := frozen_at hg 9
  have hpi : (q : Int) < (s.size : Int) := by omega
  have hp0 : (0 : Int) ≤ (q : Int) := by omega
  have HB := (show Hid _ from hb)
  have HG := (show Hid _ from hg)
  have hc' : ((s[q].toNat : Int) == 90) = true := by simp; omega
  have HC : Hid (s[q].toNat = 90) := hc
  clear hb hg hc
  go_enter Tryf.func16, Tryf.ntmps16
  go_wp2
  go_quiet (fail)
  go_wp2
  go_end0
  exact ⟨rfl, (((But2.refl b g w).drewN _).set1 _ _).set2 _ _, (set_far hne.symm _ _).trans (set_at (w := w.drewN nq) HB.out 1 _), set_at ((set_far hne 1 _).trans HG.out) 9 _⟩

set_option maxHeartbeats 2000000 in
theorem zone_sign (w : World) (b g : Nat) (hne : g ≠ b) (s : ByteArray) (q : Nat) (y mo d h mi sec un : Int) (x7 x8 : Value) (z o : Int) (hb : scOk w b s q) (hg : fld w g y mo d h mi sec un x7 x8 z o) (hs : s.size ≤ 2097152) (hq : q < s.size) (hc : s[q].toNat = 43 ∨ s[q].toNat = 45) :
    Calls Tryf.prog 16 #[.pointer (some ⟨g, 0, none⟩), .pointer (some ⟨b, 0, none⟩), .bool true] w fun e w' => e = .returned (.tuple #[]) ∧ But2 b g w w' ∧
      ((∃ z' o', scBad w' b s ∧ fld w' g y mo d h mi sec un x7 x8 z' o' ∧ zoneR s q o = none) ∨
       (∃ z' o', scOk w' b s (q + 5) ∧ fld w' g y mo d h mi sec un x7 x8 z' o' ∧ zoneR s q o = some (z', o', 5))) := by
  have h0 : w.cell? ⟨b, 0, none⟩ = some (.string s) := cell_at hb 0
  have h1 : w.cell? ⟨b, 1, none⟩ = some (.int .i64 (q : Int)) := cell_at hb 1
  have h2 : w.cell? ⟨b, 2, none⟩ = some .nilIface := cell_at hb 2
  have hz1 : w.frozen? ⟨b, 1, none⟩ = false := frozen_at hb 1
  have h9 : w.cell? ⟨g, 9, none⟩ = some (.int .u8 z) := cell_at hg 9
  have hz9 : w.frozen? ⟨g, 9, none⟩ = false := frozen_at hg 9
  have hpi : (q : Int) < (s.size : Int) := by omega
  have hp0 : (0 : Int) ≤ (q : Int) := by omega
  have HB := (show Hid _ from hb)
  have HG := (show Hid _ from hg)
  have hc0 : ((s[q].toNat : Int) == 90) = false := by simp; omega
  have HC : Hid (s[q].toNat = 43 ∨ s[q].toNat = 45) := hc
  clear hb hg
  rcases (show (((s[q].toNat : Int) == 43) = true ∧ ((s[q].toNat : Int) == 45) = false) ∨ (((s[q].toNat : Int) == 43) = false ∧ ((s[q].toNat : Int) == 45) = true) from by rcases hc with h | h <;> simp [h]) with ⟨hc', hc''⟩ | ⟨hc', hc''⟩
  all_goals
    clear hc
    go_enter Tryf.func16, Tryf.ntmps16
    go_wp2
    go_quiet (fail)
    go_wp2_with fail
    have hB : But2 b g w (((w.drewN nq).setCell ⟨b, 1, none⟩ (.int .i64 ((q : Int) + 1))).setCell ⟨g, 9, none⟩ (.int .u8 (s[q].toNat : Int))) := (((But2.refl b g w).drewN _).set1 _ _).set2 _ _
    have hk : scOk (((w.drewN nq).setCell ⟨b, 1, none⟩ (.int .i64 ((q : Int) + 1))).setCell ⟨g, 9, none⟩ (.int .u8 (s[q].toNat : Int))) b s (q + 1) := (set_far hne.symm _ _).trans (set_at (w := w.drewN nq) HB.out 1 _)
    have hf : fld (((w.drewN nq).setCell ⟨b, 1, none⟩ (.int .i64 ((q : Int) + 1))).setCell ⟨g, 9, none⟩ (.int .u8 (s[q].toNat : Int))) g y mo d h mi sec un x7 x8 (s[q].toNat : Int) o := set_at ((set_far hne 1 _).trans HG.out) 9 _
    clear h0 h1 h2 hz1 h9 hz9 HB HG
    generalize (((w.drewN nq).setCell ⟨b, 1, none⟩ (.int .i64 ((q : Int) + 1))).setCell ⟨g, 9, none⟩ (.int .u8 (s[q].toNat : Int))) = W0 at *
    refine (number_any W0 b s (q + 1) _ hk hs (by omega) (by decide)).mono ?_
    rintro e w1 ⟨v, rfl, hbut, hg1⟩
    have HF : Hid (fld w1 g y mo d h mi sec un x7 x8 (s[q].toNat : Int) o) := (hbut.block g (heap_lt hf) hne).trans hf
    have HB1 : Hid (But2 b g w w1) := hB.but hbut
    clear hk hf hB hbut
    have h10 : w1.cell? ⟨g, 10, none⟩ = some (.int .i64 o) := cell_at HF.out 10
    have hz10 : w1.frozen? ⟨g, 10, none⟩ = false := frozen_at HF.out 10
    rcases hg1 with hg1 | hg1
    · obtain ⟨hv, hh, hd⟩ := hg1
      have hvb := val_bd s (q + 1) 2 hd (by omega)
      have T1 : Hid (two s (q + 1) = true) := two_true hd
      have HV : Hid (v = val s (q + 1) 2) := hv
      have lo : 0 ≤ v := by rw [hv]; exact hvb.1
      have hi : v ≤ 99 := by rw [hv]; exact hvb.2.1
      have hq3 : q + 3 ≤ s.size := by obtain ⟨h, _⟩ := dig_bd (hd 1 (by omega)); omega
      have HH : Hid (scOk w1 b s (q + 3)) := hh
      clear hv hh hd hvb
      go_wp2_with fail
      refine (number_any w1 b s (q + 3) _ HH.out hs hq3 (by decide)).mono ?_
      rintro e w2 ⟨v2, rfl, hbut, hg2⟩
      have HF2 : Hid (fld w2 g y mo d h mi sec un x7 x8 (s[q].toNat : Int) o) := (hbut.block g (heap_lt HF.out) hne).trans HF.out
      have HB2 : Hid (But2 b g w w2) := HB1.out.but hbut
      clear hbut HF HB1 h10 hz10 HH
      have h10 : w2.cell? ⟨g, 10, none⟩ = some (.int .i64 o) := cell_at HF2.out 10
      have hz10 : w2.frozen? ⟨g, 10, none⟩ = false := frozen_at HF2.out 10
      rcases hg2 with hg2 | hg2
      · obtain ⟨hv2, hh2, hd2⟩ := hg2
        have hvb2 := val_bd s (q + 3) 2 hd2 (by omega)
        have T2 : Hid (two s (q + 3) = true) := two_true hd2
        have HV2 : Hid (v2 = val s (q + 3) 2) := hv2
        have lo2 : 0 ≤ v2 := by rw [hv2]; exact hvb2.1
        have hi2 : v2 ≤ 99 := by rw [hv2]; exact hvb2.2.1
        have HH2 : Hid (scOk w2 b s (q + 5)) := hh2
        have hq5 : q + 5 ≤ s.size := by obtain ⟨h, _⟩ := dig_bd (hd2 1 (by omega)); omega
        have h2 := (cell_at hh2 2).trans (by rfl : _ = some Value.nilIface)
        have hz2 := frozen_at hh2 2
        clear hv2 hh2 hd2 hvb2
        by_cases h23 : v ≤ 23
        · by_cases h59 : v2 ≤ 59
          · go_wp2
            go_end0
            have hzr := zoneR_ok o hq HC.out (by rw [T1.out, T2.out]; rfl) ⟨by rw [← HV.out]; exact h23, by rw [← HV2.out]; exact h59⟩
            rw [← HV.out, ← HV2.out] at hzr
            first
              | exact ⟨rfl, off_but HB2.out _, Or.inr ⟨_, _, off_ok hne HH2.out _, off_fld HF2.out _, by rw [hzr, if_neg (by simp at hc''; omega)]⟩⟩
              | exact ⟨rfl, off_but (off_but HB2.out _) _, Or.inr ⟨_, _, off_ok hne (off_ok hne HH2.out _) _, off_fld (off_fld HF2.out _) _, by rw [hzr, if_pos (by simp at hc''; omega)]⟩⟩
          · go_wp2_with fail
            refine (errorfM _ _ v2 (new_at _ _ _ _ rfl 0)).mono ?_
            rintro e w3 ⟨a, rfl, hbl0⟩
            have hbl := below_old hbl0
            have HF3 : Hid (fld w3 g y mo d h mi sec un x7 x8 (s[q].toNat : Int) o) := (hbl.block g (heap_lt HF2.out)).trans HF2.out
            have HH3 : Hid (scOk w3 b s (q + 5)) := (hbl.block b (heap_lt HH2.out)).trans HH2.out
            have HB3 : Hid (But2 b g w w3) := HB2.out.below hbl
            clear hbl0 hbl h10 hz10 h2 hz2 HF2 HH2 HB2
            have h10 : w3.cell? ⟨g, 10, none⟩ = some (.int .i64 o) := cell_at HF3.out 10
            have hz10 : w3.frozen? ⟨g, 10, none⟩ = false := frozen_at HF3.out 10
            have h2 := (cell_at HH3.out 2).trans (by rfl : _ = some Value.nilIface)
            have hz2 := frozen_at HH3.out 2
            go_wp2
            go_end0
            have hzr := zoneR_big o hq HC.out (by rw [T1.out, T2.out]; rfl) (by rw [← HV.out, ← HV2.out]; omega)
            first
              | exact ⟨rfl, off_but (HB3.out.set1 _ _) _, Or.inl ⟨_, _, off_bad hne (err_bad HH3.out hq5 a) _, off_fld (err_fld hne HF3.out _) _, hzr⟩⟩
              | exact ⟨rfl, off_but (off_but (HB3.out.set1 _ _) _) _, Or.inl ⟨_, _, off_bad hne (off_bad hne (err_bad HH3.out hq5 a) _) _, off_fld (off_fld (err_fld hne HF3.out _) _) _, hzr⟩⟩
        · go_wp2_with fail
          refine (errorfH _ _ v (new_at _ _ _ _ rfl 0)).mono ?_
          rintro e w3 ⟨a, rfl, hbl0⟩
          have hbl := below_old hbl0
          have HF3 : Hid (fld w3 g y mo d h mi sec un x7 x8 (s[q].toNat : Int) o) := (hbl.block g (heap_lt HF2.out)).trans HF2.out
          have HH3 : Hid (scOk w3 b s (q + 5)) := (hbl.block b (heap_lt HH2.out)).trans HH2.out
          have HB3 : Hid (But2 b g w w3) := HB2.out.below hbl
          clear hbl0 hbl h10 hz10 h2 hz2 HF2 HH2 HB2
          have h10 : w3.cell? ⟨g, 10, none⟩ = some (.int .i64 o) := cell_at HF3.out 10
          have hz10 : w3.frozen? ⟨g, 10, none⟩ = false := frozen_at HF3.out 10
          have h2 := (cell_at HH3.out 2).trans (by rfl : _ = some Value.nilIface)
          have hz2 := frozen_at HH3.out 2
          go_wp2
          go_end0
          have hzr := zoneR_big o hq HC.out (by rw [T1.out, T2.out]; rfl) (by rw [← HV.out, ← HV2.out]; omega)
          first
            | exact ⟨rfl, off_but (HB3.out.set1 _ _) _, Or.inl ⟨_, _, off_bad hne (err_bad HH3.out hq5 a) _, off_fld (err_fld hne HF3.out _) _, hzr⟩⟩
            | exact ⟨rfl, off_but (off_but (HB3.out.set1 _ _) _) _, Or.inl ⟨_, _, off_bad hne (off_bad hne (err_bad HH3.out hq5 a) _) _, off_fld (off_fld (err_fld hne HF3.out _) _) _, hzr⟩⟩
      · obtain ⟨lo2, hi2, ⟨q', a, hq', hh⟩, hx⟩ := hg2
        have HH := (show Hid _ from hh)
        have HX := (show Hid _ from two_false hx)
        have h2 := (cell_at hh 2).trans (by rfl : _ = some (Value.iface 47 (.pointer (some a))))
        clear hh hx
        go_wp2
        go_end0
        first
          | exact ⟨rfl, off_but HB2.out _, Or.inl ⟨_, _, off_bad hne ⟨q', a, hq', HH.out⟩ _, off_fld HF2.out _, zoneR_bad o hq HC.out (by rw [HX.out, T1.out]; rfl)⟩⟩
          | exact ⟨rfl, off_but (off_but HB2.out _) _, Or.inl ⟨_, _, off_bad hne (off_bad hne ⟨q', a, hq', HH.out⟩ _) _, off_fld (off_fld HF2.out _) _, zoneR_bad o hq HC.out (by rw [HX.out, T1.out]; rfl)⟩⟩
    · obtain ⟨lo, hi, ⟨q', a, hq', hh⟩, hx⟩ := hg1
      have HH := (show Hid _ from hh)
      have HX := (show Hid _ from two_false hx)
      have h2 := (cell_at hh 2).trans (by rfl : _ = some (Value.iface 47 (.pointer (some a))))
      clear hh hx
      go_wp2_with fail
      refine (number_err w1 b s q' a _ HH.out).mono ?_
      rintro e w' ⟨rfl, rfl⟩
      go_wp2
      go_end0
      first
        | exact ⟨rfl, off_but HB1.out _, Or.inl ⟨_, _, off_bad hne ⟨q', a, hq', HH.out⟩ _, off_fld HF.out _, zoneR_bad o hq HC.out (by rw [HX.out]; rfl)⟩⟩
        | exact ⟨rfl, off_but (off_but HB1.out _) _, Or.inl ⟨_, _, off_bad hne (off_bad hne ⟨q', a, hq', HH.out⟩ _) _, off_fld (off_fld HF.out _) _, zoneR_bad o hq HC.out (by rw [HX.out]; rfl)⟩⟩
set_option maxHeartbeats 1000000 in
theorem zone_other (w : World) (b g : Nat) (hne : g ≠ b) (s : ByteArray) (q : Nat) (y mo d h mi sec un : Int) (x7 x8 : Value) (z o : Int) (hb : scOk w b s q) (hg : fld w g y mo d h mi sec un x7 x8 z o) (hs : s.size ≤ 2097152) (hq : q < s.size) (c1 : s[q].toNat ≠ 90) (c2 : ¬ (s[q].toNat = 43 ∨ s[q].toNat = 45)) :
    Calls Tryf.prog 16 #[.pointer (some ⟨g, 0, none⟩), .pointer (some ⟨b, 0, none⟩), .bool true] w fun e w' => e = .returned (.tuple #[]) ∧ But2 b g w w' ∧ scBad w' b s ∧ fld w' g y mo d h mi sec un x7 x8 z o := by
  have h0 : w.cell? ⟨b, 0, none⟩ = some (.string s) := cell_at hb 0
  have h1 : w.cell? ⟨b, 1, none⟩ = some (.int .i64 (q : Int)) := cell_at hb 1
  have h2 : w.cell? ⟨b, 2, none⟩ = some .nilIface := cell_at hb 2
  have hpi : (q : Int) < (s.size : Int) := by omega
  have hp0 : (0 : Int) ≤ (q : Int) := by omega
  have HB := (show Hid _ from hb)
  have HG := (show Hid _ from hg)
  have hc0 : ((s[q].toNat : Int) == 90) = false := by simp; omega
  have hc1 : ((s[q].toNat : Int) == 43) = false := by simp; omega
  have hc2 : ((s[q].toNat : Int) == 45) = false := by simp; omega
  clear hb hg c1 c2
  go_enter Tryf.func16, Tryf.ntmps16
  go_wp2
  go_quiet (fail)
  go_wp2_with fail
  refine (outOfPlace_any (w.drewN nq) b s q .nilIface HB.out hs hq).mono ?_
  rintro e w2 ⟨rfl, hbut, a, hh⟩
  have HF : Hid (fld w2 g y mo d h mi sec un x7 x8 z o) := (hbut.block g (heap_lt HG.out) hne).trans HG.out
  have HH := (show Hid _ from hh)
  clear hh
  go_wp2
  go_end0
  exact ⟨rfl, ((But2.refl b g w).drewN nq).but hbut, ⟨q, a, by omega, HH.out⟩, HF.out⟩

set_option maxHeartbeats 1000000 in
theorem zone_err (w : World) (b g : Nat) (s : ByteArray) (q : Int) (a : Addr) (hb : w.heap[b]? = some (.cells #[.string s, .int .i64 q, .iface 47 (.pointer (some a))] 37)) :
    Calls Tryf.prog 16 #[.pointer (some ⟨g, 0, none⟩), .pointer (some ⟨b, 0, none⟩), .bool true] w fun e w' => e = .returned (.tuple #[]) ∧ w' = w := by
  have h2 : w.cell? ⟨b, 2, none⟩ = some (.iface 47 (.pointer (some a))) := cell_at hb 2
  clear hb
  go_enter Tryf.func16, Tryf.ntmps16
  go_wp2
  (try simp only [Exit.inBlock, Exit.then])
  refine bodyPost_ret (results_none rfl _ _ _) rfl ?_
  exact ⟨rfl, rfl⟩

theorem zone_any (w : World) (b g : Nat) (hne : g ≠ b) (s : ByteArray) (q : Nat) (y mo d h mi sec un : Int) (x7 x8 : Value) (z o : Int) (hb : scOk w b s q) (hg : fld w g y mo d h mi sec un x7 x8 z o) (hs : s.size ≤ 2097152) (hq : q < s.size) :
    Calls Tryf.prog 16 #[.pointer (some ⟨g, 0, none⟩), .pointer (some ⟨b, 0, none⟩), .bool true] w fun e w' => e = .returned (.tuple #[]) ∧ But2 b g w w' ∧
      ((∃ z' o', scBad w' b s ∧ fld w' g y mo d h mi sec un x7 x8 z' o' ∧ zoneR s q o = none) ∨
       (∃ z' o' n, scOk w' b s (q + n) ∧ fld w' g y mo d h mi sec un x7 x8 z' o' ∧ zoneR s q o = some (z', o', n))) := by
  by_cases c1 : s[q].toNat = 90
  · refine (zone_Z w b g hne s q y mo d h mi sec un x7 x8 z o hb hg hs hq c1).mono ?_
    rintro e w' ⟨he, hbt, h1, h2⟩
    exact ⟨he, hbt, Or.inr ⟨_, _, 1, h1, h2, zoneR_Z o hq c1⟩⟩
  · by_cases c2 : s[q].toNat = 43 ∨ s[q].toNat = 45
    · refine (zone_sign w b g hne s q y mo d h mi sec un x7 x8 z o hb hg hs hq c2).mono ?_
      rintro e w' ⟨he, hbt, h1 | ⟨z', o', h1, h2, h3⟩⟩
      · exact ⟨he, hbt, Or.inl h1⟩
      · exact ⟨he, hbt, Or.inr ⟨z', o', 5, h1, h2, h3⟩⟩
    · refine (zone_other w b g hne s q y mo d h mi sec un x7 x8 z o hb hg hs hq c1 c2).mono ?_
      rintro e w' ⟨he, hbt, h1, h2⟩
      exact ⟨he, hbt, Or.inl ⟨_, _, h1, h2, zoneR_other o hq c1 c2⟩⟩
end Go.Proofs.Qxb6616501aFmt
