/-
  DERIVED. THE WALK of the law FnStringRefusesEveryProperPrefix (function 5).
-/
import Derived.Test.Qxb6616550aFmtLawB
namespace Go.Proofs.Qxb6616550aFmt
open Go.RowKit
set_option linter.unusedVariables false

set_option maxRecDepth 100000 in
set_option maxHeartbeats 2000000 in
theorem law4_early (w : World) (ao : Option Addr) (n c : Nat) (k : Int) (hn : n ≤ maxLen) (hk0 : -9223372036854775808 ≤ k) (hk1 : k ≤ 9223372036854775807) (h : 1048576 < n ∨ k < 0 ∨ (n : Int) + 4 < k) :
    Calls Tryf.prog 5 #[.slice ao n c, .int .i64 k] w fun e w' => e = .returned (.bool true) ∧ Below w.heap.size w w' := by
  unfold maxLen at hn
  by_cases c0 : (1048576 : Int) < (n : Int)
  · clear h
    go_enter Tryf.func5, Tryf.ntmps5
    go_wp2
    go_ret
    exact ⟨rfl, Below.refl _ _⟩
  by_cases c1 : k < 0
  · clear h
    go_enter Tryf.func5, Tryf.ntmps5
    go_wp2
    go_ret
    exact ⟨rfl, Below.refl _ _⟩
  have c2 : (n : Int) + 4 < k := by omega
  clear h
  go_enter Tryf.func5, Tryf.ntmps5
  go_wp2
  go_ret
  exact ⟨rfl, Below.refl _ _⟩

theorem bytes16 (w : World) (ao : Option Addr) (n c : Nat) (k : Int) (hn : n ≤ 1048576) :
    Calls Tryf.prog 16 #[.slice ao n c, .int .i64 k] w fun e w' => e = .returned (.bool true) ∧ w' = w := by
  have h1 : (n : Int) ≤ 1048576 := by omega
  go_enter Tryf.func16, Tryf.ntmps16
  go_wp2
  go_ret
  exact ⟨rfl, rfl⟩

theorem str_bad (w : World) (r b k : Nat) (l : List Int) (a : Addr) (s : ByteArray) (hn : l.length ≤ 1048576) (hr : w.heap[r]? = some (.cells #[.slice (some ⟨b, 0, none⟩) k k] 43)) (h : Row w b 0 k k ((be4 (l.length : Int) ++ l).take k)) (hk : k < 4 + l.length) (hne : b ≠ r)
    (hg : w.cell? ⟨1, 0, none⟩ = some (.iface 53 (.pointer (some a)))) (hs : w.cell? a = some (.string s)) (h1r : 1 ≠ r) (har : a.block ≠ r) :
    Calls Tryf.prog 15 #[.pointer (some ⟨r, 0, none⟩)] w fun e w' => ∃ a', e = .returned (.tuple #[.slice none 0 0, .iface 52 (.pointer (some a'))]) ∧ But r w w' ∧ w'.heap[r]? = some (.cells #[.slice (some ⟨b, 0, none⟩) k k] 43) := by
  by_cases h4 : k < 4
  · refine (str_short w r _ k k a s hr h4 hg hs).mono ?_
    rintro e w' ⟨a', he, hb⟩
    exact ⟨a', he, But.ofBelow hb, (hb.block r (lt_of_heap hr)).trans hr⟩
  · have e : (be4 (l.length : Int) ++ l).take k = be4 (l.length : Int) ++ l.take (k - 4) := by
      rw [List.take_append, List.take_of_length_le (by simp [be4]; omega)]
      simp [be4]
    rw [e] at h
    exact str_trunc w r b 0 k k l.length (l.take (k - 4)) a s (by omega) hr h (by simp; omega) hne hg hs h1r har

set_option maxRecDepth 100000 in
set_option maxHeartbeats 4000000 in
theorem law4_row (w : World) (ao : Option Addr) (c k : Nat) (l : List Int) (h : Rd w (.slice ao l.length c) l) (hn : l.length ≤ 1048576) (hk : k ≤ l.length + 4)
    (a : Addr) (s : ByteArray) (hg : w.cell? ⟨1, 0, none⟩ = some (.iface 53 (.pointer (some a)))) (hs : w.cell? a = some (.string s)) :
    Calls Tryf.prog 5 #[.slice ao l.length c, .int .i64 (k : Int)] w fun e w' => e = .returned (.bool true) ∧ Below w.heap.size w w' := by
  have hn' : (l.length : Int) ≤ 1048576 := by omega
  have hn0 : (0 : Int) ≤ (l.length : Int) := by omega
  have hk0 : (0 : Int) ≤ (k : Int) := by omega
  have hk1 : (k : Int) ≤ (l.length : Int) + 4 := by omega
  have hsn := eqlNil
  have HL := hide h
  have HG := hide hg
  have HS := hide hs
  have B := hide (bytes16 w ao l.length c (k : Int) hn)
  clear h hg hs
  go_enter Tryf.func5, Tryf.ntmps5
  go_wp2_with fail
  refine (unhide B).mono ?_
  rintro e w0 ⟨rfl, hw0⟩
  replace hw0 := hw0.symm
  subst hw0
  clear B
  go_wp2_with fail
  refine (append32 w w.heap.size (.slice none 0 0) 0 [] (l.length : Int) (Nat.le_refl _) (World.ownsRow_nil _ _ _ _) (by omega) (by omega) (by omega)).mono ?_
  rintro e w1 ⟨g1, cap1, rfl, hown1, hgrow1, hat1⟩
  have B1 : Below w.heap.size w w1 := (Below.refl _ _).grown hgrow1 (Nat.le_refl _) (fun k hk => by cases hk)
  have HB1 := hide B1
  have HO1 := hide hown1
  have HL1 := hide (HL.out.below B1)
  clear hown1 hgrow1 hat1 B1
  go_wp2_with (first | (at_builtin; refine wpList_append_rd _ (by rfl) _ _ (by rfl) w.heap.size g1 4 cap1 _ (by rfl) HO1.out _ l (by rfl) HL1.out (by omega) HB1.out.size ?_; intro g2 cap2 w2 hown2 hb2; have HW := hide (show Row w2 g2 0 (4 + l.length) cap2 (be4 (l.length : Int) ++ l) from own_row (by simpa using hown2)); have HB2 := hide (HB1.out.trans hb2); have hcap : 4 + l.length ≤ cap2 := HW.out.le; have hcm : cap2 ≤ 9223372036854775807 := (by have := HW.out.max; unfold maxLen at this; omega); have hkc : (k : Int) ≤ (cap2 : Int) := (by omega); clear hown2 hb2) | fail)
  have hrk : Row w2 g2 0 k cap2 ((be4 (l.length : Int) ++ l).take k) := HW.out.front k (by omega)
  have HRK := hide hrk
  have hg2lt : g2 < w2.heap.size := cell_lt (HW.out.cell 0 (by omega))
  refine (clone_row w2 ⟨g2, 0, none⟩ ((be4 (l.length : Int) ++ l).take k) k cap2 hrk.len (by omega) (fun _ => rfl) hrk.cell).mono ?_
  rintro e w3 ⟨rfl, hb3, hown3⟩
  have HB3 := hide (HB2.out.trans (hb3.mono HB2.out.size))
  have hlt3 : w2.heap.size < w3.heap.size := (hown3.lt _ rfl).2
  have HC := hide (own_row hown3)
  have HM := hide (hrk.below hb3)
  clear hrk HRK hb3 hown3 HB2 HB1 HO1 HL1 HW
  go_wp2_with fail
  refine (newReader w3 _ _ _).mono ?_
  rintro e w4 ⟨rfl, hw4⟩
  have hb4 : Below w3.heap.size w3 w4 := by rw [hw4]; exact (Below.refl _ _).alloc (Nat.le_refl _) _
  have hr : w4.heap[w3.heap.size]? = some (.cells #[.slice (some ⟨w2.heap.size, 0, none⟩) k k] 43) := by rw [hw4]; exact heap_alloc_new w3 _
  have hsz := HB3.out.size
  have hb04 : Below w.heap.size w w4 := HB3.out.trans (hb4.mono hsz)
  have HB4 := hide hb04
  have HC4 := hide (HC.out.below hb4)
  have HM4 := hide (HM.out.below hb4)
  have HR4 := hide hr
  have hg4 : w4.cell? ⟨1, 0, none⟩ = some (.iface 53 (.pointer (some a))) := by rw [hb04.cell (p := ⟨1, 0, none⟩) (cell_lt HG.out)]; exact HG.out
  have hs4 : w4.cell? a = some (.string s) := by rw [hb04.cell (p := a) (cell_lt HS.out)]; exact HS.out
  have h1lt : 1 < w.heap.size := cell_lt HG.out
  have halt : a.block < w.heap.size := cell_lt HS.out
  have HG4 := hide hg4
  have HS4 := hide hs4
  have HSZ := hide hsz
  clear hb4 hr hb04 hg4 hs4 hw4 HB3 HC HM HG HS hsz
  have hne : w2.heap.size ≠ w3.heap.size := by omega
  by_cases kF : k = 4 + l.length
  · have HK := hide kF
    have kB : ((k : Int) == 4 + (l.length : Int)) = true := beq_iff_eq.2 (by omega)
    have hrow : Row w4 w2.heap.size 0 k k (be4 (l.length : Int) ++ l) := by
      have := HC4.out
      rw [List.take_of_length_le (by simp [be4]; omega)] at this
      exact this
    have U := hide (str_ok w4 w3.heap.size w2.heap.size 0 k k l.length l (by omega) HR4.out hrow (Nat.le_refl _) hne)
    clear hrow kF
    go_wp2_with fail
    refine (unhide U).mono ?_
    rintro e w5 ⟨off1, off2, n2, c2, rfl, hbut, hgot, hr5, hrest⟩
    have hn2 : n2 = 0 := by have := hrest.len; simpa using this.symm
    subst hn2
    have HB5 := hide (HB4.out.trans (hbut.toBelow HSZ.out HB4.out.size))
    have HG5 := hide hgot
    have HR5 := hide hr5
    clear hbut hgot hr5 hrest U HB4 HC4 HM4 HR4 HG4 HS4
    go_wp2_with fail
    refine (zzbuf w5 _ _ HR5.out).mono ?_
    rintro e w6 ⟨rfl, hw6⟩
    replace hw6 := hw6.symm
    subst hw6
    go_wp2_with fail
    refine (equal_same w5 l _ _ (by have := HG5.out.rd; rw [List.take_of_length_le (Nat.le_refl _)] at this; exact this) (HL.out.below HB5.out)).mono ?_
    rintro e w7 ⟨rfl, m7, rfl⟩
    go_wp2
    go_ret
    exact ⟨rfl, below_drewN HB5.out _⟩
  · have kB : ((k : Int) == 4 + (l.length : Int)) = false := beq_eq_false_iff_ne.2 (by omega)
    have U := hide (str_bad w4 w3.heap.size w2.heap.size k l a s hn HR4.out HC4.out (by omega) hne HG4.out HS4.out (by have := HSZ.out; omega) (by have := HSZ.out; omega))
    clear kF
    go_wp2_with fail
    refine (unhide U).mono ?_
    rintro e w5 ⟨a', rfl, hbut, hr5⟩
    have HB5 := hide (HB4.out.trans (hbut.toBelow HSZ.out HB4.out.size))
    have HC5 := hide (HC4.out.but hbut hne)
    have HM5 := hide (HM4.out.but hbut (by omega))
    have HR5 := hide hr5
    clear hr5 U
    go_wp2_with fail
    refine (zzbuf w5 _ _ HR5.out).mono ?_
    rintro e w6 ⟨rfl, hw6⟩
    replace hw6 := hw6.symm
    subst hw6
    go_wp2_with fail
    refine (equal_same w5 _ _ _ HC5.out.rd HM5.out.rd).mono ?_
    rintro e w7 ⟨rfl, m7, rfl⟩
    go_wp2
    go_ret
    exact ⟨rfl, below_drewN HB5.out _⟩
end Go.Proofs.Qxb6616550aFmt
