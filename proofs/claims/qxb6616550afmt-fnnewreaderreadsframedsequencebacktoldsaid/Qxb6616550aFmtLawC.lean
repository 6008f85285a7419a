/-
  DERIVED. THE WALK of the law FnNewReaderReadsFramedSequenceBack (function 6).
-/
import Derived.Test.Qxb6616550aFmtRows17
namespace Go.Proofs.Qxb6616550aFmt
open Go.RowKit
set_option linter.unusedVariables false

set_option maxRecDepth 100000 in
set_option maxHeartbeats 4000000 in
theorem law3_row (w : World) (b off N c : Nat) (A : Nat → Option Addr) (C : Nat → Nat) (L : Nat → List Int) (h : PS w b off N A C L) (hN : N ≤ maxLen) (hN0 : 0 < N)
    (a : Addr) (s : ByteArray) (hg : w.cell? ⟨1, 0, none⟩ = some (.iface 53 (.pointer (some a)))) (hs : w.cell? a = some (.string s)) :
    Calls Tryf.prog 6 #[.slice (some ⟨b, off, none⟩) N c] w fun e w' => e = .returned (.bool true) ∧ Below w.heap.size w w' := by
  have B := hide (bytes17 w b off N c A C L h hN)
  unfold maxLen at hN
  have HP := hide h
  have HG := hide hg
  have HS := hide hs
  clear h hg hs
  go_enter Tryf.func6, Tryf.ntmps6
  go_wp2_with fail
  refine (unhide B).mono ?_
  rintro e w0 ⟨⟨bb, rfl, hall⟩, hw0⟩
  have HA := hide hall
  clear hall
  replace hw0 := hw0.symm
  subst hw0
  clear B
  cases bb with
  | false =>
    go_wp2
    go_ret
    exact ⟨rfl, Below.refl _ _⟩
  | true =>
  by_cases hbig : (65536 : Int) < (N : Int)
  · go_wp2
    go_ret
    exact ⟨rfl, Below.refl _ _⟩
  have hbig' : (N : Int) ≤ 65536 := by omega
  clear hbig
  go_wp2
  go_loop [3, 4] (fun z i => ∃ k : Nat, k ≤ N ∧ i = .int .i64 k ∧ z = .int .i64 (tot L k : Nat) ∧ tot L k ≤ 1048576) (fun _ i => N - (intOf i).toNat)
  case atStart => exact ⟨0, by omega, rfl, rfl, by simp [tot]⟩
  case round =>
    obtain ⟨k, hk, rfl, rfl, ht⟩ := hrel
    by_cases hlt : k < N
    · have g := HP.out.cell k hlt
      have gm : (L k).length ≤ 1048576 := HA.out (by trivial) k hlt
      have HT : Hid (tot L (k + 1) = tot L k + (24 + (L k).length)) := rfl
      generalize (L k).length = ln at g gm HT
      generalize A k = ak at g
      generalize C k = ck at g
      generalize tot L k = t at *
      have hki : (k : Int) < (N : Int) := by omega
      have hk0 : (0 : Int) ≤ (k : Int) := by omega
      have t0 : (0 : Int) ≤ (t : Int) := by omega
      have t1 : (t : Int) ≤ 1048576 := by omega
      by_cases hov : (1048576 : Int) < (t : Int) + (24 + (ln : Int))
      · go_wp2
        go_ret
        exact ⟨rfl, Below.refl _ _⟩
      · go_wp2
        go_round
        case rel => exact ⟨k + 1, by omega, by go_num, by rw [HT.out]; exact congrArg (Value.int .i64) (by omega), by rw [HT.out]; omega⟩
        case measure => simp [intOf]; omega
    · obtain rfl : k = N := by omega
      have HT := hide ht
      clear ht
      go_wp2
      go_loopw [5, 6] (fun m i w' => ∃ j : Nat, j ≤ k ∧ i = .int .i64 j ∧ Below w.heap.size w w' ∧ w'.ownsRow w.heap.size 5 1 m (frs L j).length (u8s (frs L j))) (fun _ i _ => k - (intOf i).toNat)
      case atStart => exact ⟨0, by omega, rfl, Below.refl _ _, World.ownsRow_nil _ _ _ _⟩
      case round =>
        obtain ⟨j, hj, rfl, hbl, hown⟩ := hrel
        have HB := hide hbl
        have HO := hide hown
        clear hbl hown
        by_cases hlt : j < k
        · have HP2 := HP.out.below HB.out
          have g := HP2.cell j hlt
          have HRD := hide (HP.out.rd j hlt)
          have gm : (L j).length ≤ 1048576 := HA.out (by trivial) j hlt
          have hfl : (frs L j).length ≤ 1048576 := by have := frs_len L j; have := tot_le L j k (by omega); have := HT.out; omega
          have hfl2 : (frs L j).length + (4 + (L j).length) ≤ 1048576 := by
            have := tot_le L (j + 1) k (by omega); have := HT.out
            have h3 := frs_len L (j + 1)
            simp [frs, fr, be4] at h3
            omega
          have HF : Hid (frs L (j + 1) = frs L j ++ (be4 ((L j).length : Int) ++ L j)) := rfl
          clear HP2
          have gi : ((L j).length : Int) ≤ 1048576 := by omega
          generalize L j = lj at g HRD gm hfl2 HF gi
          generalize A j = aj at g HRD
          generalize C j = cj at g HRD
          generalize hfj : frs L j = fj at HO hfl hfl2 HF
          have hki : (j : Int) < (k : Int) := by omega
          have hk0 : (0 : Int) ≤ (j : Int) := by omega
          have gi0 : (0 : Int) ≤ (lj.length : Int) := by omega
          clear hfj
          go_wp2_with fail
          refine (append32 wr w.heap.size u5 fj.length (u8s fj) (lj.length : Int) HB.out.size HO.out (by omega) (by omega) (by omega)).mono ?_
          rintro e w1 ⟨g1, cap1, rfl, hown1, hgrow1, hat1⟩
          have B1 : Below w.heap.size wr w1 := grown_below hgrow1 HO.out HB.out.size
          have HB1 := hide (HB.out.trans B1)
          have HO1 := hide hown1
          have hblt : b < w.heap.size := by
            have := HP.out.cell j hlt
            exact cell_lt this
          have g1' : w1.cell? ⟨b, off + j, none⟩ = some (.slice aj lj.length cj) := by rw [B1.cell (p := ⟨b, off + j, none⟩) hblt]; exact g
          have HR1 := hide (show Rd w1 (.slice aj lj.length cj) lj from HRD.out.below HB1.out)
          clear hown1 hgrow1 hat1 B1 g HO HB HRD
          go_wp2_with (at_builtin; refine wpList_append_rd _ (by rfl) _ _ (by rfl) w.heap.size g1 (fj.length + 4) cap1 _ (by rfl) HO1.out _ lj (by rfl) HR1.out (by omega) HB1.out.size ?_; intro g2 cap2 w2 hown2 hb2; have HO2 := hide hown2; have HB2 := hide (HB1.out.trans hb2); clear hown2 hb2)
          go_roundw
          case rel =>
            refine ⟨j + 1, by omega, by go_num, HB2.out, ?_⟩
            have e1 : u8s (frs L (j + 1)) = u8s fj ++ u8s (be4 (lj.length : Int)) ++ u8s lj := by rw [HF.out]; simp
            have e2 : (frs L (j + 1)).length = fj.length + 4 + lj.length := by rw [HF.out]; simp [be4]; omega
            rw [e1, e2]
            exact HO2.out
          case measure => simp [intOf]; omega
        · obtain rfl : j = k := by omega
          have hnn : 4 ≤ (frs L j).length := by
            obtain ⟨j', rfl⟩ : ∃ j', j = j' + 1 := ⟨j - 1, by omega⟩
            simp [frs, fr, be4]
            omega
          obtain ⟨g, cap, rfl⟩ : ∃ g cap, u5 = .slice (some ⟨g, 0, none⟩) (frs L j).length cap := by
            rcases HO.out.2 with ⟨_, h0⟩ | ⟨g, cap, cur, h', _⟩
            · omega
            · exact ⟨g, cap, h'⟩
          have HW := hide (own_row HO.out)
          have hfl : (frs L j).length ≤ 1048576 := by have := frs_len L j; have := HT.out; omega
          rw [frs_fr2] at HW hfl hnn ⊢
          generalize (fr2 L 0 j).length = fn at HW hfl hnn
          clear HO
          go_wp2_with fail
          refine (newReader wr _ _ _).mono ?_
          rintro e w4 ⟨rfl, hw4⟩
          have hb4 : Below wr.heap.size wr w4 := by rw [hw4]; exact (Below.refl _ _).alloc (Nat.le_refl _) _
          have hr : w4.heap[wr.heap.size]? = some (.cells #[.slice (some ⟨g, 0, none⟩) fn cap] 43) := by rw [hw4]; exact heap_alloc_new wr _
          have HSZ := hide HB.out.size
          have HB4 := hide (HB.out.trans (hb4.mono HSZ.out))
          have HW4 := hide (HW.out.below hb4)
          have HR4 := hide hr
          have HNE := hide (show g ≠ wr.heap.size from Nat.ne_of_lt (cell_lt (HW.out.cell 0 (by omega))))
          clear hb4 hr hw4 HB HW
          generalize wr.heap.size = r at *
          go_wp2_with fail
          go_loopw [8] (fun i w' => ∃ (k off n c : Nat), k ≤ j ∧ i = .int .i64 k ∧ Below w.heap.size w w' ∧ w'.heap[r]? = some (.cells #[.slice (some ⟨g, off, none⟩) n c] 43) ∧ Row w' g off n c (fr2 L k (j - k))) (fun i _ => j - (intOf i).toNat)
          case atStart => exact ⟨0, 0, fn, cap, by omega, rfl, HB4.out, HR4.out, by simpa using HW4.out⟩
          case round =>
            obtain ⟨k, of, n, c', hk, rfl, hbl, hr, hrow⟩ := hrel
            have HB := hide hbl
            have HR := hide hr
            have HW := hide hrow
            clear hbl hr hrow HB4 HR4 HW4
            by_cases hlt : k < j
            · have hf : fr2 L k (j - k) = be4 ((L k).length : Int) ++ (L k ++ fr2 L (k + 1) (j - (k + 1))) := by
                rw [show j - k = (j - (k + 1)) + 1 by omega]
                simp only [fr2, fr, List.append_assoc]
              have HF := hide hf
              clear hf
              have gm : (L k).length ≤ 1048576 := HA.out (by trivial) k hlt
              have HRD := hide (HP.out.rd k hlt)
              have HC := hide (HP.out.cell k hlt)
              have U := hide (str_ok wr r g of n c' (L k).length (L k ++ fr2 L (k + 1) (j - (k + 1))) (by omega) HR.out (by have := HW.out; rw [HF.out] at this; exact this) (by simp) HNE.out)
              generalize hre : fr2 L (k + 1) (j - (k + 1)) = rest at U HF
              have HRE := hide hre
              clear hre
              generalize L k = lk at U HF gm HRD HC
              generalize A k = ak at HRD HC
              generalize C k = ck at HRD HC
              have hki : (k : Int) < (j : Int) := by omega
              have hk0 : (0 : Int) ≤ (k : Int) := by omega
              clear HR HW
              go_wp2_with fail
              refine (unhide U).mono ?_
              rintro e w5 ⟨off1, off2, n2, c2, rfl, hbut, hgot, hr5, hrest⟩
              have hbl5 := HB.out.trans (hbut.toBelow HSZ.out HB.out.size)
              have HB5 := hide hbl5
              have HG5 := hide (show Rd w5 (.slice (some ⟨g, off1, none⟩) lk.length lk.length) lk by have := hgot.rd; rw [List.take_left' rfl] at this; exact this)
              have HR5 := hide hr5
              have HT5 := hide (show Row w5 g off2 n2 c2 rest by rw [List.drop_left' rfl] at hrest; exact hrest)
              have g5 : w5.cell? ⟨b, off + k, none⟩ = some (.slice ak lk.length ck) := by
                rw [hbl5.cell (p := ⟨b, off + k, none⟩) (cell_lt HC.out)]; exact HC.out
              clear hbut hgot hr5 hrest U hbl5 HB HC
              go_wp2_with fail
              refine (equal_same w5 lk _ _ HG5.out (HRD.out.below HB5.out)).mono ?_
              rintro e w6 ⟨rfl, m6, rfl⟩
              have HB6 := hide (below_drewN HB5.out m6)
              have HR6 := hide (show (w5.drewN m6).heap[r]? = some (.cells #[.slice (some ⟨g, off2, none⟩) n2 c2] 43) from HR5.out)
              have HT6 := hide (HT5.out.drewN' m6)
              clear HB5 HR5 HT5 HG5 g5
              generalize w5.drewN m6 = w7 at *
              go_wp2
              go_roundw
              case rel => exact ⟨k + 1, off2, n2, c2, by omega, by go_num, HB6.out, HR6.out, by rw [HRE.out]; exact HT6.out⟩
              case measure => simp [intOf]; omega
            · obtain rfl : k = j := by omega
              have hn0 : n = 0 := by have := HW.out.len; simpa [fr2] using this.symm
              subst hn0
              have hg4 : wr.cell? ⟨1, 0, none⟩ = some (.iface 53 (.pointer (some a))) := by rw [HB.out.cell (p := ⟨1, 0, none⟩) (cell_lt HG.out)]; exact HG.out
              have hs4 : wr.cell? a = some (.string s) := by rw [HB.out.cell (p := a) (cell_lt HS.out)]; exact HS.out
              have U := hide (str_short wr r _ 0 c' a s HR.out (by omega) hg4 hs4)
              clear hg4 hs4
              go_wp2_with fail
              refine (unhide U).mono ?_
              rintro e w5 ⟨a', rfl, hb5⟩
              have HB5 := hide (HB.out.trans (hb5.mono HB.out.size))
              have HR5 := hide ((hb5.block r (lt_of_heap HR.out)).trans HR.out)
              clear hb5 U HB HR HW
              go_wp2_with fail
              refine (zzbuf w5 _ _ HR5.out).mono ?_
              rintro e w6 ⟨rfl, hw6⟩
              replace hw6 := hw6.symm
              subst hw6
              go_wp2
              go_ret
              exact ⟨rfl, HB5.out⟩


set_option maxRecDepth 100000 in
set_option maxHeartbeats 2000000 in
theorem bytes17_zero (w : World) (ao : Option Addr) (c : Nat) :
    Calls Tryf.prog 17 #[.slice ao 0 c] w fun e w' => e = .returned (.bool true) ∧ w' = w := by
  go_enter Tryf.func17, Tryf.ntmps17
  go_wp2
  go_loop [3, 4] (fun z i => i = .int .i64 0 ∧ z = .int .i64 0) (fun _ _ => 0)
  case atStart => exact ⟨rfl, rfl⟩
  case round =>
    obtain ⟨rfl, rfl⟩ := hrel
    go_wp2
    go_ret
    exact ⟨rfl, rfl⟩

set_option maxRecDepth 100000 in
set_option maxHeartbeats 4000000 in
theorem law3_zero (w : World) (ao : Option Addr) (c : Nat)
    (a : Addr) (s : ByteArray) (hg : w.cell? ⟨1, 0, none⟩ = some (.iface 53 (.pointer (some a)))) (hs : w.cell? a = some (.string s)) :
    Calls Tryf.prog 6 #[.slice ao 0 c] w fun e w' => e = .returned (.bool true) ∧ Below w.heap.size w w' := by
  have B := hide (bytes17_zero w ao c)
  have HG := hide hg
  have HS := hide hs
  clear hg hs
  go_enter Tryf.func6, Tryf.ntmps6
  go_wp2_with fail
  refine (unhide B).mono ?_
  rintro e w0 ⟨rfl, hw0⟩
  replace hw0 := hw0.symm
  subst hw0
  clear B
  go_wp2
  go_loop [3, 4] (fun z i => i = .int .i64 0 ∧ z = .int .i64 0) (fun _ _ => 0)
  case atStart => exact ⟨rfl, rfl⟩
  case round =>
    obtain ⟨rfl, rfl⟩ := hrel
    go_wp2
    go_loopw [5, 6] (fun m i w' => m = .slice none 0 0 ∧ i = .int .i64 0 ∧ w' = w) (fun _ _ _ => 0)
    case atStart => exact ⟨rfl, rfl, rfl⟩
    case round =>
      obtain ⟨rfl, rfl, hwr⟩ := hrel
      subst hwr
      go_wp2_with fail
      refine (newReader wr _ _ _).mono ?_
      rintro e w4 ⟨rfl, hw4⟩
      have hb4 : Below wr.heap.size wr w4 := by rw [hw4]; exact (Below.refl _ _).alloc (Nat.le_refl _) _
      have hr : w4.heap[wr.heap.size]? = some (.cells #[.slice none 0 0] 43) := by rw [hw4]; exact heap_alloc_new wr _
      have HB4 := hide hb4
      have HR4 := hide hr
      clear hb4 hr hw4
      go_wp2_with fail
      go_loopw [8] (fun i w' => i = .int .i64 0 ∧ w' = w4) (fun _ _ => 0)
      case atStart => exact ⟨rfl, rfl⟩
      case round =>
        obtain ⟨rfl, hwr⟩ := hrel
        replace hwr := hwr.symm
        subst hwr
        have hg4 : w4.cell? ⟨1, 0, none⟩ = some (.iface 53 (.pointer (some a))) := by rw [HB4.out.cell (p := ⟨1, 0, none⟩) (cell_lt HG.out)]; exact HG.out
        have hs4 : w4.cell? a = some (.string s) := by rw [HB4.out.cell (p := a) (cell_lt HS.out)]; exact HS.out
        have U := hide (str_short w4 _ _ 0 0 a s HR4.out (by omega) hg4 hs4)
        clear hg4 hs4
        go_wp2_with fail
        refine (unhide U).mono ?_
        rintro e w5 ⟨a', rfl, hb5⟩
        have HB5 := hide (HB4.out.trans (hb5.mono HB4.out.size))
        have HR5 := hide ((hb5.block _ (lt_of_heap HR4.out)).trans HR4.out)
        clear hb5 U HB4 HR4
        go_wp2_with fail
        refine (zzbuf w5 _ _ HR5.out).mono ?_
        rintro e w6 ⟨rfl, hw6⟩
        replace hw6 := hw6.symm
        subst hw6
        go_wp2
        go_ret
        exact ⟨rfl, HB5.out⟩
end Go.Proofs.Qxb6616550aFmt
