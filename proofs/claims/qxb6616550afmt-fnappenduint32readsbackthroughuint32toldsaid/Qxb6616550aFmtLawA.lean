/-
  DERIVED. THE WALK of the law FnAppendUint32ReadsBackThroughUint32 (function 3), every readable slice.
-/
import Derived.Test.Qxb6616550aFmtStr
namespace Go.Proofs.Qxb6616550aFmt
open Go.RowKit
set_option linter.unusedVariables false

theorem Row.drewN {w : World} {b off n c : Nat} {l : List Int} (h : Row w b off n c l) (m : Nat) : Row (w.drewN m) b off n c l := ⟨h.len, h.le, h.max, h.cell⟩

set_option maxRecDepth 100000 in
set_option maxHeartbeats 2000000 in
theorem law1_big (w : World) (ao : Option Addr) (n c : Nat) (v : Int) (hn : 1048576 < n) (hm : n ≤ maxLen) :
    Calls Tryf.prog 3 #[.slice ao n c, .int .u32 v] w fun e w' => e = .returned (.bool true) ∧ Below w.heap.size w w' := by
  unfold maxLen at hm
  have hn' : (1048576 : Int) < (n : Int) := by omega
  go_enter Tryf.func3, Tryf.ntmps3
  go_wp2
  go_ret
  exact ⟨rfl, Below.refl _ _⟩

set_option maxRecDepth 100000 in
set_option maxHeartbeats 2000000 in
theorem law1_row (w : World) (ao : Option Addr) (c : Nat) (l : List Int) (v : Int) (h : Rd w (.slice ao l.length c) l) (hn : l.length ≤ 1048576) (v0 : 0 ≤ v) (v1 : v ≤ 4294967295) :
    Calls Tryf.prog 3 #[.slice ao l.length c, .int .u32 v] w fun e w' => e = .returned (.bool true) ∧ Below w.heap.size w w' := by
  have hn' : (l.length : Int) ≤ 1048576 := by omega
  have C1 := hide (clone_rd w _ l h (by omega))
  clear h
  go_enter Tryf.func3, Tryf.ntmps3
  go_wp2_with (first | (go_at_call 7; go_in) | fail)
  refine (unhide C1).mono ?_
  rintro e w1 ⟨hb1, hr1⟩
  have HB1 := hide hb1
  rcases hr1 with ⟨hv, hl, rfl⟩ | ⟨rfl, ho1⟩
  · subst hl
    have HR1 : Hid (Rd w1 (.slice none 0 0) []) := Or.inl ⟨rfl, rfl⟩
    clear hb1 hv C1
    go_wp2_with fail
    refine (clone_nil w1).mono ?_
    rintro e w2 ⟨rfl, hw2⟩
    have HB2 : Hid (Below w1.heap.size w1 w2) := by rw [hw2]; exact Below.refl _ _
    have HO2 : Hid (w2.ownsRow w1.heap.size 5 1 (.slice none 0 0) 0 (u8s [])) := World.ownsRow_nil _ _ _ _
    clear hw2
    go_wp2_with fail
    refine (append32 w2 w1.heap.size (.slice none 0 0) 0 (u8s []) v HB2.out.size HO2.out (by omega) v0 v1).mono ?_
    rintro e w3 ⟨g, cap, rfl, hown3, hgrow3, hat3⟩
    have B3 : Below w1.heap.size w2 w3 := grown_below hgrow3 HO2.out HB2.out.size
    have B13 : Below w1.heap.size w1 w3 := HB2.out.trans B3
    have R3 := hide (HR1.out.below B13)
    have hrow : Row w3 g 0 (0 + 4) cap ([] ++ be4 v) := by
      have : w3.ownsRow w1.heap.size 5 1 (.slice (some ⟨g, 0, none⟩) (0 + 4) cap) (0 + 4) (u8s ([] ++ be4 v)) := by
        simpa using hown3
      exact own_row this
    have HB3s : Hid (w.heap.size ≤ w3.heap.size) := (HB1.out.trans (B13.mono HB1.out.size)).size
    have HB3 := hide (HB1.out.trans (B13.mono HB1.out.size))
    have hcap : 0 + 4 ≤ cap := hrow.le
    have hcm : cap ≤ 9223372036854775807 := by have := hrow.max; unfold maxLen at this; omega
    have HW := hide hrow
    have hgl : g < w3.heap.size := cell_lt (hrow.cell 0 (by omega))
    clear hown3 hgrow3 hat3 B3 B13 hrow HO2 HB2 HR1 HB1
    have i1 : ((0 : Nat) : Int) ≤ (cap : Int) := by omega
    have i0 : (0 : Int) ≤ ((0 : Nat) : Int) := by omega
    have i2 : ((0 : Nat) : Int) + 4 ≤ (cap : Int) := by omega
    have i3 : ¬ cap = 0 := by omega
    go_wp2_with fail
    refine (equal_same w3 [] _ _ (by have := HW.out.front 0 (by omega); rw [List.take_left' (by rfl)] at this; exact this.rd) R3.out).mono ?_
    rintro e w4 ⟨rfl, m4, rfl⟩
    go_wp2_with (first | (go_at_call 11; go_in) | fail)
    have hr : ((w3.drewN m4).alloc (.cells #[.slice (some ⟨g, 0, none⟩) 4 cap] 43)).heap[w3.heap.size]? = some (.cells #[.slice (some ⟨g, 0, none⟩) 4 cap] 43) := heap_alloc_new (w3.drewN m4) _
    have hbw : Below (w3.drewN m4).heap.size (w3.drewN m4) ((w3.drewN m4).alloc (.cells #[.slice (some ⟨g, 0, none⟩) 4 cap] 43)) := (Below.refl _ _).alloc (Nat.le_refl _) _
    have hrow2 : Row (w3.drewN m4) g 0 4 cap (be4 v ++ []) := by
      have h := (HW.out.drop 0 (by omega)).drewN m4
      rw [if_neg i3, List.drop_left' (by rfl)] at h
      simpa using h
    have U := hide (uint32_be _ w3.heap.size g 0 4 cap [] v v0 v1 hr (hrow2.below hbw) (by omega))
    have HB4 := hide (HB3.out.trans ((below_drewN (Below.refl w3.heap.size w3) m4).trans hbw |>.mono HB3.out.size))
    clear hr hbw hrow2 HW HB3 R3
    generalize (w3.drewN m4).alloc (.cells #[.slice (some ⟨g, 0, none⟩) 4 cap] 43) = w5 at *
    refine (unhide U).mono ?_
    rintro e w6 ⟨rfl, hbut, hr6⟩
    have g0 := heap_cell hr6
    have hsz := HB3s.out
    have HB6 := hide (HB4.out.trans (hbut.toBelow hsz (HB4.out.size)))
    clear hbut hr6 U HB4
    go_wp2_with (first | (go_at_call 13; go_in) | fail)
    go_ret
    exact ⟨rfl, HB6.out⟩

  · have HR1 := hide (own_rd ho1)
    have C2 := hide (clone_rd w1 _ l (own_rd ho1) (by omega))
    clear hb1 C1 ho1
    go_wp2_with fail
    refine (unhide C2).mono ?_
    rintro e w2 ⟨hb2, hr2⟩
    rcases hr2 with ⟨hv, _⟩ | ⟨rfl, ho2⟩
    · cases hv
    · have HB2 := hide hb2
      have HO2 := hide ho2
      clear hb2 ho2 C2
      go_wp2_with fail
      refine (append32 w2 w1.heap.size (.slice (some ⟨w1.heap.size, 0, none⟩) l.length l.length) l.length (u8s l) v HB2.out.size HO2.out (by omega) v0 v1).mono ?_
      rintro e w3 ⟨g, cap, rfl, hown3, hgrow3, hat3⟩
      have B3 : Below w1.heap.size w2 w3 := grown_below hgrow3 HO2.out HB2.out.size
      have B13 : Below w1.heap.size w1 w3 := HB2.out.trans B3
      have R3 := hide (HR1.out.below B13)
      have hrow : Row w3 g 0 (l.length + 4) cap (l ++ be4 v) := by
        have : w3.ownsRow w1.heap.size 5 1 (.slice (some ⟨g, 0, none⟩) (l.length + 4) cap) (l.length + 4) (u8s (l ++ be4 v)) := by
          simpa using hown3
        exact own_row this
      have HB3s : Hid (w.heap.size ≤ w3.heap.size) := (HB1.out.trans (B13.mono HB1.out.size)).size
      have HB3 := hide (HB1.out.trans (B13.mono HB1.out.size))
      have hcap : l.length + 4 ≤ cap := hrow.le
      have hcm : cap ≤ 9223372036854775807 := by have := hrow.max; unfold maxLen at this; omega
      have HW := hide hrow
      have hgl : g < w3.heap.size := cell_lt (hrow.cell 0 (by omega))
      clear hown3 hgrow3 hat3 B3 B13 hrow HO2 HB2 HR1 HB1
      have i1 : ((l.length : Nat) : Int) ≤ (cap : Int) := by omega
      have i0 : (0 : Int) ≤ ((l.length : Nat) : Int) := by omega
      have i2 : ((l.length : Nat) : Int) + 4 ≤ (cap : Int) := by omega
      have i3 : ¬ cap = l.length := by omega
      go_wp2_with fail
      refine (equal_same w3 l _ _ (by have := HW.out.front l.length (by omega); rw [List.take_left' (by rfl)] at this; exact this.rd) R3.out).mono ?_
      rintro e w4 ⟨rfl, m4, rfl⟩
      go_wp2_with (first | (go_at_call 11; go_in) | fail)
      have hr : ((w3.drewN m4).alloc (.cells #[.slice (some ⟨g, l.length, none⟩) 4 (cap - l.length)] 43)).heap[w3.heap.size]? = some (.cells #[.slice (some ⟨g, l.length, none⟩) 4 (cap - l.length)] 43) := heap_alloc_new (w3.drewN m4) _
      have hbw : Below (w3.drewN m4).heap.size (w3.drewN m4) ((w3.drewN m4).alloc (.cells #[.slice (some ⟨g, l.length, none⟩) 4 (cap - l.length)] 43)) := (Below.refl _ _).alloc (Nat.le_refl _) _
      have hrow2 : Row (w3.drewN m4) g l.length 4 (cap - l.length) (be4 v ++ []) := by
        have h := (HW.out.drop l.length (by omega)).drewN m4
        rw [if_neg i3, List.drop_left' (by rfl)] at h
        simpa using h
      have U := hide (uint32_be _ w3.heap.size g l.length 4 (cap - l.length) [] v v0 v1 hr (hrow2.below hbw) (by omega))
      have HB4 := hide (HB3.out.trans ((below_drewN (Below.refl w3.heap.size w3) m4).trans hbw |>.mono HB3.out.size))
      clear hr hbw hrow2 HW HB3 R3
      generalize (w3.drewN m4).alloc (.cells #[.slice (some ⟨g, l.length, none⟩) 4 (cap - l.length)] 43) = w5 at *
      refine (unhide U).mono ?_
      rintro e w6 ⟨rfl, hbut, hr6⟩
      have g0 := heap_cell hr6
      have hsz := HB3s.out
      have HB6 := hide (HB4.out.trans (hbut.toBelow hsz (HB4.out.size)))
      clear hbut hr6 U HB4
      go_wp2_with (first | (go_at_call 13; go_in) | fail)
      go_ret
      exact ⟨rfl, HB6.out⟩

end Go.Proofs.Qxb6616550aFmt
