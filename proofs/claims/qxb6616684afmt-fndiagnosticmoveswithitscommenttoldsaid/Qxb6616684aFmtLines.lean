/-
  DERIVED. THE WALK of (*File).SetLinesForContent (19).
-/
import Derived.Test.Qxb6616684aFmtDiag
import Derived.Lib.ConvBytes
namespace Go.Proofs.Qxb6616684aFmt
open Go.RowKit Go.RwLone Go.MuLone
set_option linter.unusedVariables false

theorem Tryf.info3 : (Tryf.prog.info? 3).map (fun i => (i.zero, i.size, i.bytes)) = some (some (.int .i64 0), 1, 8) := by kernel_rfl

set_option maxRecDepth 100000 in
set_option maxHeartbeats 4000000 in
theorem lines19 (w : World) (f g n c : Nat) (name : ByteArray) (base size : Int) (lines : Value) (bs : Nat → Int) (hf : w.heap[f]? = some (file name base size lines)) (hn : n ≤ 65536)
    (hg : ∀ j, j < n → w.cell? ⟨g, j, none⟩ = some (.int .u8 (bs j))) :
    Calls Tryf.prog 19 #[.pointer (some ⟨f, 0, none⟩), .slice (some ⟨g, 0, none⟩) n c] w fun e w' => e = .returned (.tuple #[]) ∧ Fr [f] w w' ∧ ∃ v, w'.heap[f]? = some (file name base size v) := by
  obtain ⟨i, hi, hz0, hz1, hz2⟩ := info_parts Tryf.info3
  have HI := hide hi
  have HZ0 := hide hz0
  have HZ1 := hide hz1
  have HZ2 := hide hz2
  have HF := hide hf
  have HG := hide hg
  clear hf hg hi hz0 hz1 hz2
  have hni : (n : Int) ≤ 65536 := by omega
  go_enter Tryf.func19, Tryf.ntmps19
  go_wp2_with fail
  go_loopw [4, 5, 10] (fun l z k w' => ∃ (j m : Nat) (x : Int) (xs : List Value), j ≤ n ∧ m ≤ j ∧ k = .int .i64 j ∧ z = .int .i64 x ∧ -1 ≤ x ∧ x ≤ 65536 ∧ Below w.heap.size w w' ∧ w'.ownsRow w.heap.size 3 1 l m xs) (fun _ _ k _ => n - (intOf k).toNat)
  case atStart => exact ⟨0, 0, 0, [], by omega, by omega, rfl, rfl, by omega, by omega, Below.refl _ _, World.ownsRow_nil _ _ _ _⟩
  case round =>
    obtain ⟨j, m, x, xs, hj, hm, rfl, rfl, x0, x1, hbl, hown⟩ := hrel
    have HB := hide hbl
    have HO := hide hown
    clear hbl hown
    by_cases hlt : j < n
    · have gj := HG.out j hlt
      have gj' : wr.cell? ⟨g, j, none⟩ = some (.int .u8 (bs j)) := by rw [HB.out.cell (p := ⟨g, j, none⟩) (cell_lt gj)]; exact gj
      clear gj
      generalize bs j = bj at gj'
      have hki : (j : Int) < (n : Int) := by omega
      have hk0 : (0 : Int) ≤ (j : Int) := by omega
      by_cases hx : 0 ≤ x
      · have hnw : ∀ q u, [Value.int .i64 x][q]? = some u → (wr.alloc (.cells #[.int .i64 x] 3)).cell? ((⟨wr.heap.size, 0, none⟩ : Addr).add q) = some u := World.news_of_block (heap_alloc_new wr _)
        have HN := hide hnw
        clear hnw
        go_wp2_with (at_builtin; refine wpList_append_lies _ (by rfl) _ _ 76 (by rfl) w.heap.size 3 i (.int .i64 0) 1 8 Tryf.underlying76 HI.out HZ0.out HZ1.out HZ2.out rfl (by omega) _ m xs (by rfl) (HO.out.alloc _) ⟨wr.heap.size, 0, none⟩ 1 1 [.int .i64 x] (by rfl) rfl HN.out (ints_oneCell .i64 [x]) (by omega) (by unfold maxLen; omega) (by omega) (by have := HB.out.size; simp; omega) (wr.heap.size + 1) (by simp) ?_; intro g2 cap2 w2 hown2 hgrow2 hat2 hlt2; have HB2 := hide (show Below w.heap.size w w2 from (HB.out.alloc HB.out.size _).trans ((Below.refl _ _).grown hgrow2 (by have := HB.out.size; simp; omega) (fun k hk => ((HO.out.alloc (.cells #[.int .i64 x] 3)).lt k hk).1))); have HO2 := hide hown2; clear hown2 hgrow2 hat2 hlt2)
        all_goals
          go_roundw
          case rel => exact ⟨j + 1, m + 1, _, _, by omega, by omega, by go_num, rfl, by omega, by omega, HB2.out, HO2.out⟩
          case measure => simp [intOf]; omega
      · go_wp2
        all_goals
          go_roundw
          case rel => exact ⟨j + 1, m, _, _, by omega, by omega, by go_num, rfl, by omega, by omega, HB.out, HO.out⟩
          case measure => simp [intOf]; omega
    · obtain rfl : j = n := by omega
      have hfw : wr.heap[f]? = some (file name base size lines) := (HB.out.block f (heap_lt HF.out)).trans HF.out
      obtain ⟨ao, cap, rfl⟩ : ∃ ao cap, u4 = .slice ao m cap := by
        rcases HO.out.2 with ⟨h, h0⟩ | ⟨g', cap', cur, h', _⟩
        · exact ⟨none, 0, by rw [h]; congr 1; omega⟩
        · exact ⟨_, _, h'⟩
      clear HO
      have c3 := cell_at hfw 3
      have z3 := frozen_at hfw 3
      simp at c3
      have HFW := hide hfw
      clear hfw
      go_wp2_with fail
      refine (lock_free Tryf.muLib ⟨f, 3, none⟩ wr c3 z3).mono ?_
      rintro e w2 ⟨rfl, hw2⟩
      have hf2 : w2.heap[f]? = some (.cells #[.string name, .int .i64 base, .int .i64 size, .int .i32 1, .int .u32 0, lines, .slice none 0 0] 79) := by
        rw [hw2]
        have := set_at HFW.out 3 (.int .i32 1)
        simp at this
        exact this
      have F2 : Fr [f] w w2 := by rw [hw2]; exact (Fr.ofBelow HB.out (Nat.le_refl _)).setCell f (by simp) 3 _
      have c5 := cell_at hf2 5
      have z5 := frozen_at hf2 5
      simp at c5
      have HF2 := hide hf2
      have HX2 := hide F2
      clear hw2 hf2 F2 c3 z3 HFW
      go_wp2_with fail
      have hf3 := set_at HF2.out 5 (.slice ao m cap)
      simp at hf3
      have c3' := cell_at hf3 3
      have z3' := frozen_at hf3 3
      refine (unlock_held Tryf.muLib ⟨f, 3, none⟩ _ c3' z3').mono ?_
      rintro e w4 ⟨rfl, hw4⟩
      have hf4 : w4.heap[f]? = some (file name base size (.slice ao m cap)) := by
        rw [hw4]
        have := set_at hf3 3 (.int .i32 0)
        simp at this
        exact this
      have F4 : Fr [f] w w4 := by rw [hw4]; exact (HX2.out.setCell f (by simp) 5 _).setCell f (by simp) 3 _
      have HF4 := hide hf4
      have HX4 := hide F4
      clear hw4 hf4 F4 hf3 c3' z3' c5 z5 HF2 HX2
      go_wp2
      go_end0
      exact ⟨rfl, HX4.out, _, HF4.out⟩
end Go.Proofs.Qxb6616684aFmt
