/-
  DERIVED. THE WALKS of zzEqual (10), zzClone (8), AppendUint32 (18, 9).
-/
import Derived.Test.Qxb6616550aFmtMem
namespace Go.Proofs.Qxb6616550aFmt
open Go.RowKit
set_option linter.unusedVariables false

set_option maxHeartbeats 1000000 in
theorem equal_nil (w : World) (a a' : Option Addr) (c c' : Nat) :
    Calls Tryf.prog 10 #[.slice a 0 c, .slice a' 0 c'] w fun e w' => e = .returned (.bool true) ∧ w' = w := by
  go_enter Tryf.func10, Tryf.ntmps10
  go_wp2
  refine wp_loop_rounds 1 ?_; rw [rounds_succ]
  go_wp2
  go_ret
  exact ⟨rfl, rfl⟩

set_option maxHeartbeats 1000000 in
theorem equal_row (w : World) (l : List Int) (b off b' off' n c c' : Nat) (hn : n ≤ maxLen) (h : ∀ j, j < n → w.cell? ⟨b, off + j, none⟩ = some (.int .u8 (l.getD j 0))) (h' : ∀ j, j < n → w.cell? ⟨b', off' + j, none⟩ = some (.int .u8 (l.getD j 0))) :
    Calls Tryf.prog 10 #[.slice (some ⟨b, off, none⟩) n c, .slice (some ⟨b', off', none⟩) n c'] w fun e w' => e = .returned (.bool true) ∧ ∃ m, w' = w.drewN m := by
  unfold maxLen at hn
  have H := hide h
  have H' := hide h'
  clear h h'
  go_enter Tryf.func10, Tryf.ntmps10
  go_wp2
  go_loopw [5] (fun i w' => ∃ k : Nat, k ≤ n ∧ i = .int .i64 k ∧ ∃ m, w' = w.drewN m) (fun i _ => n - (intOf i).toNat)
  case atStart => exact ⟨0, by omega, rfl, 0, rfl⟩
  case round =>
    obtain ⟨k, hk, rfl, m, rfl⟩ := hrel
    by_cases hlt : k < n
    · have g := H.out k hlt
      have g' := H'.out k hlt
      have hki : (k : Int) < (n : Int) := by omega
      have hk0 : (0 : Int) ≤ (k : Int) := by omega
      go_wp2
      go_quiet (fail)
      go_wp2
      go_roundw
      case rel => exact ⟨k + 1, by omega, by go_num, _, rfl⟩
      case measure => simp [intOf]; omega
    · go_wp2
      go_ret
      exact ⟨rfl, _, rfl⟩
theorem equal_same (w : World) (l : List Int) (v v' : Value) (h : Rd w v l) (h' : Rd w v' l) :
    Calls Tryf.prog 10 #[v, v'] w fun e w' => e = .returned (.bool true) ∧ ∃ m, w' = w.drewN m := by
  have z : ∀ a a' c c', Calls Tryf.prog 10 #[.slice a 0 c, .slice a' 0 c'] w fun e w' => e = .returned (.bool true) ∧ ∃ m, w' = w.drewN m :=
    fun a a' c c' => (equal_nil w a a' c c').mono fun e w' ⟨he, hw⟩ => ⟨he, 0, by rw [hw]; rfl⟩
  rcases h with ⟨rfl, rfl⟩ | ⟨a, c, rfl, rfl, _⟩ | ⟨b, off, n, c, rfl, hl, hn, hc, hm, hcell⟩
  · rcases h' with ⟨rfl, _⟩ | ⟨a', c', rfl, _, _⟩ | ⟨b', off', n', c', rfl, hl', hn', _⟩
    · exact z _ _ _ _
    · exact z _ _ _ _
    · simp at hl'; omega
  · rcases h' with ⟨rfl, _⟩ | ⟨a', c', rfl, _, _⟩ | ⟨b', off', n', c', rfl, hl', hn', _⟩
    · exact z _ _ _ _
    · exact z _ _ _ _
    · simp at hl'; omega
  · rcases h' with ⟨rfl, h0⟩ | ⟨a', c', rfl, h0, _⟩ | ⟨b', off', n', c', rfl, hl', hn', hc', hm', hcell'⟩
    · rw [h0] at hl; simp at hl; omega
    · rw [h0] at hl; simp at hl; omega
    · obtain rfl : n = n' := by omega
      exact equal_row w l b off b' off' n c c' (by omega) hcell hcell'

theorem Tryf.info5 : (Tryf.prog.info? 5).map (fun i => (i.zero, i.size, i.bytes)) = some (some (.int .u8 0), 1, 1) := by kernel_rfl

abbrev u8s (l : List Int) : List Value := l.map (Value.int .u8)

theorem eqlNil (w : World) (a : Option Addr) (n c : Nat) : (binOp .eql 22 (.slice a n c) (.slice none 0 0)).run Tryf.prog w = .ok (.bool a.isNone) w :=
  Lib.run_eql_slice_nil w 22 5 a n c 0 0 Tryf.underlying22

set_option maxHeartbeats 1000000 in
theorem clone_nil (w : World) : Calls Tryf.prog 8 #[.slice none 0 0] w fun e w' => e = .returned (.slice none 0 0) ∧ w' = w := by
  have hs := eqlNil
  go_enter Tryf.func8, Tryf.ntmps8
  go_wp2
  go_ret
  exact ⟨rfl, rfl⟩

theorem clone_get (l : List Int) (n k : Nat) (hl : l.length = n) (hk : k < n) : (u8s (l.take k) ++ List.replicate (n - k) (Value.int .u8 0))[k]? = some (.int .u8 0) := by
  rw [List.getElem?_append_right (by simp; omega), List.getElem?_replicate, if_pos (by simp; omega)]
theorem clone_set (l : List Int) (n k : Nat) (hl : l.length = n) (hk : k < n) : (u8s (l.take k) ++ List.replicate (n - k) (Value.int .u8 0)).set k (.int .u8 (l.getD k 0)) = u8s (l.take (k + 1)) ++ List.replicate (n - (k + 1)) (Value.int .u8 0) := by
  have hk' : k < l.length := by omega
  have e1 : (u8s (l.take k)).length = k := by simp; omega
  have e2 : l.take (k + 1) = l.take k ++ [l.getD k 0] := by rw [List.take_succ_eq_append_getElem hk']; simp [List.getD, hk']
  obtain ⟨m, hm⟩ : ∃ m, n - k = m + 1 := ⟨n - k - 1, by omega⟩
  have e3 : n - (k + 1) = m := by omega
  rw [List.set_append_right _ _ (by omega), e1, e2, e3, hm, Nat.sub_self, List.replicate_succ, List.set_cons_zero]
  simp

set_option maxHeartbeats 1000000 in
theorem clone_row (w : World) (a : Addr) (l : List Int) (n c : Nat) (hl : l.length = n) (hn : n ≤ 4194304) (hc : n ≠ 0 → a.spot = none) (h : ∀ j, j < n → w.cell? ⟨a.block, a.off + j, none⟩ = some (.int .u8 (l.getD j 0))) :
    Calls Tryf.prog 8 #[.slice (some a) n c] w fun e w' => e = .returned (.slice (some ⟨w.heap.size, 0, none⟩) n n) ∧ Below w.heap.size w w' ∧ w'.ownsRow w.heap.size 5 1 (.slice (some ⟨w.heap.size, 0, none⟩) n n) n (u8s l) := by
  have hs := eqlNil
  obtain ⟨i, hi, hz0, hz1, hz2⟩ := info_parts Tryf.info5
  have HH := hide h
  have HL := hide hl
  clear h hl
  go_enter Tryf.func8, Tryf.ntmps8
  go_wp2_with (at_make; refine wpList_make_full _ rfl _ _ 22 rfl w.heap.size 5 i (.int .u8 0) 1 Tryf.underlying22 hi hz0 hz1 _ _ _ _ n rfl rfl rfl rfl (by rw [hz2]; omega) (by unfold maxLen; omega) (Nat.le_refl _) ?_; intro w1 hown hgrow)
  have HO := hide hown
  have HG := hide hgrow
  clear hown hgrow
  go_loopw [4] (fun i w' => ∃ k : Nat, k ≤ n ∧ i = .int .i64 k ∧ Below w.heap.size w w' ∧ w'.ownsRow w.heap.size 5 1 (.slice (some ⟨w.heap.size, 0, none⟩) n n) n (u8s (l.take k) ++ List.replicate (n - k) (.int .u8 0))) (fun i _ => n - (intOf i).toNat)
  case atStart =>
    refine ⟨0, by omega, rfl, (Below.refl _ _).grown HG.out (Nat.le_refl _) (fun k hk => by cases hk), ?_⟩
    have := HO.out
    rw [Nat.mul_one, show (Value.int IntKind.u8 0).cells = #[Value.int .u8 0] from rfl, toList_madeCells_one] at this
    simpa using this
  case round =>
    obtain ⟨k, hk, rfl, hbl, hown⟩ := hrel
    have HB := hide hbl
    have HW := hide hown
    clear hbl hown
    by_cases hlt : k < n
    · obtain ⟨b, off, sp⟩ := a
      obtain rfl : sp = none := hc (by omega)
      have g := HH.out k hlt
      have hb : b < w.heap.size := cell_lt g
      have g1 : wr.cell? ⟨b, off + k, none⟩ = some (.int .u8 (l.getD k 0)) := by rw [HB.out.cell (p := ⟨b, off + k, none⟩) hb]; exact g
      have g2 : wr.cell? ⟨w.heap.size, k, none⟩ = some (.int .u8 0) := by
        rw [HW.out.cellAt k (by omega)]
        exact clone_get l n k HL.out hlt
      have g3 : wr.frozen? ⟨w.heap.size, k, none⟩ = false := HW.out.frozenAt k
      have hki : (k : Int) < (n : Int) := by omega
      have hk0 : (0 : Int) ≤ (k : Int) := by omega
      clear g
      go_wp2
      go_roundw
      case rel =>
        refine ⟨k + 1, by omega, by go_num, HB.out.setCell (Nat.le_refl _) _, ?_⟩
        have := (HW.out.stored k (.int .u8 (l.getD k 0))).1
        rw [clone_set l n k HL.out hlt] at this
        exact this
      case measure => simp [intOf]; omega
    · obtain rfl : k = n := by omega
      go_wp2
      go_ret
      refine ⟨rfl, HB.out, ?_⟩
      have := HW.out
      rw [List.take_of_length_le (by rw [HL.out]; omega)] at this
      simpa using this
/-- the four bytes of a uint32, most significant first -/
def be4 (v : Int) : List Int := [v / 16777216, v / 65536 % 256, v / 256 % 256, v % 256]

set_option maxHeartbeats 1000000 in
theorem append32_row (w : World) (base : Nat) (x : Value) (n : Nat) (xs : List Value) (v : Int) (hb : base ≤ w.heap.size) (hx : w.ownsRow base 5 1 x n xs) (hn : n ≤ 8388608) (v0 : 0 ≤ v) (v1 : v ≤ 4294967295) :
    Calls Tryf.prog 18 #[.agg #[], x, .int .u32 v] w fun e w' => ∃ g cap, e = .returned (.slice (some ⟨g, 0, none⟩) (n + 4) cap) ∧ w'.ownsRow base 5 1 (.slice (some ⟨g, 0, none⟩) (n + 4) cap) (n + 4) (xs ++ u8s (be4 v)) ∧ w.grownBy w' x.ownBlock ∧ (x.ownBlock = some g ∨ w.heap.size ≤ g) := by
  obtain ⟨i, hi, hz0, hz1, hz2⟩ := info_parts Tryf.info5
  have HX := hide hx
  clear hx
  have hnw : ∀ j u, (u8s (be4 v))[j]? = some u → ((w.alloc (.cells #[] 41)).alloc (.cells #[.int .u8 (v / 16777216), .int .u8 (v / 65536 % 256), .int .u8 (v / 256 % 256), .int .u8 (v % 256)] 5)).cell? ((⟨w.heap.size + 1, 0, none⟩ : Addr).add j) = some u := by
    have hb := heap_alloc_new (w.alloc (.cells #[] 41)) (.cells #[.int .u8 (v / 16777216), .int .u8 (v / 65536 % 256), .int .u8 (v / 256 % 256), .int .u8 (v % 256)] 5)
    have e : (w.alloc (.cells #[] 41)).heap.size = w.heap.size + 1 := by simp
    rw [e] at hb
    exact World.news_of_block hb
  have HN := hide hnw
  clear hnw
  go_enter Tryf.func18, Tryf.ntmps18
  go_wp2_with (at_builtin; refine wpList_append_lies _ (by rfl) _ _ 22 (by rfl) base 5 i (.int .u8 0) 1 1 Tryf.underlying22 hi hz0 hz1 hz2 rfl (by omega) x n xs (by rfl) ((HX.out.alloc _).alloc _) ⟨w.heap.size + 1, 0, none⟩ 4 4 (u8s (be4 v)) (by rfl) rfl HN.out (ints_oneCell _ _) (by omega) (by unfold maxLen; omega) (by omega) (by simp; omega) (w.heap.size + 2) (by simp) ?_; intro g cap w1 hown hgrow hat hlt)
  go_ret
  have hg2 : w.grownBy w1 x.ownBlock := ((World.grownBy_alloc w _ _).trans (World.grownBy_alloc _ _ _)).trans hgrow
  have hat2 : x.ownBlock = some g ∨ w.heap.size ≤ g := by
    rcases hat with h | h
    · exact Or.inl h
    · exact Or.inr (by omega)
  exact ⟨g, cap, rfl, hown, hg2, hat2⟩

theorem grown_below {w w' : World} {base : Nat} {x : Value} {n : Nat} {xs : List Value} (h : w.grownBy w' x.ownBlock) (hx : w.ownsRow base 5 1 x n xs) (hb : base ≤ w.heap.size) : Below base w w' :=
  (Below.refl _ _).grown h hb (fun k hk => (hx.lt k hk).1)

set_option maxHeartbeats 1000000 in
theorem append32 (w : World) (base : Nat) (x : Value) (n : Nat) (xs : List Value) (v : Int) (hb : base ≤ w.heap.size) (hx : w.ownsRow base 5 1 x n xs) (hn : n ≤ 8388608) (v0 : 0 ≤ v) (v1 : v ≤ 4294967295) :
    Calls Tryf.prog 9 #[x, .int .u32 v] w fun e w' => ∃ g cap, e = .returned (.slice (some ⟨g, 0, none⟩) (n + 4) cap) ∧ w'.ownsRow base 5 1 (.slice (some ⟨g, 0, none⟩) (n + 4) cap) (n + 4) (xs ++ u8s (be4 v)) ∧ w.grownBy w' x.ownBlock ∧ (x.ownBlock = some g ∨ w.heap.size ≤ g) := by
  have HX := hide hx
  clear hx
  go_enter Tryf.func9, Tryf.ntmps9
  go_wp2_with fail
  refine (append32_row w base x n xs v hb HX.out hn v0 v1).mono ?_
  rintro e w1 ⟨g, cap, rfl, hown, hgrow, hat⟩
  have H1 := hide hown
  have H2 := hide hgrow
  have H3 := hide hat
  clear hown hgrow hat
  go_wp2
  go_ret
  exact ⟨g, cap, rfl, H1.out, H2.out, H3.out⟩
end Go.Proofs.Qxb6616550aFmt
