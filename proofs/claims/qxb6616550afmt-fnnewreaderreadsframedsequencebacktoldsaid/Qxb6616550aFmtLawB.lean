/-
  DERIVED. THE WALK of the law FnStringReadsWhatAppendUint32Framed (function 4); append of a readable slice of bytes onto a row of the call's own.
-/
import Derived.Test.Qxb6616550aFmtStr
namespace Go.Proofs.Qxb6616550aFmt
open Go.RowKit
set_option linter.unusedVariables false

theorem Row.drewN' {w : World} {b off n c : Nat} {l : List Int} (h : Row w b off n c l) (m : Nat) : Row (w.drewN m) b off n c l := ⟨h.len, h.le, h.max, h.cell⟩

/-- 'append(msg, s...)', msg a row of the call's own, s whatever slice of bytes can be read. -/
theorem wpList_append_rd {ops : Array Oper} {rest : List Oper} {o : Oper} {a : Act} {Q : Exit → Act → World → Prop} (w : World) (hgd : o.guard = none) (s x : Operand)
    (ho : o.op = .call { callee := .builtin .append, args := #[s, x], argTypes := #[22, 22] })
    (base g n cap : Nat) (xs : List Value) (hs : a.eval s = .slice (some ⟨g, 0, none⟩) n cap) (hown : w.ownsRow base 5 1 (.slice (some ⟨g, 0, none⟩) n cap) n xs) (vs : Value) (l : List Int) (hx : a.eval x = vs) (hrd : Rd w vs l)
    (hb : n + l.length ≤ 16777216) (hbase : base ≤ w.heap.size)
    (h : ∀ g' cap' w', w'.ownsRow base 5 1 (.slice (some ⟨g', 0, none⟩) (n + l.length) cap') (n + l.length) (xs ++ u8s l) → Below base w w' → wpList Tryf.prog ops Q rest (a.put o.dst (.slice (some ⟨g', 0, none⟩) (n + l.length) cap')) w') :
    wpList Tryf.prog ops Q (o :: rest) a w := by
  obtain ⟨i, hi, hz0, hz1, hz2⟩ := info_parts Tryf.info5
  have hgb : base ≤ g := (hown.lt g rfl).1
  have hemp : ∀ (ao : Option Addr) (c : Nat), (ao = none → c = 0) → vs = .slice ao 0 c → l = [] → wpList Tryf.prog ops Q (o :: rest) a w := by
    intro ao c hc hv hl
    subst hl
    refine wpList_append_fits_any w hgd s x 22 ho base 5 i 1 Tryf.underlying22 hi hz1 g n cap xs hs hown ao 0 c [] (hx.trans hv) rfl (fun e => ⟨rfl, hc e⟩) (fun ad _ j u hj => by simp at hj) (fun u hu => by cases hu) ?_ ?_
    · rcases hown.2 with ⟨h', _⟩ | ⟨g', cap', cur, h', _, _, h1, _⟩
      · cases h'
      · cases h'; omega
    · intro w' ho' hg'
      exact h g cap w' ho' ((Below.refl _ _).grown hg' hbase (fun k hk => by cases hk; exact hgb))
  rcases hrd with ⟨hv, hl⟩ | ⟨ad, c, hv, hl, hc⟩ | ⟨b, off, m, c, hv, hl, hm, hmc, hcm, hcell⟩
  · exact hemp none 0 (fun _ => rfl) hv hl
  · exact hemp (some ad) c (fun e => by cases e) hv hl
  · subst hl
    refine wpList_append_lies w hgd s x 22 ho base 5 i (.int .u8 0) 1 1 Tryf.underlying22 hi hz0 hz1 hz2 rfl (by omega) (.slice (some ⟨g, 0, none⟩) n cap) n xs hs hown ⟨b, off, none⟩ l.length c (u8s l) (hx.trans hv) (by simp) ?_ (ints_oneCell _ _) hm (by unfold maxLen; omega) (by omega) hbase w.heap.size rfl ?_
    · intro j u hj
      rw [Addr.add_lit]
      have hjl : j < l.length := by
        have := (List.getElem?_eq_some_iff.1 hj).1
        simpa using this
      rw [hcell j hjl]
      simp [List.getElem?_eq_getElem hjl] at hj
      simp [List.getD, List.getElem?_eq_getElem hjl, hj]
    · intro g' cap' w' ho' hg' _ _
      exact h g' cap' w' ho' (grown_below hg' hown hbase)

theorem newReader (w : World) (ao : Option Addr) (n c : Nat) : Calls Tryf.prog 11 #[.slice ao n c] w fun e w' => e = .returned (.pointer (some ⟨w.heap.size, 0, none⟩)) ∧ w' = w.alloc (.cells #[.slice ao n c] 43) := by
  go_enter Tryf.func11, Tryf.ntmps11
  go_wp2
  go_ret
  exact ⟨rfl, rfl⟩
theorem zzbuf (w : World) (r : Nat) (v : Value) (h : w.heap[r]? = some (.cells #[v] 43)) : Calls Tryf.prog 13 #[.pointer (some ⟨r, 0, none⟩)] w fun e w' => e = .returned v ∧ w' = w := by
  have h0 := heap_cell h
  clear h
  go_enter Tryf.func13, Tryf.ntmps13
  go_wp2
  go_ret
  exact ⟨rfl, rfl⟩

set_option maxRecDepth 100000 in
set_option maxHeartbeats 2000000 in
theorem bytes14 (w : World) (ao at_ : Option Addr) (n c m d : Nat) (hn : n ≤ maxLen) (hm : m ≤ maxLen) :
    Calls Tryf.prog 14 #[.slice ao n c, .slice at_ m d] w fun e w' => ∃ b, e = .returned (.bool b) ∧ w' = w := by
  unfold maxLen at hn hm
  go_enter Tryf.func14, Tryf.ntmps14
  go_wp2
  all_goals
    go_ret
    exact ⟨_, rfl, rfl⟩

set_option maxRecDepth 100000 in
set_option maxHeartbeats 2000000 in
theorem law2_big (w : World) (ao at_ : Option Addr) (n c m d : Nat) (hn : n ≤ maxLen) (hm : m ≤ maxLen) (h : ¬ (n ≤ 524288 ∧ m ≤ 524288)) :
    Calls Tryf.prog 4 #[.slice ao n c, .slice at_ m d] w fun e w' => e = .returned (.bool true) ∧ Below w.heap.size w w' := by
  have B := hide (bytes14 w ao at_ n c m d hn hm)
  unfold maxLen at hn hm
  by_cases c0 : (524288 : Int) < (n : Int)
  · clear h
    go_enter Tryf.func4, Tryf.ntmps4
    go_wp2_with (go_at_call 14; refine (unhide B).mono ?_; rintro e w' ⟨b, rfl, rfl⟩)
    all_goals
      go_ret
      exact ⟨rfl, Below.refl _ _⟩
  · have c1 : (524288 : Int) < (m : Int) := by omega
    clear h
    go_enter Tryf.func4, Tryf.ntmps4
    go_wp2_with (go_at_call 14; refine (unhide B).mono ?_; rintro e w' ⟨b, rfl, rfl⟩)
    all_goals
      go_ret
      exact ⟨rfl, Below.refl _ _⟩

set_option maxRecDepth 100000 in
set_option maxHeartbeats 2000000 in
theorem law2_row (w : World) (ao at_ : Option Addr) (c d : Nat) (l k : List Int) (h : Rd w (.slice ao l.length c) l) (hk : Rd w (.slice at_ k.length d) k) (hn : l.length ≤ 524288) (hm : k.length ≤ 524288) :
    Calls Tryf.prog 4 #[.slice ao l.length c, .slice at_ k.length d] w fun e w' => e = .returned (.bool true) ∧ Below w.heap.size w w' := by
  have hn' : (l.length : Int) ≤ 524288 := by omega
  have hm' : (k.length : Int) ≤ 524288 := by omega
  have hn0 : (0 : Int) ≤ (l.length : Int) := by omega
  have HL := hide h
  have HK := hide hk
  have B := hide (bytes14 w ao at_ l.length c k.length d (by unfold maxLen; omega) (by unfold maxLen; omega))
  clear h hk
  go_enter Tryf.func4, Tryf.ntmps4
  go_wp2_with fail
  refine (unhide B).mono ?_
  rintro e w0 ⟨bb, rfl, hw0⟩
  replace hw0 := hw0.symm
  subst hw0
  clear B
  cases bb with
  | false =>
    go_wp2
    go_ret
    exact ⟨rfl, Below.refl _ _⟩
  | true =>
  go_wp2_with fail
  refine (append32 w w.heap.size (.slice none 0 0) 0 [] (l.length : Int) (Nat.le_refl _) (World.ownsRow_nil _ _ _ _) (by omega) (by omega) (by omega)).mono ?_
  rintro e w1 ⟨g1, cap1, rfl, hown1, hgrow1, hat1⟩
  have B1 : Below w.heap.size w w1 := (Below.refl _ _).grown hgrow1 (Nat.le_refl _) (fun k hk => by cases hk)
  have HB1 := hide B1
  have HO1 := hide hown1
  have HL1 := hide (HL.out.below B1)
  clear hown1 hgrow1 hat1 B1
  go_wp2_with (first | (at_builtin; refine wpList_append_rd _ (by rfl) _ _ (by rfl) w.heap.size g1 4 cap1 _ (by rfl) HO1.out _ l (by rfl) HL1.out (by omega) HB1.out.size ?_; intro g2 cap2 w2 hown2 hb2; have HO2 := hide hown2; have HB2 := hide (HB1.out.trans hb2); clear hown2 hb2) | (at_builtin; refine wpList_append_rd _ (by rfl) _ _ (by rfl) w.heap.size g2 (4 + l.length) cap2 _ (by rfl) HO2.out _ k (by rfl) (HK.out.below HB2.out) (by omega) HB2.out.size ?_; intro g3 cap3 w3 hown3 hb3; have HO3 := hide hown3; have HB3 := hide (HB2.out.trans hb3); clear hown3 hb3) | fail)
  refine (newReader w3 _ _ _).mono ?_
  rintro e w4 ⟨rfl, hw4⟩
  have hrow : Row w3 g3 0 (4 + l.length + k.length) cap3 (be4 (l.length : Int) ++ (l ++ k)) := by
    have := HO3.out
    have e : ([] ++ u8s (be4 (l.length : Int)) ++ u8s l ++ u8s k) = u8s (be4 (l.length : Int) ++ (l ++ k)) := by simp
    rw [e] at this
    exact own_row this
  have hgl : g3 < w3.heap.size := cell_lt (hrow.cell 0 (by omega))
  have hbw : Below w3.heap.size w3 w4 := by rw [hw4]; exact (Below.refl _ _).alloc (Nat.le_refl _) _
  have hr : w4.heap[w3.heap.size]? = some (.cells #[.slice (some ⟨g3, 0, none⟩) (4 + l.length + k.length) cap3] 43) := by rw [hw4]; exact heap_alloc_new w3 _
  have U := hide (str_ok w4 w3.heap.size g3 0 _ cap3 l.length (l ++ k) (by omega) hr (hrow.below hbw) (by simp) (by omega))
  have HB4 := hide (HB3.out.trans (hbw.mono HB3.out.size))
  have hsz := HB3.out.size
  clear hrow hbw hr hw4 HO1 HO2 HO3 HL1
  go_wp2_with fail
  refine (unhide U).mono ?_
  rintro e w5 ⟨off1, off2, n2, c2, rfl, hbut, hgot, hr5, hrest⟩
  have B5 := HB4.out.trans (hbut.toBelow hsz HB4.out.size)
  have HB5 := hide B5
  have HG := hide hgot
  have HR5 := hide hr5
  have HT := hide hrest
  clear hbut hgot hr5 hrest U B5 HB4 HB3 HB2 HB1
  go_wp2_with fail
  refine (equal_same w5 l _ _ (by have := HG.out.rd; rw [List.take_left' rfl] at this; exact this) (HL.out.below HB5.out)).mono ?_
  rintro e w6 ⟨rfl, m6, rfl⟩
  go_wp2_with fail
  refine (zzbuf (w5.drewN m6) _ _ HR5.out).mono ?_
  rintro e w7 ⟨rfl, hw7⟩
  replace hw7 := hw7.symm
  subst hw7
  go_wp2_with fail
  refine (equal_same (w5.drewN m6) k _ _ (by have := HT.out.rd; rw [List.drop_left' rfl] at this; exact this.drewN m6) ((HK.out.below HB5.out).drewN m6)).mono ?_
  rintro e w8 ⟨rfl, m8, rfl⟩
  go_wp2
  go_ret
  exact ⟨rfl, below_drewN HB5.out _⟩
end Go.Proofs.Qxb6616550aFmt
