/-
  DERIVED. THE WALKS of (*Reader).string (21), String (15); byte rows; zzClone at every readable slice.
-/
import Derived.Test.Qxb6616550aFmtRead
namespace Go.Proofs.Qxb6616550aFmt
open Go.RowKit
set_option linter.unusedVariables false

theorem be4_val (m : Int) (h0 : 0 ≤ m) (h1 : m ≤ 4294967295) : m / 16777216 * 16777216 + m / 65536 % 256 * 65536 + m / 256 % 256 * 256 + m % 256 = m := by omega
theorem be4_bd (m : Int) (h0 : 0 ≤ m) (h1 : m ≤ 4294967295) : (0 ≤ m / 16777216 ∧ m / 16777216 ≤ 255) ∧ (0 ≤ m / 65536 % 256 ∧ m / 65536 % 256 ≤ 255) ∧ (0 ≤ m / 256 % 256 ∧ m / 256 % 256 ≤ 255) ∧ (0 ≤ m % 256 ∧ m % 256 ≤ 255) := by omega

theorem uint32_be (w : World) (r b off n c : Nat) (l : List Int) (m : Int) (m0 : 0 ≤ m) (m1 : m ≤ 4294967295) (hr : w.heap[r]? = some (.cells #[.slice (some ⟨b, off, none⟩) n c] 43)) (h : Row w b off n c (be4 m ++ l)) (hne : b ≠ r) :
    Calls Tryf.prog 12 #[.pointer (some ⟨r, 0, none⟩)] w fun e w' => e = .returned (.tuple #[.int .u32 m, .nilIface]) ∧ But r w w' ∧ w'.heap[r]? = some (.cells #[cutAt b off n c 4] 43) := by
  obtain ⟨b0, b1, b2, b3⟩ := be4_bd m m0 m1
  have := uint32_ok w r b off n c l _ _ _ _ hr h hne b0 b1 b2 b3
  rw [be4_val m m0 m1] at this
  exact this

/-- (*Reader).string over a message that opens with a frame of m bytes, all there. -/
theorem lt_of_heap {w : World} {r : Nat} {v : Value} {t : TypeId} (h : w.heap[r]? = some (.cells #[v] t)) : r < w.heap.size := cell_lt (heap_cell h)

set_option maxHeartbeats 2000000 in
theorem string_ok (w : World) (r b off n c m : Nat) (l : List Int) (what : ByteArray) (hm : m ≤ 16777216) (hr : w.heap[r]? = some (.cells #[.slice (some ⟨b, off, none⟩) n c] 43)) (h : Row w b off n c (be4 m ++ l)) (hml : m ≤ l.length) (hne : b ≠ r) :
    Calls Tryf.prog 21 #[.pointer (some ⟨r, 0, none⟩), .string what] w fun e w' => ∃ off1 off2 n2 c2, e = .returned (.tuple #[.slice (some ⟨b, off1, none⟩) m m, .nilIface]) ∧ But r w w' ∧ Row w' b off1 m m (l.take m) ∧ w'.heap[r]? = some (.cells #[.slice (some ⟨b, off2, none⟩) n2 c2] 43) ∧ Row w' b off2 n2 c2 (l.drop m) := by
  have hlen := h.len
  simp [be4] at hlen
  have HR := hide hr
  have HW := hide h
  have h0 := heap_cell hr
  have U := hide (uint32_be w r b off n c l m (by omega) (by omega) hr h hne)
  clear hr h
  go_enter Tryf.func21, Tryf.ntmps21
  go_wp2_with fail
  refine (unhide U).mono ?_
  rintro e w1 ⟨rfl, hbut, hr1⟩
  have D : Row w1 b (if c = 4 then off else off + 4) (n - 4) (c - 4) l := by
    have := (HW.out.but hbut hne).drop 4 (by omega)
    simpa [be4] using this
  have HB := hide hbut
  have HD := hide D
  have T := hide (take_ok w1 r b (if c = 4 then off else off + 4) (n - 4) (c - 4) m what hr1 (by rw [← D.len]; exact hml) D.le D.max)
  have HR1 := hide hr1
  clear hbut hr1 D U HW HR h0
  have hm0 : (0 : Int) ≤ (m : Int) := by omega
  have hm1 : (m : Int) ≤ 16777216 := by omega
  go_wp2_with fail
  refine (unhide T).mono ?_
  rintro e w2 ⟨rfl, rfl⟩
  generalize (if c = 4 then off else off + 4) = o1 at *
  have F1 : But r w (w1.setCell ⟨r, 0, none⟩ (cutAt b o1 (n - 4) (c - 4) m)) := HB.out.set _
  have F0 : But r w1 (w1.setCell ⟨r, 0, none⟩ (cutAt b o1 (n - 4) (c - 4) m)) := (But.refl r w1).set _
  have F2 : (w1.setCell ⟨r, 0, none⟩ (cutAt b o1 (n - 4) (c - 4) m)).heap[r]? = some (.cells #[cutAt b o1 (n - 4) (c - 4) m] 43) := heap_set HR1.out _
  have hmn : m ≤ n - 4 := by rw [← HD.out.len]; exact hml
  have F3 := (HD.out.take m hmn).but F0 hne
  have F4 := (HD.out.drop m hmn).but F0 hne
  have G1 := hide F1
  have G2 := hide F2
  have G3 := hide F3
  have G4 := hide F4
  clear F0 F1 F2 F3 F4 HB HD T HR1 hmn
  generalize w1.setCell ⟨r, 0, none⟩ (cutAt b o1 (n - 4) (c - 4) m) = w3 at *
  go_wp2
  go_ret2
  exact ⟨o1, _, _, _, rfl, G1.out, G3.out, G2.out, G4.out⟩

set_option maxHeartbeats 2000000 in
theorem string_short (w : World) (r : Nat) (ao : Option Addr) (n c : Nat) (what : ByteArray) (a : Addr) (s : ByteArray) (hr : w.heap[r]? = some (.cells #[.slice ao n c] 43)) (hn : n < 4) (hg : w.cell? ⟨1, 0, none⟩ = some (.iface 53 (.pointer (some a)))) (hs : w.cell? a = some (.string s)) :
    Calls Tryf.prog 21 #[.pointer (some ⟨r, 0, none⟩), .string what] w fun e w' => ∃ a', e = .returned (.tuple #[.slice none 0 0, .iface 52 (.pointer (some a'))]) ∧ Below w.heap.size w w' := by
  have h0 := heap_cell hr
  have U := hide (uint32_bad w r ao n c a s hr hn hg hs)
  clear hr hg hs
  go_enter Tryf.func21, Tryf.ntmps21
  go_wp2_with fail
  refine (unhide U).mono ?_
  rintro e w1 ⟨a', x, rfl, hbl, hx⟩
  have HL := hide hbl
  have HX := hide hx
  have hl := cell_lt hx
  clear hbl hx h0 U
  go_wp2_with fail
  refine (errorf2 _ _ what a' x ?_ ?_ ?_).mono ?_
  · exact new_at _ _ _ _ rfl 0
  · exact new_at _ _ _ _ rfl 1
  · exact old_at HX.out _
  rintro e w2 ⟨y, rfl, rfl⟩
  go_wp2
  go_ret2
  exact ⟨_, rfl, ((HL.out.alloc HL.out.size _).alloc (by have := HL.out.size; simp; omega) _).drew⟩

set_option maxHeartbeats 2000000 in
theorem string_trunc (w : World) (r b off n c m : Nat) (l : List Int) (what : ByteArray) (a : Addr) (s : ByteArray) (hm : m ≤ 16777216) (hr : w.heap[r]? = some (.cells #[.slice (some ⟨b, off, none⟩) n c] 43)) (h : Row w b off n c (be4 m ++ l)) (hml : l.length < m) (hne : b ≠ r)
    (hg : w.cell? ⟨1, 0, none⟩ = some (.iface 53 (.pointer (some a)))) (hs : w.cell? a = some (.string s)) (h1r : 1 ≠ r) (har : a.block ≠ r) :
    Calls Tryf.prog 21 #[.pointer (some ⟨r, 0, none⟩), .string what] w fun e w' => ∃ a', e = .returned (.tuple #[.slice none 0 0, .iface 52 (.pointer (some a'))]) ∧ But r w w' ∧ w'.heap[r]? = some (.cells #[.slice (some ⟨b, off, none⟩) n c] 43) := by
  have hlen := h.len
  simp [be4] at hlen
  have h0 := heap_cell hr
  have U := hide (uint32_be w r b off n c l m (by omega) (by omega) hr h hne)
  have HW := hide h
  have HG := hide hg
  have HS := hide hs
  clear hr h hg hs
  go_enter Tryf.func21, Tryf.ntmps21
  go_wp2_with fail
  refine (unhide U).mono ?_
  rintro e w1 ⟨rfl, hbut, hr1⟩
  have D : Row w1 b (if c = 4 then off else off + 4) (n - 4) (c - 4) l := by
    have := (HW.out.but hbut hne).drop 4 (by omega)
    simpa [be4] using this
  have hg1 : w1.cell? ⟨1, 0, none⟩ = some (.iface 53 (.pointer (some a))) := by
    rw [World.cell?_of_block (w := w) (a := ⟨1, 0, none⟩) (hbut.block 1 (cell_lt HG.out) h1r)]; exact HG.out
  have hs1 : w1.cell? a = some (.string s) := by
    rw [World.cell?_of_block (w := w) (a := a) (hbut.block a.block (cell_lt HS.out) har)]; exact HS.out
  have hln : n - 4 = l.length := by rw [D.len]
  have T := hide (take_bad w1 r _ (n - 4) (c - 4) m what a s hr1 (by omega) (by omega) hg1 hs1)
  have HB := hide hbut
  have HR1 := hide hr1
  clear hbut hr1 D U HW h0 HG HS hg1 hs1 hln hlen
  have hm0 : (0 : Int) ≤ (m : Int) := by omega
  have hm1 : (m : Int) ≤ 16777216 := by omega
  go_wp2_with fail
  refine (unhide T).mono ?_
  rintro e w2 ⟨a', x, rfl, hbl, hx⟩
  have hr2 : w2.heap[r]? = some (.cells #[cutAt b off n c 4] 43) := (hbl.block r (lt_of_heap HR1.out)).trans HR1.out
  have HB2 := hide (HB.out.below hbl)
  have HR2 := hide hr2
  have g0 := heap_cell hr2
  have gz := heap_frozen hr2
  clear hbl hx hr2 HB HR1 T
  go_wp2
  go_ret2
  exact ⟨a', rfl, HB2.out.set _, heap_set HR2.out _⟩
set_option maxHeartbeats 2000000 in
theorem str_ok (w : World) (r b off n c m : Nat) (l : List Int) (hm : m ≤ 16777216) (hr : w.heap[r]? = some (.cells #[.slice (some ⟨b, off, none⟩) n c] 43)) (h : Row w b off n c (be4 m ++ l)) (hml : m ≤ l.length) (hne : b ≠ r) :
    Calls Tryf.prog 15 #[.pointer (some ⟨r, 0, none⟩)] w fun e w' => ∃ off1 off2 n2 c2, e = .returned (.tuple #[.slice (some ⟨b, off1, none⟩) m m, .nilIface]) ∧ But r w w' ∧ Row w' b off1 m m (l.take m) ∧ w'.heap[r]? = some (.cells #[.slice (some ⟨b, off2, none⟩) n2 c2] 43) ∧ Row w' b off2 n2 c2 (l.drop m) := by
  have U := hide (string_ok w r b off n c m l ⟨#[115, 116, 114, 105, 110, 103]⟩ hm hr h hml hne)
  clear hr h
  go_enter Tryf.func15, Tryf.ntmps15
  go_wp2_with fail
  refine (unhide U).mono ?_
  rintro e w1 ⟨off1, off2, n2, c2, rfl, h1, h2, h3, h4⟩
  have G1 := hide h1
  have G2 := hide h2
  have G3 := hide h3
  have G4 := hide h4
  clear h1 h2 h3 h4
  go_wp2
  go_ret2
  exact ⟨off1, off2, n2, c2, rfl, G1.out, G2.out, G3.out, G4.out⟩
set_option maxHeartbeats 2000000 in
theorem str_short (w : World) (r : Nat) (ao : Option Addr) (n c : Nat) (a : Addr) (s : ByteArray) (hr : w.heap[r]? = some (.cells #[.slice ao n c] 43)) (hn : n < 4) (hg : w.cell? ⟨1, 0, none⟩ = some (.iface 53 (.pointer (some a)))) (hs : w.cell? a = some (.string s)) :
    Calls Tryf.prog 15 #[.pointer (some ⟨r, 0, none⟩)] w fun e w' => ∃ a', e = .returned (.tuple #[.slice none 0 0, .iface 52 (.pointer (some a'))]) ∧ Below w.heap.size w w' := by
  have U := hide (string_short w r ao n c ⟨#[115, 116, 114, 105, 110, 103]⟩ a s hr hn hg hs)
  clear hr hg hs
  go_enter Tryf.func15, Tryf.ntmps15
  go_wp2_with fail
  refine (unhide U).mono ?_
  rintro e w1 ⟨a', rfl, h1⟩
  have G1 := hide h1
  clear h1
  go_wp2
  go_ret2
  exact ⟨a', rfl, G1.out⟩
set_option maxHeartbeats 2000000 in
theorem str_trunc (w : World) (r b off n c m : Nat) (l : List Int) (a : Addr) (s : ByteArray) (hm : m ≤ 16777216) (hr : w.heap[r]? = some (.cells #[.slice (some ⟨b, off, none⟩) n c] 43)) (h : Row w b off n c (be4 m ++ l)) (hml : l.length < m) (hne : b ≠ r)
    (hg : w.cell? ⟨1, 0, none⟩ = some (.iface 53 (.pointer (some a)))) (hs : w.cell? a = some (.string s)) (h1r : 1 ≠ r) (har : a.block ≠ r) :
    Calls Tryf.prog 15 #[.pointer (some ⟨r, 0, none⟩)] w fun e w' => ∃ a', e = .returned (.tuple #[.slice none 0 0, .iface 52 (.pointer (some a'))]) ∧ But r w w' ∧ w'.heap[r]? = some (.cells #[.slice (some ⟨b, off, none⟩) n c] 43) := by
  have U := hide (string_trunc w r b off n c m l ⟨#[115, 116, 114, 105, 110, 103]⟩ a s hm hr h hml hne hg hs h1r har)
  clear hr h hg hs
  go_enter Tryf.func15, Tryf.ntmps15
  go_wp2_with fail
  refine (unhide U).mono ?_
  rintro e w1 ⟨a', rfl, h1, h2⟩
  have G1 := hide h1
  have G2 := hide h2
  clear h1 h2
  go_wp2
  go_ret2
  exact ⟨a', rfl, G1.out, G2.out⟩

theorem own_row {w : World} {base g n cap : Nat} {l : List Int} (h : w.ownsRow base 5 1 (.slice (some ⟨g, 0, none⟩) n cap) n (u8s l)) : Row w g 0 n cap l := by
  have hlen : l.length = n := by have := h.1; simpa using this
  have hc : n ≤ cap ∧ cap ≤ maxLen := by
    rcases h.2 with ⟨h', _⟩ | ⟨g', cap', cur, h', _, _, h1, h2, _⟩
    · cases h'
    · cases h'; exact ⟨h1, h2⟩
  refine ⟨hlen, hc.1, hc.2, fun j hj => ?_⟩
  rw [Nat.zero_add, h.cellAt j (by omega)]
  simp [List.getD, List.getElem?_eq_getElem (show j < l.length by omega)]

theorem own_rd {w : World} {base n : Nat} {v : Value} {l : List Int} (h : w.ownsRow base 5 1 v n (u8s l)) : Rd w v l := by
  rcases h.2 with ⟨rfl, h0⟩ | ⟨g, cap, cur, rfl, _⟩
  · refine Or.inl ⟨rfl, List.eq_nil_of_length_eq_zero ?_⟩
    have := h.1
    simp at this
    omega
  · exact (own_row h).rd

theorem clone_rd (w : World) (v : Value) (l : List Int) (h : Rd w v l) (hl : l.length ≤ 4194304) :
    Calls Tryf.prog 8 #[v] w fun e w' => Below w.heap.size w w' ∧ ((v = .slice none 0 0 ∧ l = [] ∧ e = .returned (.slice none 0 0)) ∨ (e = .returned (.slice (some ⟨w.heap.size, 0, none⟩) l.length l.length) ∧ w'.ownsRow w.heap.size 5 1 (.slice (some ⟨w.heap.size, 0, none⟩) l.length l.length) l.length (u8s l))) := by
  rcases h with ⟨rfl, rfl⟩ | ⟨a, c, rfl, rfl, hc⟩ | ⟨b, off, n, c, rfl, hln, hn, hc, hm, hcell⟩
  · refine (clone_nil w).mono ?_
    rintro e w' ⟨rfl, rfl⟩
    exact ⟨Below.refl _ _, Or.inl ⟨rfl, rfl, rfl⟩⟩
  · refine (clone_row w a [] 0 c rfl (by omega) (fun h => by omega) (fun j hj => by omega)).mono ?_
    rintro e w' ⟨rfl, h1, h2⟩
    exact ⟨h1, Or.inr ⟨rfl, h2⟩⟩
  · subst hln
    refine (clone_row w ⟨b, off, none⟩ l l.length c rfl hl (fun _ => rfl) hcell).mono ?_
    rintro e w' ⟨rfl, h1, h2⟩
    exact ⟨h1, Or.inr ⟨rfl, h2⟩⟩

theorem Row.front {w : World} {b off n c : Nat} {l : List Int} (h : Row w b off n c l) (k : Nat) (hk : k ≤ n) : Row w b off k c (l.take k) :=
  ⟨by simp [h.len]; omega, by have := h.le; omega, h.max, fun j hj => by
    rw [h.cell j (by omega)]
    simp [List.getD, List.getElem?_take_of_lt hj]⟩
end Go.Proofs.Qxb6616550aFmt
