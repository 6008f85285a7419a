/-
  DERIVED. THE WALKS of take (19), fmt.Errorf at its two formats (22), (bigEndian).Uint32 (20), (*Reader).Uint32 (12).
-/
import Derived.Test.Qxb6616550aFmtBase
import Derived.Test.Qxb6616550aFmtFacts
import Derived.Lib.EndianBits
namespace Go.Proofs.Qxb6616550aFmt
open Go.RowKit
set_option linter.unusedVariables false

theorem heap_cell {w : World} {r : Nat} {v : Value} {t : TypeId} (h : w.heap[r]? = some (.cells #[v] t)) : w.cell? ⟨r, 0, none⟩ = some v := by simp [World.cell?, h]
theorem heap_frozen {w : World} {r : Nat} {v : Value} {t : TypeId} (h : w.heap[r]? = some (.cells #[v] t)) : w.frozen? ⟨r, 0, none⟩ = false := by simp [World.frozen?, h]
theorem heap_set {w : World} {r : Nat} {v : Value} {t : TypeId} (h : w.heap[r]? = some (.cells #[v] t)) (u : Value) : (w.setCell ⟨r, 0, none⟩ u).heap[r]? = some (.cells #[u] t) := by
  simp [World.setCell, Array.getElem?_modify, h]

abbrev cutAt (b off n c k : Nat) : Value := .slice (some ⟨b, (if c = k then off else off + k), none⟩) (n - k) (c - k)

set_option maxHeartbeats 1000000 in
theorem take_ok (w : World) (r b off n c k : Nat) (what : ByteArray) (hr : w.heap[r]? = some (.cells #[.slice (some ⟨b, off, none⟩) n c] 43)) (hk : k ≤ n) (hn : n ≤ c) (hc : c ≤ maxLen) :
    Calls Tryf.prog 19 #[.pointer (some ⟨r, 0, none⟩), .int .u64 (k : Int), .string what] w fun e w' => e = .returned (.tuple #[.slice (some ⟨b, off, none⟩) k k, .nilIface]) ∧ w' = w.setCell ⟨r, 0, none⟩ (cutAt b off n c k) := by
  have h0 := heap_cell hr
  have hz := heap_frozen hr
  clear hr
  unfold maxLen at hc
  have hk' : (k : Int) ≤ (n : Int) := by omega
  have hn' : (n : Int) ≤ (c : Int) := by omega
  have hc' : (c : Int) ≤ 9223372036854775807 := by omega
  have hk0 : (0 : Int) ≤ (k : Int) := by omega
  by_cases hck : c = k
  · obtain rfl : n = k := by omega
    obtain rfl : c = n := by omega
    go_enter Tryf.func19, Tryf.ntmps19
    go_wp2
    go_ret2
    exact ⟨rfl, by rw [show cutAt b off c c c = .slice (some ⟨b, off, none⟩) 0 0 from by simp [cutAt]]⟩
  · go_enter Tryf.func19, Tryf.ntmps19
    go_wp2
    go_ret2
    exact ⟨rfl, by rw [show cutAt b off n c k = .slice (some ⟨b, off + k, none⟩) (n - k) (c - k) from by simp [cutAt, hck]]⟩

set_option maxHeartbeats 800000 in
theorem errorf4 (w : World) (k : Nat) (t : ByteArray) (n m : Int) (a : Addr) (s : ByteArray) (h0 : w.cell? ⟨k, 0, none⟩ = some (.iface 9 (.string t))) (h1 : w.cell? ⟨k, 1, none⟩ = some (.iface 45 (.int .u64 n))) (h2 : w.cell? ⟨k, 2, none⟩ = some (.iface 3 (.int .i64 m))) (h3 : w.cell? ⟨k, 3, none⟩ = some (.iface 53 (.pointer (some a)))) (hs : w.cell? a = some (.string s)) :
    Calls Tryf.prog 22 #[.string ⟨#[37, 115, 32, 111, 102, 32, 37, 100, 32, 98, 121, 116, 101, 115, 32, 119, 105, 116, 104, 32, 37, 100, 32, 108, 101, 102, 116, 58, 32, 37, 119]⟩, .slice (some ⟨k, 0, none⟩) 4 4] w fun e w' =>
      ∃ x, e = .returned (.iface 52 (.pointer (some ⟨w.heap.size, 0, none⟩))) ∧ w' = (w.alloc (.cells #[.string x, .iface 53 (.pointer (some a))] 73)).drew := by
  have hop := Tryf.opPlain53_119w "fmt.errorf" a s w hs
  go_enter Tryf.func22, Tryf.ntmps22
  go_wp2
  go_ret
  exact ⟨_, rfl, rfl⟩
set_option maxHeartbeats 800000 in
theorem errorf2 (w : World) (k : Nat) (t : ByteArray) (a : Addr) (s : ByteArray) (h0 : w.cell? ⟨k, 0, none⟩ = some (.iface 9 (.string t))) (h1 : w.cell? ⟨k, 1, none⟩ = some (.iface 52 (.pointer (some a)))) (hs : w.cell? a = some (.string s)) :
    Calls Tryf.prog 22 #[.string ⟨#[37, 115, 32, 108, 101, 110, 103, 116, 104, 58, 32, 37, 119]⟩, .slice (some ⟨k, 0, none⟩) 2 2] w fun e w' =>
      ∃ x, e = .returned (.iface 52 (.pointer (some ⟨w.heap.size, 0, none⟩))) ∧ w' = (w.alloc (.cells #[.string x, .iface 52 (.pointer (some a))] 73)).drew := by
  have hop := Tryf.opPlain52_119w "fmt.errorf" a s w hs
  go_enter Tryf.func22, Tryf.ntmps22
  go_wp2
  go_ret
  exact ⟨_, rfl, rfl⟩

theorem new_at (W : World) (k : Nat) (cs : Array Value) (t : TypeId) (hk : k = W.heap.size) (o : Nat) : (W.alloc (.cells cs t)).cell? ⟨k, o, none⟩ = cs[o]? := by
  subst hk
  have h := heap_alloc_new W (.cells cs t)
  unfold World.cell?
  rw [h]
  rfl

theorem old_at {W : World} {a : Addr} {x : Value} (h : W.cell? a = some x) (o : Obj) : (W.alloc o).cell? a = some x := by
  rw [World.cell?_of_block (w := W) (Below.heap_alloc _ _ _ (cell_lt h))]; exact h

set_option maxHeartbeats 1000000 in
theorem take_bad (w : World) (r : Nat) (ao : Option Addr) (n c : Nat) (k : Int) (what : ByteArray) (a : Addr) (s : ByteArray) (hr : w.heap[r]? = some (.cells #[.slice ao n c] 43)) (hk : (n : Int) < k) (hk1 : k ≤ 4294967295) (hg : w.cell? ⟨1, 0, none⟩ = some (.iface 53 (.pointer (some a)))) (hs : w.cell? a = some (.string s)) :
    Calls Tryf.prog 19 #[.pointer (some ⟨r, 0, none⟩), .int .u64 k, .string what] w fun e w' => ∃ a' x, e = .returned (.tuple #[.slice none 0 0, .iface 52 (.pointer (some a'))]) ∧ Below w.heap.size w w' ∧ w'.cell? a' = some (.string x) := by
  have h0 := heap_cell hr
  have hl0 := cell_lt h0
  have hl1 := cell_lt hg
  have hl2 := cell_lt hs
  clear hr
  have hn0 : (0 : Int) ≤ (n : Int) := by omega
  go_enter Tryf.func19, Tryf.ntmps19
  go_wp2
  have n1 := World.new_ne w ⟨r, 0, none⟩ h0
  have n2 := World.new_ne w ⟨1, 0, none⟩ hg
  have n3 := World.new_ne w a hs
  go_region_held3 (fun w' => w'.cell? ⟨r, 0, none⟩ = some (.slice ao n c) ∧ w'.cell? ⟨1, 0, none⟩ = some (.iface 53 (.pointer (some a))) ∧ w'.cell? a = some (.string s)) (go_keep)
    (first | (go_at_call 22; refine (errorf4 _ _ what k (n : Int) a s ?_ ?_ ?_ ?_ ?_).mono ?_; exact new_at _ _ _ _ rfl 0; exact new_at _ _ _ _ rfl 1; exact new_at _ _ _ _ rfl 2; exact new_at _ _ _ _ rfl 3; exact old_at hs _; rintro e w' ⟨x, rfl, rfl⟩))
  all_goals go_wp2
  all_goals go_ret2
  all_goals exact ⟨⟨w.heap.size + 1, 0, none⟩, x, rfl, ((((Below.refl _ _).alloc (Nat.le_refl _) _).alloc (by simp) _).drew).drew, new_at (w.alloc _) _ _ _ (by simp) 0⟩
set_option maxHeartbeats 2000000 in
theorem be_read (w : World) (b off n c : Nat) (x0 x1 x2 x3 : Int) (hn : 4 ≤ n) (c0 : w.cell? ⟨b, off, none⟩ = some (.int .u8 x0)) (c1 : w.cell? ⟨b, off + 1, none⟩ = some (.int .u8 x1)) (c2 : w.cell? ⟨b, off + 2, none⟩ = some (.int .u8 x2)) (c3 : w.cell? ⟨b, off + 3, none⟩ = some (.int .u8 x3))
    (b0 : 0 ≤ x0 ∧ x0 ≤ 255) (b1 : 0 ≤ x1 ∧ x1 ≤ 255) (b2 : 0 ≤ x2 ∧ x2 ≤ 255) (b3 : 0 ≤ x3 ∧ x3 ≤ 255) :
    Calls Tryf.prog 20 #[.agg #[], .slice (some ⟨b, off, none⟩) n c] w fun e w' => e = .returned (.int .u32 (x0 * 16777216 + x1 * 65536 + x2 * 256 + x3)) ∧ Below w.heap.size w w' := by
  obtain ⟨l0, u0⟩ := b0
  obtain ⟨l1, u1⟩ := b1
  obtain ⟨l2, u2⟩ := b2
  obtain ⟨l3, u3⟩ := b3
  have hb := cell_lt c0
  have hb' : b < w.heap.size + 1 := by
    have : b < w.heap.size := hb
    omega
  have d0 := old_at c0 (.cells #[] 41)
  have d1 := old_at c1 (.cells #[] 41)
  have d2 := old_at c2 (.cells #[] 41)
  have d3 := old_at c3 (.cells #[] 41)
  clear c0 c1 c2 c3
  have hn0 : (0 : Int) < (n : Int) := by omega
  have hn1 : (1 : Int) < (n : Int) := by omega
  have hn2 : (2 : Int) < (n : Int) := by omega
  have hn3 : (3 : Int) < (n : Int) := by omega
  go_enter Tryf.func20, Tryf.ntmps20
  go_wp2
  go_quiet (fail)
  go_wp2
  go_ret
  have e : bits .or .u32 (bits .or .u32 (bits .or .u32 x3 (x2 * 256)) (x1 * 65536)) (x0 * 16777216) = x0 * 16777216 + x1 * 65536 + x2 * 256 + x3 := by
    simp (disch := omega) only [u32_or8, u32_or16, u32_or24]
    omega
  exact ⟨congrArg (fun x => Ending.returned (.int .u32 x)) e, below_drewN ((Below.refl _ _).alloc (Nat.le_refl _) _) _⟩

structure But (b : Nat) (w w' : World) : Prop where
  os : w'.os = w.os
  tape : w'.tape = w.tape
  output : w'.output = w.output
  size : w.heap.size ≤ w'.heap.size
  block : ∀ k, k < w.heap.size → k ≠ b → w'.heap[k]? = w.heap[k]?
theorem But.refl (b : Nat) (w : World) : But b w w := ⟨rfl, rfl, rfl, Nat.le_refl _, fun _ _ _ => rfl⟩
theorem But.trans {b : Nat} {x y z : World} (h : But b x y) (k : But b y z) : But b x z :=
  ⟨k.os.trans h.os, k.tape.trans h.tape, k.output.trans h.output, Nat.le_trans h.size k.size, fun i hi hb => (k.block i (Nat.lt_of_lt_of_le hi h.size) hb).trans (h.block i hi hb)⟩
theorem But.set {b : Nat} {x y : World} (h : But b x y) (u : Value) : But b x (y.setCell ⟨b, 0, none⟩ u) :=
  h.trans ⟨rfl, rfl, rfl, by simp [World.setCell], fun k _ hb => Below.heap_setCell _ _ _ _ hb⟩
theorem But.below {b : Nat} {x y z : World} (h : But b x y) (k : Below y.heap.size y z) : But b x z :=
  h.trans ⟨k.os, k.tape, k.output, k.size, fun i hi _ => k.block i hi⟩
theorem But.ofBelow {b : Nat} {x y : World} (k : Below x.heap.size x y) : But b x y := (But.refl b x).below k
theorem But.toBelow {b : Nat} {x y : World} (h : But b x y) {B : Nat} (hB : B ≤ b) (hs : B ≤ x.heap.size) : Below B x y :=
  ⟨h.os, h.tape, h.output, h.size, fun k hk => h.block k (by omega) (by omega)⟩

/-- n bytes l lie in block b from off on, in a slice of capacity c. -/
structure Row (w : World) (b off n c : Nat) (l : List Int) : Prop where
  len : l.length = n
  le : n ≤ c
  max : c ≤ maxLen
  cell : ∀ j, j < n → w.cell? ⟨b, off + j, none⟩ = some (.int .u8 (l.getD j 0))

theorem Row.rd {w : World} {b off n c : Nat} {l : List Int} (h : Row w b off n c l) : Rd w (.slice (some ⟨b, off, none⟩) n c) l := by
  by_cases hn : n = 0
  · subst hn
    exact Or.inr (Or.inl ⟨_, c, rfl, List.eq_nil_of_length_eq_zero h.len, h.max⟩)
  · exact Or.inr (Or.inr ⟨b, off, n, c, rfl, h.len, by omega, h.le, h.max, h.cell⟩)
theorem Row.but {w w' : World} {r b off n c : Nat} {l : List Int} (h : Row w b off n c l) (hb : But r w w') (hne : b ≠ r) : Row w' b off n c l :=
  ⟨h.len, h.le, h.max, fun j hj => by
    have := h.cell j hj
    rw [World.cell?_of_block (w := w) (a := ⟨b, off + j, none⟩) (hb.block b (cell_lt this) hne)]
    exact this⟩
theorem Row.below {w w' : World} {b off n c : Nat} {l : List Int} (h : Row w b off n c l) (hb : Below w.heap.size w w') : Row w' b off n c l :=
  ⟨h.len, h.le, h.max, fun j hj => by
    have := h.cell j hj
    rw [hb.cell (p := ⟨b, off + j, none⟩) (cell_lt this)]
    exact this⟩
theorem Row.take {w : World} {b off n c : Nat} {l : List Int} (h : Row w b off n c l) (k : Nat) (hk : k ≤ n) : Row w b off k k (l.take k) :=
  ⟨by simp [h.len]; omega, Nat.le_refl _, by have := h.le; have := h.max; omega, fun j hj => by
    rw [h.cell j (by omega)]
    simp [List.getD, List.getElem?_take_of_lt hj]⟩
theorem Row.drop {w : World} {b off n c : Nat} {l : List Int} (h : Row w b off n c l) (k : Nat) (hk : k ≤ n) : Row w b (if c = k then off else off + k) (n - k) (c - k) (l.drop k) := by
  have h1 := h.le
  have h2 := h.max
  refine ⟨by simp [h.len], by omega, by omega, fun j hj => ?_⟩
  rw [if_neg (by omega), Nat.add_assoc, h.cell (k + j) (by omega)]
  simp [List.getD, List.getElem?_drop]

set_option maxHeartbeats 1000000 in
theorem uint32_ok (w : World) (r b off n c : Nat) (l : List Int) (x0 x1 x2 x3 : Int) (hr : w.heap[r]? = some (.cells #[.slice (some ⟨b, off, none⟩) n c] 43)) (h : Row w b off n c (x0 :: x1 :: x2 :: x3 :: l)) (hne : b ≠ r)
    (b0 : 0 ≤ x0 ∧ x0 ≤ 255) (b1 : 0 ≤ x1 ∧ x1 ≤ 255) (b2 : 0 ≤ x2 ∧ x2 ≤ 255) (b3 : 0 ≤ x3 ∧ x3 ≤ 255) :
    Calls Tryf.prog 12 #[.pointer (some ⟨r, 0, none⟩)] w fun e w' => e = .returned (.tuple #[.int .u32 (x0 * 16777216 + x1 * 65536 + x2 * 256 + x3), .nilIface]) ∧ But r w w' ∧ w'.heap[r]? = some (.cells #[cutAt b off n c 4] 43) := by
  have hlen := h.len
  simp at hlen
  have HR := hide hr
  have HW := hide h
  have h1 := hide (take_ok w r b off n c 4 ⟨#[117, 105, 110, 116, 51, 50]⟩ hr (by omega) h.le h.max)
  clear hr h hlen
  go_enter Tryf.func12, Tryf.ntmps12
  go_wp2_with fail
  refine (unhide h1).mono ?_
  rintro e w1 ⟨rfl, rfl⟩
  have hB : But r w (w.setCell ⟨r, 0, none⟩ (cutAt b off n c 4)) := (But.refl r w).set _
  have hS : (w.setCell ⟨r, 0, none⟩ (cutAt b off n c 4)).heap[r]? = some (.cells #[cutAt b off n c 4] 43) := heap_set HR.out _
  have hW := HW.out.but hB hne
  have HB := hide hB
  have HS := hide hS
  have HW2 := hide hW
  clear hB hS hW HR HW h1
  generalize w.setCell ⟨r, 0, none⟩ (cutAt b off n c 4) = W at *
  go_wp2_with fail
  have hl2 := HW2.out.len
  simp at hl2
  refine (be_read W b off 4 4 x0 x1 x2 x3 (by omega) (by have := HW2.out.cell 0 (by omega); simpa using this) (by have := HW2.out.cell 1 (by omega); simpa using this) (by have := HW2.out.cell 2 (by omega); simpa using this) (by have := HW2.out.cell 3 (by omega); simpa using this) b0 b1 b2 b3).mono ?_
  rintro e w2 ⟨rfl, hbl⟩
  have HL := hide hbl
  clear hbl hl2
  go_wp2
  go_ret2
  exact ⟨rfl, HB.out.below HL.out, (HL.out.block r (by have := heap_cell HS.out; exact cell_lt this)).trans HS.out⟩

set_option maxHeartbeats 1000000 in
theorem uint32_bad (w : World) (r : Nat) (ao : Option Addr) (n c : Nat) (a : Addr) (s : ByteArray) (hr : w.heap[r]? = some (.cells #[.slice ao n c] 43)) (hn : n < 4) (hg : w.cell? ⟨1, 0, none⟩ = some (.iface 53 (.pointer (some a)))) (hs : w.cell? a = some (.string s)) :
    Calls Tryf.prog 12 #[.pointer (some ⟨r, 0, none⟩)] w fun e w' => ∃ a' x, e = .returned (.tuple #[.int .u32 0, .iface 52 (.pointer (some a'))]) ∧ Below w.heap.size w w' ∧ w'.cell? a' = some (.string x) := by
  have h1 := hide (take_bad w r ao n c 4 ⟨#[117, 105, 110, 116, 51, 50]⟩ a s hr (by omega) (by omega) hg hs)
  clear hr hg hs
  go_enter Tryf.func12, Tryf.ntmps12
  go_wp2_with fail
  refine (unhide h1).mono ?_
  rintro e w1 ⟨a', x, rfl, hbl, hx⟩
  have HL := hide hbl
  have HX := hide hx
  clear hbl hx
  go_wp2
  go_ret2
  exact ⟨a', x, rfl, HL.out, HX.out⟩
end Go.Proofs.Qxb6616550aFmt
