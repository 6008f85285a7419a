/-
  DERIVED. THE WALK of (*textScanner).number at n = 2 (function 17): two digits read, or an error laid.
-/
import Derived.Test.Qxb6616501aFmtScan
namespace Go.Proofs.Qxb6616501aFmt
open Go.RowKit Go.Extern.Stop Go.Stop Go.Extern
set_option linter.unusedVariables false

def dg (s : ByteArray) (p : Nat) : Int := if h : p < s.size then (s[p].toNat : Int) - 48 else 0
def two (s : ByteArray) (p : Nat) : Bool := isDig s p && isDig s (p + 1)

set_option maxHeartbeats 400000 in
theorem number_err (w : World) (b : Nat) (s : ByteArray) (q : Int) (a : Addr) (t : ByteArray) (hb : w.heap[b]? = some (.cells #[.string s, .int .i64 q, .iface 47 (.pointer (some a))] 37)) :
    Calls Tryf.prog 17 #[.pointer (some ⟨b, 0, none⟩), .int .i64 2, .string t] w fun e w' => e = .returned (.int .i64 0) ∧ w' = w := by
  have h2 : w.cell? ⟨b, 2, none⟩ = some (.iface 47 (.pointer (some a))) := cell_at hb 2
  clear hb
  go_enter Tryf.func17, Tryf.ntmps17
  go_wp2
  refine wp_loop_rounds 1 ?_; rw [rounds_succ]
  go_wp2
  go_ret
  exact ⟨rfl, rfl⟩
theorem dig_bd {s : ByteArray} {p : Nat} (h : isDig s p = true) : ∃ hp : p < s.size, 48 ≤ (s[p].toNat : Int) ∧ (s[p].toNat : Int) ≤ 57 := by
  unfold isDig at h
  by_cases hp : p < s.size
  · refine ⟨hp, ?_⟩
    simp [hp] at h
    omega
  · simp [hp] at h

theorem expected_any (w : World) (b : Nat) (s : ByteArray) (p : Nat) (ev : Value) (t : ByteArray) (hb : w.heap[b]? = some (.cells #[.string s, .int .i64 (p : Int), ev] 37)) (hs : s.size ≤ 2097152) (hp : p ≤ s.size) :
    Calls Tryf.prog 22 #[.pointer (some ⟨b, 0, none⟩), .string t] w fun e w' => (∃ a, e = .returned (.iface 47 (.pointer (some a)))) ∧ Below w.heap.size w w' := by
  rcases Nat.lt_or_eq_of_le hp with h | h
  · exact expected_mid w b s p ev t hb hs h
  · subst h
    exact expected_end w b s ev t hb hs
/-- what the first k digits at p make -/
def val (s : ByteArray) (p : Nat) : Nat → Int
  | 0 => 0
  | k + 1 => val s p k * 10 + dg s (p + k)

structure Good (s : ByteArray) (p b k : Nat) (v : Int) (w' : World) : Prop where
  hv : v = val s p k
  heap : w'.heap[b]? = some (.cells #[.string s, .int .i64 ((p + k : Nat) : Int), .nilIface] 37)
  digs : ∀ j, j < k → isDig s (p + j) = true
structure Bad (s : ByteArray) (p b : Nat) (v : Int) (w' : World) : Prop where
  lo : 0 ≤ v
  hi : v ≤ 99
  heap : ∃ (q : Nat) (a : Addr), q ≤ s.size ∧ w'.heap[b]? = some (.cells #[.string s, .int .i64 (q : Int), .iface 47 (.pointer (some a))] 37)
  dig : ∃ j, j < 2 ∧ isDig s (p + j) = false

theorem val_bd (s : ByteArray) (p k : Nat) (h : ∀ j, j < k → isDig s (p + j) = true) (hk : k ≤ 2) : 0 ≤ val s p k ∧ val s p k ≤ 99 ∧ (k ≤ 1 → val s p k ≤ 9) := by
  have hd : ∀ j, j < k → 0 ≤ dg s (p + j) ∧ dg s (p + j) ≤ 9 := by
    intro j hj
    obtain ⟨hp, l, u⟩ := dig_bd (h j hj)
    simp only [dg, hp, dif_pos]
    omega
  match k, hk with
  | 0, _ => simp [val]
  | 1, _ => have := hd 0 (by omega); simp [val] at *; omega
  | 2, _ => have := hd 0 (by omega); have := hd 1 (by omega); simp [val] at *; omega

set_option maxHeartbeats 1000000 in
theorem number_any (w : World) (b : Nat) (s : ByteArray) (p : Nat) (t : ByteArray) (hb : w.heap[b]? = some (.cells #[.string s, .int .i64 (p : Int), .nilIface] 37)) (hs : s.size ≤ 2097152) (hp : p ≤ s.size) (ht : t.size ≤ 1000) :
    Calls Tryf.prog 17 #[.pointer (some ⟨b, 0, none⟩), .int .i64 2, .string t] w fun e w' => ∃ v, e = .returned (.int .i64 v) ∧ But b w w' ∧ (Good s p b 2 v w' ∨ Bad s p b v w') := by
  go_enter Tryf.func17, Tryf.ntmps17
  go_wp2
  go_loopw [7, 8] (fun x i w' => ∃ (k : Nat) (v : Int), k ≤ 2 ∧ i = .int .i64 k ∧ x = .int .i64 v ∧ But b w w' ∧ (Good s p b k v w' ∨ Bad s p b v w')) (fun _ i _ => 2 - (intOf i).toNat)
  case atStart => exact ⟨0, 0, by omega, rfl, rfl, But.refl _ _, Or.inl ⟨rfl, hb, fun j hj => by omega⟩⟩
  case round =>
    obtain ⟨k, v, hk, rfl, rfl, hbut, hg⟩ := hrel
    rcases hg with hg | hg
    · obtain ⟨hv, hh, hd⟩ := hg
      have hvb := val_bd s p k hd hk
      rw [← hv] at hvb
      by_cases hlt : k < 2
      · cases hdig : isDig s (p + k) with
        | true =>
          have hv0 : 0 ≤ v := hvb.1
          have hv9 : v ≤ 9 := hvb.2.2 (by omega)
          clear hvb
          generalize hq : p + k = q at hh hdig
          obtain ⟨pk, l0, u0⟩ := dig_bd hdig
          have h0 := (cell_at hh 0).trans (by rfl : _ = some (Value.string s))
          have h1 := (cell_at hh 1).trans (by rfl : _ = some (Value.int .i64 (q : Int)))
          have h2 := (cell_at hh 2).trans (by rfl : _ = some Value.nilIface)
          have hz := frozen_at hh 1
          have hpi : (q : Int) < (s.size : Int) := by omega
          have hp0 : (0 : Int) ≤ (q : Int) := by omega
          have HQ : Hid (p + k = q) := hq
          have HH := (show Hid _ from hh)
          have HV : Hid (v = val s p k) := hv
          have HD : Hid (∀ j, j < k → isDig s (p + j) = true) := hd
          clear hh hv hd hq
          go_wp2_with fail
          refine (digitNext_any _ b s q _ HH.out hs).mono ?_
          rintro e w' ⟨rfl, n, rfl⟩
          go_wp2
          go_quiet (fail)
          go_wp2
          go_roundw
          case rel =>
            refine ⟨k + 1, _, by omega, by go_num, rfl, (hbut.drewN _).setCell 1 _, Or.inl ⟨?_, (set_at (w := wr.drewN (n + nq)) HH.out 1 _).trans (by rw [← HQ.out]; rfl), ?_⟩⟩
            · show _ = val s p k * 10 + dg s (p + k)
              rw [HQ.out, ← HV.out]
              simp [dg, pk]
            · intro j hj
              by_cases hjk : j = k
              · rw [hjk, HQ.out]; exact hdig
              · exact HD.out j (by omega)
          case measure => simp [intOf]; omega
        | false =>
          have hv0 : 0 ≤ v := hvb.1
          have hv9 : v ≤ 9 := hvb.2.2 (by omega)
          clear hvb
          have hql : p + k ≤ s.size := by
            match k, hlt with
            | 0, _ => simpa using hp
            | 1, _ => obtain ⟨h, _⟩ := dig_bd (hd 0 (by omega)); simp at h; omega
          have hbad : Hid (isDig s (p + k) = false) := hdig
          generalize hq : p + k = q at hh hdig hql
          have h2 := (cell_at hh 2).trans (by rfl : _ = some Value.nilIface)
          have HH := (show Hid _ from hh)
          clear hh hv hd hq
          go_wp2_with fail
          refine (digitNext_any _ b s q _ HH.out hs).mono ?_
          rintro e w' ⟨rfl, n, rfl⟩
          go_wp2_with fail
          refine (expected_any (wr.drewN n) b s q .nilIface _ HH.out hs hql).mono ?_
          rintro e w2 ⟨⟨a, rfl⟩, hbl⟩
          have hh2 : Hid (w2.heap[b]? = some (.cells #[.string s, .int .i64 (q : Int), .nilIface] 37)) := (hbl.block b (heap_lt HH.out)).trans HH.out
          have g2 := (cell_at hh2.out 2).trans (by rfl : _ = some Value.nilIface)
          have gz := frozen_at hh2.out 2
          have HL : Hid (Below (wr.drewN n).heap.size (wr.drewN n) w2) := hbl
          clear hbl h2
          go_wp2
          go_roundw
          case rel =>
            refine ⟨k + 1, _, by omega, by go_num, rfl, ((hbut.drewN n).trans ⟨HL.out.os, HL.out.tape, HL.out.output, HL.out.size, fun k hk _ => HL.out.block k hk⟩).setCell 2 _, Or.inr ⟨hv0, by omega, ⟨q, a, hql, set_at hh2.out 2 _⟩, ⟨k, hlt, hbad.out⟩⟩⟩
          case measure => simp [intOf]; omega
      · have hk2 : k = 2 := by omega
        subst hk2
        clear hvb
        go_wp2
        go_ret
        exact ⟨_, rfl, hbut, Or.inl ⟨hv, hh, hd⟩⟩
    · obtain ⟨l, u, ⟨q, a, hq, hh⟩, hx⟩ := hg
      have h2 := (cell_at hh 2).trans (by rfl : _ = some (Value.iface 47 (.pointer (some a))))
      have HH := (show Hid _ from hh)
      have HX := (show Hid _ from hx)
      clear hh hx
      by_cases hlt : k < 2
      all_goals
        go_wp2
        go_ret
        exact ⟨_, rfl, hbut, Or.inr ⟨l, u, ⟨q, a, hq, HH.out⟩, HX.out⟩⟩
end Go.Proofs.Qxb6616501aFmt
