/-
  DERIVED. THE WALKS of the scanner's small functions: digitNext (18), fmt.Errorf at its literal formats (20), expected (22), outOfPlace (21). fmt's text is left open: '∃ x'.
-/
import Derived.Test.Qxb6616501aFmtFacts
import Derived.Test.Qxb6616501aFmtBut
import Derived.WalkSpells
import Derived.BigQuiet
import Derived.Deep.RegionHeld3
namespace Go.Proofs.Qxb6616501aFmt
open Go.RowKit Go.Extern.Stop Go.Stop Go.Extern
set_option linter.unusedVariables false

set_option maxHeartbeats 400000 in
theorem errorf3 (w : World) (k : Nat) (c p : Int) (t : ByteArray) (h0 : w.cell? ⟨k, 0, none⟩ = some (.iface 5 (.int .u8 c))) (h1 : w.cell? ⟨k, 1, none⟩ = some (.iface 3 (.int .i64 p))) (h2 : w.cell? ⟨k, 2, none⟩ = some (.iface 9 (.string t))) :
    Calls Tryf.prog 20 #[.string ⟨#[119, 105, 116, 104, 32, 37, 113, 32, 97, 116, 32, 112, 111, 115, 105, 116, 105, 111, 110, 32, 37, 100, 44, 32, 119, 104, 101, 114, 101, 32, 37, 115, 32, 109, 117, 115, 116, 32, 115, 116, 97, 110, 100]⟩, .slice (some ⟨k, 0, none⟩) 3 3] w fun e w' =>
      e = .returned (.iface 47 (.pointer (some ⟨w.heap.size, 0, none⟩))) ∧ ∃ x, w' = (w.alloc (.cells #[.string x] 49)).drew := by
  go_enter Tryf.func20, Tryf.ntmps20
  go_wp2
  go_ret
  exact ⟨rfl, _, rfl⟩

set_option maxHeartbeats 400000 in
theorem errorf2 (w : World) (k : Nat) (c p : Int) (h0 : w.cell? ⟨k, 0, none⟩ = some (.iface 5 (.int .u8 c))) (h1 : w.cell? ⟨k, 1, none⟩ = some (.iface 3 (.int .i64 p))) :
    Calls Tryf.prog 20 #[.string ⟨#[119, 105, 116, 104, 32, 37, 113, 32, 97, 116, 32, 112, 111, 115, 105, 116, 105, 111, 110, 32, 37, 100, 44, 32, 111, 117, 116, 32, 111, 102, 32, 112, 108, 97, 99, 101]⟩, .slice (some ⟨k, 0, none⟩) 2 2] w fun e w' =>
      e = .returned (.iface 47 (.pointer (some ⟨w.heap.size, 0, none⟩))) ∧ ∃ x, w' = (w.alloc (.cells #[.string x] 49)).drew := by
  go_enter Tryf.func20, Tryf.ntmps20
  go_wp2
  go_ret
  exact ⟨rfl, _, rfl⟩
set_option maxHeartbeats 400000 in
theorem errorf1 (w : World) (k : Nat) (t : ByteArray) (h0 : w.cell? ⟨k, 0, none⟩ = some (.iface 9 (.string t))) :
    Calls Tryf.prog 20 #[.string ⟨#[101, 110, 100, 115, 32, 119, 104, 101, 114, 101, 32, 37, 115, 32, 109, 117, 115, 116, 32, 115, 116, 97, 110, 100]⟩, .slice (some ⟨k, 0, none⟩) 1 1] w fun e w' =>
      e = .returned (.iface 47 (.pointer (some ⟨w.heap.size, 0, none⟩))) ∧ ∃ x, w' = (w.alloc (.cells #[.string x] 49)).drew := by
  go_enter Tryf.func20, Tryf.ntmps20
  go_wp2
  go_ret
  exact ⟨rfl, _, rfl⟩
def isDig (s : ByteArray) (p : Nat) : Bool := if h : p < s.size then decide (48 ≤ (s[p].toNat : Int)) && decide ((s[p].toNat : Int) ≤ 57) else false

set_option maxHeartbeats 400000 in
theorem digitNext_any (w : World) (b : Nat) (s : ByteArray) (p : Nat) (ev : Value) (hb : w.heap[b]? = some (.cells #[.string s, .int .i64 (p : Int), ev] 37)) (hs : s.size ≤ 2097152) :
    Calls Tryf.prog 18 #[.pointer (some ⟨b, 0, none⟩)] w fun e w' => e = .returned (.bool (isDig s p)) ∧ ∃ n, w' = w.drewN n := by
  have h0 : w.cell? ⟨b, 0, none⟩ = some (.string s) := cell_at hb 0
  have h1 : w.cell? ⟨b, 1, none⟩ = some (.int .i64 (p : Int)) := cell_at hb 1
  clear hb
  by_cases hp : p < s.size
  · by_cases hc : 48 ≤ (s[p].toNat : Int)
    · by_cases hd : (s[p].toNat : Int) ≤ 57
      · have hI : isDig s p = true := by simp [isDig, hp, hc, hd]
        rw [hI]; clear hI
        go_enter Tryf.func18, Tryf.ntmps18
        go_wp2
        go_quiet (fail)
        go_wp2
        go_ret
        exact ⟨rfl, _, rfl⟩
      · have hI : isDig s p = false := by simp [isDig, hd]
        have hd' : decide ((s[p].toNat : Int) ≤ 57) = false := by simpa using hd
        rw [hI]; clear hI
        go_enter Tryf.func18, Tryf.ntmps18
        go_wp2
        go_quiet (fail)
        go_wp2
        go_ret
        exact ⟨rfl, _, rfl⟩
    · have hI : isDig s p = false := by simp [isDig, hc]
      have hc' : decide (48 ≤ (s[p].toNat : Int)) = false := by simpa using hc
      rw [hI]; clear hI
      go_enter Tryf.func18, Tryf.ntmps18
      go_wp2
      go_quiet (fail)
      go_wp2
      go_ret
      exact ⟨rfl, _, rfl⟩
  · have hI : isDig s p = false := by simp [isDig, hp]
    have hp' : decide ((p : Int) < (s.size : Int)) = false := by simpa using hp
    rw [hI]; clear hI
    go_enter Tryf.func18, Tryf.ntmps18
    go_wp2
    go_quiet (fail)
    go_wp2
    go_ret
    exact ⟨rfl, _, rfl⟩
set_option maxHeartbeats 400000 in
theorem expected_end (w : World) (b : Nat) (s : ByteArray) (ev : Value) (t : ByteArray) (hb : w.heap[b]? = some (.cells #[.string s, .int .i64 (s.size : Int), ev] 37)) (hs : s.size ≤ 2097152) :
    Calls Tryf.prog 22 #[.pointer (some ⟨b, 0, none⟩), .string t] w fun e w' => (∃ a, e = .returned (.iface 47 (.pointer (some a)))) ∧ Below w.heap.size w w' := by
  have h0 : w.cell? ⟨b, 0, none⟩ = some (.string s) := cell_at hb 0
  have h1 : w.cell? ⟨b, 1, none⟩ = some (.int .i64 (s.size : Int)) := cell_at hb 1
  clear hb
  go_enter Tryf.func22, Tryf.ntmps22
  go_wp2
  go_quiet (fail)
  go_wp2_with fail
  refine (errorf1 _ _ t ?_).mono ?_
  · exact new_at _ _ _ _ rfl 0
  rintro e w' ⟨rfl, x, rfl⟩
  go_wp2
  go_ret
  exact ⟨⟨_, rfl⟩, by repeat (first | exact Below.refl _ _ | exact below_drewN (Below.refl _ _) _ | refine Below.drew ?_ | refine Below.alloc ?_ (by simp) _)⟩
set_option maxHeartbeats 400000 in
theorem expected_mid (w : World) (b : Nat) (s : ByteArray) (p : Nat) (ev : Value) (t : ByteArray) (hb : w.heap[b]? = some (.cells #[.string s, .int .i64 (p : Int), ev] 37)) (hs : s.size ≤ 2097152) (hp : p < s.size) :
    Calls Tryf.prog 22 #[.pointer (some ⟨b, 0, none⟩), .string t] w fun e w' => (∃ a, e = .returned (.iface 47 (.pointer (some a)))) ∧ Below w.heap.size w w' := by
  have h0 : w.cell? ⟨b, 0, none⟩ = some (.string s) := cell_at hb 0
  have h1 : w.cell? ⟨b, 1, none⟩ = some (.int .i64 (p : Int)) := cell_at hb 1
  have hlt := heap_lt hb
  have hne : ((p : Int) == (s.size : Int)) = false := by simp; omega
  have hpi : (p : Int) < (s.size : Int) := by omega
  have hp0 : (0 : Int) ≤ (p : Int) := by omega
  clear hb
  go_enter Tryf.func22, Tryf.ntmps22
  go_wp2
  go_quiet (fail)
  go_wp2
  go_region_held3 (fun w' => w'.cell? ⟨b, 0, none⟩ = some (.string s) ∧ w'.cell? ⟨b, 1, none⟩ = some (.int .i64 (p : Int))) (go_keep)
    (first | (go_at_call 20; refine (errorf3 _ _ (s[p].toNat : Int) (p : Int) t ?_ ?_ ?_).mono ?_; exact new_at _ _ _ _ rfl 0; exact new_at _ _ _ _ rfl 1; exact new_at _ _ _ _ rfl 2; rintro e w' ⟨rfl, x, rfl⟩))
  all_goals go_wp2
  all_goals go_ret
  all_goals exact ⟨⟨_, rfl⟩, by repeat (first | exact Below.refl _ _ | exact below_drewN (Below.refl _ _) _ | refine Below.drew ?_ | refine Below.alloc ?_ (by simp) _)⟩
set_option maxHeartbeats 800000 in
theorem outOfPlace_any (w : World) (b : Nat) (s : ByteArray) (p : Nat) (ev : Value) (hb : w.heap[b]? = some (.cells #[.string s, .int .i64 (p : Int), ev] 37)) (hs : s.size ≤ 2097152) (hp : p < s.size) :
    Calls Tryf.prog 21 #[.pointer (some ⟨b, 0, none⟩)] w fun e w' => e = .returned (.tuple #[]) ∧ But b w w' ∧ ∃ a, w'.heap[b]? = some (.cells #[.string s, .int .i64 (p : Int), .iface 47 (.pointer (some a))] 37) := by
  have h0 : w.cell? ⟨b, 0, none⟩ = some (.string s) := cell_at hb 0
  have h1 : w.cell? ⟨b, 1, none⟩ = some (.int .i64 (p : Int)) := cell_at hb 1
  have h2 : w.cell? ⟨b, 2, none⟩ = some ev := cell_at hb 2
  have hz : w.frozen? ⟨b, 2, none⟩ = false := frozen_at hb 2
  have hlt := heap_lt hb
  have hlt' : b < w.heap.size + 1 := by omega
  have hlt'' : b < w.heap.size + 1 + 1 := by omega
  have hpi : (p : Int) < (s.size : Int) := by omega
  have hp0 : (0 : Int) ≤ (p : Int) := by omega
  have HB := (show Hid _ from hb)
  clear hb
  go_enter Tryf.func21, Tryf.ntmps21
  go_wp2
  go_region_held3 (fun w' => w'.cell? ⟨b, 0, none⟩ = some (.string s) ∧ w'.cell? ⟨b, 1, none⟩ = some (.int .i64 (p : Int))) (first | (go_keep; done) | exact ⟨keep_store _ _ h0 (by decide) hlt, keep_store _ _ h1 (by decide) hlt⟩)
    (first | (go_at_call 20; refine (errorf2 _ _ (s[p].toNat : Int) (p : Int) ?_ ?_).mono ?_; exact new_at _ _ _ _ rfl 0; exact new_at _ _ _ _ rfl 1; rintro e w' ⟨rfl, x, rfl⟩))
  all_goals go_wp2
  all_goals go_end0
  all_goals exact ⟨rfl, ((((But.refl b w).setCell 2 _).alloc _).alloc _).drew.drew, _, alloc_at (alloc_at (set_at HB.out 2 _) _) _⟩
end Go.Proofs.Qxb6616501aFmt
