/-
  DERIVED. Frames in a row; zzBytes (function 17).
-/
import Derived.Test.Qxb6616550aFmtLawB
namespace Go.Proofs.Qxb6616550aFmt
open Go.RowKit
set_option linter.unusedVariables false

def fr (l : List Int) : List Int := be4 (l.length : Int) ++ l
/-- the first k frames -/
def frs (L : Nat → List Int) : Nat → List Int
  | 0 => []
  | k + 1 => frs L k ++ fr (L k)
/-- m frames from k on -/
def fr2 (L : Nat → List Int) : Nat → Nat → List Int
  | _, 0 => []
  | k, m + 1 => fr (L k) ++ fr2 L (k + 1) m
def tot (L : Nat → List Int) : Nat → Nat
  | 0 => 0
  | k + 1 => tot L k + (24 + (L k).length)

theorem fr2_snoc (L : Nat → List Int) : ∀ m k, fr2 L k (m + 1) = fr2 L k m ++ fr (L (k + m))
  | 0, k => by simp [fr2]
  | m + 1, k => by
    rw [fr2, fr2_snoc L m (k + 1), fr2, List.append_assoc, show k + 1 + m = k + (m + 1) by omega]
theorem frs_fr2 (L : Nat → List Int) : ∀ n, frs L n = fr2 L 0 n
  | 0 => rfl
  | n + 1 => by rw [frs, frs_fr2 L n, fr2_snoc]; simp
theorem frs_len (L : Nat → List Int) : ∀ k, (frs L k).length ≤ tot L k
  | 0 => by simp [frs, tot]
  | k + 1 => by have := frs_len L k; simp [frs, tot, fr, be4]; omega
theorem tot_mono (L : Nat → List Int) : ∀ m k, tot L k ≤ tot L (k + m)
  | 0, k => by simp
  | m + 1, k => by have := tot_mono L m k; rw [← Nat.add_assoc, tot]; omega
theorem tot_le (L : Nat → List Int) (k n : Nat) (h : k ≤ n) : tot L k ≤ tot L n := by
  have := tot_mono L (n - k) k
  rwa [show k + (n - k) = n by omega] at this
theorem len_le (L : Nat → List Int) (k n : Nat) (h : k < n) : (L k).length ≤ tot L n := by
  have := tot_le L (k + 1) n h
  simp [tot] at this
  omega

structure PS (w : World) (b off N : Nat) (A : Nat → Option Addr) (C : Nat → Nat) (L : Nat → List Int) : Prop where
  cell : ∀ j, j < N → w.cell? ⟨b, off + j, none⟩ = some (.slice (A j) (L j).length (C j))
  rd : ∀ j, j < N → Rd w (.slice (A j) (L j).length (C j)) (L j)
  max : ∀ j, j < N → (L j).length ≤ maxLen

theorem PS.below {w w' : World} {b off N : Nat} {A : Nat → Option Addr} {C : Nat → Nat} {L : Nat → List Int} (h : PS w b off N A C L) (hb : Below w.heap.size w w') : PS w' b off N A C L :=
  ⟨fun j hj => by rw [hb.cell (p := ⟨b, off + j, none⟩) (cell_lt (h.cell j hj))]; exact h.cell j hj, fun j hj => (h.rd j hj).below hb, h.max⟩

/-- it returns a bool -/
def OutB (L : Nat → List Int) (N : Nat) (e : Ending) : Prop := ∃ b, e = .returned (.bool b) ∧ (b = true → ∀ j, j < N → (L j).length ≤ 1048576)

set_option maxRecDepth 100000 in
set_option maxHeartbeats 2000000 in
theorem bytes17 (w : World) (b off N c : Nat) (A : Nat → Option Addr) (C : Nat → Nat) (L : Nat → List Int) (h : PS w b off N A C L) (hN : N ≤ maxLen) :
    Calls Tryf.prog 17 #[.slice (some ⟨b, off, none⟩) N c] w fun e w' => OutB L N e ∧ w' = w := by
  unfold maxLen at hN
  have HP := hide h
  clear h
  by_cases hbig : (1048576 : Int) < (N : Int)
  · go_enter Tryf.func17, Tryf.ntmps17
    go_wp2
    go_ret
    exact ⟨⟨_, rfl, fun h => by cases h⟩, rfl⟩
  have hbig' : (N : Int) ≤ 1048576 := by omega
  go_enter Tryf.func17, Tryf.ntmps17
  go_wp2
  go_loop [3, 4] (fun z i => ∃ (k : Nat) (x : Int), k ≤ N ∧ i = .int .i64 k ∧ z = .int .i64 x ∧ 0 ≤ x ∧ x ≤ 1048576 ∧ ∀ j, j < k → (L j).length ≤ 1048576) (fun _ i => N - (intOf i).toNat)
  case atStart => exact ⟨0, _, by omega, rfl, rfl, by omega, by omega, fun j hj => by omega⟩
  case round =>
    obtain ⟨k, x, hk, rfl, rfl, x0, x1, hall⟩ := hrel
    have HA := hide hall
    clear hall
    by_cases hlt : k < N
    · have g := HP.out.cell k hlt
      have gm := HP.out.max k hlt
      generalize hln : (L k).length = ln at g gm
      have HLN := hide hln
      clear hln
      generalize A k = ak at g
      generalize C k = ck at g
      unfold maxLen at gm
      have hki : (k : Int) < (N : Int) := by omega
      have hk0 : (0 : Int) ≤ (k : Int) := by omega
      go_wp2
      all_goals first
        | (go_ret; exact ⟨⟨_, rfl, fun h => by cases h⟩, rfl⟩)
        | (go_round
           case rel =>
             refine ⟨k + 1, _, by omega, by go_num, rfl, by omega, by omega, fun j hj => ?_⟩
             by_cases hjk : j = k
             · rw [hjk, HLN.out]; omega
             · exact HA.out j (by omega)
           case measure => simp [intOf]; omega)
    · obtain rfl : k = N := by omega
      go_wp2
      go_ret
      exact ⟨⟨_, rfl, fun _ => HA.out⟩, rfl⟩
end Go.Proofs.Qxb6616550aFmt
