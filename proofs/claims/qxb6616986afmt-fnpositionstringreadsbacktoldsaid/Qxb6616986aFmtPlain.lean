/-
  DERIVED. PLAIN: the decimal numeral, place for place (no Go in sight).
-/
import Derived.Lib.ItoaNum
namespace Go.Proofs.Qxb6616986aFmt
open Go

/-- the number that the first k of n digits of u spell -/
def PV (u n k : Nat) : Nat := u / 10 ^ (n - k)
def DG (u n k : Nat) : Nat := u / 10 ^ (n - 1 - k) % 10

theorem PV_n (u n : Nat) : PV u n n = u := by simp [PV]
theorem PV_zero (u n : Nat) (h : u < 10 ^ n) : PV u n 0 = 0 := by simp [PV, Nat.div_eq_of_lt h]
theorem PV_succ (u n k : Nat) (hk : k < n) : PV u n (k + 1) = PV u n k * 10 + DG u n k := by
  unfold PV DG
  have e : n - k = (n - 1 - k) + 1 := by omega
  have e2 : n - (k + 1) = n - 1 - k := by omega
  rw [e, e2, Nat.pow_succ, ← Nat.div_div_eq_div_mul]
  omega
theorem PV_le (u n k : Nat) : PV u n k ≤ u := Nat.div_le_self _ _
theorem PV_ten (u n k : Nat) (hk : k < n) : PV u n k * 10 ≤ u := by
  have := PV_succ u n k hk
  have := PV_le u n (k + 1)
  omega
theorem DG_lt (u n k : Nat) : DG u n k ≤ 9 := by unfold DG; omega

theorem pow_le (u : Nat) (h : 1 ≤ u) : 10 ^ (Lib.nDigits u - 1) ≤ u := by
  induction u using Nat.strongRecOn with
  | _ u ih =>
    by_cases hu : u < 10
    · rw [Lib.nDigits_small hu]; simpa using h
    · rw [Lib.nDigits_big hu]
      have h1 := ih (u / 10) (by omega) (by omega)
      have h2 := Lib.nDigits_pos (u / 10)
      obtain ⟨m, hm⟩ : ∃ m, Lib.nDigits (u / 10) = m + 1 := ⟨Lib.nDigits (u / 10) - 1, by omega⟩
      rw [hm] at h1 ⊢
      simp only [Nat.add_sub_cancel] at h1 ⊢
      rw [Nat.pow_succ]
      omega
theorem DG_first (u : Nat) (h : 1 ≤ u) : 1 ≤ DG u (Lib.nDigits u) 0 := by
  have h1 := pow_le u h
  have h2 := Lib.lt_pow_nDigits u
  have h3 := Lib.nDigits_pos u
  obtain ⟨m, hm⟩ : ∃ m, Lib.nDigits u = m + 1 := ⟨Lib.nDigits u - 1, by omega⟩
  unfold DG
  rw [hm] at h1 h2 ⊢
  simp only [Nat.add_sub_cancel, Nat.sub_zero] at h1 ⊢
  rw [Nat.pow_succ] at h2
  have hpos : 0 < 10 ^ m := Nat.pow_pos (by omega)
  have h4 : 1 ≤ u / 10 ^ m := (Nat.one_le_div_iff hpos).2 h1
  have h5 : u / 10 ^ m < 10 := Nat.div_lt_of_lt_mul (by omega)
  omega

theorem dig_get (u k : Nat) (hk : k < Lib.nDigits u) : (Lib.decDigits u)[k]? = some (UInt8.ofNat (48 + DG u (Lib.nDigits u) k)) := by
  rw [Lib.decDigits_eq]
  simp [hk, Lib.dg, DG]
theorem byte_val (d : Nat) (h : d ≤ 9) : (UInt8.ofNat (48 + d)).toNat = 48 + d := by simp; omega

theorem get_list (s : ByteArray) (i : Nat) : s[i]? = s.data.toList[i]? := by
  by_cases h : i < s.size
  · have h1 : i < s.data.toList.length := by simpa using h
    rw [List.getElem?_eq_getElem h1]
    simp [h]
    rfl
  · have h1 : ¬ i < s.data.toList.length := by simpa using h
    rw [List.getElem?_eq_none (by omega)]
    simp [h]

/-- s holds the digits of u from place st on -/
structure Digs (s : ByteArray) (st u : Nat) : Prop where
  size : s.size = st + Lib.nDigits u
  at_ : ∀ k (_ : k < Lib.nDigits u) (h' : st + k < s.size), (s[st + k].toNat : Int) = 48 + (DG u (Lib.nDigits u) k : Nat)

theorem digs_pos (s : ByteArray) (u : Nat) (h : s.data.toList = Lib.decDigits u) : Digs s 0 u := by
  have hs : s.size = Lib.nDigits u := by
    have := congrArg List.length h
    rw [Lib.decDigits_length] at this
    simpa using this
  refine ⟨by omega, fun k hk h' => ?_⟩
  have e := get_list s (0 + k)
  rw [h, Nat.zero_add, dig_get u k hk] at e
  have e2 : s[0 + k] = UInt8.ofNat (48 + DG u (Lib.nDigits u) k) := by
    have hk' : k < s.size := by omega
    simp [hk'] at e
    simpa using e
  rw [e2, byte_val _ (DG_lt _ _ _)]
  omega
theorem digs_neg (s : ByteArray) (u : Nat) (h : s.data.toList = 45 :: Lib.decDigits u) : Digs s 1 u ∧ s[0]? = some 45 := by
  have hs : s.size = 1 + Lib.nDigits u := by
    have := congrArg List.length h
    rw [List.length_cons, Lib.decDigits_length] at this
    have e : s.data.toList.length = s.size := by simp
    omega
  refine ⟨⟨hs, fun k hk h' => ?_⟩, by rw [get_list, h]; rfl⟩
  have e := get_list s (1 + k)
  rw [h, Nat.add_comm 1 k, List.getElem?_cons_succ, dig_get u k hk] at e
  have e2 : s[1 + k] = UInt8.ofNat (48 + DG u (Lib.nDigits u) k) := by
    have hk' : k + 1 < s.size := by omega
    simp [hk'] at e
    simpa [Nat.add_comm] using e
  rw [e2, byte_val _ (DG_lt _ _ _)]
  omega
end Go.Proofs.Qxb6616986aFmt
