/-
  DERIVED. THE PLAIN LAW (no Go in sight): two digits inserted behind the minute.
-/
import Derived.Test.Qxb6616501aFmtZZ
import Derived.Lib.Strings
namespace Go.Proofs.Qxb6616501aFmt
open Go.RowKit

theorem get_list (s : ByteArray) (i : Nat) : s[i]? = s.data.toList[i]? := by
  by_cases h : i < s.size
  · have h1 : i < s.data.toList.length := by simpa using h
    rw [List.getElem?_eq_getElem h1]
    simp [h]
    rfl
  · have h1 : ¬ i < s.data.toList.length := by simpa using h
    rw [List.getElem?_eq_none (by omega)]
    simp [h]

theorem isDig_eq (s : ByteArray) (i : Nat) : isDig s i = match s[i]? with | some c => decide (48 ≤ (c.toNat : Int)) && decide ((c.toNat : Int) ≤ 57) | none => false := by
  by_cases h : i < s.size
  · simp [isDig, h]
  · simp [isDig, h]
theorem dg_eq (s : ByteArray) (i : Nat) : dg s i = match s[i]? with | some c => (c.toNat : Int) - 48 | none => 0 := by
  by_cases h : i < s.size
  · simp [dg, h]
  · simp [dg, h]
theorem isDig_congr {s t : ByteArray} {i j : Nat} (h : s[i]? = t[j]?) : isDig s i = isDig t j := by rw [isDig_eq, isDig_eq, h]
theorem dg_congr {s t : ByteArray} {i j : Nat} (h : s[i]? = t[j]?) : dg s i = dg t j := by rw [dg_eq, dg_eq, h]
theorem two_congr {s t : ByteArray} {i j : Nat} (h : s[i]? = t[j]?) (h1 : s[i + 1]? = t[j + 1]?) : two s i = two t j := by
  unfold two; rw [isDig_congr h, isDig_congr h1]
theorem val_congr {s t : ByteArray} {i j : Nat} (h : s[i]? = t[j]?) (h1 : s[i + 1]? = t[j + 1]?) : val s i 2 = val t j 2 := by
  simp only [val]; rw [dg_congr (s := s) (i := i + 0) (t := t) (j := j + 0) h, dg_congr h1]
theorem zoneR_congr {s t : ByteArray} {i j : Nat} (o : Int) (h : ∀ k, s[i + k]? = t[j + k]?) : zoneR s i o = zoneR t j o := by
  have h0 : s[i]? = t[j]? := h 0
  have e1 : two s (i + 1) = two t (j + 1) := two_congr (h 1) (h 2)
  have e2 : two s (i + 3) = two t (j + 3) := two_congr (h 3) (h 4)
  have e3 : val s (i + 1) 2 = val t (j + 1) 2 := val_congr (h 1) (h 2)
  have e4 : val s (i + 3) 2 = val t (j + 3) 2 := val_congr (h 3) (h 4)
  unfold zoneR
  rw [h0, e1, e2, e3, e4]

theorem ext_list (s : ByteArray) (a b : Nat) : (s.extract a b).data.toList = (s.data.toList.take b).drop a := by
  simp [ByteArray.data_extract, List.drop_take]

structure Ins (s t : ByteArray) (p : Nat) (a b : Int) : Prop where
  size : t.size = s.size + 2
  pre : pre t p = pre s p
  v0 : val t p 2 = val s p 2
  v1 : val t (p + 2) 2 = val s (p + 2) 2
  v2 : val t (p + 4) 2 = val s (p + 4) 2
  v3 : val t (p + 6) 2 = val s (p + 6) 2
  v4 : val t (p + 8) 2 = val s (p + 8) 2
  dig : isDig t (p + 10) = true
  two : two t (p + 10) = true
  sec : val t (p + 10) 2 = (a - 48) * 10 + (b - 48)
  zone : ∀ o, zoneR t (p + 12) o = zoneR s (p + 10) o

theorem ins (s : ByteArray) (p : Nat) (a b : Int) (hp : p + 10 ≤ s.size) (a0 : 48 ≤ a) (a1 : a ≤ 57) (b0 : 48 ≤ b) (b1 : b ≤ 57) : Ins s (s.extract 0 (p + 10) ++ strOfNums [a, b] ++ s.extract (p + 10) s.size) p a b := by
  generalize ht : s.extract 0 (p + 10) ++ strOfNums [a, b] ++ s.extract (p + 10) s.size = t
  have hl : t.data.toList = s.data.toList.take (p + 10) ++ [UInt8.ofNat a.toNat, UInt8.ofNat b.toNat] ++ s.data.toList.drop (p + 10) := by
    rw [← ht]
    simp only [ByteArray.data_append, Array.toList_append, ext_list, strOfNums_data]
    rw [List.take_of_length_le (show s.data.toList.length ≤ s.size by simp)]
    simp
  have hsl : s.data.toList.length = s.size := by simp
  have lo : ∀ i, i < p + 10 → t[i]? = s[i]? := by
    intro i hi
    rw [get_list, get_list, hl, List.append_assoc, List.getElem?_append_left (by simp; omega), List.getElem?_take_of_lt hi]
  have hi : ∀ k, t[p + 12 + k]? = s[p + 10 + k]? := by
    intro k
    rw [get_list, get_list, hl, List.getElem?_append_right (by simp; omega), List.getElem?_drop]
    congr 1
    simp
    omega
  have ga : t[p + 10]? = some (UInt8.ofNat a.toNat) := by
    rw [get_list, hl, List.append_assoc, List.getElem?_append_right (by simp; omega)]
    have : p + 10 - (s.data.toList.take (p + 10)).length = 0 := by simp; omega
    rw [this]; rfl
  have gb : t[p + 11]? = some (UInt8.ofNat b.toNat) := by
    rw [get_list, hl, List.append_assoc, List.getElem?_append_right (by simp; omega)]
    have : p + 11 - (s.data.toList.take (p + 10)).length = 1 := by simp; omega
    rw [this]; rfl
  have na : ((UInt8.ofNat a.toNat).toNat : Int) = a := by simp; omega
  have nb : ((UInt8.ofNat b.toNat).toNat : Int) = b := by simp; omega
  have da : isDig t (p + 10) = true := by rw [isDig_eq, ga]; simp only [na]; simp [a0, a1]
  have db : isDig t (p + 11) = true := by rw [isDig_eq, gb]; simp only [nb]; simp [b0, b1]
  have w2 : ∀ k, k + 1 < 10 → two t (p + k) = two s (p + k) := fun k hk => two_congr (lo _ (by omega)) (lo _ (by omega))
  have v2 : ∀ k, k + 1 < 10 → val t (p + k) 2 = val s (p + k) 2 := fun k hk => val_congr (lo _ (by omega)) (lo _ (by omega))
  refine ⟨?_, ?_, v2 0 (by omega), v2 2 (by omega), v2 4 (by omega), v2 6 (by omega), v2 8 (by omega), da, ?_, ?_, fun o => zoneR_congr o hi⟩
  · have := congrArg List.length hl
    simp at this
    have e : t.size = t.data.size := rfl
    omega
  · unfold pre
    rw [w2 2 (by omega), w2 4 (by omega), w2 6 (by omega), w2 8 (by omega), show two t p = two s p from w2 0 (by omega)]
  · unfold two
    rw [da, db]; rfl
  · have e1 : dg t (p + 10 + 0) = a - 48 := by rw [dg_eq]; show (match t[p + 10]? with | some c => (c.toNat : Int) - 48 | none => 0) = _; rw [ga]; simp only [na]
    have e2 : dg t (p + 10 + 1) = b - 48 := by rw [dg_eq, show p + 10 + 1 = p + 11 from rfl, gb]; simp only [nb]
    simp only [val]
    rw [e1, e2]
    omega

theorem zoneR_n {s : ByteArray} {q : Nat} {o z' o' : Int} {n : Nat} (h : zoneR s q o = some (z', o', n)) : n ≤ 5 := by
  unfold zoneR at h
  split at h
  · cases h
  · split at h
    · simp at h; omega
    · split at h
      · split at h
        · split at h
          · simp at h; omega
          · cases h
        · cases h
      · cases h

theorem good_good {s t : ByteArray} {p : Nat} {a b sec o s1 u1 z1 o1 s2 u2 z2 o2 : Int} {m1 m2 : Nat} (I : Ins s t p a b) (hnd : isDig s (p + 10) = false) (h1 : tailR s p sec o = some (s1, u1, z1, o1, m1)) (h2 : tailR t p sec o = some (s2, u2, z2, o2, m2)) :
    ∃ n, n ≤ 5 ∧ s1 = sec ∧ u1 = 60 ∧ m1 = 10 + n ∧ s2 = (a - 48) * 10 + (b - 48) ∧ u2 = 1 ∧ z2 = z1 ∧ o2 = o1 ∧ m2 = 12 + n := by
  unfold tailR at h1 h2
  rw [hnd] at h1
  rw [I.dig, I.two, I.sec, I.zone] at h2
  simp only [Bool.false_eq_true, if_false, if_true] at h1 h2
  cases hz : zoneR s (p + 10) o with
  | none => rw [hz] at h1; cases h1
  | some r =>
    obtain ⟨z', o', n⟩ := r
    rw [hz] at h1 h2
    simp only [Option.map_some, Option.some.injEq, Prod.mk.injEq] at h1 h2
    exact ⟨n, zoneR_n hz, h1.1.symm, h1.2.1.symm, h1.2.2.2.2.symm, h2.1.symm, h2.2.1.symm, h2.2.2.1.symm.trans h1.2.2.1, h2.2.2.2.1.symm.trans h1.2.2.2.1, h2.2.2.2.2.symm⟩

theorem none_none {s t : ByteArray} {p : Nat} {a b sec o : Int} (I : Ins s t p a b) (hnd : isDig s (p + 10) = false) : tailR s p sec o = none ↔ tailR t p sec o = none := by
  unfold tailR
  rw [hnd, I.dig, I.two, I.zone]
  simp

end Go.Proofs.Qxb6616501aFmt
