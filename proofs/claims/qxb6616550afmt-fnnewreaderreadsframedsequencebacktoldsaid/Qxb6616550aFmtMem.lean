/-
  DERIVED. Byte slices in memory: 'Rd w v l': the slice value v reads as the list of bytes l in the world w.
-/
import Derived.Test.Qxb6616550aFmtProg
import Derived.WalkKit
import Derived.WalkSmall
import Derived.WalkSpells
import Derived.BigQuiet
import Derived.Deep.AppendLies
import Derived.Deep.RegionHeld3
namespace Go.Proofs.Qxb6616550aFmt
open Go.RowKit

theorem hide {p : Prop} (h : p) : Hid p := h
theorem unhide {p : Prop} (h : Hid p) : p := h

/-- v, a slice value, reads as the bytes l in w: nil; empty; or over cells. -/
def Rd (w : World) (v : Value) (l : List Int) : Prop :=
  (v = .slice none 0 0 ∧ l = []) ∨
  (∃ a c, v = .slice (some a) 0 c ∧ l = [] ∧ c ≤ maxLen) ∨
  ∃ b off n c, v = .slice (some ⟨b, off, none⟩) n c ∧ l.length = n ∧ 0 < n ∧ n ≤ c ∧ c ≤ maxLen ∧ ∀ j, j < n → w.cell? ⟨b, off + j, none⟩ = some (.int .u8 (l.getD j 0))

theorem cell_lt {w : World} {a : Addr} {x : Value} (h : w.cell? a = some x) : a.block < w.heap.size := by
  rcases Nat.lt_or_ge a.block w.heap.size with h' | h'
  · exact h'
  · simp [World.cell?, Array.getElem?_eq_none h'] at h

theorem Rd.below {w w' : World} {v : Value} {l : List Int} (h : Rd w v l) (hb : Below w.heap.size w w') : Rd w' v l := by
  rcases h with h | h | ⟨b, off, n, c, hv, hl, hn, hc, hm, hcell⟩
  · exact Or.inl h
  · exact Or.inr (Or.inl h)
  · refine Or.inr (Or.inr ⟨b, off, n, c, hv, hl, hn, hc, hm, fun j hj => ?_⟩)
    have := hcell j hj
    rw [hb.cell (p := ⟨b, off + j, none⟩) (cell_lt this)]
    exact this

theorem Rd.drewN {w : World} {v : Value} {l : List Int} (h : Rd w v l) (n : Nat) : Rd (w.drewN n) v l := h

theorem below_trans {B : Nat} {a b c : World} (h : Below B a b) (k : Below b.heap.size b c) (hB : B ≤ a.heap.size) : Below B a c :=
  h.trans (k.mono (Nat.le_trans hB h.size))

end Go.Proofs.Qxb6616550aFmt
