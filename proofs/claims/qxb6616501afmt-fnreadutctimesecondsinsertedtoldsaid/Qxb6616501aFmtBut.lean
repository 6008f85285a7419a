/-
  DERIVED. The frame of the walks of this seat: 'But b w w'': every block of w but block b is as it was; blocks told whole ('w.heap[b]? = some (.cells ..)') read and written.
-/
import Derived.WalkKit
import Derived.WalkSmall
namespace Go.Proofs.Qxb6616501aFmt
open Go.RowKit

structure But (b : Nat) (w w' : World) : Prop where
  os : w'.os = w.os
  tape : w'.tape = w.tape
  output : w'.output = w.output
  size : w.heap.size ≤ w'.heap.size
  block : ∀ k, k < w.heap.size → k ≠ b → w'.heap[k]? = w.heap[k]?

theorem But.refl (b : Nat) (w : World) : But b w w := ⟨rfl, rfl, rfl, Nat.le_refl _, fun _ _ _ => rfl⟩
theorem But.trans {b : Nat} {x y z : World} (h : But b x y) (k : But b y z) : But b x z :=
  ⟨k.os.trans h.os, k.tape.trans h.tape, k.output.trans h.output, Nat.le_trans h.size k.size, fun i hi hb => (k.block i (Nat.lt_of_lt_of_le hi h.size) hb).trans (h.block i hi hb)⟩
theorem But.drew {b : Nat} {x y : World} (h : But b x y) : But b x y.drew := ⟨h.os, h.tape, h.output, h.size, h.block⟩
theorem But.drewN {b : Nat} {x y : World} (h : But b x y) (n : Nat) : But b x (y.drewN n) := ⟨h.os, h.tape, h.output, h.size, h.block⟩
theorem But.alloc {b : Nat} {x y : World} (h : But b x y) (o : Obj) : But b x (y.alloc o) :=
  h.trans ⟨rfl, rfl, rfl, by simp, fun k hk _ => Below.heap_alloc _ _ _ hk⟩
theorem But.setCell {b : Nat} {x y : World} (h : But b x y) (o : Nat) (u : Value) : But b x (y.setCell ⟨b, o, none⟩ u) :=
  h.trans ⟨rfl, rfl, rfl, by simp [World.setCell], fun k _ hb => Below.heap_setCell _ _ _ _ hb⟩
theorem But.below {b : Nat} {x y : World} (h : But b x y) {B : Nat} (hB : B ≤ b) (hs : B ≤ x.heap.size) : Below B x y :=
  ⟨h.os, h.tape, h.output, h.size, fun k hk => h.block k (by omega) (by omega)⟩

theorem heap_lt {w : World} {b : Nat} {o : Obj} (h : w.heap[b]? = some o) : b < w.heap.size := by
  rcases Nat.lt_or_ge b w.heap.size with h' | h'
  · exact h'
  · rw [Array.getElem?_eq_none h'] at h; cases h

theorem cell_at {w : World} {b : Nat} {cs : Array Value} {t : TypeId} (h : w.heap[b]? = some (.cells cs t)) (o : Nat) : w.cell? ⟨b, o, none⟩ = cs[o]? := by
  simp [World.cell?, h]
theorem frozen_at {w : World} {b : Nat} {cs : Array Value} {t : TypeId} (h : w.heap[b]? = some (.cells cs t)) (o : Nat) : w.frozen? ⟨b, o, none⟩ = false := by
  simp [World.frozen?, h]
theorem set_at {w : World} {b : Nat} {cs : Array Value} {t : TypeId} (h : w.heap[b]? = some (.cells cs t)) (o : Nat) (u : Value) : (w.setCell ⟨b, o, none⟩ u).heap[b]? = some (.cells (cs.setIfInBounds o u) t) := by
  simp [World.setCell, Array.getElem?_modify, h]
theorem set_far {w : World} {b g : Nat} (hg : g ≠ b) (o : Nat) (u : Value) : (w.setCell ⟨b, o, none⟩ u).heap[g]? = w.heap[g]? := Below.heap_setCell _ _ _ _ hg
theorem alloc_at {w : World} {b : Nat} {x : Obj} (h : w.heap[b]? = some x) (o : Obj) : (w.alloc o).heap[b]? = some x := by
  rw [Below.heap_alloc _ _ _ (heap_lt h)]; exact h

theorem new_at (W : World) (k : Nat) (cs : Array Value) (t : TypeId) (hk : k = W.heap.size) (o : Nat) : (W.alloc (.cells cs t)).cell? ⟨k, o, none⟩ = cs[o]? := by
  subst hk
  have h : (W.alloc (.cells cs t)).heap[W.heap.size]? = some (.cells cs t) := by
    show (W.heap.push _)[W.heap.size]? = _
    simp
  exact cell_at h o

theorem keep_store {w : World} {b o k : Nat} {v : Value} {x : Option Value} (x1 x2 : Obj) (h : w.cell? ⟨b, k, none⟩ = x) (hk : o ≠ k) (hlt : b < w.heap.size) : (((w.setCell ⟨b, o, none⟩ v).alloc x1).alloc x2).drew.drew.cell? ⟨b, k, none⟩ = x := by
  have e1 : (((w.setCell ⟨b, o, none⟩ v).alloc x1).alloc x2).drew.drew.cell? ⟨b, k, none⟩ = (w.setCell ⟨b, o, none⟩ v).cell? ⟨b, k, none⟩ := by
    refine World.cell?_of_block (w := w.setCell ⟨b, o, none⟩ v) ?_
    show (((w.setCell ⟨b, o, none⟩ v).alloc x1).alloc x2).heap[b]? = _
    rw [Below.heap_alloc _ _ _ (by simp [World.setCell]; omega), Below.heap_alloc _ _ _ (by simp [World.setCell]; omega)]
  rw [e1, ← h]
  exact World.cell?_setCell_other w ⟨b, o, none⟩ ⟨b, k, none⟩ v (fun e => hk (congrArg Addr.off e))

end Go.Proofs.Qxb6616501aFmt
