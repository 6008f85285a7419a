/-
  DERIVED. The frame of the walks of this seat: 'Fr S w w'': every block of w but those of S is as it was; blocks told whole ('w.heap[b]? = some (.cells ..)') read and written.
-/
import Derived.Test.Qxb6616684aFmtRows
import Derived.Test.Qxb6616684aFmtLocks
import Derived.Conc.RwLoneW
import Derived.WalkKit
import Derived.WalkSmall
import Derived.LoopN
namespace Go.Proofs.Qxb6616684aFmt
open Go.RowKit

theorem hide {p : Prop} (h : p) : Hid p := h
theorem unhide {p : Prop} (h : Hid p) : p := h

structure Fr (S : List Nat) (w w' : World) : Prop where
  os : w'.os = w.os
  tape : w'.tape = w.tape
  output : w'.output = w.output
  size : w.heap.size ≤ w'.heap.size
  block : ∀ k, k < w.heap.size → k ∉ S → w'.heap[k]? = w.heap[k]?

theorem Fr.refl (S : List Nat) (w : World) : Fr S w w := ⟨rfl, rfl, rfl, Nat.le_refl _, fun _ _ _ => rfl⟩
theorem Fr.trans {S : List Nat} {x y z : World} (h : Fr S x y) (k : Fr S y z) : Fr S x z :=
  ⟨k.os.trans h.os, k.tape.trans h.tape, k.output.trans h.output, Nat.le_trans h.size k.size, fun i hi hb => (k.block i (Nat.lt_of_lt_of_le hi h.size) hb).trans (h.block i hi hb)⟩
theorem Fr.drew {S : List Nat} {x y : World} (h : Fr S x y) : Fr S x y.drew := ⟨h.os, h.tape, h.output, h.size, h.block⟩
theorem Fr.drewN {S : List Nat} {x y : World} (h : Fr S x y) (n : Nat) : Fr S x (y.drewN n) := ⟨h.os, h.tape, h.output, h.size, h.block⟩
theorem Fr.alloc {S : List Nat} {x y : World} (h : Fr S x y) (o : Obj) : Fr S x (y.alloc o) :=
  h.trans ⟨rfl, rfl, rfl, by simp, fun k hk _ => Below.heap_alloc _ _ _ hk⟩
theorem Fr.setCell {S : List Nat} {x y : World} (h : Fr S x y) (b : Nat) (hb : b ∈ S) (o : Nat) (u : Value) : Fr S x (y.setCell ⟨b, o, none⟩ u) :=
  h.trans ⟨rfl, rfl, rfl, by simp [World.setCell], fun k _ hk => Below.heap_setCell _ _ _ _ (fun e => hk (e ▸ hb))⟩
theorem Fr.setNew {S : List Nat} {x y : World} (h : Fr S x y) (b : Nat) (hb : x.heap.size ≤ b) (o : Nat) (u : Value) : Fr S x (y.setCell ⟨b, o, none⟩ u) :=
  ⟨h.os, h.tape, h.output, by simpa [World.setCell] using h.size, fun k hk hs => (Below.heap_setCell _ _ _ _ (by show k ≠ b; omega)).trans (h.block k hk hs)⟩
theorem Fr.mono {S T : List Nat} {x y : World} (h : Fr S x y) (hs : ∀ k, k ∈ S → k ∈ T) : Fr T x y := ⟨h.os, h.tape, h.output, h.size, fun k hk ht => h.block k hk (fun e => ht (hs k e))⟩
theorem Fr.ofBelow {S : List Nat} {x y : World} {B : Nat} (h : Below B x y) (hB : x.heap.size ≤ B) : Fr S x y := ⟨h.os, h.tape, h.output, h.size, fun k hk _ => h.block k (by omega)⟩
theorem Fr.below {S : List Nat} {x y : World} (h : Fr S x y) {B : Nat} (hB : ∀ k ∈ S, B ≤ k) (hs : B ≤ x.heap.size) : Below B x y :=
  ⟨h.os, h.tape, h.output, h.size, fun k hk => h.block k (by omega) (fun e => by have := hB k e; omega)⟩

theorem heap_lt {w : World} {b : Nat} {o : Obj} (h : w.heap[b]? = some o) : b < w.heap.size := by
  rcases Nat.lt_or_ge b w.heap.size with h' | h'
  · exact h'
  · rw [Array.getElem?_eq_none h'] at h; cases h
theorem Fr.at {S : List Nat} {x y : World} (h : Fr S x y) {b : Nat} {o : Obj} (hb : x.heap[b]? = some o) (hs : b ∉ S) : y.heap[b]? = some o := (h.block b (heap_lt hb) hs).trans hb

theorem cell_at {w : World} {b : Nat} {cs : Array Value} {t : TypeId} (h : w.heap[b]? = some (.cells cs t)) (o : Nat) : w.cell? ⟨b, o, none⟩ = cs[o]? := by
  simp [World.cell?, h]
theorem frozen_at {w : World} {b : Nat} {cs : Array Value} {t : TypeId} (h : w.heap[b]? = some (.cells cs t)) (o : Nat) : w.frozen? ⟨b, o, none⟩ = false := by
  simp [World.frozen?, h]
theorem set_at {w : World} {b : Nat} {cs : Array Value} {t : TypeId} (h : w.heap[b]? = some (.cells cs t)) (o : Nat) (u : Value) : (w.setCell ⟨b, o, none⟩ u).heap[b]? = some (.cells (cs.setIfInBounds o u) t) := by
  simp [World.setCell, Array.getElem?_modify, h]
theorem set_far {w : World} {b g : Nat} (hg : g ≠ b) (o : Nat) (u : Value) : (w.setCell ⟨b, o, none⟩ u).heap[g]? = w.heap[g]? := Below.heap_setCell _ _ _ _ hg
theorem alloc_at {w : World} {b : Nat} {x : Obj} (h : w.heap[b]? = some x) (o : Obj) : (w.alloc o).heap[b]? = some x := by
  rw [Below.heap_alloc _ _ _ (heap_lt h)]; exact h
theorem alloc_new (w : World) (o : Obj) : (w.alloc o).heap[w.heap.size]? = some o := by
  show (w.heap.push _)[w.heap.size]? = _
  simp
end Go.Proofs.Qxb6616684aFmt
