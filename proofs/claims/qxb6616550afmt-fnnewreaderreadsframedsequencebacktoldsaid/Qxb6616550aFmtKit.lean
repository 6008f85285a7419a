/-
  DERIVED. What the cards of this seat share: the sentinel ErrTruncated out of 'laid'; a start that fits; a slice of bytes that came in, as 'Rd'.
-/
import Derived.Test.Qxb6616550aFmtStr
import Derived.Test.Qxb6616550aFmtCards
import Derived.Test.Qxb6616550aFmtTie
import Derived.ProofKit
import Derived.OpenShut
import Derived.ShutString
import Derived.Stop.JoinedAt
import Derived.Stop.Texts
import Derived.Stop.ErrReads
import Derived.Stop.LaidErr
import Derived.Stop.JoinedTold
import Derived.SevenTiedAt
namespace Go.Proofs.Qxb6616550aFmt
open Go.ChangeShapes Go.WideShapes Go.ChangeAt Go.RowKit Go.Kit
open Go.Extern.Stop Go.Stop Go.Extern

theorem Tryf.own : ownKnob Tryf.prog.godebug = none := by kernel_rfl
theorem Tryf.laidOut : laidOutB Tryf.pinned.checked.prog = true := by kernel_rfl
theorem Tryf.laidOut' : laidOutB Tryf.prog = true := by kernel_rfl
theorem Tryf.stops : Tryf.pinned.checked.prog.stops = ["fmt.errorf"] := by kernel_rfl
theorem Tryf.stopKnobs : Tryf.pinned.checked.prog.stopKnobs = [] := by kernel_rfl
theorem Tryf.quiet (os : Os) : Stop.quiet Tryf.pinned.checked.prog os := by
  intro k hk
  rw [Tryf.stopKnobs] at hk
  cases hk

theorem Tryf.gE : Tryf.prog.globalNamed (Rows.fnAppendUint32ReadsBackThroughUint32Spec.vars.headD "") = some 1 := by kernel_rfl
theorem Tryf.gEType : (Tryf.prog.globals[1]?).map (·.type) = some 31 := by kernel_rfl
theorem Tryf.cells55 : Tryf.prog.cellsOf 55 = 1 := by kernel_rfl
theorem Tryf.cells9 : Tryf.prog.cellsOf 9 = 1 := by kernel_rfl
/-- a slice of bytes that came in -/
theorem rd_of_arg {H : Type} {enc : TypeId × Value → H} {W : World} {base : Nat} {v : Value} {d : DataW H} {p : List MemPlace} (hv : Value.okWide Tryf.prog W .any base 22 v) (h : DataW.Trod enc Tryf.prog W 0 (fun _ => true) true 22 v d p) :
    ∃ a c l, v = .slice a l.length c ∧ Rd W v l ∧ l.length ≤ maxLen ∧ ∀ x ∈ l, 0 ≤ x ∧ x ≤ 255 := by
  obtain ⟨a, n, c, rfl⟩ := okWide_slice Tryf.underlying22 hv
  obtain ⟨fuel, hf⟩ := h
  rcases open_ints Tryf.underlying22 Tryf.underlying5 (by kernel_rfl) hf with ⟨hcs, _⟩ | ⟨x, l, c', zs, hcs, _, hl, hm, hz, _, hcell, hwz⟩
  · simp [Value.cells] at hcs
    obtain ⟨rfl, rfl, rfl⟩ := hcs
    exact ⟨none, 0, [], rfl, Or.inl ⟨rfl, rfl⟩, by simp, fun x hx => by cases hx⟩
  · simp [Value.cells] at hcs
    obtain ⟨rfl, rfl, rfl⟩ := hcs
    have hzl : zs.length = c := by simpa using hz
    have hlen : (zs.take n).length = n := by simp; omega
    refine ⟨some x, c, zs.take n, by rw [hlen], ?_, by omega, fun y hy => ?_⟩
    · by_cases h0 : n = 0
      · subst h0
        exact Or.inr (Or.inl ⟨x, c, rfl, by simp, hm⟩)
      · obtain ⟨b, off, spot⟩ := x
        have hc0 := hcell 0 (by omega)
        have hspot : spot = none := by simpa [Addr.add] using World.cell?_spot hc0
        subst hspot
        refine Or.inr (Or.inr ⟨b, off, n, c, rfl, hlen, by omega, hl, hm, fun j hj => ?_⟩)
        have := hcell j (by omega)
        rw [Addr.add_lit] at this
        rw [this]
        simp [List.getD, List.getElem?_take_of_lt hj]
    · have := hwz y (List.mem_of_mem_take hy)
      simp [Lit.wf, IntKind.min, IntKind.max, IntKind.signed, IntKind.bits] at this
      omega
end Go.Proofs.Qxb6616550aFmt
