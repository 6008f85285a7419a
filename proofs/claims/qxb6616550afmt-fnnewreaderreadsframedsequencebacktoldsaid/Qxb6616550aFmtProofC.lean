/-
  DERIVED. THE TOLD AND TIED CARD OF FnNewReaderReadsFramedSequenceBack: every input.
-/
import Derived.Test.Qxb6616550aFmtLawC
import Derived.Test.Qxb6616550aFmtKit
import Derived.Deep.Matrix
namespace Go.Proofs.Qxb6616550aFmt
open Go.ChangeShapes Go.WideShapes Go.ChangeAt Go.RowKit Go.Kit
open Go.Extern.Stop Go.Stop Go.Extern

abbrev specC : OpenSpec := OpenSpec.ofChange Rows.fnNewReaderReadsFramedSequenceBackSpec

/-- a slice of slices of bytes that came in, not empty -/
theorem ps_of_arg {H : Type} {enc : TypeId × Value → H} {W : World} {fuel : Nat} {ao : Option Addr} {N c : Nat} {x : DataW H × List MemPlace} (h : DataW.trod enc Tryf.prog W 0 (fun _ => true) true fuel 38 (Value.slice ao N c).cells.toList = some x) (hN : N ≠ 0) :
    ∃ b off A C L, ao = some ⟨b, off, none⟩ ∧ PS W b off N A C L ∧ N ≤ maxLen := by
  rcases Go.Deep.open_int_rows Tryf.underlying38 Tryf.underlying22 Tryf.underlying5 (by kernel_rfl) (by kernel_rfl) h with ⟨hcs, _⟩ | ⟨a, len, cap, A, L, C, Z, hcs, _, hl, hm, _, hr⟩
  · simp [Value.cells] at hcs
    exact absurd hcs.2.1 hN
  · simp [Value.cells] at hcs
    obtain ⟨rfl, rfl, rfl⟩ := hcs
    obtain ⟨b, off, spot⟩ := a
    have hspot : spot = none := by simpa [Addr.add] using World.cell?_spot (hr 0 (by omega)).1
    subst hspot
    have hlen : ∀ r, r < N → ((Z r).take (L r)).length = L r := fun r hrN => by
      obtain ⟨_, h1, _, h3, _⟩ := hr r (by omega)
      simp; omega
    refine ⟨b, off, A, C, fun r => (Z r).take (L r), rfl, ⟨fun j hj => ?_, fun j hj => ?_, fun j hj => ?_⟩, by omega⟩
    · obtain ⟨hc, _⟩ := hr j (by omega)
      rw [Addr.add_lit] at hc
      show W.cell? _ = some (.slice (A j) ((Z j).take (L j)).length (C j))
      rw [hlen j hj]
      exact hc
    · show Rd W (.slice (A j) ((Z j).take (L j)).length (C j)) ((Z j).take (L j))
      obtain ⟨_, h1, h2, h3, _, h5, h6⟩ := hr j (by omega)
      rw [hlen j hj]
      cases hA : A j with
      | none =>
        have h0 := h5 hA
        have hL0 : L j = 0 := by omega
        rw [h0, hL0]
        exact Or.inl ⟨rfl, by simp⟩
      | some y =>
        obtain ⟨_, hcell⟩ := h6 y hA
        by_cases hL0 : L j = 0
        · rw [hL0]
          exact Or.inr (Or.inl ⟨y, C j, rfl, by simp, h2⟩)
        · obtain ⟨b', off', spot'⟩ := y
          have hspot : spot' = none := by simpa [Addr.add] using World.cell?_spot (hcell 0 (by omega))
          subst hspot
          refine Or.inr (Or.inr ⟨b', off', L j, C j, rfl, hlen j hj, by omega, h1, h2, fun i hi => ?_⟩)
          have := hcell i (by omega)
          rw [Addr.add_lit] at this
          rw [this]
          simp [List.getD, List.getElem?_take_of_lt hi]
    · show ((Z j).take (L j)).length ≤ maxLen
      rw [hlen j hj]
      obtain ⟨_, h1, h2, _⟩ := hr j (by omega)
      omega

set_option maxRecDepth 100000 in
set_option maxHeartbeats 1600000 in
theorem liftedC (os : Os) (started : os.Started) (H : Type) (enc : TypeId × Value → H) :
    ReturnsInTold none {} Tryf.checked os 6 .any Input.okWide (specC.preRow enc Tryf.prog Tryf.f6 [] false Rows.fnNewReaderReadsFramedSequenceBackRow.laid) (fun F => (specC.at F).post enc Tryf.prog Tryf.f6 false true false false) (aloneAtReturn Tryf.prog) nothingAlways := by
  refine returnsInTold_of_row (C := Tryf.checked) (s := specC) (by kernel_rfl) Tryf.own started (by kernel_rfl) Tryf.func6
    (OpenSpec.witness_stopped_at (enc := enc) (C := Tryf.checked) false
      { World.holding Tryf.prog os ⟨#[.cells #[.string ⟨#[102, 105, 101, 108, 100, 32, 114, 117, 110, 115, 32, 112, 97, 115, 116, 32, 116, 104, 101, 32, 101, 110, 100, 32, 111, 102, 32, 116, 104, 101, 32, 109, 101, 115, 115, 97, 103, 101]⟩] 55], #[], []⟩ with
        heap := (World.holding Tryf.prog os ⟨#[.cells #[.string ⟨#[102, 105, 101, 108, 100, 32, 114, 117, 110, 115, 32, 112, 97, 115, 116, 32, 116, 104, 101, 32, 101, 110, 100, 32, 111, 102, 32, 116, 104, 101, 32, 109, 101, 115, 115, 97, 103, 101]⟩] 55], #[], []⟩).heap.modify 1 fun
          | .cells _ t frozen => .cells #[.iface 53 (.pointer (some ⟨(World.holding Tryf.prog default ⟨#[], #[], []⟩).heap.size, 0, none⟩))] t frozen
          | o => o }
      #[.slice none 0 0] rfl (by kernel_rfl) (by kernel_rfl) (by kernel_rfl)
      (OpenSpec.preRow_of_B rfl 8 (by kernel_rfl) (by kernel_rfl) (laidMet_of_run (ps := [.cell 1 0, .cell (World.holding Tryf.prog default ⟨#[], #[], []⟩).heap.size 0]) 8 (by kernel_rfl) (by kernel_rfl) (by kernel_rfl)))) ?_
  intro F W base args ds gs before _ hF hval0 hW _ _ _ hL _
  have hval : ∀ (j : Nat) t v, Tryf.f6.params[j]? = some t → args[j]? = some v → Value.okWide Tryf.prog W .any base t v := hval0
  have hW' := hW
  obtain ⟨p, q, hA0, hV0, rfl, hfz, hnd⟩ := hW
  have hA : DataW.TrodAll enc Tryf.prog W 0 (fun _ => true) true Tryf.f6.params.toList args.toList ds p := hA0
  have hV : DataW.TrodVars enc Tryf.prog W (fun _ => true) [Rows.fnAppendUint32ReadsBackThroughUint32Spec.vars.headD ""] gs q := hV0
  rw [Tryf.params6] at hA hval
  obtain ⟨v0, d0, rfl, rfl, h0⟩ := trodAll_one hA
  obtain ⟨a1, s1, hv1, hc1, hs1, hz1⟩ := laid_sentinel hL Tryf.gE Tryf.gEType Tryf.underlying31 (fun u h => typeName_ptr_named (nm := "errors.errorString") (by kernel_rfl) (by kernel_rfl) (by decide) u (h.trans (by kernel_rfl))) Tryf.underlying53 Tryf.underlying55 rfl rfl Tryf.underlying9 Tryf.cells55 Tryf.cells9
  obtain ⟨rfl, rfl⟩ := hV.unique (vars_read1 enc Tryf.gE Tryf.gEType Tryf.underlying31 hv1 trivial _)
  have lt0 : ∀ y ∈ p, y.block < W.heap.size := by obtain ⟨m, hm⟩ := h0; exact DataW.trod_lt m _ _ _ hm
  have hg1 : W.cell? ⟨1, 0, none⟩ = some (.iface 53 (.pointer (some a1))) := by simpa using World.var?_cell Tryf.gE hv1 0
  have h1lt : 1 < W.heap.size := cell_lt hg1
  clear hA0 hV0 hval0
  obtain ⟨ao, N, c, rfl⟩ := okWide_slice Tryf.underlying38 (hval 0 38 v0 rfl rfl)
  have hwalk : Calls Tryf.prog 6 #[.slice ao N c] W fun e w' => e = .returned (.bool true) ∧ Below W.heap.size W w' := by
    obtain ⟨fuel, hf⟩ := h0
    by_cases hN : N = 0
    · subst hN
      exact law3_zero W ao c a1 s1 hg1 hc1
    obtain ⟨b, off, A, C, L, rfl, hps, hm⟩ := ps_of_arg hf hN
    exact law3_row W b off N c A C L hps hm (by omega) a1 s1 hg1 hc1
  refine hwalk.mono fun e W' ⟨he, hB⟩ => ?_
  subst he
  exact ⟨_, rfl, _, _, _, [], _, [.cell 1 0], hW', trodAll_cons_mk (shut_bool Tryf.underlying4 _) trodAll_mk0,
    trodAll_cons_mk (Below.trod Tryf.laidOut' (by kernel_rfl) (of_decide_eq_true (by kernel_rfl)) h0 hB lt0) trodAll_mk0,
    vars_read1 enc Tryf.gE Tryf.gEType Tryf.underlying31 (var?_below hB Tryf.gE h1lt hv1) trivial _, hB.frame _, fun h => by cases h⟩

/-- THE STATEMENT -/
theorem newreader_reads_back : Rows.FnNewReaderReadsFramedSequenceBackToldSaid :=
  Claim7.holds_of_told_tied_any_at .later 6 Tryf.f6 "fmt.errorf" [] [] _ _ _ _ _ (by kernel_rfl) rfl rfl rfl Tryf.laidOut (by kernel_rfl) rfl ⟨rfl, rfl, rfl, rfl, rfl, rfl, rfl⟩ rfl rfl (by kernel_rfl) (by kernel_rfl) Tryf.func6 (by kernel_rfl)
    (of_decide_eq_true (by kernel_rfl)) (of_decide_eq_true (by kernel_rfl)) Tryf.stops.symm rfl Tryf.stopKnobs.symm (by kernel_rfl)
    (by kernel_rfl) (by kernel_rfl) (by kernel_rfl) (by kernel_rfl) (by kernel_rfl) (by kernel_rfl) (by kernel_rfl) (by kernel_rfl) (by kernel_rfl) rfl (by kernel_rfl) rfl rfl
    rfl rfl
    rfl (by kernel_rfl) (by kernel_rfl) (by kernel_rfl) (by decide) (by kernel_rfl) fnNewReaderReadsFramedSequenceBack_row_tie
    (OpenClaim.moreEntering_of (by kernel_rfl) (by kernel_rfl) (by kernel_rfl) (by kernel_rfl) (by kernel_rfl) (by kernel_rfl) (by kernel_rfl) (by kernel_rfl) (by kernel_rfl) (by kernel_rfl))
    ⟨_, WideRow.started_initial, Tryf.quiet _⟩
    (fun os started _ H enc _ => liftedC os started H enc)

#print axioms newreader_reads_back
end Go.Proofs.Qxb6616550aFmt
