/-
  DERIVED. THE TOLD AND TIED CARD OF FnStringRefusesEveryProperPrefix: every input.
-/
import Derived.Test.Qxb6616550aFmtLawD
import Derived.Test.Qxb6616550aFmtKit
namespace Go.Proofs.Qxb6616550aFmt
open Go.ChangeShapes Go.WideShapes Go.ChangeAt Go.RowKit Go.Kit
open Go.Extern.Stop Go.Stop Go.Extern

abbrev specD : OpenSpec := OpenSpec.ofChange Rows.fnStringRefusesEveryProperPrefixSpec

set_option maxRecDepth 100000 in
set_option maxHeartbeats 1600000 in
theorem liftedD (os : Os) (started : os.Started) (H : Type) (enc : TypeId × Value → H) :
    ReturnsInTold none {} Tryf.checked os 5 .any Input.okWide (specD.preRow enc Tryf.prog Tryf.f5 [] false Rows.fnStringRefusesEveryProperPrefixRow.laid) (fun F => (specD.at F).post enc Tryf.prog Tryf.f5 false true false false) (aloneAtReturn Tryf.prog) nothingAlways := by
  refine returnsInTold_of_row (C := Tryf.checked) (s := specD) (by kernel_rfl) Tryf.own started (by kernel_rfl) Tryf.func5
    (OpenSpec.witness_stopped_at (enc := enc) (C := Tryf.checked) false
      { World.holding Tryf.prog os ⟨#[.cells #[.string ⟨#[102, 105, 101, 108, 100, 32, 114, 117, 110, 115, 32, 112, 97, 115, 116, 32, 116, 104, 101, 32, 101, 110, 100, 32, 111, 102, 32, 116, 104, 101, 32, 109, 101, 115, 115, 97, 103, 101]⟩] 55], #[], []⟩ with
        heap := (World.holding Tryf.prog os ⟨#[.cells #[.string ⟨#[102, 105, 101, 108, 100, 32, 114, 117, 110, 115, 32, 112, 97, 115, 116, 32, 116, 104, 101, 32, 101, 110, 100, 32, 111, 102, 32, 116, 104, 101, 32, 109, 101, 115, 115, 97, 103, 101]⟩] 55], #[], []⟩).heap.modify 1 fun
          | .cells _ t frozen => .cells #[.iface 53 (.pointer (some ⟨(World.holding Tryf.prog default ⟨#[], #[], []⟩).heap.size, 0, none⟩))] t frozen
          | o => o }
      #[.slice none 0 0, .int .i64 0] rfl (by kernel_rfl) (by kernel_rfl) (by kernel_rfl)
      (OpenSpec.preRow_of_B rfl 8 (by kernel_rfl) (by kernel_rfl) (laidMet_of_run (ps := [.cell 1 0, .cell (World.holding Tryf.prog default ⟨#[], #[], []⟩).heap.size 0]) 8 (by kernel_rfl) (by kernel_rfl) (by kernel_rfl)))) ?_
  intro F W base args ds gs before _ hF hval0 hW _ _ _ hL _
  have hval : ∀ (j : Nat) t v, Tryf.f5.params[j]? = some t → args[j]? = some v → Value.okWide Tryf.prog W .any base t v := hval0
  have hW' := hW
  obtain ⟨p, q, hA0, hV0, rfl, hfz, hnd⟩ := hW
  have hA : DataW.TrodAll enc Tryf.prog W 0 (fun _ => true) true Tryf.f5.params.toList args.toList ds p := hA0
  have hV : DataW.TrodVars enc Tryf.prog W (fun _ => true) [Rows.fnAppendUint32ReadsBackThroughUint32Spec.vars.headD ""] gs q := hV0
  rw [Tryf.params5] at hA hval
  obtain ⟨v0, v1, d0, d1, p0, p1, rfl, rfl, rfl, h0, h1⟩ := trodAll_two hA
  obtain ⟨a1, s1, hv1, hc1, hs1, hz1⟩ := laid_sentinel hL Tryf.gE Tryf.gEType Tryf.underlying31 (fun u h => typeName_ptr_named (nm := "errors.errorString") (by kernel_rfl) (by kernel_rfl) (by decide) u (h.trans (by kernel_rfl))) Tryf.underlying53 Tryf.underlying55 rfl rfl Tryf.underlying9 Tryf.cells55 Tryf.cells9
  obtain ⟨rfl, rfl⟩ := hV.unique (vars_read1 enc Tryf.gE Tryf.gEType Tryf.underlying31 hv1 trivial _)
  obtain ⟨ao, c, l, rfl, hrd, hlm, _⟩ := rd_of_arg (hval 0 22 v0 rfl rfl) h0
  obtain ⟨x, rfl, rfl, rfl, wx⟩ := open_int Tryf.underlying3 (hval 1 3 v1 rfl rfl) h1
  have lt0 : ∀ y ∈ p0, y.block < W.heap.size := by obtain ⟨m, hm⟩ := h0; exact DataW.trod_lt m _ _ _ hm
  have bx : -9223372036854775808 ≤ x ∧ x ≤ 9223372036854775807 := by have := wx; simp [Lit.wf, IntKind.min, IntKind.max, IntKind.signed, IntKind.bits] at this; omega
  have hg1 : W.cell? ⟨1, 0, none⟩ = some (.iface 53 (.pointer (some a1))) := by simpa using World.var?_cell Tryf.gE hv1 0
  have h1lt : 1 < W.heap.size := cell_lt hg1
  clear hA0 hV0 hval0
  have hwalk : Calls Tryf.prog 5 #[.slice ao l.length c, .int .i64 x] W fun e w' => e = .returned (.bool true) ∧ Below W.heap.size W w' := by
    by_cases hn : 1048576 < l.length ∨ x < 0 ∨ (l.length : Int) + 4 < x
    · exact law4_early W ao l.length c x hlm bx.1 bx.2 hn
    · obtain ⟨k, hk⟩ := Int.eq_ofNat_of_zero_le (show 0 ≤ x by omega)
      rw [hk]
      exact law4_row W ao c k l hrd (by omega) (by omega) a1 s1 hg1 hc1
  refine hwalk.mono fun e W' ⟨he, hB⟩ => ?_
  subst he
  exact ⟨_, rfl, _, _, _, [], _, [.cell 1 0], hW', trodAll_cons_mk (shut_bool Tryf.underlying4 _) trodAll_mk0,
    trodAll_mk2 (Below.trod Tryf.laidOut' (by kernel_rfl) (of_decide_eq_true (by kernel_rfl)) h0 hB lt0) (shut_int Tryf.underlying3 wx),
    vars_read1 enc Tryf.gE Tryf.gEType Tryf.underlying31 (var?_below hB Tryf.gE h1lt hv1) trivial _, hB.frame _, fun h => by cases h⟩

/-- THE STATEMENT -/
theorem string_refuses_prefix : Rows.FnStringRefusesEveryProperPrefixToldSaid :=
  Claim7.holds_of_told_tied_any_at .later 5 Tryf.f5 "fmt.errorf" [] [] _ _ _ _ _ (by kernel_rfl) rfl rfl rfl Tryf.laidOut (by kernel_rfl) rfl ⟨rfl, rfl, rfl, rfl, rfl, rfl, rfl⟩ rfl rfl (by kernel_rfl) (by kernel_rfl) Tryf.func5 (by kernel_rfl)
    (of_decide_eq_true (by kernel_rfl)) (of_decide_eq_true (by kernel_rfl)) Tryf.stops.symm rfl Tryf.stopKnobs.symm (by kernel_rfl)
    (by kernel_rfl) (by kernel_rfl) (by kernel_rfl) (by kernel_rfl) (by kernel_rfl) (by kernel_rfl) (by kernel_rfl) (by kernel_rfl) (by kernel_rfl) rfl (by kernel_rfl) rfl rfl
    rfl rfl
    rfl (by kernel_rfl) (by kernel_rfl) (by kernel_rfl) (by decide) (by kernel_rfl) fnStringRefusesEveryProperPrefix_row_tie
    (OpenClaim.moreEntering_of (by kernel_rfl) (by kernel_rfl) (by kernel_rfl) (by kernel_rfl) (by kernel_rfl) (by kernel_rfl) (by kernel_rfl) (by kernel_rfl) (by kernel_rfl) (by kernel_rfl))
    ⟨_, WideRow.started_initial, Tryf.quiet _⟩
    (fun os started _ H enc _ => liftedD os started H enc)

#print axioms string_refuses_prefix
end Go.Proofs.Qxb6616550aFmt
