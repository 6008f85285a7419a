/-
  DERIVED. 'Rows.FnWrittenOrdersAsVerbsSaid' PROVED. The frame is the given shell's (proof-skeleton.mjs); the walk is the prover's.
-/
import Derived.Test.Qxb6616684aRows
import Derived.WalkKit
import Derived.WalkSpells
import Derived.WalkLawsBesides
import Derived.BigQuiet
import Derived.ProofKit
import Derived.OpenShut
import Derived.ShutString
namespace Go.Proofs.Qxb6616684a.fnWrittenOrdersAsVerbs
open Go.ChangeShapes Go.WideShapes Go.ChangeAt Go.RowKit
open Go.ChangeMaps (open_string shut_string)
set_option linter.unusedVariables false

theorem own : ownKnob Try.prog.godebug = none := by kernel_rfl

theorem grown_drewN {W w' : World} (h : Grown W w') (n : Nat) : Grown W (w'.drewN n) := h
theorem hide {p : Prop} (h : p) : Hid p := h
theorem unhide {p : Prop} (h : Hid p) : p := h

set_option maxHeartbeats 1000000 in
theorem bytes_any (a0 a1 a2 a3 : ByteArray) (a4 a5 : Bool) (w0 : a0.size ≤ maxLen) (w1 : a1.size ≤ maxLen) (w2 : a2.size ≤ maxLen) (w3 : a3.size ≤ maxLen) (w : World) :
    Calls Try.prog 4 #[.string a0, .string a1, .string a2, .string a3, .bool a4, .bool a5] w fun e w' => ∃ b, e = .returned (.bool b) ∧ w' = w := by
  unfold maxLen at w0 w1 w2 w3
  go_enter Try.func4, Try.ntmps4
  go_wp2
  all_goals
    go_ret
    exact ⟨_, rfl, rfl⟩

abbrev PP : ByteArray := ⟨#[47, 47, 108, 101, 110, 99, 97, 112, 58]⟩
theorem pp_size (a : ByteArray) : (PP ++ a).size = 9 + a.size := by simp [PP]; rfl
theorem pp_list (a : ByteArray) : (PP ++ a).toList = [47, 47, 108, 101, 110, 99, 97, 112, 58] ++ a.toList := by
  rw [ByteArray.toList_eq, ByteArray.toList_eq]
  simp [PP]
theorem pp_ext (a : ByteArray) : (PP ++ a).extract 0 9 = PP := by
  apply ByteArray.ext
  simp [PP, ByteArray.data_extract]
theorem less_cons (c : UInt8) (x y : List UInt8) : Op.bytesLess (c :: x) (c :: y) = Op.bytesLess x y := by
  simp [Op.bytesLess]
theorem pp_less (a b : ByteArray) : Op.bytesLess (PP ++ a).toList (PP ++ b).toList = Op.bytesLess a.toList b.toList := by
  rw [pp_list, pp_list]
  simp only [List.cons_append, List.nil_append, less_cons]
theorem pp_eq (a b : ByteArray) : ((PP ++ a).toList == (PP ++ b).toList) = (a.toList == b.toList) := by
  rw [pp_list, pp_list]
  simp

set_option maxHeartbeats 2000000 in
theorem main_way (a0 a1 a2 a3 : ByteArray) (a4 a5 : Bool) (w0 : a0.size ≤ 65536) (w1 : a1.size ≤ 65536) (w2 : a2.size ≤ 65536) (w3 : a3.size ≤ 65536) (w : World) :
    Calls Try.prog 3 #[.string a0, .string a1, .string a2, .string a3, .bool a4, .bool a5] w fun e w' => e = .returned (.bool true) ∧ Grown w w' := by
  have i0 : (a0.size : Int) ≤ 65536 := by omega
  have i1 : (a1.size : Int) ≤ 65536 := by omega
  have i2 : (a2.size : Int) ≤ 65536 := by omega
  have i3 : (a3.size : Int) ≤ 65536 := by omega
  go_enter Try.func3, Try.ntmps3
  go_wp2_with (first | (go_at_call 4; go_must (refine (bytes_any a0 a1 a2 a3 a4 a5 (by unfold maxLen; omega) (by unfold maxLen; omega) (by unfold maxLen; omega) (by unfold maxLen; omega) _).mono ?_; rintro e w' ⟨b, rfl, rfl⟩)) | go_in)
  · go_ret
    exact ⟨rfl, Grown.refl _⟩
  · have e0 := pp_ext a0
    have e1 := pp_ext a1
    have z0 : (9 : Int) ≤ ((PP ++ a0).size : Int) := by rw [pp_size]; omega
    have z1 : (9 : Int) ≤ ((PP ++ a1).size : Int) := by rw [pp_size]; omega
    have q0 := pp_eq a0 a1
    have l0 := pp_less a0 a1
    generalize PP ++ a0 = S0 at *
    generalize PP ++ a1 = S1 at *
    have p0 : (PP.toList != PP.toList) = false := by simp
    go_quiet (fail)
    go_wp2
    go_ret
    exact ⟨rfl, grown_drewN (((Grown.refl _).alloc _ _).alloc _ _) _⟩

set_option maxHeartbeats 2000000 in
theorem early (a0 a1 a2 a3 : ByteArray) (a4 a5 : Bool) (w0 : a0.size ≤ maxLen) (w1 : a1.size ≤ maxLen) (w2 : a2.size ≤ maxLen) (w3 : a3.size ≤ maxLen) (h : ¬ (a0.size ≤ 65536 ∧ a1.size ≤ 65536 ∧ a2.size ≤ 65536 ∧ a3.size ≤ 65536)) (w : World) :
    Calls Try.prog 3 #[.string a0, .string a1, .string a2, .string a3, .bool a4, .bool a5] w fun e w' => e = .returned (.bool true) ∧ Grown w w' := by
  have i0 : (a0.size : Int) ≤ 9223372036854775807 := by unfold maxLen at w0; omega
  have i1 : (a1.size : Int) ≤ 9223372036854775807 := by unfold maxLen at w1; omega
  have i2 : (a2.size : Int) ≤ 9223372036854775807 := by unfold maxLen at w2; omega
  have i3 : (a3.size : Int) ≤ 9223372036854775807 := by unfold maxLen at w3; omega
  have B := hide (bytes_any a0 a1 a2 a3 a4 a5 w0 w1 w2 w3)
  clear w0 w1 w2 w3
  by_cases c0 : (65536 : Int) < (a0.size : Int)
  · clear h
    go_enter Try.func3, Try.ntmps3
    go_wp2_with (go_at_call 4; refine (unhide B _).mono ?_; rintro e w' ⟨b, rfl, rfl⟩)
    all_goals
      go_ret
      exact ⟨rfl, Grown.refl _⟩
  by_cases c1 : (65536 : Int) < (a1.size : Int)
  · clear h
    go_enter Try.func3, Try.ntmps3
    go_wp2_with (go_at_call 4; refine (unhide B _).mono ?_; rintro e w' ⟨b, rfl, rfl⟩)
    all_goals
      go_ret
      exact ⟨rfl, Grown.refl _⟩
  by_cases c2 : (65536 : Int) < (a2.size : Int)
  · clear h
    go_enter Try.func3, Try.ntmps3
    go_wp2_with (go_at_call 4; refine (unhide B _).mono ?_; rintro e w' ⟨b, rfl, rfl⟩)
    all_goals
      go_ret
      exact ⟨rfl, Grown.refl _⟩
  have c3 : (65536 : Int) < (a3.size : Int) := by omega
  clear h
  go_enter Try.func3, Try.ntmps3
  go_wp2_with (go_at_call 4; refine (unhide B _).mono ?_; rintro e w' ⟨b, rfl, rfl⟩)
  all_goals
    go_ret
    exact ⟨rfl, Grown.refl _⟩

theorem walk (a0 : ByteArray) (a1 : ByteArray) (a2 : ByteArray) (a3 : ByteArray) (a4 : Bool) (a5 : Bool) (w0 : a0.size ≤ maxLen) (w1 : a1.size ≤ maxLen) (w2 : a2.size ≤ maxLen) (w3 : a3.size ≤ maxLen) (w : World) :
    Calls Try.prog 3 #[.string a0, .string a1, .string a2, .string a3, .bool a4, .bool a5] w fun e w' => e = .returned (.bool true) ∧ Grown w w' := by
  by_cases h : a0.size ≤ 65536 ∧ a1.size ≤ 65536 ∧ a2.size ≤ 65536 ∧ a3.size ≤ 65536
  · exact main_way a0 a1 a2 a3 a4 a5 h.1 h.2.1 h.2.2.1 h.2.2.2 w
  · exact early a0 a1 a2 a3 a4 a5 w0 w1 w2 w3 h w

/-! ### THE ROW's STEP: WRITTEN OUT: LEAVE IT -/
set_option maxRecDepth 100000 in
theorem lifted (os : Os) (started : os.Started) (H : Type) (enc : TypeId × Value → H) :
    ReturnsInHanded {} Try.checked os 3 .any (Rows.fnWrittenOrdersAsVerbsSpec.pre6 enc Try.prog Try.f3 Rows.fnWrittenOrdersAsVerbsRow.domain false) (Rows.fnWrittenOrdersAsVerbsSpec.post enc Try.prog Try.f3 false true false false) := by
  refine returnsInHanded_of_change (C := Try.checked) own started (by kernel_rfl) Try.func3
    (ChangeSpec.witness6 (enc := enc) (C := Try.checked) false ⟨#[], #[.string ByteArray.empty, .string ByteArray.empty, .string ByteArray.empty, .string ByteArray.empty, .bool false, .bool false], []⟩ 8 (by kernel_rfl) (by kernel_rfl) (by kernel_rfl) (by kernel_rfl)) ?_
  intro W base args ds gs before hval0 hW hcnd _
  have hval : ∀ (j : Nat) t v, Try.f3.params[j]? = some t → args[j]? = some v → Value.okWide Try.prog W .any base t v := hval0
  have hW' := hW
  obtain ⟨p, q, hA0, hV, rfl, hfz, hnd⟩ := hW
  have hA : DataW.TrodAll enc Try.prog W 0 (fun _ => true) true Try.f3.params.toList args.toList ds p := hA0
  rw [Try.params3] at hA hval
  obtain ⟨v0, vs0, d0, ds0, p0, q0, hargs, rfl, rfl, h0, r0⟩ := trodAll_cons hA
  obtain ⟨v1, vs1, d1, ds1, p1, q1, rfl, rfl, rfl, h1, r1⟩ := trodAll_cons r0
  obtain ⟨v2, vs2, d2, ds2, p2, q2, rfl, rfl, rfl, h2, r2⟩ := trodAll_cons r1
  obtain ⟨v3, vs3, d3, ds3, p3, q3, rfl, rfl, rfl, h3, r3⟩ := trodAll_cons r2
  obtain ⟨v4, vs4, d4, ds4, p4, q4, rfl, rfl, rfl, h4, r4⟩ := trodAll_cons r3
  obtain ⟨v5, vs5, d5, ds5, p5, q5, rfl, rfl, rfl, h5, r5⟩ := trodAll_cons r4
  obtain ⟨rfl, rfl, rfl⟩ := trodAll_nil r5
  obtain rfl : args = #[v0, v1, v2, v3, v4, v5] := by cases args; simp_all
  obtain ⟨rfl, rfl⟩ := trodVars_none hV
  obtain ⟨a0, rfl, rfl, rfl, w0⟩ := open_string Try.underlying9 (hval 0 9 v0 rfl rfl) h0
  obtain ⟨a1, rfl, rfl, rfl, w1⟩ := open_string Try.underlying9 (hval 1 9 v1 rfl rfl) h1
  obtain ⟨a2, rfl, rfl, rfl, w2⟩ := open_string Try.underlying9 (hval 2 9 v2 rfl rfl) h2
  obtain ⟨a3, rfl, rfl, rfl, w3⟩ := open_string Try.underlying9 (hval 3 9 v3 rfl rfl) h3
  obtain ⟨a4, rfl, rfl, rfl⟩ := open_bool Try.underlying4 (hval 4 4 v4 rfl rfl) h4
  obtain ⟨a5, rfl, rfl, rfl⟩ := open_bool Try.underlying4 (hval 5 4 v5 rfl rfl) h5
  clear hA0 hval0
  simp only [List.append_nil] at hW'
  refine (walk a0 a1 a2 a3 a4 a5 w0 w1 w2 w3 W).mono fun e W' ⟨he, hg⟩ => ?_
  subst he
  exact ⟨_, rfl, post_of_same (pa := []) (pv := []) hW' (fun _ _ _ => (trodAll_cons_mk (shut_bool Try.underlying4 _) trodAll_mk0)) (fun sp _ => (trodAll_cons_mk (shut_string Try.underlying9 w0) (trodAll_cons_mk (shut_string Try.underlying9 w1) (trodAll_cons_mk (shut_string Try.underlying9 w2) (trodAll_cons_mk (shut_string Try.underlying9 w3) (trodAll_cons_mk (shut_bool Try.underlying4 _) (trodAll_cons_mk (shut_bool Try.underlying4 _) trodAll_mk0))))))) (fun _ _ => rfl) rfl
    (hg.frame _) hg.2.1 (ok_one (by kernel_rfl) rfl (okWide_bool_mk Try.underlying4 _))⟩

theorem over : Rows.fnWrittenOrdersAsVerbsRow.holds Try.pinned (OpenSpec.ofChange Rows.fnWrittenOrdersAsVerbsSpec) :=
  OpenClaim.holds_of_wide 3 Try.f3 rfl rfl rfl rfl rfl rfl rfl ⟨rfl, rfl, rfl, rfl, rfl⟩ rfl rfl rfl rfl rfl (by kernel_rfl) Try.func3 (by kernel_rfl)
    (of_decide_eq_true (by kernel_rfl)) (by unfold Func.isWrapper; first | (rw [if_pos (by decide +kernel)]; kernel_rfl) | (rw [if_neg (by decide +kernel)]; exact ⟨rfl, rfl⟩))
    (fun os started H enc _ => lifted os started H enc)

/-- ████ THE STATEMENT ████ -/
theorem proved : Rows.FnWrittenOrdersAsVerbsSaid :=
  over
#print axioms proved
end Go.Proofs.Qxb6616684a.fnWrittenOrdersAsVerbs
