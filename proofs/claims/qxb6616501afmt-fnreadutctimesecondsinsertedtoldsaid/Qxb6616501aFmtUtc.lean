/-
  DERIVED. THE WALK of (*timeFields).readUTCTime (function 15). (Laid by a small script of the prover's own: the same few lines for each of the five numbers.)
-/
import Derived.Test.Qxb6616501aFmtZone
namespace Go.Proofs.Qxb6616501aFmt
open Go.RowKit Go.Extern.Stop Go.Stop Go.Extern
set_option linter.unusedVariables false

def yr (v : Int) : Int := if v < 50 then 1900 + v + 100 else 1900 + v
def pre (s : ByteArray) (p : Nat) : Bool := two s p && two s (p + 2) && two s (p + 4) && two s (p + 6) && two s (p + 8)
def tailR (s : ByteArray) (p : Nat) (sec0 o0 : Int) : Option (Int × Int × Int × Int × Nat) :=
  if isDig s (p + 10) then
    if two s (p + 10) then (zoneR s (p + 12) o0).map (fun r => (val s (p + 10) 2, 1, r.1, r.2.1, 12 + r.2.2)) else none
  else (zoneR s (p + 10) o0).map (fun r => (sec0, 60, r.1, r.2.1, 10 + r.2.2))

abbrev fAny (w : World) (g : Nat) : Prop := ∃ (y mo d h mi sec un : Int) (x7 x8 : Value) (z o : Int), fld w g y mo d h mi sec un x7 x8 z o
theorem fAny_set {w : World} {g : Nat} (H : fAny w g) (k : Nat) (hk : k < 7) (v : Int) : fAny (w.setCell ⟨g, k, none⟩ (.int .i64 v)) g := by
  obtain ⟨y, mo, d, h, mi, sec, un, x7, x8, z, o, hf⟩ := H
  match k, hk with
  | 0, _ => exact ⟨v, mo, d, h, mi, sec, un, x7, x8, z, o, set_at hf 0 _⟩
  | 1, _ => exact ⟨y, v, d, h, mi, sec, un, x7, x8, z, o, set_at hf 1 _⟩
  | 2, _ => exact ⟨y, mo, v, h, mi, sec, un, x7, x8, z, o, set_at hf 2 _⟩
  | 3, _ => exact ⟨y, mo, d, v, mi, sec, un, x7, x8, z, o, set_at hf 3 _⟩
  | 4, _ => exact ⟨y, mo, d, h, v, sec, un, x7, x8, z, o, set_at hf 4 _⟩
  | 5, _ => exact ⟨y, mo, d, h, mi, v, un, x7, x8, z, o, set_at hf 5 _⟩
  | 6, _ => exact ⟨y, mo, d, h, mi, sec, v, x7, x8, z, o, set_at hf 6 _⟩

theorem sc_far {w : World} {b g : Nat} (hne : g ≠ b) {x : Option Obj} (k : Nat) (v : Value) (h : w.heap[b]? = x) : (w.setCell ⟨g, k, none⟩ v).heap[b]? = x := (set_far hne.symm _ _).trans h

theorem hide {p : Prop} (h : p) : Hid p := h
theorem unhide {p : Prop} (h : Hid p) : p := h
theorem zoneR_end {s : ByteArray} {q : Nat} {o : Int} (h : q = s.size) : zoneR s q o = none := by
  have e : s[q]? = none := by simp [h]
  simp only [zoneR, e]

set_option maxHeartbeats 400000 in
theorem errNew (w : World) (t : ByteArray) :
    Calls Tryf.prog 19 #[.string t] w fun e w' => ∃ a, e = .returned (.iface 47 (.pointer (some a))) ∧ Below w.heap.size w w' := by
  go_enter Tryf.func19, Tryf.ntmps19
  go_wp2
  go_ret
  exact ⟨_, rfl, (Below.refl _ _).alloc (Nat.le_refl _) _⟩

set_option maxHeartbeats 10000000 in
theorem utc_any (w : World) (b g : Nat) (hne : g ≠ b) (s : ByteArray) (p : Nat) (y mo d h mi sec un : Int) (x7 x8 : Value) (z o : Int) (hb : scOk w b s p) (hg : fld w g y mo d h mi sec un x7 x8 z o) (hs : s.size ≤ 2097152) (hp : p ≤ s.size) :
    Calls Tryf.prog 15 #[.pointer (some ⟨g, 0, none⟩), .pointer (some ⟨b, 0, none⟩)] w fun e w' => e = .returned (.tuple #[]) ∧ But2 b g w w' ∧
      (((pre s p = false ∨ tailR s p sec o = none) ∧ scBad w' b s ∧ fAny w' g) ∨
       (pre s p = true ∧ ∃ sec' un' z' o' n, tailR s p sec o = some (sec', un', z', o', n) ∧ scOk w' b s (p + n) ∧ fld w' g (yr (val s p 2)) (val s (p + 2) 2) (val s (p + 4) 2) (val s (p + 6) 2) (val s (p + 8) 2) sec' un' x7 x8 z' o')) := by
  have HK : Hid (scOk w b s p) := hb
  have HF : Hid (fld w g y mo d h mi sec un x7 x8 z o) := hg
  have HB : Hid (But2 b g w w) := But2.refl b g w
  clear hb hg
  go_enter Tryf.func15, Tryf.ntmps15
  go_wp2_with fail
  refine (number_any w b s p _ HK.out hs hp (by decide)).mono ?_
  rintro e w1 ⟨v0, rfl, hbut, hg⟩
  have HF' : Hid (fld w1 g y mo d h mi sec un x7 x8 z o) := (hbut.block g (heap_lt HF.out) hne).trans HF.out
  have HB' : Hid (But2 b g w w1) := HB.out.but hbut
  clear hbut HF HB HK
  have HF := HF'; have HB := HB'; clear HF' HB'
  rcases hg with hg | hg
  · obtain ⟨hv, hh, hd⟩ := hg
    have hvb := val_bd s p 2 hd (by omega)
    have T0 : Hid (two s p = true) := two_true hd
    have V0 : Hid (v0 = val s p 2) := hv
    have lo0 : 0 ≤ v0 := by rw [hv]; exact hvb.1
    have hi0 : v0 ≤ 99 := by rw [hv]; exact hvb.2.1
    have hp1 : p + 2 ≤ s.size := by obtain ⟨h, _⟩ := dig_bd (hd 1 (by omega)); omega
    have HK : Hid (scOk w1 b s (p + 2)) := hh
    clear hv hh hd hvb
    have fc := (cell_at HF.out 0).trans (by rfl : _ = some (Value.int .i64 y))
    have fz := frozen_at HF.out 0
    by_cases h50 : v0 < 50
    · go_wp2_with fail
      have HB' : Hid (But2 b g w ((w1.setCell ⟨g, 0, none⟩ (.int .i64 (1900 + v0))).setCell ⟨g, 0, none⟩ (.int .i64 (1900 + v0 + 100)))) := (HB.out.set2 _ _).set2 _ _
      have HK' : Hid (scOk ((w1.setCell ⟨g, 0, none⟩ (.int .i64 (1900 + v0))).setCell ⟨g, 0, none⟩ (.int .i64 (1900 + v0 + 100))) b s (p + 2)) := sc_far hne _ _ (sc_far hne _ _ HK.out)
      have HF' : Hid (fld ((w1.setCell ⟨g, 0, none⟩ (.int .i64 (1900 + v0))).setCell ⟨g, 0, none⟩ (.int .i64 (1900 + v0 + 100))) g (yr v0) mo d h mi sec un x7 x8 z o) := by rw [show yr v0 = 1900 + v0 + 100 from if_pos (by omega)]; exact set_at (set_at HF.out 0 _) 0 _
      clear HB HK HF fc fz
      generalize ((w1.setCell ⟨g, 0, none⟩ (.int .i64 (1900 + v0))).setCell ⟨g, 0, none⟩ (.int .i64 (1900 + v0 + 100))) = u0 at *
      have HB := HB'; have HK := HK'; have HF := HF'; clear HB' HK' HF'
      refine (number_any u0 b s (p + 2) _ HK.out hs hp1 (by decide)).mono ?_
      rintro e w2 ⟨v1, rfl, hbut, hg⟩
      have HF' : Hid (fld w2 g (yr v0) mo d h mi sec un x7 x8 z o) := (hbut.block g (heap_lt HF.out) hne).trans HF.out
      have HB' : Hid (But2 b g w w2) := HB.out.but hbut
      clear hbut HF HB HK
      have HF := HF'; have HB := HB'; clear HF' HB'
      rcases hg with hg | hg
      · obtain ⟨hv, hh, hd⟩ := hg
        have hvb := val_bd s (p + 2) 2 hd (by omega)
        have T1 : Hid (two s (p + 2) = true) := two_true hd
        have V1 : Hid (v1 = val s (p + 2) 2) := hv
        have lo1 : 0 ≤ v1 := by rw [hv]; exact hvb.1
        have hi1 : v1 ≤ 99 := by rw [hv]; exact hvb.2.1
        have hp2 : p + 4 ≤ s.size := by obtain ⟨h, _⟩ := dig_bd (hd 1 (by omega)); omega
        have HK : Hid (scOk w2 b s (p + 4)) := hh
        clear hv hh hd hvb
        have fc := (cell_at HF.out 1).trans (by rfl : _ = some (Value.int .i64 mo))
        have fz := frozen_at HF.out 1
        go_wp2_with fail
        have HB' : Hid (But2 b g w (w2.setCell ⟨g, 1, none⟩ (.int .i64 v1))) := HB.out.set2 _ _
        have HK' : Hid (scOk (w2.setCell ⟨g, 1, none⟩ (.int .i64 v1)) b s (p + 4)) := sc_far hne _ _ HK.out
        have HF' : Hid (fld (w2.setCell ⟨g, 1, none⟩ (.int .i64 v1)) g (yr v0) v1 d h mi sec un x7 x8 z o) := set_at HF.out 1 _
        clear HB HK HF fc fz
        generalize (w2.setCell ⟨g, 1, none⟩ (.int .i64 v1)) = u1 at *
        have HB := HB'; have HK := HK'; have HF := HF'; clear HB' HK' HF'
        refine (number_any u1 b s (p + 4) _ HK.out hs hp2 (by decide)).mono ?_
        rintro e w3 ⟨v2, rfl, hbut, hg⟩
        have HF' : Hid (fld w3 g (yr v0) v1 d h mi sec un x7 x8 z o) := (hbut.block g (heap_lt HF.out) hne).trans HF.out
        have HB' : Hid (But2 b g w w3) := HB.out.but hbut
        clear hbut HF HB HK
        have HF := HF'; have HB := HB'; clear HF' HB'
        rcases hg with hg | hg
        · obtain ⟨hv, hh, hd⟩ := hg
          have hvb := val_bd s (p + 4) 2 hd (by omega)
          have T2 : Hid (two s (p + 4) = true) := two_true hd
          have V2 : Hid (v2 = val s (p + 4) 2) := hv
          have lo2 : 0 ≤ v2 := by rw [hv]; exact hvb.1
          have hi2 : v2 ≤ 99 := by rw [hv]; exact hvb.2.1
          have hp3 : p + 6 ≤ s.size := by obtain ⟨h, _⟩ := dig_bd (hd 1 (by omega)); omega
          have HK : Hid (scOk w3 b s (p + 6)) := hh
          clear hv hh hd hvb
          have fc := (cell_at HF.out 2).trans (by rfl : _ = some (Value.int .i64 d))
          have fz := frozen_at HF.out 2
          go_wp2_with fail
          have HB' : Hid (But2 b g w (w3.setCell ⟨g, 2, none⟩ (.int .i64 v2))) := HB.out.set2 _ _
          have HK' : Hid (scOk (w3.setCell ⟨g, 2, none⟩ (.int .i64 v2)) b s (p + 6)) := sc_far hne _ _ HK.out
          have HF' : Hid (fld (w3.setCell ⟨g, 2, none⟩ (.int .i64 v2)) g (yr v0) v1 v2 h mi sec un x7 x8 z o) := set_at HF.out 2 _
          clear HB HK HF fc fz
          generalize (w3.setCell ⟨g, 2, none⟩ (.int .i64 v2)) = u2 at *
          have HB := HB'; have HK := HK'; have HF := HF'; clear HB' HK' HF'
          refine (number_any u2 b s (p + 6) _ HK.out hs hp3 (by decide)).mono ?_
          rintro e w4 ⟨v3, rfl, hbut, hg⟩
          have HF' : Hid (fld w4 g (yr v0) v1 v2 h mi sec un x7 x8 z o) := (hbut.block g (heap_lt HF.out) hne).trans HF.out
          have HB' : Hid (But2 b g w w4) := HB.out.but hbut
          clear hbut HF HB HK
          have HF := HF'; have HB := HB'; clear HF' HB'
          rcases hg with hg | hg
          · obtain ⟨hv, hh, hd⟩ := hg
            have hvb := val_bd s (p + 6) 2 hd (by omega)
            have T3 : Hid (two s (p + 6) = true) := two_true hd
            have V3 : Hid (v3 = val s (p + 6) 2) := hv
            have lo3 : 0 ≤ v3 := by rw [hv]; exact hvb.1
            have hi3 : v3 ≤ 99 := by rw [hv]; exact hvb.2.1
            have hp4 : p + 8 ≤ s.size := by obtain ⟨h, _⟩ := dig_bd (hd 1 (by omega)); omega
            have HK : Hid (scOk w4 b s (p + 8)) := hh
            clear hv hh hd hvb
            have fc := (cell_at HF.out 3).trans (by rfl : _ = some (Value.int .i64 h))
            have fz := frozen_at HF.out 3
            go_wp2_with fail
            have HB' : Hid (But2 b g w (w4.setCell ⟨g, 3, none⟩ (.int .i64 v3))) := HB.out.set2 _ _
            have HK' : Hid (scOk (w4.setCell ⟨g, 3, none⟩ (.int .i64 v3)) b s (p + 8)) := sc_far hne _ _ HK.out
            have HF' : Hid (fld (w4.setCell ⟨g, 3, none⟩ (.int .i64 v3)) g (yr v0) v1 v2 v3 mi sec un x7 x8 z o) := set_at HF.out 3 _
            clear HB HK HF fc fz
            generalize (w4.setCell ⟨g, 3, none⟩ (.int .i64 v3)) = u3 at *
            have HB := HB'; have HK := HK'; have HF := HF'; clear HB' HK' HF'
            refine (number_any u3 b s (p + 8) _ HK.out hs hp4 (by decide)).mono ?_
            rintro e w5 ⟨v4, rfl, hbut, hg⟩
            have HF' : Hid (fld w5 g (yr v0) v1 v2 v3 mi sec un x7 x8 z o) := (hbut.block g (heap_lt HF.out) hne).trans HF.out
            have HB' : Hid (But2 b g w w5) := HB.out.but hbut
            clear hbut HF HB HK
            have HF := HF'; have HB := HB'; clear HF' HB'
            rcases hg with hg | hg
            · obtain ⟨hv, hh, hd⟩ := hg
              have hvb := val_bd s (p + 8) 2 hd (by omega)
              have T4 : Hid (two s (p + 8) = true) := two_true hd
              have V4 : Hid (v4 = val s (p + 8) 2) := hv
              have lo4 : 0 ≤ v4 := by rw [hv]; exact hvb.1
              have hi4 : v4 ≤ 99 := by rw [hv]; exact hvb.2.1
              have hp5 : p + 10 ≤ s.size := by obtain ⟨h, _⟩ := dig_bd (hd 1 (by omega)); omega
              have HK : Hid (scOk w5 b s (p + 10)) := hh
              clear hv hh hd hvb
              have fc := (cell_at HF.out 4).trans (by rfl : _ = some (Value.int .i64 mi))
              have fz := frozen_at HF.out 4
              have fc6 := (cell_at HF.out 6).trans (by rfl : _ = some (Value.int .i64 un))
              have fz6 := frozen_at HF.out 6
              go_wp2_with fail
              have HB' : Hid (But2 b g w ((w5.setCell ⟨g, 4, none⟩ (.int .i64 v4)).setCell ⟨g, 6, none⟩ (.int .i64 60))) := (HB.out.set2 _ _).set2 _ _
              have HK' : Hid (scOk ((w5.setCell ⟨g, 4, none⟩ (.int .i64 v4)).setCell ⟨g, 6, none⟩ (.int .i64 60)) b s (p + 10)) := sc_far hne _ _ (sc_far hne _ _ HK.out)
              have HF' : Hid (fld ((w5.setCell ⟨g, 4, none⟩ (.int .i64 v4)).setCell ⟨g, 6, none⟩ (.int .i64 60)) g (yr v0) v1 v2 v3 v4 sec 60 x7 x8 z o) := set_at (set_at HF.out 4 _) 6 _
              clear HB HK HF fc fz fc6 fz6
              generalize ((w5.setCell ⟨g, 4, none⟩ (.int .i64 v4)).setCell ⟨g, 6, none⟩ (.int .i64 60)) = u4 at *
              have HB := HB'; have HK := HK'; have HF := HF'; clear HB' HK' HF'
              refine (digitNext_any u4 b s (p + 10) _ HK.out hs).mono ?_
              rintro e w' ⟨rfl, n, rfl⟩
              have HB' : Hid (But2 b g w (u4.drewN n)) := HB.out.drewN n
              have HK' : Hid (scOk (u4.drewN n) b s (p + 10)) := HK.out
              have HF' : Hid (fld (u4.drewN n) g (yr v0) v1 v2 v3 v4 sec 60 x7 x8 z o) := HF.out
              clear HB HK HF
              generalize u4.drewN n = r0 at *
              have HB := HB'; have HK := HK'; have HF := HF'; clear HB' HK' HF'
              cases hd : isDig s (p + 10) with
              | true =>
                go_wp2_with fail
                refine (number_any r0 b s (p + 10) _ HK.out hs hp5 (by decide)).mono ?_
                rintro e w6 ⟨v5, rfl, hbut, hg⟩
                have HF' : Hid (fld w6 g (yr v0) v1 v2 v3 v4 sec 60 x7 x8 z o) := (hbut.block g (heap_lt HF.out) hne).trans HF.out
                have HB' : Hid (But2 b g w w6) := HB.out.but hbut
                clear hbut HF HB HK
                have HF := HF'; have HB := HB'; clear HF' HB'
                have fc5 := (cell_at HF.out 5).trans (by rfl : _ = some (Value.int .i64 sec))
                have fz5 := frozen_at HF.out 5
                have fc6 := (cell_at HF.out 6).trans (by rfl : _ = some (Value.int .i64 60))
                have fz6 := frozen_at HF.out 6
                rcases hg with hg | hg
                · obtain ⟨hv, hh, hdd⟩ := hg
                  have T5 : Hid (two s (p + 10) = true) := two_true hdd
                  have V5 : Hid (v5 = val s (p + 10) 2) := hv
                  have hp6 : p + 12 ≤ s.size := by obtain ⟨h, _⟩ := dig_bd (hdd 1 (by omega)); omega
                  have HK : Hid (scOk w6 b s (p + 12)) := hh
                  clear hv hh hdd
                  go_wp2_with fail
                  have HB' : Hid (But2 b g w ((w6.setCell ⟨g, 5, none⟩ (.int .i64 v5)).setCell ⟨g, 6, none⟩ (.int .i64 1))) := (HB.out.set2 _ _).set2 _ _
                  have HK' : Hid (scOk ((w6.setCell ⟨g, 5, none⟩ (.int .i64 v5)).setCell ⟨g, 6, none⟩ (.int .i64 1)) b s (p + 12)) := sc_far hne _ _ (sc_far hne _ _ HK.out)
                  have HF' : Hid (fld ((w6.setCell ⟨g, 5, none⟩ (.int .i64 v5)).setCell ⟨g, 6, none⟩ (.int .i64 1)) g (yr v0) v1 v2 v3 v4 v5 1 x7 x8 z o) := set_at (set_at HF.out 5 _) 6 _
                  clear HB HK HF fc5 fz5 fc6 fz6
                  generalize ((w6.setCell ⟨g, 5, none⟩ (.int .i64 v5)).setCell ⟨g, 6, none⟩ (.int .i64 1)) = r1 at *
                  have HB := HB'; have HK := HK'; have HF := HF'; clear HB' HK' HF'
                  have hzo : Hid (∀ x, zoneR s (p + 12) o = x → tailR s p sec o = x.map (fun r => (v5, 1, r.1, r.2.1, 12 + r.2.2))) := fun x hz => by simp [tailR, hd, T5.out, ← V5.out, hz]
                  have HP : Hid (pre s p = true) := by show pre s p = true; simp [pre, T0.out, T1.out, T2.out, T3.out, T4.out]
                  generalize hq : p + 12 = q at HK hp6 hzo
                  have HQ : Hid (p + 12 = q) := hq
                  clear hq
                  have c0 := (cell_at HK.out 0).trans (by rfl : _ = some (Value.string s))
                  have c1 := (cell_at HK.out 1).trans (by rfl : _ = some (Value.int .i64 (q : Int)))
                  have c2 := (cell_at HK.out 2).trans (by rfl : _ = some Value.nilIface)
                  by_cases hqs : q < s.size
                  · have hqe : ((q : Int) == (s.size : Int)) = false := by simp; omega
                    go_quiet (fail)
                    go_wp2_with fail
                    refine (zone_any (r1.drewN nq) b g hne s q (yr v0) v1 v2 v3 v4 v5 1 x7 x8 z o HK.out HF.out hs hqs).mono ?_
                    rintro e w9 ⟨rfl, hbz, hres⟩
                    have HR := hide hres
                    clear hres
                    go_wp2
                    go_end0
                    refine ⟨rfl, (HB.out.drewN nq).trans hbz, ?_⟩
                    rcases unhide HR with ⟨z', o', hbad, hfl, hzr⟩ | ⟨z', o', n', hok, hfl, hzr⟩
                    · exact Or.inl ⟨Or.inr (by rw [hzo.out _ hzr]; rfl), hbad, ⟨_, _, _, _, _, _, _, _, _, _, _, hfl⟩⟩
                    · refine Or.inr ⟨HP.out, v5, 1, z', o', 12 + n', by rw [hzo.out _ hzr]; rfl, ?_, ?_⟩
                      · rw [← Nat.add_assoc, HQ.out]; exact hok
                      · rw [← V0.out, ← V1.out, ← V2.out, ← V3.out, ← V4.out]; exact hfl
                  · have hqe : q = s.size := by omega
                    have HE : Hid (q = s.size) := hqe
                    have hqe' : ((q : Int) == (s.size : Int)) = true := by simp; omega
                    clear hqe
                    go_quiet (fail)
                    go_wp2_with fail
                    refine (errNew (r1.drewN nq) _).mono ?_
                    rintro e w8 ⟨a, rfl, hbl⟩
                    have HB' : Hid (But2 b g w w8) := (HB.out.drewN nq).below hbl
                    have HK' : Hid (scOk w8 b s q) := (hbl.block b (heap_lt HK.out)).trans HK.out
                    have HF' : Hid (fld w8 g (yr v0) v1 v2 v3 v4 v5 1 x7 x8 z o) := (hbl.block g (heap_lt HF.out)).trans HF.out
                    clear hbl HB HK HF c0 c1 c2
                    have c2 := (cell_at HK'.out 2).trans (by rfl : _ = some Value.nilIface)
                    have cz2 := frozen_at HK'.out 2
                    go_wp2_with fail
                    have HB : Hid (But2 b g w (w8.setCell ⟨b, 2, none⟩ (.iface 47 (.pointer (some a))))) := HB'.out.set1 _ _
                    have HS : Hid ((w8.setCell ⟨b, 2, none⟩ (.iface 47 (.pointer (some a)))).heap[b]? = some (.cells #[.string s, .int .i64 (q : Int), .iface 47 (.pointer (some a))] 37)) := set_at HK'.out 2 _
                    have HF : Hid (fld (w8.setCell ⟨b, 2, none⟩ (.iface 47 (.pointer (some a)))) g (yr v0) v1 v2 v3 v4 v5 1 x7 x8 z o) := err_fld hne HF'.out _
                    clear HB' HK' HF' c2 cz2
                    generalize w8.setCell ⟨b, 2, none⟩ (.iface 47 (.pointer (some a))) = w9 at *
                    refine (zone_err w9 b g s q a HS.out).mono ?_
                    rintro e w2 ⟨rfl, hw2⟩
                    replace hw2 := hw2.symm
                    subst hw2
                    go_wp2
                    go_end0
                    exact ⟨rfl, HB.out, Or.inl ⟨Or.inr (by rw [hzo.out none (zoneR_end HE.out)]; rfl), ⟨q, a, hp6, HS.out⟩, ⟨_, _, _, _, _, _, _, _, _, _, _, HF.out⟩⟩⟩
                · obtain ⟨lo, hi, ⟨q, a, hq, hh⟩, hx⟩ := hg
                  have HH := (show Hid _ from hh)
                  have HX : Hid (pre s p = false ∨ tailR s p sec o = none) := Or.inr (by simp [tailR, hd, two_false hx])
                  have HA : Hid (fAny w6 g) := ⟨_, _, _, _, _, _, _, _, _, _, _, HF.out⟩
                  clear hh hx HF
                  go_wp2_with fail
                  have HB' : Hid (But2 b g w ((w6.setCell ⟨g, 5, none⟩ (.int .i64 v5)).setCell ⟨g, 6, none⟩ (.int .i64 1))) := (HB.out.set2 _ _).set2 _ _
                  have HH' : Hid (((w6.setCell ⟨g, 5, none⟩ (.int .i64 v5)).setCell ⟨g, 6, none⟩ (.int .i64 1)).heap[b]? = some (.cells #[.string s, .int .i64 (q : Int), .iface 47 (.pointer (some a))] 37)) := sc_far hne _ _ (sc_far hne _ _ HH.out)
                  have HA' : Hid (fAny ((w6.setCell ⟨g, 5, none⟩ (.int .i64 v5)).setCell ⟨g, 6, none⟩ (.int .i64 1)) g) := fAny_set (fAny_set HA.out _ (by decide) _) _ (by decide) _
                  clear HB HH HA fc5 fz5 fc6 fz6
                  generalize ((w6.setCell ⟨g, 5, none⟩ (.int .i64 v5)).setCell ⟨g, 6, none⟩ (.int .i64 1)) = r1 at *
                  have c2 := (cell_at HH'.out 2).trans (by rfl : _ = some (Value.iface 47 (.pointer (some a))))
                  go_quiet (fail)
                  go_wp2_with fail
                  refine (zone_err (r1.drewN nq) b g s q a HH'.out).mono ?_
                  rintro e w2 ⟨rfl, hw2⟩
                  replace hw2 := hw2.symm
                  subst hw2
                  go_wp2
                  go_end0
                  exact ⟨rfl, HB'.out.drewN nq, Or.inl ⟨HX.out, ⟨q, a, hq, HH'.out⟩, HA'.out⟩⟩

              | false =>
                go_wp2_with fail
                have hp6 := hp5
                have hzo : Hid (∀ x, zoneR s (p + 10) o = x → tailR s p sec o = x.map (fun r => (sec, 60, r.1, r.2.1, 10 + r.2.2))) := fun x hz => by simp [tailR, hd, hz]
                have HP : Hid (pre s p = true) := by show pre s p = true; simp [pre, T0.out, T1.out, T2.out, T3.out, T4.out]
                generalize hq : p + 10 = q at HK hp6 hzo
                have HQ : Hid (p + 10 = q) := hq
                clear hq
                have c0 := (cell_at HK.out 0).trans (by rfl : _ = some (Value.string s))
                have c1 := (cell_at HK.out 1).trans (by rfl : _ = some (Value.int .i64 (q : Int)))
                have c2 := (cell_at HK.out 2).trans (by rfl : _ = some Value.nilIface)
                by_cases hqs : q < s.size
                · have hqe : ((q : Int) == (s.size : Int)) = false := by simp; omega
                  go_quiet (fail)
                  go_wp2_with fail
                  refine (zone_any (r0.drewN nq) b g hne s q (yr v0) v1 v2 v3 v4 sec 60 x7 x8 z o HK.out HF.out hs hqs).mono ?_
                  rintro e w9 ⟨rfl, hbz, hres⟩
                  have HR := hide hres
                  clear hres
                  go_wp2
                  go_end0
                  refine ⟨rfl, (HB.out.drewN nq).trans hbz, ?_⟩
                  rcases unhide HR with ⟨z', o', hbad, hfl, hzr⟩ | ⟨z', o', n', hok, hfl, hzr⟩
                  · exact Or.inl ⟨Or.inr (by rw [hzo.out _ hzr]; rfl), hbad, ⟨_, _, _, _, _, _, _, _, _, _, _, hfl⟩⟩
                  · refine Or.inr ⟨HP.out, sec, 60, z', o', 10 + n', by rw [hzo.out _ hzr]; rfl, ?_, ?_⟩
                    · rw [← Nat.add_assoc, HQ.out]; exact hok
                    · rw [← V0.out, ← V1.out, ← V2.out, ← V3.out, ← V4.out]; exact hfl
                · have hqe : q = s.size := by omega
                  have HE : Hid (q = s.size) := hqe
                  have hqe' : ((q : Int) == (s.size : Int)) = true := by simp; omega
                  clear hqe
                  go_quiet (fail)
                  go_wp2_with fail
                  refine (errNew (r0.drewN nq) _).mono ?_
                  rintro e w8 ⟨a, rfl, hbl⟩
                  have HB' : Hid (But2 b g w w8) := (HB.out.drewN nq).below hbl
                  have HK' : Hid (scOk w8 b s q) := (hbl.block b (heap_lt HK.out)).trans HK.out
                  have HF' : Hid (fld w8 g (yr v0) v1 v2 v3 v4 sec 60 x7 x8 z o) := (hbl.block g (heap_lt HF.out)).trans HF.out
                  clear hbl HB HK HF c0 c1 c2
                  have c2 := (cell_at HK'.out 2).trans (by rfl : _ = some Value.nilIface)
                  have cz2 := frozen_at HK'.out 2
                  go_wp2_with fail
                  have HB : Hid (But2 b g w (w8.setCell ⟨b, 2, none⟩ (.iface 47 (.pointer (some a))))) := HB'.out.set1 _ _
                  have HS : Hid ((w8.setCell ⟨b, 2, none⟩ (.iface 47 (.pointer (some a)))).heap[b]? = some (.cells #[.string s, .int .i64 (q : Int), .iface 47 (.pointer (some a))] 37)) := set_at HK'.out 2 _
                  have HF : Hid (fld (w8.setCell ⟨b, 2, none⟩ (.iface 47 (.pointer (some a)))) g (yr v0) v1 v2 v3 v4 sec 60 x7 x8 z o) := err_fld hne HF'.out _
                  clear HB' HK' HF' c2 cz2
                  generalize w8.setCell ⟨b, 2, none⟩ (.iface 47 (.pointer (some a))) = w9 at *
                  refine (zone_err w9 b g s q a HS.out).mono ?_
                  rintro e w2 ⟨rfl, hw2⟩
                  replace hw2 := hw2.symm
                  subst hw2
                  go_wp2
                  go_end0
                  exact ⟨rfl, HB.out, Or.inl ⟨Or.inr (by rw [hzo.out none (zoneR_end HE.out)]; rfl), ⟨q, a, hp6, HS.out⟩, ⟨_, _, _, _, _, _, _, _, _, _, _, HF.out⟩⟩⟩
            · obtain ⟨lo, hi, ⟨q, a, hq, hh⟩, hx⟩ := hg
              have HH := (show Hid _ from hh)
              have HX : Hid (pre s p = false ∨ tailR s p sec o = none) := Or.inl (by simp [pre, two_false hx])
              have HA : Hid (fAny w5 g) := ⟨_, _, _, _, _, _, _, _, _, _, _, HF.out⟩
              clear hh hx HF
              obtain ⟨y4, mo4, d4, h4, mi4, sec4, un4, x74, x84, zz4, o4, hf4⟩ := HA.out
              have fc := (cell_at hf4 4).trans (by rfl : _ = some (Value.int .i64 mi4))
              have fz := frozen_at hf4 4
              have fc6 := (cell_at hf4 6).trans (by rfl : _ = some (Value.int .i64 un4))
              have fz6 := frozen_at hf4 6
              clear hf4
              go_wp2_with fail
              have HB' : Hid (But2 b g w ((w5.setCell ⟨g, 4, none⟩ (.int .i64 v4)).setCell ⟨g, 6, none⟩ (.int .i64 60))) := (HB.out.set2 _ _).set2 _ _
              have HH' : Hid (((w5.setCell ⟨g, 4, none⟩ (.int .i64 v4)).setCell ⟨g, 6, none⟩ (.int .i64 60)).heap[b]? = some (.cells #[.string s, .int .i64 (q : Int), .iface 47 (.pointer (some a))] 37)) := sc_far hne _ _ (sc_far hne _ _ HH.out)
              have HA' : Hid (fAny ((w5.setCell ⟨g, 4, none⟩ (.int .i64 v4)).setCell ⟨g, 6, none⟩ (.int .i64 60)) g) := fAny_set (fAny_set HA.out _ (by decide) _) _ (by decide) _
              clear HB HH HA fc fz fc6 fz6
              generalize ((w5.setCell ⟨g, 4, none⟩ (.int .i64 v4)).setCell ⟨g, 6, none⟩ (.int .i64 60)) = u4 at *
              have HB := HB'; have HH := HH'; have HA := HA'; clear HB' HH' HA'
              refine (digitNext_any u4 b s q _ HH.out hs).mono ?_
              rintro e w' ⟨rfl, n, rfl⟩
              have HB' : Hid (But2 b g w (u4.drewN n)) := HB.out.drewN n
              have HH' : Hid ((u4.drewN n).heap[b]? = some (.cells #[.string s, .int .i64 (q : Int), .iface 47 (.pointer (some a))] 37)) := HH.out
              have HA' : Hid (fAny (u4.drewN n) g) := HA.out
              clear HB HH HA
              generalize u4.drewN n = r0 at *
              have HB := HB'; have HH := HH'; have HA := HA'; clear HB' HH' HA'
              cases hd : isDig s q with
              | true =>
                obtain ⟨y9, mo9, d9, h9, mi9, sec9, un9, x79, x89, zz9, o9, hf9⟩ := HA.out
                have fc5 := (cell_at hf9 5).trans (by rfl : _ = some (Value.int .i64 sec9))
                have fz5 := frozen_at hf9 5
                have fc6 := (cell_at hf9 6).trans (by rfl : _ = some (Value.int .i64 un9))
                have fz6 := frozen_at hf9 6
                clear hf9
                go_wp2_with fail
                refine (number_err r0 b s q a _ HH.out).mono ?_
                rintro e w' ⟨rfl, hw⟩
                replace hw := hw.symm
                subst hw
                go_wp2_with fail
                have HB' : Hid (But2 b g w ((r0.setCell ⟨g, 5, none⟩ (.int .i64 0)).setCell ⟨g, 6, none⟩ (.int .i64 1))) := (HB.out.set2 _ _).set2 _ _
                have HH' : Hid (((r0.setCell ⟨g, 5, none⟩ (.int .i64 0)).setCell ⟨g, 6, none⟩ (.int .i64 1)).heap[b]? = some (.cells #[.string s, .int .i64 (q : Int), .iface 47 (.pointer (some a))] 37)) := sc_far hne _ _ (sc_far hne _ _ HH.out)
                have HA' : Hid (fAny ((r0.setCell ⟨g, 5, none⟩ (.int .i64 0)).setCell ⟨g, 6, none⟩ (.int .i64 1)) g) := fAny_set (fAny_set HA.out _ (by decide) _) _ (by decide) _
                clear HB HH HA fc5 fz5 fc6 fz6
                generalize (r0.setCell ⟨g, 5, none⟩ (.int .i64 0)).setCell ⟨g, 6, none⟩ (.int .i64 1) = r1 at *
                have c2 := (cell_at HH'.out 2).trans (by rfl : _ = some (Value.iface 47 (.pointer (some a))))
                go_quiet (fail)
                go_wp2_with fail
                refine (zone_err (r1.drewN nq) b g s q a HH'.out).mono ?_
                rintro e w2 ⟨rfl, hw2⟩
                replace hw2 := hw2.symm
                subst hw2
                go_wp2
                go_end0
                exact ⟨rfl, HB'.out.drewN nq, Or.inl ⟨HX.out, ⟨q, a, hq, HH'.out⟩, HA'.out⟩⟩
              | false =>
                have c2 := (cell_at HH.out 2).trans (by rfl : _ = some (Value.iface 47 (.pointer (some a))))
                go_wp2_with fail
                go_quiet (fail)
                go_wp2_with fail
                refine (zone_err (r0.drewN nq) b g s q a HH.out).mono ?_
                rintro e w2 ⟨rfl, hw2⟩
                replace hw2 := hw2.symm
                subst hw2
                go_wp2
                go_end0
                exact ⟨rfl, HB.out.drewN nq, Or.inl ⟨HX.out, ⟨q, a, hq, HH.out⟩, HA.out⟩⟩
          · obtain ⟨lo, hi, ⟨q, a, hq, hh⟩, hx⟩ := hg
            have HH := (show Hid _ from hh)
            have HX : Hid (pre s p = false ∨ tailR s p sec o = none) := Or.inl (by simp [pre, two_false hx])
            have HA : Hid (fAny w4 g) := ⟨_, _, _, _, _, _, _, _, _, _, _, HF.out⟩
            clear hh hx HF
            obtain ⟨y3, mo3, d3, h3, mi3, sec3, un3, x73, x83, zz3, o3, hf3⟩ := HA.out
            have fc := (cell_at hf3 3).trans (by rfl : _ = some (Value.int .i64 h3))
            have fz := frozen_at hf3 3
            clear hf3
            go_wp2_with fail
            have HB' : Hid (But2 b g w (w4.setCell ⟨g, 3, none⟩ (.int .i64 v3))) := HB.out.set2 _ _
            have HH' : Hid ((w4.setCell ⟨g, 3, none⟩ (.int .i64 v3)).heap[b]? = some (.cells #[.string s, .int .i64 (q : Int), .iface 47 (.pointer (some a))] 37)) := sc_far hne _ _ HH.out
            have HA' : Hid (fAny (w4.setCell ⟨g, 3, none⟩ (.int .i64 v3)) g) := fAny_set HA.out _ (by decide) _
            clear HB HH HA fc fz
            generalize (w4.setCell ⟨g, 3, none⟩ (.int .i64 v3)) = u3 at *
            have HB := HB'; have HH := HH'; have HA := HA'; clear HB' HH' HA'
            refine (number_err u3 b s q a _ HH.out).mono ?_
            rintro e w' ⟨rfl, hw⟩
            replace hw := hw.symm
            subst hw
            obtain ⟨y4, mo4, d4, h4, mi4, sec4, un4, x74, x84, zz4, o4, hf4⟩ := HA.out
            have fc := (cell_at hf4 4).trans (by rfl : _ = some (Value.int .i64 mi4))
            have fz := frozen_at hf4 4
            have fc6 := (cell_at hf4 6).trans (by rfl : _ = some (Value.int .i64 un4))
            have fz6 := frozen_at hf4 6
            clear hf4
            go_wp2_with fail
            have HB' : Hid (But2 b g w ((u3.setCell ⟨g, 4, none⟩ (.int .i64 0)).setCell ⟨g, 6, none⟩ (.int .i64 60))) := (HB.out.set2 _ _).set2 _ _
            have HH' : Hid (((u3.setCell ⟨g, 4, none⟩ (.int .i64 0)).setCell ⟨g, 6, none⟩ (.int .i64 60)).heap[b]? = some (.cells #[.string s, .int .i64 (q : Int), .iface 47 (.pointer (some a))] 37)) := sc_far hne _ _ (sc_far hne _ _ HH.out)
            have HA' : Hid (fAny ((u3.setCell ⟨g, 4, none⟩ (.int .i64 0)).setCell ⟨g, 6, none⟩ (.int .i64 60)) g) := fAny_set (fAny_set HA.out _ (by decide) _) _ (by decide) _
            clear HB HH HA fc fz fc6 fz6
            generalize ((u3.setCell ⟨g, 4, none⟩ (.int .i64 0)).setCell ⟨g, 6, none⟩ (.int .i64 60)) = u4 at *
            have HB := HB'; have HH := HH'; have HA := HA'; clear HB' HH' HA'
            refine (digitNext_any u4 b s q _ HH.out hs).mono ?_
            rintro e w' ⟨rfl, n, rfl⟩
            have HB' : Hid (But2 b g w (u4.drewN n)) := HB.out.drewN n
            have HH' : Hid ((u4.drewN n).heap[b]? = some (.cells #[.string s, .int .i64 (q : Int), .iface 47 (.pointer (some a))] 37)) := HH.out
            have HA' : Hid (fAny (u4.drewN n) g) := HA.out
            clear HB HH HA
            generalize u4.drewN n = r0 at *
            have HB := HB'; have HH := HH'; have HA := HA'; clear HB' HH' HA'
            cases hd : isDig s q with
            | true =>
              obtain ⟨y9, mo9, d9, h9, mi9, sec9, un9, x79, x89, zz9, o9, hf9⟩ := HA.out
              have fc5 := (cell_at hf9 5).trans (by rfl : _ = some (Value.int .i64 sec9))
              have fz5 := frozen_at hf9 5
              have fc6 := (cell_at hf9 6).trans (by rfl : _ = some (Value.int .i64 un9))
              have fz6 := frozen_at hf9 6
              clear hf9
              go_wp2_with fail
              refine (number_err r0 b s q a _ HH.out).mono ?_
              rintro e w' ⟨rfl, hw⟩
              replace hw := hw.symm
              subst hw
              go_wp2_with fail
              have HB' : Hid (But2 b g w ((r0.setCell ⟨g, 5, none⟩ (.int .i64 0)).setCell ⟨g, 6, none⟩ (.int .i64 1))) := (HB.out.set2 _ _).set2 _ _
              have HH' : Hid (((r0.setCell ⟨g, 5, none⟩ (.int .i64 0)).setCell ⟨g, 6, none⟩ (.int .i64 1)).heap[b]? = some (.cells #[.string s, .int .i64 (q : Int), .iface 47 (.pointer (some a))] 37)) := sc_far hne _ _ (sc_far hne _ _ HH.out)
              have HA' : Hid (fAny ((r0.setCell ⟨g, 5, none⟩ (.int .i64 0)).setCell ⟨g, 6, none⟩ (.int .i64 1)) g) := fAny_set (fAny_set HA.out _ (by decide) _) _ (by decide) _
              clear HB HH HA fc5 fz5 fc6 fz6
              generalize (r0.setCell ⟨g, 5, none⟩ (.int .i64 0)).setCell ⟨g, 6, none⟩ (.int .i64 1) = r1 at *
              have c2 := (cell_at HH'.out 2).trans (by rfl : _ = some (Value.iface 47 (.pointer (some a))))
              go_quiet (fail)
              go_wp2_with fail
              refine (zone_err (r1.drewN nq) b g s q a HH'.out).mono ?_
              rintro e w2 ⟨rfl, hw2⟩
              replace hw2 := hw2.symm
              subst hw2
              go_wp2
              go_end0
              exact ⟨rfl, HB'.out.drewN nq, Or.inl ⟨HX.out, ⟨q, a, hq, HH'.out⟩, HA'.out⟩⟩
            | false =>
              have c2 := (cell_at HH.out 2).trans (by rfl : _ = some (Value.iface 47 (.pointer (some a))))
              go_wp2_with fail
              go_quiet (fail)
              go_wp2_with fail
              refine (zone_err (r0.drewN nq) b g s q a HH.out).mono ?_
              rintro e w2 ⟨rfl, hw2⟩
              replace hw2 := hw2.symm
              subst hw2
              go_wp2
              go_end0
              exact ⟨rfl, HB.out.drewN nq, Or.inl ⟨HX.out, ⟨q, a, hq, HH.out⟩, HA.out⟩⟩
        · obtain ⟨lo, hi, ⟨q, a, hq, hh⟩, hx⟩ := hg
          have HH := (show Hid _ from hh)
          have HX : Hid (pre s p = false ∨ tailR s p sec o = none) := Or.inl (by simp [pre, two_false hx])
          have HA : Hid (fAny w3 g) := ⟨_, _, _, _, _, _, _, _, _, _, _, HF.out⟩
          clear hh hx HF
          obtain ⟨y2, mo2, d2, h2, mi2, sec2, un2, x72, x82, zz2, o2, hf2⟩ := HA.out
          have fc := (cell_at hf2 2).trans (by rfl : _ = some (Value.int .i64 d2))
          have fz := frozen_at hf2 2
          clear hf2
          go_wp2_with fail
          have HB' : Hid (But2 b g w (w3.setCell ⟨g, 2, none⟩ (.int .i64 v2))) := HB.out.set2 _ _
          have HH' : Hid ((w3.setCell ⟨g, 2, none⟩ (.int .i64 v2)).heap[b]? = some (.cells #[.string s, .int .i64 (q : Int), .iface 47 (.pointer (some a))] 37)) := sc_far hne _ _ HH.out
          have HA' : Hid (fAny (w3.setCell ⟨g, 2, none⟩ (.int .i64 v2)) g) := fAny_set HA.out _ (by decide) _
          clear HB HH HA fc fz
          generalize (w3.setCell ⟨g, 2, none⟩ (.int .i64 v2)) = u2 at *
          have HB := HB'; have HH := HH'; have HA := HA'; clear HB' HH' HA'
          refine (number_err u2 b s q a _ HH.out).mono ?_
          rintro e w' ⟨rfl, hw⟩
          replace hw := hw.symm
          subst hw
          obtain ⟨y3, mo3, d3, h3, mi3, sec3, un3, x73, x83, zz3, o3, hf3⟩ := HA.out
          have fc := (cell_at hf3 3).trans (by rfl : _ = some (Value.int .i64 h3))
          have fz := frozen_at hf3 3
          clear hf3
          go_wp2_with fail
          have HB' : Hid (But2 b g w (u2.setCell ⟨g, 3, none⟩ (.int .i64 0))) := HB.out.set2 _ _
          have HH' : Hid ((u2.setCell ⟨g, 3, none⟩ (.int .i64 0)).heap[b]? = some (.cells #[.string s, .int .i64 (q : Int), .iface 47 (.pointer (some a))] 37)) := sc_far hne _ _ HH.out
          have HA' : Hid (fAny (u2.setCell ⟨g, 3, none⟩ (.int .i64 0)) g) := fAny_set HA.out _ (by decide) _
          clear HB HH HA fc fz
          generalize (u2.setCell ⟨g, 3, none⟩ (.int .i64 0)) = u3 at *
          have HB := HB'; have HH := HH'; have HA := HA'; clear HB' HH' HA'
          refine (number_err u3 b s q a _ HH.out).mono ?_
          rintro e w' ⟨rfl, hw⟩
          replace hw := hw.symm
          subst hw
          obtain ⟨y4, mo4, d4, h4, mi4, sec4, un4, x74, x84, zz4, o4, hf4⟩ := HA.out
          have fc := (cell_at hf4 4).trans (by rfl : _ = some (Value.int .i64 mi4))
          have fz := frozen_at hf4 4
          have fc6 := (cell_at hf4 6).trans (by rfl : _ = some (Value.int .i64 un4))
          have fz6 := frozen_at hf4 6
          clear hf4
          go_wp2_with fail
          have HB' : Hid (But2 b g w ((u3.setCell ⟨g, 4, none⟩ (.int .i64 0)).setCell ⟨g, 6, none⟩ (.int .i64 60))) := (HB.out.set2 _ _).set2 _ _
          have HH' : Hid (((u3.setCell ⟨g, 4, none⟩ (.int .i64 0)).setCell ⟨g, 6, none⟩ (.int .i64 60)).heap[b]? = some (.cells #[.string s, .int .i64 (q : Int), .iface 47 (.pointer (some a))] 37)) := sc_far hne _ _ (sc_far hne _ _ HH.out)
          have HA' : Hid (fAny ((u3.setCell ⟨g, 4, none⟩ (.int .i64 0)).setCell ⟨g, 6, none⟩ (.int .i64 60)) g) := fAny_set (fAny_set HA.out _ (by decide) _) _ (by decide) _
          clear HB HH HA fc fz fc6 fz6
          generalize ((u3.setCell ⟨g, 4, none⟩ (.int .i64 0)).setCell ⟨g, 6, none⟩ (.int .i64 60)) = u4 at *
          have HB := HB'; have HH := HH'; have HA := HA'; clear HB' HH' HA'
          refine (digitNext_any u4 b s q _ HH.out hs).mono ?_
          rintro e w' ⟨rfl, n, rfl⟩
          have HB' : Hid (But2 b g w (u4.drewN n)) := HB.out.drewN n
          have HH' : Hid ((u4.drewN n).heap[b]? = some (.cells #[.string s, .int .i64 (q : Int), .iface 47 (.pointer (some a))] 37)) := HH.out
          have HA' : Hid (fAny (u4.drewN n) g) := HA.out
          clear HB HH HA
          generalize u4.drewN n = r0 at *
          have HB := HB'; have HH := HH'; have HA := HA'; clear HB' HH' HA'
          cases hd : isDig s q with
          | true =>
            obtain ⟨y9, mo9, d9, h9, mi9, sec9, un9, x79, x89, zz9, o9, hf9⟩ := HA.out
            have fc5 := (cell_at hf9 5).trans (by rfl : _ = some (Value.int .i64 sec9))
            have fz5 := frozen_at hf9 5
            have fc6 := (cell_at hf9 6).trans (by rfl : _ = some (Value.int .i64 un9))
            have fz6 := frozen_at hf9 6
            clear hf9
            go_wp2_with fail
            refine (number_err r0 b s q a _ HH.out).mono ?_
            rintro e w' ⟨rfl, hw⟩
            replace hw := hw.symm
            subst hw
            go_wp2_with fail
            have HB' : Hid (But2 b g w ((r0.setCell ⟨g, 5, none⟩ (.int .i64 0)).setCell ⟨g, 6, none⟩ (.int .i64 1))) := (HB.out.set2 _ _).set2 _ _
            have HH' : Hid (((r0.setCell ⟨g, 5, none⟩ (.int .i64 0)).setCell ⟨g, 6, none⟩ (.int .i64 1)).heap[b]? = some (.cells #[.string s, .int .i64 (q : Int), .iface 47 (.pointer (some a))] 37)) := sc_far hne _ _ (sc_far hne _ _ HH.out)
            have HA' : Hid (fAny ((r0.setCell ⟨g, 5, none⟩ (.int .i64 0)).setCell ⟨g, 6, none⟩ (.int .i64 1)) g) := fAny_set (fAny_set HA.out _ (by decide) _) _ (by decide) _
            clear HB HH HA fc5 fz5 fc6 fz6
            generalize (r0.setCell ⟨g, 5, none⟩ (.int .i64 0)).setCell ⟨g, 6, none⟩ (.int .i64 1) = r1 at *
            have c2 := (cell_at HH'.out 2).trans (by rfl : _ = some (Value.iface 47 (.pointer (some a))))
            go_quiet (fail)
            go_wp2_with fail
            refine (zone_err (r1.drewN nq) b g s q a HH'.out).mono ?_
            rintro e w2 ⟨rfl, hw2⟩
            replace hw2 := hw2.symm
            subst hw2
            go_wp2
            go_end0
            exact ⟨rfl, HB'.out.drewN nq, Or.inl ⟨HX.out, ⟨q, a, hq, HH'.out⟩, HA'.out⟩⟩
          | false =>
            have c2 := (cell_at HH.out 2).trans (by rfl : _ = some (Value.iface 47 (.pointer (some a))))
            go_wp2_with fail
            go_quiet (fail)
            go_wp2_with fail
            refine (zone_err (r0.drewN nq) b g s q a HH.out).mono ?_
            rintro e w2 ⟨rfl, hw2⟩
            replace hw2 := hw2.symm
            subst hw2
            go_wp2
            go_end0
            exact ⟨rfl, HB.out.drewN nq, Or.inl ⟨HX.out, ⟨q, a, hq, HH.out⟩, HA.out⟩⟩
      · obtain ⟨lo, hi, ⟨q, a, hq, hh⟩, hx⟩ := hg
        have HH := (show Hid _ from hh)
        have HX : Hid (pre s p = false ∨ tailR s p sec o = none) := Or.inl (by simp [pre, two_false hx])
        have HA : Hid (fAny w2 g) := ⟨_, _, _, _, _, _, _, _, _, _, _, HF.out⟩
        clear hh hx HF
        obtain ⟨y1, mo1, d1, h1, mi1, sec1, un1, x71, x81, zz1, o1, hf1⟩ := HA.out
        have fc := (cell_at hf1 1).trans (by rfl : _ = some (Value.int .i64 mo1))
        have fz := frozen_at hf1 1
        clear hf1
        go_wp2_with fail
        have HB' : Hid (But2 b g w (w2.setCell ⟨g, 1, none⟩ (.int .i64 v1))) := HB.out.set2 _ _
        have HH' : Hid ((w2.setCell ⟨g, 1, none⟩ (.int .i64 v1)).heap[b]? = some (.cells #[.string s, .int .i64 (q : Int), .iface 47 (.pointer (some a))] 37)) := sc_far hne _ _ HH.out
        have HA' : Hid (fAny (w2.setCell ⟨g, 1, none⟩ (.int .i64 v1)) g) := fAny_set HA.out _ (by decide) _
        clear HB HH HA fc fz
        generalize (w2.setCell ⟨g, 1, none⟩ (.int .i64 v1)) = u1 at *
        have HB := HB'; have HH := HH'; have HA := HA'; clear HB' HH' HA'
        refine (number_err u1 b s q a _ HH.out).mono ?_
        rintro e w' ⟨rfl, hw⟩
        replace hw := hw.symm
        subst hw
        obtain ⟨y2, mo2, d2, h2, mi2, sec2, un2, x72, x82, zz2, o2, hf2⟩ := HA.out
        have fc := (cell_at hf2 2).trans (by rfl : _ = some (Value.int .i64 d2))
        have fz := frozen_at hf2 2
        clear hf2
        go_wp2_with fail
        have HB' : Hid (But2 b g w (u1.setCell ⟨g, 2, none⟩ (.int .i64 0))) := HB.out.set2 _ _
        have HH' : Hid ((u1.setCell ⟨g, 2, none⟩ (.int .i64 0)).heap[b]? = some (.cells #[.string s, .int .i64 (q : Int), .iface 47 (.pointer (some a))] 37)) := sc_far hne _ _ HH.out
        have HA' : Hid (fAny (u1.setCell ⟨g, 2, none⟩ (.int .i64 0)) g) := fAny_set HA.out _ (by decide) _
        clear HB HH HA fc fz
        generalize (u1.setCell ⟨g, 2, none⟩ (.int .i64 0)) = u2 at *
        have HB := HB'; have HH := HH'; have HA := HA'; clear HB' HH' HA'
        refine (number_err u2 b s q a _ HH.out).mono ?_
        rintro e w' ⟨rfl, hw⟩
        replace hw := hw.symm
        subst hw
        obtain ⟨y3, mo3, d3, h3, mi3, sec3, un3, x73, x83, zz3, o3, hf3⟩ := HA.out
        have fc := (cell_at hf3 3).trans (by rfl : _ = some (Value.int .i64 h3))
        have fz := frozen_at hf3 3
        clear hf3
        go_wp2_with fail
        have HB' : Hid (But2 b g w (u2.setCell ⟨g, 3, none⟩ (.int .i64 0))) := HB.out.set2 _ _
        have HH' : Hid ((u2.setCell ⟨g, 3, none⟩ (.int .i64 0)).heap[b]? = some (.cells #[.string s, .int .i64 (q : Int), .iface 47 (.pointer (some a))] 37)) := sc_far hne _ _ HH.out
        have HA' : Hid (fAny (u2.setCell ⟨g, 3, none⟩ (.int .i64 0)) g) := fAny_set HA.out _ (by decide) _
        clear HB HH HA fc fz
        generalize (u2.setCell ⟨g, 3, none⟩ (.int .i64 0)) = u3 at *
        have HB := HB'; have HH := HH'; have HA := HA'; clear HB' HH' HA'
        refine (number_err u3 b s q a _ HH.out).mono ?_
        rintro e w' ⟨rfl, hw⟩
        replace hw := hw.symm
        subst hw
        obtain ⟨y4, mo4, d4, h4, mi4, sec4, un4, x74, x84, zz4, o4, hf4⟩ := HA.out
        have fc := (cell_at hf4 4).trans (by rfl : _ = some (Value.int .i64 mi4))
        have fz := frozen_at hf4 4
        have fc6 := (cell_at hf4 6).trans (by rfl : _ = some (Value.int .i64 un4))
        have fz6 := frozen_at hf4 6
        clear hf4
        go_wp2_with fail
        have HB' : Hid (But2 b g w ((u3.setCell ⟨g, 4, none⟩ (.int .i64 0)).setCell ⟨g, 6, none⟩ (.int .i64 60))) := (HB.out.set2 _ _).set2 _ _
        have HH' : Hid (((u3.setCell ⟨g, 4, none⟩ (.int .i64 0)).setCell ⟨g, 6, none⟩ (.int .i64 60)).heap[b]? = some (.cells #[.string s, .int .i64 (q : Int), .iface 47 (.pointer (some a))] 37)) := sc_far hne _ _ (sc_far hne _ _ HH.out)
        have HA' : Hid (fAny ((u3.setCell ⟨g, 4, none⟩ (.int .i64 0)).setCell ⟨g, 6, none⟩ (.int .i64 60)) g) := fAny_set (fAny_set HA.out _ (by decide) _) _ (by decide) _
        clear HB HH HA fc fz fc6 fz6
        generalize ((u3.setCell ⟨g, 4, none⟩ (.int .i64 0)).setCell ⟨g, 6, none⟩ (.int .i64 60)) = u4 at *
        have HB := HB'; have HH := HH'; have HA := HA'; clear HB' HH' HA'
        refine (digitNext_any u4 b s q _ HH.out hs).mono ?_
        rintro e w' ⟨rfl, n, rfl⟩
        have HB' : Hid (But2 b g w (u4.drewN n)) := HB.out.drewN n
        have HH' : Hid ((u4.drewN n).heap[b]? = some (.cells #[.string s, .int .i64 (q : Int), .iface 47 (.pointer (some a))] 37)) := HH.out
        have HA' : Hid (fAny (u4.drewN n) g) := HA.out
        clear HB HH HA
        generalize u4.drewN n = r0 at *
        have HB := HB'; have HH := HH'; have HA := HA'; clear HB' HH' HA'
        cases hd : isDig s q with
        | true =>
          obtain ⟨y9, mo9, d9, h9, mi9, sec9, un9, x79, x89, zz9, o9, hf9⟩ := HA.out
          have fc5 := (cell_at hf9 5).trans (by rfl : _ = some (Value.int .i64 sec9))
          have fz5 := frozen_at hf9 5
          have fc6 := (cell_at hf9 6).trans (by rfl : _ = some (Value.int .i64 un9))
          have fz6 := frozen_at hf9 6
          clear hf9
          go_wp2_with fail
          refine (number_err r0 b s q a _ HH.out).mono ?_
          rintro e w' ⟨rfl, hw⟩
          replace hw := hw.symm
          subst hw
          go_wp2_with fail
          have HB' : Hid (But2 b g w ((r0.setCell ⟨g, 5, none⟩ (.int .i64 0)).setCell ⟨g, 6, none⟩ (.int .i64 1))) := (HB.out.set2 _ _).set2 _ _
          have HH' : Hid (((r0.setCell ⟨g, 5, none⟩ (.int .i64 0)).setCell ⟨g, 6, none⟩ (.int .i64 1)).heap[b]? = some (.cells #[.string s, .int .i64 (q : Int), .iface 47 (.pointer (some a))] 37)) := sc_far hne _ _ (sc_far hne _ _ HH.out)
          have HA' : Hid (fAny ((r0.setCell ⟨g, 5, none⟩ (.int .i64 0)).setCell ⟨g, 6, none⟩ (.int .i64 1)) g) := fAny_set (fAny_set HA.out _ (by decide) _) _ (by decide) _
          clear HB HH HA fc5 fz5 fc6 fz6
          generalize (r0.setCell ⟨g, 5, none⟩ (.int .i64 0)).setCell ⟨g, 6, none⟩ (.int .i64 1) = r1 at *
          have c2 := (cell_at HH'.out 2).trans (by rfl : _ = some (Value.iface 47 (.pointer (some a))))
          go_quiet (fail)
          go_wp2_with fail
          refine (zone_err (r1.drewN nq) b g s q a HH'.out).mono ?_
          rintro e w2 ⟨rfl, hw2⟩
          replace hw2 := hw2.symm
          subst hw2
          go_wp2
          go_end0
          exact ⟨rfl, HB'.out.drewN nq, Or.inl ⟨HX.out, ⟨q, a, hq, HH'.out⟩, HA'.out⟩⟩
        | false =>
          have c2 := (cell_at HH.out 2).trans (by rfl : _ = some (Value.iface 47 (.pointer (some a))))
          go_wp2_with fail
          go_quiet (fail)
          go_wp2_with fail
          refine (zone_err (r0.drewN nq) b g s q a HH.out).mono ?_
          rintro e w2 ⟨rfl, hw2⟩
          replace hw2 := hw2.symm
          subst hw2
          go_wp2
          go_end0
          exact ⟨rfl, HB.out.drewN nq, Or.inl ⟨HX.out, ⟨q, a, hq, HH.out⟩, HA.out⟩⟩
    · go_wp2_with fail
      have HB' : Hid (But2 b g w (w1.setCell ⟨g, 0, none⟩ (.int .i64 (1900 + v0)))) := HB.out.set2 _ _
      have HK' : Hid (scOk (w1.setCell ⟨g, 0, none⟩ (.int .i64 (1900 + v0))) b s (p + 2)) := sc_far hne _ _ HK.out
      have HF' : Hid (fld (w1.setCell ⟨g, 0, none⟩ (.int .i64 (1900 + v0))) g (yr v0) mo d h mi sec un x7 x8 z o) := by rw [show yr v0 = 1900 + v0 from if_neg (by omega)]; exact set_at HF.out 0 _
      clear HB HK HF fc fz
      generalize (w1.setCell ⟨g, 0, none⟩ (.int .i64 (1900 + v0))) = u0 at *
      have HB := HB'; have HK := HK'; have HF := HF'; clear HB' HK' HF'
      refine (number_any u0 b s (p + 2) _ HK.out hs hp1 (by decide)).mono ?_
      rintro e w2 ⟨v1, rfl, hbut, hg⟩
      have HF' : Hid (fld w2 g (yr v0) mo d h mi sec un x7 x8 z o) := (hbut.block g (heap_lt HF.out) hne).trans HF.out
      have HB' : Hid (But2 b g w w2) := HB.out.but hbut
      clear hbut HF HB HK
      have HF := HF'; have HB := HB'; clear HF' HB'
      rcases hg with hg | hg
      · obtain ⟨hv, hh, hd⟩ := hg
        have hvb := val_bd s (p + 2) 2 hd (by omega)
        have T1 : Hid (two s (p + 2) = true) := two_true hd
        have V1 : Hid (v1 = val s (p + 2) 2) := hv
        have lo1 : 0 ≤ v1 := by rw [hv]; exact hvb.1
        have hi1 : v1 ≤ 99 := by rw [hv]; exact hvb.2.1
        have hp2 : p + 4 ≤ s.size := by obtain ⟨h, _⟩ := dig_bd (hd 1 (by omega)); omega
        have HK : Hid (scOk w2 b s (p + 4)) := hh
        clear hv hh hd hvb
        have fc := (cell_at HF.out 1).trans (by rfl : _ = some (Value.int .i64 mo))
        have fz := frozen_at HF.out 1
        go_wp2_with fail
        have HB' : Hid (But2 b g w (w2.setCell ⟨g, 1, none⟩ (.int .i64 v1))) := HB.out.set2 _ _
        have HK' : Hid (scOk (w2.setCell ⟨g, 1, none⟩ (.int .i64 v1)) b s (p + 4)) := sc_far hne _ _ HK.out
        have HF' : Hid (fld (w2.setCell ⟨g, 1, none⟩ (.int .i64 v1)) g (yr v0) v1 d h mi sec un x7 x8 z o) := set_at HF.out 1 _
        clear HB HK HF fc fz
        generalize (w2.setCell ⟨g, 1, none⟩ (.int .i64 v1)) = u1 at *
        have HB := HB'; have HK := HK'; have HF := HF'; clear HB' HK' HF'
        refine (number_any u1 b s (p + 4) _ HK.out hs hp2 (by decide)).mono ?_
        rintro e w3 ⟨v2, rfl, hbut, hg⟩
        have HF' : Hid (fld w3 g (yr v0) v1 d h mi sec un x7 x8 z o) := (hbut.block g (heap_lt HF.out) hne).trans HF.out
        have HB' : Hid (But2 b g w w3) := HB.out.but hbut
        clear hbut HF HB HK
        have HF := HF'; have HB := HB'; clear HF' HB'
        rcases hg with hg | hg
        · obtain ⟨hv, hh, hd⟩ := hg
          have hvb := val_bd s (p + 4) 2 hd (by omega)
          have T2 : Hid (two s (p + 4) = true) := two_true hd
          have V2 : Hid (v2 = val s (p + 4) 2) := hv
          have lo2 : 0 ≤ v2 := by rw [hv]; exact hvb.1
          have hi2 : v2 ≤ 99 := by rw [hv]; exact hvb.2.1
          have hp3 : p + 6 ≤ s.size := by obtain ⟨h, _⟩ := dig_bd (hd 1 (by omega)); omega
          have HK : Hid (scOk w3 b s (p + 6)) := hh
          clear hv hh hd hvb
          have fc := (cell_at HF.out 2).trans (by rfl : _ = some (Value.int .i64 d))
          have fz := frozen_at HF.out 2
          go_wp2_with fail
          have HB' : Hid (But2 b g w (w3.setCell ⟨g, 2, none⟩ (.int .i64 v2))) := HB.out.set2 _ _
          have HK' : Hid (scOk (w3.setCell ⟨g, 2, none⟩ (.int .i64 v2)) b s (p + 6)) := sc_far hne _ _ HK.out
          have HF' : Hid (fld (w3.setCell ⟨g, 2, none⟩ (.int .i64 v2)) g (yr v0) v1 v2 h mi sec un x7 x8 z o) := set_at HF.out 2 _
          clear HB HK HF fc fz
          generalize (w3.setCell ⟨g, 2, none⟩ (.int .i64 v2)) = u2 at *
          have HB := HB'; have HK := HK'; have HF := HF'; clear HB' HK' HF'
          refine (number_any u2 b s (p + 6) _ HK.out hs hp3 (by decide)).mono ?_
          rintro e w4 ⟨v3, rfl, hbut, hg⟩
          have HF' : Hid (fld w4 g (yr v0) v1 v2 h mi sec un x7 x8 z o) := (hbut.block g (heap_lt HF.out) hne).trans HF.out
          have HB' : Hid (But2 b g w w4) := HB.out.but hbut
          clear hbut HF HB HK
          have HF := HF'; have HB := HB'; clear HF' HB'
          rcases hg with hg | hg
          · obtain ⟨hv, hh, hd⟩ := hg
            have hvb := val_bd s (p + 6) 2 hd (by omega)
            have T3 : Hid (two s (p + 6) = true) := two_true hd
            have V3 : Hid (v3 = val s (p + 6) 2) := hv
            have lo3 : 0 ≤ v3 := by rw [hv]; exact hvb.1
            have hi3 : v3 ≤ 99 := by rw [hv]; exact hvb.2.1
            have hp4 : p + 8 ≤ s.size := by obtain ⟨h, _⟩ := dig_bd (hd 1 (by omega)); omega
            have HK : Hid (scOk w4 b s (p + 8)) := hh
            clear hv hh hd hvb
            have fc := (cell_at HF.out 3).trans (by rfl : _ = some (Value.int .i64 h))
            have fz := frozen_at HF.out 3
            go_wp2_with fail
            have HB' : Hid (But2 b g w (w4.setCell ⟨g, 3, none⟩ (.int .i64 v3))) := HB.out.set2 _ _
            have HK' : Hid (scOk (w4.setCell ⟨g, 3, none⟩ (.int .i64 v3)) b s (p + 8)) := sc_far hne _ _ HK.out
            have HF' : Hid (fld (w4.setCell ⟨g, 3, none⟩ (.int .i64 v3)) g (yr v0) v1 v2 v3 mi sec un x7 x8 z o) := set_at HF.out 3 _
            clear HB HK HF fc fz
            generalize (w4.setCell ⟨g, 3, none⟩ (.int .i64 v3)) = u3 at *
            have HB := HB'; have HK := HK'; have HF := HF'; clear HB' HK' HF'
            refine (number_any u3 b s (p + 8) _ HK.out hs hp4 (by decide)).mono ?_
            rintro e w5 ⟨v4, rfl, hbut, hg⟩
            have HF' : Hid (fld w5 g (yr v0) v1 v2 v3 mi sec un x7 x8 z o) := (hbut.block g (heap_lt HF.out) hne).trans HF.out
            have HB' : Hid (But2 b g w w5) := HB.out.but hbut
            clear hbut HF HB HK
            have HF := HF'; have HB := HB'; clear HF' HB'
            rcases hg with hg | hg
            · obtain ⟨hv, hh, hd⟩ := hg
              have hvb := val_bd s (p + 8) 2 hd (by omega)
              have T4 : Hid (two s (p + 8) = true) := two_true hd
              have V4 : Hid (v4 = val s (p + 8) 2) := hv
              have lo4 : 0 ≤ v4 := by rw [hv]; exact hvb.1
              have hi4 : v4 ≤ 99 := by rw [hv]; exact hvb.2.1
              have hp5 : p + 10 ≤ s.size := by obtain ⟨h, _⟩ := dig_bd (hd 1 (by omega)); omega
              have HK : Hid (scOk w5 b s (p + 10)) := hh
              clear hv hh hd hvb
              have fc := (cell_at HF.out 4).trans (by rfl : _ = some (Value.int .i64 mi))
              have fz := frozen_at HF.out 4
              have fc6 := (cell_at HF.out 6).trans (by rfl : _ = some (Value.int .i64 un))
              have fz6 := frozen_at HF.out 6
              go_wp2_with fail
              have HB' : Hid (But2 b g w ((w5.setCell ⟨g, 4, none⟩ (.int .i64 v4)).setCell ⟨g, 6, none⟩ (.int .i64 60))) := (HB.out.set2 _ _).set2 _ _
              have HK' : Hid (scOk ((w5.setCell ⟨g, 4, none⟩ (.int .i64 v4)).setCell ⟨g, 6, none⟩ (.int .i64 60)) b s (p + 10)) := sc_far hne _ _ (sc_far hne _ _ HK.out)
              have HF' : Hid (fld ((w5.setCell ⟨g, 4, none⟩ (.int .i64 v4)).setCell ⟨g, 6, none⟩ (.int .i64 60)) g (yr v0) v1 v2 v3 v4 sec 60 x7 x8 z o) := set_at (set_at HF.out 4 _) 6 _
              clear HB HK HF fc fz fc6 fz6
              generalize ((w5.setCell ⟨g, 4, none⟩ (.int .i64 v4)).setCell ⟨g, 6, none⟩ (.int .i64 60)) = u4 at *
              have HB := HB'; have HK := HK'; have HF := HF'; clear HB' HK' HF'
              refine (digitNext_any u4 b s (p + 10) _ HK.out hs).mono ?_
              rintro e w' ⟨rfl, n, rfl⟩
              have HB' : Hid (But2 b g w (u4.drewN n)) := HB.out.drewN n
              have HK' : Hid (scOk (u4.drewN n) b s (p + 10)) := HK.out
              have HF' : Hid (fld (u4.drewN n) g (yr v0) v1 v2 v3 v4 sec 60 x7 x8 z o) := HF.out
              clear HB HK HF
              generalize u4.drewN n = r0 at *
              have HB := HB'; have HK := HK'; have HF := HF'; clear HB' HK' HF'
              cases hd : isDig s (p + 10) with
              | true =>
                go_wp2_with fail
                refine (number_any r0 b s (p + 10) _ HK.out hs hp5 (by decide)).mono ?_
                rintro e w6 ⟨v5, rfl, hbut, hg⟩
                have HF' : Hid (fld w6 g (yr v0) v1 v2 v3 v4 sec 60 x7 x8 z o) := (hbut.block g (heap_lt HF.out) hne).trans HF.out
                have HB' : Hid (But2 b g w w6) := HB.out.but hbut
                clear hbut HF HB HK
                have HF := HF'; have HB := HB'; clear HF' HB'
                have fc5 := (cell_at HF.out 5).trans (by rfl : _ = some (Value.int .i64 sec))
                have fz5 := frozen_at HF.out 5
                have fc6 := (cell_at HF.out 6).trans (by rfl : _ = some (Value.int .i64 60))
                have fz6 := frozen_at HF.out 6
                rcases hg with hg | hg
                · obtain ⟨hv, hh, hdd⟩ := hg
                  have T5 : Hid (two s (p + 10) = true) := two_true hdd
                  have V5 : Hid (v5 = val s (p + 10) 2) := hv
                  have hp6 : p + 12 ≤ s.size := by obtain ⟨h, _⟩ := dig_bd (hdd 1 (by omega)); omega
                  have HK : Hid (scOk w6 b s (p + 12)) := hh
                  clear hv hh hdd
                  go_wp2_with fail
                  have HB' : Hid (But2 b g w ((w6.setCell ⟨g, 5, none⟩ (.int .i64 v5)).setCell ⟨g, 6, none⟩ (.int .i64 1))) := (HB.out.set2 _ _).set2 _ _
                  have HK' : Hid (scOk ((w6.setCell ⟨g, 5, none⟩ (.int .i64 v5)).setCell ⟨g, 6, none⟩ (.int .i64 1)) b s (p + 12)) := sc_far hne _ _ (sc_far hne _ _ HK.out)
                  have HF' : Hid (fld ((w6.setCell ⟨g, 5, none⟩ (.int .i64 v5)).setCell ⟨g, 6, none⟩ (.int .i64 1)) g (yr v0) v1 v2 v3 v4 v5 1 x7 x8 z o) := set_at (set_at HF.out 5 _) 6 _
                  clear HB HK HF fc5 fz5 fc6 fz6
                  generalize ((w6.setCell ⟨g, 5, none⟩ (.int .i64 v5)).setCell ⟨g, 6, none⟩ (.int .i64 1)) = r1 at *
                  have HB := HB'; have HK := HK'; have HF := HF'; clear HB' HK' HF'
                  have hzo : Hid (∀ x, zoneR s (p + 12) o = x → tailR s p sec o = x.map (fun r => (v5, 1, r.1, r.2.1, 12 + r.2.2))) := fun x hz => by simp [tailR, hd, T5.out, ← V5.out, hz]
                  have HP : Hid (pre s p = true) := by show pre s p = true; simp [pre, T0.out, T1.out, T2.out, T3.out, T4.out]
                  generalize hq : p + 12 = q at HK hp6 hzo
                  have HQ : Hid (p + 12 = q) := hq
                  clear hq
                  have c0 := (cell_at HK.out 0).trans (by rfl : _ = some (Value.string s))
                  have c1 := (cell_at HK.out 1).trans (by rfl : _ = some (Value.int .i64 (q : Int)))
                  have c2 := (cell_at HK.out 2).trans (by rfl : _ = some Value.nilIface)
                  by_cases hqs : q < s.size
                  · have hqe : ((q : Int) == (s.size : Int)) = false := by simp; omega
                    go_quiet (fail)
                    go_wp2_with fail
                    refine (zone_any (r1.drewN nq) b g hne s q (yr v0) v1 v2 v3 v4 v5 1 x7 x8 z o HK.out HF.out hs hqs).mono ?_
                    rintro e w9 ⟨rfl, hbz, hres⟩
                    have HR := hide hres
                    clear hres
                    go_wp2
                    go_end0
                    refine ⟨rfl, (HB.out.drewN nq).trans hbz, ?_⟩
                    rcases unhide HR with ⟨z', o', hbad, hfl, hzr⟩ | ⟨z', o', n', hok, hfl, hzr⟩
                    · exact Or.inl ⟨Or.inr (by rw [hzo.out _ hzr]; rfl), hbad, ⟨_, _, _, _, _, _, _, _, _, _, _, hfl⟩⟩
                    · refine Or.inr ⟨HP.out, v5, 1, z', o', 12 + n', by rw [hzo.out _ hzr]; rfl, ?_, ?_⟩
                      · rw [← Nat.add_assoc, HQ.out]; exact hok
                      · rw [← V0.out, ← V1.out, ← V2.out, ← V3.out, ← V4.out]; exact hfl
                  · have hqe : q = s.size := by omega
                    have HE : Hid (q = s.size) := hqe
                    have hqe' : ((q : Int) == (s.size : Int)) = true := by simp; omega
                    clear hqe
                    go_quiet (fail)
                    go_wp2_with fail
                    refine (errNew (r1.drewN nq) _).mono ?_
                    rintro e w8 ⟨a, rfl, hbl⟩
                    have HB' : Hid (But2 b g w w8) := (HB.out.drewN nq).below hbl
                    have HK' : Hid (scOk w8 b s q) := (hbl.block b (heap_lt HK.out)).trans HK.out
                    have HF' : Hid (fld w8 g (yr v0) v1 v2 v3 v4 v5 1 x7 x8 z o) := (hbl.block g (heap_lt HF.out)).trans HF.out
                    clear hbl HB HK HF c0 c1 c2
                    have c2 := (cell_at HK'.out 2).trans (by rfl : _ = some Value.nilIface)
                    have cz2 := frozen_at HK'.out 2
                    go_wp2_with fail
                    have HB : Hid (But2 b g w (w8.setCell ⟨b, 2, none⟩ (.iface 47 (.pointer (some a))))) := HB'.out.set1 _ _
                    have HS : Hid ((w8.setCell ⟨b, 2, none⟩ (.iface 47 (.pointer (some a)))).heap[b]? = some (.cells #[.string s, .int .i64 (q : Int), .iface 47 (.pointer (some a))] 37)) := set_at HK'.out 2 _
                    have HF : Hid (fld (w8.setCell ⟨b, 2, none⟩ (.iface 47 (.pointer (some a)))) g (yr v0) v1 v2 v3 v4 v5 1 x7 x8 z o) := err_fld hne HF'.out _
                    clear HB' HK' HF' c2 cz2
                    generalize w8.setCell ⟨b, 2, none⟩ (.iface 47 (.pointer (some a))) = w9 at *
                    refine (zone_err w9 b g s q a HS.out).mono ?_
                    rintro e w2 ⟨rfl, hw2⟩
                    replace hw2 := hw2.symm
                    subst hw2
                    go_wp2
                    go_end0
                    exact ⟨rfl, HB.out, Or.inl ⟨Or.inr (by rw [hzo.out none (zoneR_end HE.out)]; rfl), ⟨q, a, hp6, HS.out⟩, ⟨_, _, _, _, _, _, _, _, _, _, _, HF.out⟩⟩⟩
                · obtain ⟨lo, hi, ⟨q, a, hq, hh⟩, hx⟩ := hg
                  have HH := (show Hid _ from hh)
                  have HX : Hid (pre s p = false ∨ tailR s p sec o = none) := Or.inr (by simp [tailR, hd, two_false hx])
                  have HA : Hid (fAny w6 g) := ⟨_, _, _, _, _, _, _, _, _, _, _, HF.out⟩
                  clear hh hx HF
                  go_wp2_with fail
                  have HB' : Hid (But2 b g w ((w6.setCell ⟨g, 5, none⟩ (.int .i64 v5)).setCell ⟨g, 6, none⟩ (.int .i64 1))) := (HB.out.set2 _ _).set2 _ _
                  have HH' : Hid (((w6.setCell ⟨g, 5, none⟩ (.int .i64 v5)).setCell ⟨g, 6, none⟩ (.int .i64 1)).heap[b]? = some (.cells #[.string s, .int .i64 (q : Int), .iface 47 (.pointer (some a))] 37)) := sc_far hne _ _ (sc_far hne _ _ HH.out)
                  have HA' : Hid (fAny ((w6.setCell ⟨g, 5, none⟩ (.int .i64 v5)).setCell ⟨g, 6, none⟩ (.int .i64 1)) g) := fAny_set (fAny_set HA.out _ (by decide) _) _ (by decide) _
                  clear HB HH HA fc5 fz5 fc6 fz6
                  generalize ((w6.setCell ⟨g, 5, none⟩ (.int .i64 v5)).setCell ⟨g, 6, none⟩ (.int .i64 1)) = r1 at *
                  have c2 := (cell_at HH'.out 2).trans (by rfl : _ = some (Value.iface 47 (.pointer (some a))))
                  go_quiet (fail)
                  go_wp2_with fail
                  refine (zone_err (r1.drewN nq) b g s q a HH'.out).mono ?_
                  rintro e w2 ⟨rfl, hw2⟩
                  replace hw2 := hw2.symm
                  subst hw2
                  go_wp2
                  go_end0
                  exact ⟨rfl, HB'.out.drewN nq, Or.inl ⟨HX.out, ⟨q, a, hq, HH'.out⟩, HA'.out⟩⟩

              | false =>
                go_wp2_with fail
                have hp6 := hp5
                have hzo : Hid (∀ x, zoneR s (p + 10) o = x → tailR s p sec o = x.map (fun r => (sec, 60, r.1, r.2.1, 10 + r.2.2))) := fun x hz => by simp [tailR, hd, hz]
                have HP : Hid (pre s p = true) := by show pre s p = true; simp [pre, T0.out, T1.out, T2.out, T3.out, T4.out]
                generalize hq : p + 10 = q at HK hp6 hzo
                have HQ : Hid (p + 10 = q) := hq
                clear hq
                have c0 := (cell_at HK.out 0).trans (by rfl : _ = some (Value.string s))
                have c1 := (cell_at HK.out 1).trans (by rfl : _ = some (Value.int .i64 (q : Int)))
                have c2 := (cell_at HK.out 2).trans (by rfl : _ = some Value.nilIface)
                by_cases hqs : q < s.size
                · have hqe : ((q : Int) == (s.size : Int)) = false := by simp; omega
                  go_quiet (fail)
                  go_wp2_with fail
                  refine (zone_any (r0.drewN nq) b g hne s q (yr v0) v1 v2 v3 v4 sec 60 x7 x8 z o HK.out HF.out hs hqs).mono ?_
                  rintro e w9 ⟨rfl, hbz, hres⟩
                  have HR := hide hres
                  clear hres
                  go_wp2
                  go_end0
                  refine ⟨rfl, (HB.out.drewN nq).trans hbz, ?_⟩
                  rcases unhide HR with ⟨z', o', hbad, hfl, hzr⟩ | ⟨z', o', n', hok, hfl, hzr⟩
                  · exact Or.inl ⟨Or.inr (by rw [hzo.out _ hzr]; rfl), hbad, ⟨_, _, _, _, _, _, _, _, _, _, _, hfl⟩⟩
                  · refine Or.inr ⟨HP.out, sec, 60, z', o', 10 + n', by rw [hzo.out _ hzr]; rfl, ?_, ?_⟩
                    · rw [← Nat.add_assoc, HQ.out]; exact hok
                    · rw [← V0.out, ← V1.out, ← V2.out, ← V3.out, ← V4.out]; exact hfl
                · have hqe : q = s.size := by omega
                  have HE : Hid (q = s.size) := hqe
                  have hqe' : ((q : Int) == (s.size : Int)) = true := by simp; omega
                  clear hqe
                  go_quiet (fail)
                  go_wp2_with fail
                  refine (errNew (r0.drewN nq) _).mono ?_
                  rintro e w8 ⟨a, rfl, hbl⟩
                  have HB' : Hid (But2 b g w w8) := (HB.out.drewN nq).below hbl
                  have HK' : Hid (scOk w8 b s q) := (hbl.block b (heap_lt HK.out)).trans HK.out
                  have HF' : Hid (fld w8 g (yr v0) v1 v2 v3 v4 sec 60 x7 x8 z o) := (hbl.block g (heap_lt HF.out)).trans HF.out
                  clear hbl HB HK HF c0 c1 c2
                  have c2 := (cell_at HK'.out 2).trans (by rfl : _ = some Value.nilIface)
                  have cz2 := frozen_at HK'.out 2
                  go_wp2_with fail
                  have HB : Hid (But2 b g w (w8.setCell ⟨b, 2, none⟩ (.iface 47 (.pointer (some a))))) := HB'.out.set1 _ _
                  have HS : Hid ((w8.setCell ⟨b, 2, none⟩ (.iface 47 (.pointer (some a)))).heap[b]? = some (.cells #[.string s, .int .i64 (q : Int), .iface 47 (.pointer (some a))] 37)) := set_at HK'.out 2 _
                  have HF : Hid (fld (w8.setCell ⟨b, 2, none⟩ (.iface 47 (.pointer (some a)))) g (yr v0) v1 v2 v3 v4 sec 60 x7 x8 z o) := err_fld hne HF'.out _
                  clear HB' HK' HF' c2 cz2
                  generalize w8.setCell ⟨b, 2, none⟩ (.iface 47 (.pointer (some a))) = w9 at *
                  refine (zone_err w9 b g s q a HS.out).mono ?_
                  rintro e w2 ⟨rfl, hw2⟩
                  replace hw2 := hw2.symm
                  subst hw2
                  go_wp2
                  go_end0
                  exact ⟨rfl, HB.out, Or.inl ⟨Or.inr (by rw [hzo.out none (zoneR_end HE.out)]; rfl), ⟨q, a, hp6, HS.out⟩, ⟨_, _, _, _, _, _, _, _, _, _, _, HF.out⟩⟩⟩
            · obtain ⟨lo, hi, ⟨q, a, hq, hh⟩, hx⟩ := hg
              have HH := (show Hid _ from hh)
              have HX : Hid (pre s p = false ∨ tailR s p sec o = none) := Or.inl (by simp [pre, two_false hx])
              have HA : Hid (fAny w5 g) := ⟨_, _, _, _, _, _, _, _, _, _, _, HF.out⟩
              clear hh hx HF
              obtain ⟨y4, mo4, d4, h4, mi4, sec4, un4, x74, x84, zz4, o4, hf4⟩ := HA.out
              have fc := (cell_at hf4 4).trans (by rfl : _ = some (Value.int .i64 mi4))
              have fz := frozen_at hf4 4
              have fc6 := (cell_at hf4 6).trans (by rfl : _ = some (Value.int .i64 un4))
              have fz6 := frozen_at hf4 6
              clear hf4
              go_wp2_with fail
              have HB' : Hid (But2 b g w ((w5.setCell ⟨g, 4, none⟩ (.int .i64 v4)).setCell ⟨g, 6, none⟩ (.int .i64 60))) := (HB.out.set2 _ _).set2 _ _
              have HH' : Hid (((w5.setCell ⟨g, 4, none⟩ (.int .i64 v4)).setCell ⟨g, 6, none⟩ (.int .i64 60)).heap[b]? = some (.cells #[.string s, .int .i64 (q : Int), .iface 47 (.pointer (some a))] 37)) := sc_far hne _ _ (sc_far hne _ _ HH.out)
              have HA' : Hid (fAny ((w5.setCell ⟨g, 4, none⟩ (.int .i64 v4)).setCell ⟨g, 6, none⟩ (.int .i64 60)) g) := fAny_set (fAny_set HA.out _ (by decide) _) _ (by decide) _
              clear HB HH HA fc fz fc6 fz6
              generalize ((w5.setCell ⟨g, 4, none⟩ (.int .i64 v4)).setCell ⟨g, 6, none⟩ (.int .i64 60)) = u4 at *
              have HB := HB'; have HH := HH'; have HA := HA'; clear HB' HH' HA'
              refine (digitNext_any u4 b s q _ HH.out hs).mono ?_
              rintro e w' ⟨rfl, n, rfl⟩
              have HB' : Hid (But2 b g w (u4.drewN n)) := HB.out.drewN n
              have HH' : Hid ((u4.drewN n).heap[b]? = some (.cells #[.string s, .int .i64 (q : Int), .iface 47 (.pointer (some a))] 37)) := HH.out
              have HA' : Hid (fAny (u4.drewN n) g) := HA.out
              clear HB HH HA
              generalize u4.drewN n = r0 at *
              have HB := HB'; have HH := HH'; have HA := HA'; clear HB' HH' HA'
              cases hd : isDig s q with
              | true =>
                obtain ⟨y9, mo9, d9, h9, mi9, sec9, un9, x79, x89, zz9, o9, hf9⟩ := HA.out
                have fc5 := (cell_at hf9 5).trans (by rfl : _ = some (Value.int .i64 sec9))
                have fz5 := frozen_at hf9 5
                have fc6 := (cell_at hf9 6).trans (by rfl : _ = some (Value.int .i64 un9))
                have fz6 := frozen_at hf9 6
                clear hf9
                go_wp2_with fail
                refine (number_err r0 b s q a _ HH.out).mono ?_
                rintro e w' ⟨rfl, hw⟩
                replace hw := hw.symm
                subst hw
                go_wp2_with fail
                have HB' : Hid (But2 b g w ((r0.setCell ⟨g, 5, none⟩ (.int .i64 0)).setCell ⟨g, 6, none⟩ (.int .i64 1))) := (HB.out.set2 _ _).set2 _ _
                have HH' : Hid (((r0.setCell ⟨g, 5, none⟩ (.int .i64 0)).setCell ⟨g, 6, none⟩ (.int .i64 1)).heap[b]? = some (.cells #[.string s, .int .i64 (q : Int), .iface 47 (.pointer (some a))] 37)) := sc_far hne _ _ (sc_far hne _ _ HH.out)
                have HA' : Hid (fAny ((r0.setCell ⟨g, 5, none⟩ (.int .i64 0)).setCell ⟨g, 6, none⟩ (.int .i64 1)) g) := fAny_set (fAny_set HA.out _ (by decide) _) _ (by decide) _
                clear HB HH HA fc5 fz5 fc6 fz6
                generalize (r0.setCell ⟨g, 5, none⟩ (.int .i64 0)).setCell ⟨g, 6, none⟩ (.int .i64 1) = r1 at *
                have c2 := (cell_at HH'.out 2).trans (by rfl : _ = some (Value.iface 47 (.pointer (some a))))
                go_quiet (fail)
                go_wp2_with fail
                refine (zone_err (r1.drewN nq) b g s q a HH'.out).mono ?_
                rintro e w2 ⟨rfl, hw2⟩
                replace hw2 := hw2.symm
                subst hw2
                go_wp2
                go_end0
                exact ⟨rfl, HB'.out.drewN nq, Or.inl ⟨HX.out, ⟨q, a, hq, HH'.out⟩, HA'.out⟩⟩
              | false =>
                have c2 := (cell_at HH.out 2).trans (by rfl : _ = some (Value.iface 47 (.pointer (some a))))
                go_wp2_with fail
                go_quiet (fail)
                go_wp2_with fail
                refine (zone_err (r0.drewN nq) b g s q a HH.out).mono ?_
                rintro e w2 ⟨rfl, hw2⟩
                replace hw2 := hw2.symm
                subst hw2
                go_wp2
                go_end0
                exact ⟨rfl, HB.out.drewN nq, Or.inl ⟨HX.out, ⟨q, a, hq, HH.out⟩, HA.out⟩⟩
          · obtain ⟨lo, hi, ⟨q, a, hq, hh⟩, hx⟩ := hg
            have HH := (show Hid _ from hh)
            have HX : Hid (pre s p = false ∨ tailR s p sec o = none) := Or.inl (by simp [pre, two_false hx])
            have HA : Hid (fAny w4 g) := ⟨_, _, _, _, _, _, _, _, _, _, _, HF.out⟩
            clear hh hx HF
            obtain ⟨y3, mo3, d3, h3, mi3, sec3, un3, x73, x83, zz3, o3, hf3⟩ := HA.out
            have fc := (cell_at hf3 3).trans (by rfl : _ = some (Value.int .i64 h3))
            have fz := frozen_at hf3 3
            clear hf3
            go_wp2_with fail
            have HB' : Hid (But2 b g w (w4.setCell ⟨g, 3, none⟩ (.int .i64 v3))) := HB.out.set2 _ _
            have HH' : Hid ((w4.setCell ⟨g, 3, none⟩ (.int .i64 v3)).heap[b]? = some (.cells #[.string s, .int .i64 (q : Int), .iface 47 (.pointer (some a))] 37)) := sc_far hne _ _ HH.out
            have HA' : Hid (fAny (w4.setCell ⟨g, 3, none⟩ (.int .i64 v3)) g) := fAny_set HA.out _ (by decide) _
            clear HB HH HA fc fz
            generalize (w4.setCell ⟨g, 3, none⟩ (.int .i64 v3)) = u3 at *
            have HB := HB'; have HH := HH'; have HA := HA'; clear HB' HH' HA'
            refine (number_err u3 b s q a _ HH.out).mono ?_
            rintro e w' ⟨rfl, hw⟩
            replace hw := hw.symm
            subst hw
            obtain ⟨y4, mo4, d4, h4, mi4, sec4, un4, x74, x84, zz4, o4, hf4⟩ := HA.out
            have fc := (cell_at hf4 4).trans (by rfl : _ = some (Value.int .i64 mi4))
            have fz := frozen_at hf4 4
            have fc6 := (cell_at hf4 6).trans (by rfl : _ = some (Value.int .i64 un4))
            have fz6 := frozen_at hf4 6
            clear hf4
            go_wp2_with fail
            have HB' : Hid (But2 b g w ((u3.setCell ⟨g, 4, none⟩ (.int .i64 0)).setCell ⟨g, 6, none⟩ (.int .i64 60))) := (HB.out.set2 _ _).set2 _ _
            have HH' : Hid (((u3.setCell ⟨g, 4, none⟩ (.int .i64 0)).setCell ⟨g, 6, none⟩ (.int .i64 60)).heap[b]? = some (.cells #[.string s, .int .i64 (q : Int), .iface 47 (.pointer (some a))] 37)) := sc_far hne _ _ (sc_far hne _ _ HH.out)
            have HA' : Hid (fAny ((u3.setCell ⟨g, 4, none⟩ (.int .i64 0)).setCell ⟨g, 6, none⟩ (.int .i64 60)) g) := fAny_set (fAny_set HA.out _ (by decide) _) _ (by decide) _
            clear HB HH HA fc fz fc6 fz6
            generalize ((u3.setCell ⟨g, 4, none⟩ (.int .i64 0)).setCell ⟨g, 6, none⟩ (.int .i64 60)) = u4 at *
            have HB := HB'; have HH := HH'; have HA := HA'; clear HB' HH' HA'
            refine (digitNext_any u4 b s q _ HH.out hs).mono ?_
            rintro e w' ⟨rfl, n, rfl⟩
            have HB' : Hid (But2 b g w (u4.drewN n)) := HB.out.drewN n
            have HH' : Hid ((u4.drewN n).heap[b]? = some (.cells #[.string s, .int .i64 (q : Int), .iface 47 (.pointer (some a))] 37)) := HH.out
            have HA' : Hid (fAny (u4.drewN n) g) := HA.out
            clear HB HH HA
            generalize u4.drewN n = r0 at *
            have HB := HB'; have HH := HH'; have HA := HA'; clear HB' HH' HA'
            cases hd : isDig s q with
            | true =>
              obtain ⟨y9, mo9, d9, h9, mi9, sec9, un9, x79, x89, zz9, o9, hf9⟩ := HA.out
              have fc5 := (cell_at hf9 5).trans (by rfl : _ = some (Value.int .i64 sec9))
              have fz5 := frozen_at hf9 5
              have fc6 := (cell_at hf9 6).trans (by rfl : _ = some (Value.int .i64 un9))
              have fz6 := frozen_at hf9 6
              clear hf9
              go_wp2_with fail
              refine (number_err r0 b s q a _ HH.out).mono ?_
              rintro e w' ⟨rfl, hw⟩
              replace hw := hw.symm
              subst hw
              go_wp2_with fail
              have HB' : Hid (But2 b g w ((r0.setCell ⟨g, 5, none⟩ (.int .i64 0)).setCell ⟨g, 6, none⟩ (.int .i64 1))) := (HB.out.set2 _ _).set2 _ _
              have HH' : Hid (((r0.setCell ⟨g, 5, none⟩ (.int .i64 0)).setCell ⟨g, 6, none⟩ (.int .i64 1)).heap[b]? = some (.cells #[.string s, .int .i64 (q : Int), .iface 47 (.pointer (some a))] 37)) := sc_far hne _ _ (sc_far hne _ _ HH.out)
              have HA' : Hid (fAny ((r0.setCell ⟨g, 5, none⟩ (.int .i64 0)).setCell ⟨g, 6, none⟩ (.int .i64 1)) g) := fAny_set (fAny_set HA.out _ (by decide) _) _ (by decide) _
              clear HB HH HA fc5 fz5 fc6 fz6
              generalize (r0.setCell ⟨g, 5, none⟩ (.int .i64 0)).setCell ⟨g, 6, none⟩ (.int .i64 1) = r1 at *
              have c2 := (cell_at HH'.out 2).trans (by rfl : _ = some (Value.iface 47 (.pointer (some a))))
              go_quiet (fail)
              go_wp2_with fail
              refine (zone_err (r1.drewN nq) b g s q a HH'.out).mono ?_
              rintro e w2 ⟨rfl, hw2⟩
              replace hw2 := hw2.symm
              subst hw2
              go_wp2
              go_end0
              exact ⟨rfl, HB'.out.drewN nq, Or.inl ⟨HX.out, ⟨q, a, hq, HH'.out⟩, HA'.out⟩⟩
            | false =>
              have c2 := (cell_at HH.out 2).trans (by rfl : _ = some (Value.iface 47 (.pointer (some a))))
              go_wp2_with fail
              go_quiet (fail)
              go_wp2_with fail
              refine (zone_err (r0.drewN nq) b g s q a HH.out).mono ?_
              rintro e w2 ⟨rfl, hw2⟩
              replace hw2 := hw2.symm
              subst hw2
              go_wp2
              go_end0
              exact ⟨rfl, HB.out.drewN nq, Or.inl ⟨HX.out, ⟨q, a, hq, HH.out⟩, HA.out⟩⟩
        · obtain ⟨lo, hi, ⟨q, a, hq, hh⟩, hx⟩ := hg
          have HH := (show Hid _ from hh)
          have HX : Hid (pre s p = false ∨ tailR s p sec o = none) := Or.inl (by simp [pre, two_false hx])
          have HA : Hid (fAny w3 g) := ⟨_, _, _, _, _, _, _, _, _, _, _, HF.out⟩
          clear hh hx HF
          obtain ⟨y2, mo2, d2, h2, mi2, sec2, un2, x72, x82, zz2, o2, hf2⟩ := HA.out
          have fc := (cell_at hf2 2).trans (by rfl : _ = some (Value.int .i64 d2))
          have fz := frozen_at hf2 2
          clear hf2
          go_wp2_with fail
          have HB' : Hid (But2 b g w (w3.setCell ⟨g, 2, none⟩ (.int .i64 v2))) := HB.out.set2 _ _
          have HH' : Hid ((w3.setCell ⟨g, 2, none⟩ (.int .i64 v2)).heap[b]? = some (.cells #[.string s, .int .i64 (q : Int), .iface 47 (.pointer (some a))] 37)) := sc_far hne _ _ HH.out
          have HA' : Hid (fAny (w3.setCell ⟨g, 2, none⟩ (.int .i64 v2)) g) := fAny_set HA.out _ (by decide) _
          clear HB HH HA fc fz
          generalize (w3.setCell ⟨g, 2, none⟩ (.int .i64 v2)) = u2 at *
          have HB := HB'; have HH := HH'; have HA := HA'; clear HB' HH' HA'
          refine (number_err u2 b s q a _ HH.out).mono ?_
          rintro e w' ⟨rfl, hw⟩
          replace hw := hw.symm
          subst hw
          obtain ⟨y3, mo3, d3, h3, mi3, sec3, un3, x73, x83, zz3, o3, hf3⟩ := HA.out
          have fc := (cell_at hf3 3).trans (by rfl : _ = some (Value.int .i64 h3))
          have fz := frozen_at hf3 3
          clear hf3
          go_wp2_with fail
          have HB' : Hid (But2 b g w (u2.setCell ⟨g, 3, none⟩ (.int .i64 0))) := HB.out.set2 _ _
          have HH' : Hid ((u2.setCell ⟨g, 3, none⟩ (.int .i64 0)).heap[b]? = some (.cells #[.string s, .int .i64 (q : Int), .iface 47 (.pointer (some a))] 37)) := sc_far hne _ _ HH.out
          have HA' : Hid (fAny (u2.setCell ⟨g, 3, none⟩ (.int .i64 0)) g) := fAny_set HA.out _ (by decide) _
          clear HB HH HA fc fz
          generalize (u2.setCell ⟨g, 3, none⟩ (.int .i64 0)) = u3 at *
          have HB := HB'; have HH := HH'; have HA := HA'; clear HB' HH' HA'
          refine (number_err u3 b s q a _ HH.out).mono ?_
          rintro e w' ⟨rfl, hw⟩
          replace hw := hw.symm
          subst hw
          obtain ⟨y4, mo4, d4, h4, mi4, sec4, un4, x74, x84, zz4, o4, hf4⟩ := HA.out
          have fc := (cell_at hf4 4).trans (by rfl : _ = some (Value.int .i64 mi4))
          have fz := frozen_at hf4 4
          have fc6 := (cell_at hf4 6).trans (by rfl : _ = some (Value.int .i64 un4))
          have fz6 := frozen_at hf4 6
          clear hf4
          go_wp2_with fail
          have HB' : Hid (But2 b g w ((u3.setCell ⟨g, 4, none⟩ (.int .i64 0)).setCell ⟨g, 6, none⟩ (.int .i64 60))) := (HB.out.set2 _ _).set2 _ _
          have HH' : Hid (((u3.setCell ⟨g, 4, none⟩ (.int .i64 0)).setCell ⟨g, 6, none⟩ (.int .i64 60)).heap[b]? = some (.cells #[.string s, .int .i64 (q : Int), .iface 47 (.pointer (some a))] 37)) := sc_far hne _ _ (sc_far hne _ _ HH.out)
          have HA' : Hid (fAny ((u3.setCell ⟨g, 4, none⟩ (.int .i64 0)).setCell ⟨g, 6, none⟩ (.int .i64 60)) g) := fAny_set (fAny_set HA.out _ (by decide) _) _ (by decide) _
          clear HB HH HA fc fz fc6 fz6
          generalize ((u3.setCell ⟨g, 4, none⟩ (.int .i64 0)).setCell ⟨g, 6, none⟩ (.int .i64 60)) = u4 at *
          have HB := HB'; have HH := HH'; have HA := HA'; clear HB' HH' HA'
          refine (digitNext_any u4 b s q _ HH.out hs).mono ?_
          rintro e w' ⟨rfl, n, rfl⟩
          have HB' : Hid (But2 b g w (u4.drewN n)) := HB.out.drewN n
          have HH' : Hid ((u4.drewN n).heap[b]? = some (.cells #[.string s, .int .i64 (q : Int), .iface 47 (.pointer (some a))] 37)) := HH.out
          have HA' : Hid (fAny (u4.drewN n) g) := HA.out
          clear HB HH HA
          generalize u4.drewN n = r0 at *
          have HB := HB'; have HH := HH'; have HA := HA'; clear HB' HH' HA'
          cases hd : isDig s q with
          | true =>
            obtain ⟨y9, mo9, d9, h9, mi9, sec9, un9, x79, x89, zz9, o9, hf9⟩ := HA.out
            have fc5 := (cell_at hf9 5).trans (by rfl : _ = some (Value.int .i64 sec9))
            have fz5 := frozen_at hf9 5
            have fc6 := (cell_at hf9 6).trans (by rfl : _ = some (Value.int .i64 un9))
            have fz6 := frozen_at hf9 6
            clear hf9
            go_wp2_with fail
            refine (number_err r0 b s q a _ HH.out).mono ?_
            rintro e w' ⟨rfl, hw⟩
            replace hw := hw.symm
            subst hw
            go_wp2_with fail
            have HB' : Hid (But2 b g w ((r0.setCell ⟨g, 5, none⟩ (.int .i64 0)).setCell ⟨g, 6, none⟩ (.int .i64 1))) := (HB.out.set2 _ _).set2 _ _
            have HH' : Hid (((r0.setCell ⟨g, 5, none⟩ (.int .i64 0)).setCell ⟨g, 6, none⟩ (.int .i64 1)).heap[b]? = some (.cells #[.string s, .int .i64 (q : Int), .iface 47 (.pointer (some a))] 37)) := sc_far hne _ _ (sc_far hne _ _ HH.out)
            have HA' : Hid (fAny ((r0.setCell ⟨g, 5, none⟩ (.int .i64 0)).setCell ⟨g, 6, none⟩ (.int .i64 1)) g) := fAny_set (fAny_set HA.out _ (by decide) _) _ (by decide) _
            clear HB HH HA fc5 fz5 fc6 fz6
            generalize (r0.setCell ⟨g, 5, none⟩ (.int .i64 0)).setCell ⟨g, 6, none⟩ (.int .i64 1) = r1 at *
            have c2 := (cell_at HH'.out 2).trans (by rfl : _ = some (Value.iface 47 (.pointer (some a))))
            go_quiet (fail)
            go_wp2_with fail
            refine (zone_err (r1.drewN nq) b g s q a HH'.out).mono ?_
            rintro e w2 ⟨rfl, hw2⟩
            replace hw2 := hw2.symm
            subst hw2
            go_wp2
            go_end0
            exact ⟨rfl, HB'.out.drewN nq, Or.inl ⟨HX.out, ⟨q, a, hq, HH'.out⟩, HA'.out⟩⟩
          | false =>
            have c2 := (cell_at HH.out 2).trans (by rfl : _ = some (Value.iface 47 (.pointer (some a))))
            go_wp2_with fail
            go_quiet (fail)
            go_wp2_with fail
            refine (zone_err (r0.drewN nq) b g s q a HH.out).mono ?_
            rintro e w2 ⟨rfl, hw2⟩
            replace hw2 := hw2.symm
            subst hw2
            go_wp2
            go_end0
            exact ⟨rfl, HB.out.drewN nq, Or.inl ⟨HX.out, ⟨q, a, hq, HH.out⟩, HA.out⟩⟩
      · obtain ⟨lo, hi, ⟨q, a, hq, hh⟩, hx⟩ := hg
        have HH := (show Hid _ from hh)
        have HX : Hid (pre s p = false ∨ tailR s p sec o = none) := Or.inl (by simp [pre, two_false hx])
        have HA : Hid (fAny w2 g) := ⟨_, _, _, _, _, _, _, _, _, _, _, HF.out⟩
        clear hh hx HF
        obtain ⟨y1, mo1, d1, h1, mi1, sec1, un1, x71, x81, zz1, o1, hf1⟩ := HA.out
        have fc := (cell_at hf1 1).trans (by rfl : _ = some (Value.int .i64 mo1))
        have fz := frozen_at hf1 1
        clear hf1
        go_wp2_with fail
        have HB' : Hid (But2 b g w (w2.setCell ⟨g, 1, none⟩ (.int .i64 v1))) := HB.out.set2 _ _
        have HH' : Hid ((w2.setCell ⟨g, 1, none⟩ (.int .i64 v1)).heap[b]? = some (.cells #[.string s, .int .i64 (q : Int), .iface 47 (.pointer (some a))] 37)) := sc_far hne _ _ HH.out
        have HA' : Hid (fAny (w2.setCell ⟨g, 1, none⟩ (.int .i64 v1)) g) := fAny_set HA.out _ (by decide) _
        clear HB HH HA fc fz
        generalize (w2.setCell ⟨g, 1, none⟩ (.int .i64 v1)) = u1 at *
        have HB := HB'; have HH := HH'; have HA := HA'; clear HB' HH' HA'
        refine (number_err u1 b s q a _ HH.out).mono ?_
        rintro e w' ⟨rfl, hw⟩
        replace hw := hw.symm
        subst hw
        obtain ⟨y2, mo2, d2, h2, mi2, sec2, un2, x72, x82, zz2, o2, hf2⟩ := HA.out
        have fc := (cell_at hf2 2).trans (by rfl : _ = some (Value.int .i64 d2))
        have fz := frozen_at hf2 2
        clear hf2
        go_wp2_with fail
        have HB' : Hid (But2 b g w (u1.setCell ⟨g, 2, none⟩ (.int .i64 0))) := HB.out.set2 _ _
        have HH' : Hid ((u1.setCell ⟨g, 2, none⟩ (.int .i64 0)).heap[b]? = some (.cells #[.string s, .int .i64 (q : Int), .iface 47 (.pointer (some a))] 37)) := sc_far hne _ _ HH.out
        have HA' : Hid (fAny (u1.setCell ⟨g, 2, none⟩ (.int .i64 0)) g) := fAny_set HA.out _ (by decide) _
        clear HB HH HA fc fz
        generalize (u1.setCell ⟨g, 2, none⟩ (.int .i64 0)) = u2 at *
        have HB := HB'; have HH := HH'; have HA := HA'; clear HB' HH' HA'
        refine (number_err u2 b s q a _ HH.out).mono ?_
        rintro e w' ⟨rfl, hw⟩
        replace hw := hw.symm
        subst hw
        obtain ⟨y3, mo3, d3, h3, mi3, sec3, un3, x73, x83, zz3, o3, hf3⟩ := HA.out
        have fc := (cell_at hf3 3).trans (by rfl : _ = some (Value.int .i64 h3))
        have fz := frozen_at hf3 3
        clear hf3
        go_wp2_with fail
        have HB' : Hid (But2 b g w (u2.setCell ⟨g, 3, none⟩ (.int .i64 0))) := HB.out.set2 _ _
        have HH' : Hid ((u2.setCell ⟨g, 3, none⟩ (.int .i64 0)).heap[b]? = some (.cells #[.string s, .int .i64 (q : Int), .iface 47 (.pointer (some a))] 37)) := sc_far hne _ _ HH.out
        have HA' : Hid (fAny (u2.setCell ⟨g, 3, none⟩ (.int .i64 0)) g) := fAny_set HA.out _ (by decide) _
        clear HB HH HA fc fz
        generalize (u2.setCell ⟨g, 3, none⟩ (.int .i64 0)) = u3 at *
        have HB := HB'; have HH := HH'; have HA := HA'; clear HB' HH' HA'
        refine (number_err u3 b s q a _ HH.out).mono ?_
        rintro e w' ⟨rfl, hw⟩
        replace hw := hw.symm
        subst hw
        obtain ⟨y4, mo4, d4, h4, mi4, sec4, un4, x74, x84, zz4, o4, hf4⟩ := HA.out
        have fc := (cell_at hf4 4).trans (by rfl : _ = some (Value.int .i64 mi4))
        have fz := frozen_at hf4 4
        have fc6 := (cell_at hf4 6).trans (by rfl : _ = some (Value.int .i64 un4))
        have fz6 := frozen_at hf4 6
        clear hf4
        go_wp2_with fail
        have HB' : Hid (But2 b g w ((u3.setCell ⟨g, 4, none⟩ (.int .i64 0)).setCell ⟨g, 6, none⟩ (.int .i64 60))) := (HB.out.set2 _ _).set2 _ _
        have HH' : Hid (((u3.setCell ⟨g, 4, none⟩ (.int .i64 0)).setCell ⟨g, 6, none⟩ (.int .i64 60)).heap[b]? = some (.cells #[.string s, .int .i64 (q : Int), .iface 47 (.pointer (some a))] 37)) := sc_far hne _ _ (sc_far hne _ _ HH.out)
        have HA' : Hid (fAny ((u3.setCell ⟨g, 4, none⟩ (.int .i64 0)).setCell ⟨g, 6, none⟩ (.int .i64 60)) g) := fAny_set (fAny_set HA.out _ (by decide) _) _ (by decide) _
        clear HB HH HA fc fz fc6 fz6
        generalize ((u3.setCell ⟨g, 4, none⟩ (.int .i64 0)).setCell ⟨g, 6, none⟩ (.int .i64 60)) = u4 at *
        have HB := HB'; have HH := HH'; have HA := HA'; clear HB' HH' HA'
        refine (digitNext_any u4 b s q _ HH.out hs).mono ?_
        rintro e w' ⟨rfl, n, rfl⟩
        have HB' : Hid (But2 b g w (u4.drewN n)) := HB.out.drewN n
        have HH' : Hid ((u4.drewN n).heap[b]? = some (.cells #[.string s, .int .i64 (q : Int), .iface 47 (.pointer (some a))] 37)) := HH.out
        have HA' : Hid (fAny (u4.drewN n) g) := HA.out
        clear HB HH HA
        generalize u4.drewN n = r0 at *
        have HB := HB'; have HH := HH'; have HA := HA'; clear HB' HH' HA'
        cases hd : isDig s q with
        | true =>
          obtain ⟨y9, mo9, d9, h9, mi9, sec9, un9, x79, x89, zz9, o9, hf9⟩ := HA.out
          have fc5 := (cell_at hf9 5).trans (by rfl : _ = some (Value.int .i64 sec9))
          have fz5 := frozen_at hf9 5
          have fc6 := (cell_at hf9 6).trans (by rfl : _ = some (Value.int .i64 un9))
          have fz6 := frozen_at hf9 6
          clear hf9
          go_wp2_with fail
          refine (number_err r0 b s q a _ HH.out).mono ?_
          rintro e w' ⟨rfl, hw⟩
          replace hw := hw.symm
          subst hw
          go_wp2_with fail
          have HB' : Hid (But2 b g w ((r0.setCell ⟨g, 5, none⟩ (.int .i64 0)).setCell ⟨g, 6, none⟩ (.int .i64 1))) := (HB.out.set2 _ _).set2 _ _
          have HH' : Hid (((r0.setCell ⟨g, 5, none⟩ (.int .i64 0)).setCell ⟨g, 6, none⟩ (.int .i64 1)).heap[b]? = some (.cells #[.string s, .int .i64 (q : Int), .iface 47 (.pointer (some a))] 37)) := sc_far hne _ _ (sc_far hne _ _ HH.out)
          have HA' : Hid (fAny ((r0.setCell ⟨g, 5, none⟩ (.int .i64 0)).setCell ⟨g, 6, none⟩ (.int .i64 1)) g) := fAny_set (fAny_set HA.out _ (by decide) _) _ (by decide) _
          clear HB HH HA fc5 fz5 fc6 fz6
          generalize (r0.setCell ⟨g, 5, none⟩ (.int .i64 0)).setCell ⟨g, 6, none⟩ (.int .i64 1) = r1 at *
          have c2 := (cell_at HH'.out 2).trans (by rfl : _ = some (Value.iface 47 (.pointer (some a))))
          go_quiet (fail)
          go_wp2_with fail
          refine (zone_err (r1.drewN nq) b g s q a HH'.out).mono ?_
          rintro e w2 ⟨rfl, hw2⟩
          replace hw2 := hw2.symm
          subst hw2
          go_wp2
          go_end0
          exact ⟨rfl, HB'.out.drewN nq, Or.inl ⟨HX.out, ⟨q, a, hq, HH'.out⟩, HA'.out⟩⟩
        | false =>
          have c2 := (cell_at HH.out 2).trans (by rfl : _ = some (Value.iface 47 (.pointer (some a))))
          go_wp2_with fail
          go_quiet (fail)
          go_wp2_with fail
          refine (zone_err (r0.drewN nq) b g s q a HH.out).mono ?_
          rintro e w2 ⟨rfl, hw2⟩
          replace hw2 := hw2.symm
          subst hw2
          go_wp2
          go_end0
          exact ⟨rfl, HB.out.drewN nq, Or.inl ⟨HX.out, ⟨q, a, hq, HH.out⟩, HA.out⟩⟩
  · obtain ⟨lo, hi, ⟨q, a, hq, hh⟩, hx⟩ := hg
    have HH := (show Hid _ from hh)
    have HX : Hid (pre s p = false ∨ tailR s p sec o = none) := Or.inl (by simp [pre, two_false hx])
    have HA : Hid (fAny w1 g) := ⟨_, _, _, _, _, _, _, _, _, _, _, HF.out⟩
    clear hh hx HF
    by_cases h50 : v0 < 50
    · obtain ⟨y0, mo0, d0, h0, mi0, sec0, un0, x70, x80, zz0, o0, hf0⟩ := HA.out
      have fc := (cell_at hf0 0).trans (by rfl : _ = some (Value.int .i64 y0))
      have fz := frozen_at hf0 0
      clear hf0
      go_wp2_with fail
      have HB' : Hid (But2 b g w ((w1.setCell ⟨g, 0, none⟩ (.int .i64 (1900 + v0))).setCell ⟨g, 0, none⟩ (.int .i64 (1900 + v0 + 100)))) := (HB.out.set2 _ _).set2 _ _
      have HH' : Hid (((w1.setCell ⟨g, 0, none⟩ (.int .i64 (1900 + v0))).setCell ⟨g, 0, none⟩ (.int .i64 (1900 + v0 + 100))).heap[b]? = some (.cells #[.string s, .int .i64 (q : Int), .iface 47 (.pointer (some a))] 37)) := sc_far hne _ _ (sc_far hne _ _ HH.out)
      have HA' : Hid (fAny ((w1.setCell ⟨g, 0, none⟩ (.int .i64 (1900 + v0))).setCell ⟨g, 0, none⟩ (.int .i64 (1900 + v0 + 100))) g) := fAny_set (fAny_set HA.out _ (by decide) _) _ (by decide) _
      clear HB HH HA fc fz
      generalize ((w1.setCell ⟨g, 0, none⟩ (.int .i64 (1900 + v0))).setCell ⟨g, 0, none⟩ (.int .i64 (1900 + v0 + 100))) = u0 at *
      have HB := HB'; have HH := HH'; have HA := HA'; clear HB' HH' HA'
      refine (number_err u0 b s q a _ HH.out).mono ?_
      rintro e w' ⟨rfl, hw⟩
      replace hw := hw.symm
      subst hw
      obtain ⟨y1, mo1, d1, h1, mi1, sec1, un1, x71, x81, zz1, o1, hf1⟩ := HA.out
      have fc := (cell_at hf1 1).trans (by rfl : _ = some (Value.int .i64 mo1))
      have fz := frozen_at hf1 1
      clear hf1
      go_wp2_with fail
      have HB' : Hid (But2 b g w (u0.setCell ⟨g, 1, none⟩ (.int .i64 0))) := HB.out.set2 _ _
      have HH' : Hid ((u0.setCell ⟨g, 1, none⟩ (.int .i64 0)).heap[b]? = some (.cells #[.string s, .int .i64 (q : Int), .iface 47 (.pointer (some a))] 37)) := sc_far hne _ _ HH.out
      have HA' : Hid (fAny (u0.setCell ⟨g, 1, none⟩ (.int .i64 0)) g) := fAny_set HA.out _ (by decide) _
      clear HB HH HA fc fz
      generalize (u0.setCell ⟨g, 1, none⟩ (.int .i64 0)) = u1 at *
      have HB := HB'; have HH := HH'; have HA := HA'; clear HB' HH' HA'
      refine (number_err u1 b s q a _ HH.out).mono ?_
      rintro e w' ⟨rfl, hw⟩
      replace hw := hw.symm
      subst hw
      obtain ⟨y2, mo2, d2, h2, mi2, sec2, un2, x72, x82, zz2, o2, hf2⟩ := HA.out
      have fc := (cell_at hf2 2).trans (by rfl : _ = some (Value.int .i64 d2))
      have fz := frozen_at hf2 2
      clear hf2
      go_wp2_with fail
      have HB' : Hid (But2 b g w (u1.setCell ⟨g, 2, none⟩ (.int .i64 0))) := HB.out.set2 _ _
      have HH' : Hid ((u1.setCell ⟨g, 2, none⟩ (.int .i64 0)).heap[b]? = some (.cells #[.string s, .int .i64 (q : Int), .iface 47 (.pointer (some a))] 37)) := sc_far hne _ _ HH.out
      have HA' : Hid (fAny (u1.setCell ⟨g, 2, none⟩ (.int .i64 0)) g) := fAny_set HA.out _ (by decide) _
      clear HB HH HA fc fz
      generalize (u1.setCell ⟨g, 2, none⟩ (.int .i64 0)) = u2 at *
      have HB := HB'; have HH := HH'; have HA := HA'; clear HB' HH' HA'
      refine (number_err u2 b s q a _ HH.out).mono ?_
      rintro e w' ⟨rfl, hw⟩
      replace hw := hw.symm
      subst hw
      obtain ⟨y3, mo3, d3, h3, mi3, sec3, un3, x73, x83, zz3, o3, hf3⟩ := HA.out
      have fc := (cell_at hf3 3).trans (by rfl : _ = some (Value.int .i64 h3))
      have fz := frozen_at hf3 3
      clear hf3
      go_wp2_with fail
      have HB' : Hid (But2 b g w (u2.setCell ⟨g, 3, none⟩ (.int .i64 0))) := HB.out.set2 _ _
      have HH' : Hid ((u2.setCell ⟨g, 3, none⟩ (.int .i64 0)).heap[b]? = some (.cells #[.string s, .int .i64 (q : Int), .iface 47 (.pointer (some a))] 37)) := sc_far hne _ _ HH.out
      have HA' : Hid (fAny (u2.setCell ⟨g, 3, none⟩ (.int .i64 0)) g) := fAny_set HA.out _ (by decide) _
      clear HB HH HA fc fz
      generalize (u2.setCell ⟨g, 3, none⟩ (.int .i64 0)) = u3 at *
      have HB := HB'; have HH := HH'; have HA := HA'; clear HB' HH' HA'
      refine (number_err u3 b s q a _ HH.out).mono ?_
      rintro e w' ⟨rfl, hw⟩
      replace hw := hw.symm
      subst hw
      obtain ⟨y4, mo4, d4, h4, mi4, sec4, un4, x74, x84, zz4, o4, hf4⟩ := HA.out
      have fc := (cell_at hf4 4).trans (by rfl : _ = some (Value.int .i64 mi4))
      have fz := frozen_at hf4 4
      have fc6 := (cell_at hf4 6).trans (by rfl : _ = some (Value.int .i64 un4))
      have fz6 := frozen_at hf4 6
      clear hf4
      go_wp2_with fail
      have HB' : Hid (But2 b g w ((u3.setCell ⟨g, 4, none⟩ (.int .i64 0)).setCell ⟨g, 6, none⟩ (.int .i64 60))) := (HB.out.set2 _ _).set2 _ _
      have HH' : Hid (((u3.setCell ⟨g, 4, none⟩ (.int .i64 0)).setCell ⟨g, 6, none⟩ (.int .i64 60)).heap[b]? = some (.cells #[.string s, .int .i64 (q : Int), .iface 47 (.pointer (some a))] 37)) := sc_far hne _ _ (sc_far hne _ _ HH.out)
      have HA' : Hid (fAny ((u3.setCell ⟨g, 4, none⟩ (.int .i64 0)).setCell ⟨g, 6, none⟩ (.int .i64 60)) g) := fAny_set (fAny_set HA.out _ (by decide) _) _ (by decide) _
      clear HB HH HA fc fz fc6 fz6
      generalize ((u3.setCell ⟨g, 4, none⟩ (.int .i64 0)).setCell ⟨g, 6, none⟩ (.int .i64 60)) = u4 at *
      have HB := HB'; have HH := HH'; have HA := HA'; clear HB' HH' HA'
      refine (digitNext_any u4 b s q _ HH.out hs).mono ?_
      rintro e w' ⟨rfl, n, rfl⟩
      have HB' : Hid (But2 b g w (u4.drewN n)) := HB.out.drewN n
      have HH' : Hid ((u4.drewN n).heap[b]? = some (.cells #[.string s, .int .i64 (q : Int), .iface 47 (.pointer (some a))] 37)) := HH.out
      have HA' : Hid (fAny (u4.drewN n) g) := HA.out
      clear HB HH HA
      generalize u4.drewN n = r0 at *
      have HB := HB'; have HH := HH'; have HA := HA'; clear HB' HH' HA'
      cases hd : isDig s q with
      | true =>
        obtain ⟨y9, mo9, d9, h9, mi9, sec9, un9, x79, x89, zz9, o9, hf9⟩ := HA.out
        have fc5 := (cell_at hf9 5).trans (by rfl : _ = some (Value.int .i64 sec9))
        have fz5 := frozen_at hf9 5
        have fc6 := (cell_at hf9 6).trans (by rfl : _ = some (Value.int .i64 un9))
        have fz6 := frozen_at hf9 6
        clear hf9
        go_wp2_with fail
        refine (number_err r0 b s q a _ HH.out).mono ?_
        rintro e w' ⟨rfl, hw⟩
        replace hw := hw.symm
        subst hw
        go_wp2_with fail
        have HB' : Hid (But2 b g w ((r0.setCell ⟨g, 5, none⟩ (.int .i64 0)).setCell ⟨g, 6, none⟩ (.int .i64 1))) := (HB.out.set2 _ _).set2 _ _
        have HH' : Hid (((r0.setCell ⟨g, 5, none⟩ (.int .i64 0)).setCell ⟨g, 6, none⟩ (.int .i64 1)).heap[b]? = some (.cells #[.string s, .int .i64 (q : Int), .iface 47 (.pointer (some a))] 37)) := sc_far hne _ _ (sc_far hne _ _ HH.out)
        have HA' : Hid (fAny ((r0.setCell ⟨g, 5, none⟩ (.int .i64 0)).setCell ⟨g, 6, none⟩ (.int .i64 1)) g) := fAny_set (fAny_set HA.out _ (by decide) _) _ (by decide) _
        clear HB HH HA fc5 fz5 fc6 fz6
        generalize (r0.setCell ⟨g, 5, none⟩ (.int .i64 0)).setCell ⟨g, 6, none⟩ (.int .i64 1) = r1 at *
        have c2 := (cell_at HH'.out 2).trans (by rfl : _ = some (Value.iface 47 (.pointer (some a))))
        go_quiet (fail)
        go_wp2_with fail
        refine (zone_err (r1.drewN nq) b g s q a HH'.out).mono ?_
        rintro e w2 ⟨rfl, hw2⟩
        replace hw2 := hw2.symm
        subst hw2
        go_wp2
        go_end0
        exact ⟨rfl, HB'.out.drewN nq, Or.inl ⟨HX.out, ⟨q, a, hq, HH'.out⟩, HA'.out⟩⟩
      | false =>
        have c2 := (cell_at HH.out 2).trans (by rfl : _ = some (Value.iface 47 (.pointer (some a))))
        go_wp2_with fail
        go_quiet (fail)
        go_wp2_with fail
        refine (zone_err (r0.drewN nq) b g s q a HH.out).mono ?_
        rintro e w2 ⟨rfl, hw2⟩
        replace hw2 := hw2.symm
        subst hw2
        go_wp2
        go_end0
        exact ⟨rfl, HB.out.drewN nq, Or.inl ⟨HX.out, ⟨q, a, hq, HH.out⟩, HA.out⟩⟩
    · obtain ⟨y0, mo0, d0, h0, mi0, sec0, un0, x70, x80, zz0, o0, hf0⟩ := HA.out
      have fc := (cell_at hf0 0).trans (by rfl : _ = some (Value.int .i64 y0))
      have fz := frozen_at hf0 0
      clear hf0
      go_wp2_with fail
      have HB' : Hid (But2 b g w (w1.setCell ⟨g, 0, none⟩ (.int .i64 (1900 + v0)))) := HB.out.set2 _ _
      have HH' : Hid ((w1.setCell ⟨g, 0, none⟩ (.int .i64 (1900 + v0))).heap[b]? = some (.cells #[.string s, .int .i64 (q : Int), .iface 47 (.pointer (some a))] 37)) := sc_far hne _ _ HH.out
      have HA' : Hid (fAny (w1.setCell ⟨g, 0, none⟩ (.int .i64 (1900 + v0))) g) := fAny_set HA.out _ (by decide) _
      clear HB HH HA fc fz
      generalize (w1.setCell ⟨g, 0, none⟩ (.int .i64 (1900 + v0))) = u0 at *
      have HB := HB'; have HH := HH'; have HA := HA'; clear HB' HH' HA'
      refine (number_err u0 b s q a _ HH.out).mono ?_
      rintro e w' ⟨rfl, hw⟩
      replace hw := hw.symm
      subst hw
      obtain ⟨y1, mo1, d1, h1, mi1, sec1, un1, x71, x81, zz1, o1, hf1⟩ := HA.out
      have fc := (cell_at hf1 1).trans (by rfl : _ = some (Value.int .i64 mo1))
      have fz := frozen_at hf1 1
      clear hf1
      go_wp2_with fail
      have HB' : Hid (But2 b g w (u0.setCell ⟨g, 1, none⟩ (.int .i64 0))) := HB.out.set2 _ _
      have HH' : Hid ((u0.setCell ⟨g, 1, none⟩ (.int .i64 0)).heap[b]? = some (.cells #[.string s, .int .i64 (q : Int), .iface 47 (.pointer (some a))] 37)) := sc_far hne _ _ HH.out
      have HA' : Hid (fAny (u0.setCell ⟨g, 1, none⟩ (.int .i64 0)) g) := fAny_set HA.out _ (by decide) _
      clear HB HH HA fc fz
      generalize (u0.setCell ⟨g, 1, none⟩ (.int .i64 0)) = u1 at *
      have HB := HB'; have HH := HH'; have HA := HA'; clear HB' HH' HA'
      refine (number_err u1 b s q a _ HH.out).mono ?_
      rintro e w' ⟨rfl, hw⟩
      replace hw := hw.symm
      subst hw
      obtain ⟨y2, mo2, d2, h2, mi2, sec2, un2, x72, x82, zz2, o2, hf2⟩ := HA.out
      have fc := (cell_at hf2 2).trans (by rfl : _ = some (Value.int .i64 d2))
      have fz := frozen_at hf2 2
      clear hf2
      go_wp2_with fail
      have HB' : Hid (But2 b g w (u1.setCell ⟨g, 2, none⟩ (.int .i64 0))) := HB.out.set2 _ _
      have HH' : Hid ((u1.setCell ⟨g, 2, none⟩ (.int .i64 0)).heap[b]? = some (.cells #[.string s, .int .i64 (q : Int), .iface 47 (.pointer (some a))] 37)) := sc_far hne _ _ HH.out
      have HA' : Hid (fAny (u1.setCell ⟨g, 2, none⟩ (.int .i64 0)) g) := fAny_set HA.out _ (by decide) _
      clear HB HH HA fc fz
      generalize (u1.setCell ⟨g, 2, none⟩ (.int .i64 0)) = u2 at *
      have HB := HB'; have HH := HH'; have HA := HA'; clear HB' HH' HA'
      refine (number_err u2 b s q a _ HH.out).mono ?_
      rintro e w' ⟨rfl, hw⟩
      replace hw := hw.symm
      subst hw
      obtain ⟨y3, mo3, d3, h3, mi3, sec3, un3, x73, x83, zz3, o3, hf3⟩ := HA.out
      have fc := (cell_at hf3 3).trans (by rfl : _ = some (Value.int .i64 h3))
      have fz := frozen_at hf3 3
      clear hf3
      go_wp2_with fail
      have HB' : Hid (But2 b g w (u2.setCell ⟨g, 3, none⟩ (.int .i64 0))) := HB.out.set2 _ _
      have HH' : Hid ((u2.setCell ⟨g, 3, none⟩ (.int .i64 0)).heap[b]? = some (.cells #[.string s, .int .i64 (q : Int), .iface 47 (.pointer (some a))] 37)) := sc_far hne _ _ HH.out
      have HA' : Hid (fAny (u2.setCell ⟨g, 3, none⟩ (.int .i64 0)) g) := fAny_set HA.out _ (by decide) _
      clear HB HH HA fc fz
      generalize (u2.setCell ⟨g, 3, none⟩ (.int .i64 0)) = u3 at *
      have HB := HB'; have HH := HH'; have HA := HA'; clear HB' HH' HA'
      refine (number_err u3 b s q a _ HH.out).mono ?_
      rintro e w' ⟨rfl, hw⟩
      replace hw := hw.symm
      subst hw
      obtain ⟨y4, mo4, d4, h4, mi4, sec4, un4, x74, x84, zz4, o4, hf4⟩ := HA.out
      have fc := (cell_at hf4 4).trans (by rfl : _ = some (Value.int .i64 mi4))
      have fz := frozen_at hf4 4
      have fc6 := (cell_at hf4 6).trans (by rfl : _ = some (Value.int .i64 un4))
      have fz6 := frozen_at hf4 6
      clear hf4
      go_wp2_with fail
      have HB' : Hid (But2 b g w ((u3.setCell ⟨g, 4, none⟩ (.int .i64 0)).setCell ⟨g, 6, none⟩ (.int .i64 60))) := (HB.out.set2 _ _).set2 _ _
      have HH' : Hid (((u3.setCell ⟨g, 4, none⟩ (.int .i64 0)).setCell ⟨g, 6, none⟩ (.int .i64 60)).heap[b]? = some (.cells #[.string s, .int .i64 (q : Int), .iface 47 (.pointer (some a))] 37)) := sc_far hne _ _ (sc_far hne _ _ HH.out)
      have HA' : Hid (fAny ((u3.setCell ⟨g, 4, none⟩ (.int .i64 0)).setCell ⟨g, 6, none⟩ (.int .i64 60)) g) := fAny_set (fAny_set HA.out _ (by decide) _) _ (by decide) _
      clear HB HH HA fc fz fc6 fz6
      generalize ((u3.setCell ⟨g, 4, none⟩ (.int .i64 0)).setCell ⟨g, 6, none⟩ (.int .i64 60)) = u4 at *
      have HB := HB'; have HH := HH'; have HA := HA'; clear HB' HH' HA'
      refine (digitNext_any u4 b s q _ HH.out hs).mono ?_
      rintro e w' ⟨rfl, n, rfl⟩
      have HB' : Hid (But2 b g w (u4.drewN n)) := HB.out.drewN n
      have HH' : Hid ((u4.drewN n).heap[b]? = some (.cells #[.string s, .int .i64 (q : Int), .iface 47 (.pointer (some a))] 37)) := HH.out
      have HA' : Hid (fAny (u4.drewN n) g) := HA.out
      clear HB HH HA
      generalize u4.drewN n = r0 at *
      have HB := HB'; have HH := HH'; have HA := HA'; clear HB' HH' HA'
      cases hd : isDig s q with
      | true =>
        obtain ⟨y9, mo9, d9, h9, mi9, sec9, un9, x79, x89, zz9, o9, hf9⟩ := HA.out
        have fc5 := (cell_at hf9 5).trans (by rfl : _ = some (Value.int .i64 sec9))
        have fz5 := frozen_at hf9 5
        have fc6 := (cell_at hf9 6).trans (by rfl : _ = some (Value.int .i64 un9))
        have fz6 := frozen_at hf9 6
        clear hf9
        go_wp2_with fail
        refine (number_err r0 b s q a _ HH.out).mono ?_
        rintro e w' ⟨rfl, hw⟩
        replace hw := hw.symm
        subst hw
        go_wp2_with fail
        have HB' : Hid (But2 b g w ((r0.setCell ⟨g, 5, none⟩ (.int .i64 0)).setCell ⟨g, 6, none⟩ (.int .i64 1))) := (HB.out.set2 _ _).set2 _ _
        have HH' : Hid (((r0.setCell ⟨g, 5, none⟩ (.int .i64 0)).setCell ⟨g, 6, none⟩ (.int .i64 1)).heap[b]? = some (.cells #[.string s, .int .i64 (q : Int), .iface 47 (.pointer (some a))] 37)) := sc_far hne _ _ (sc_far hne _ _ HH.out)
        have HA' : Hid (fAny ((r0.setCell ⟨g, 5, none⟩ (.int .i64 0)).setCell ⟨g, 6, none⟩ (.int .i64 1)) g) := fAny_set (fAny_set HA.out _ (by decide) _) _ (by decide) _
        clear HB HH HA fc5 fz5 fc6 fz6
        generalize (r0.setCell ⟨g, 5, none⟩ (.int .i64 0)).setCell ⟨g, 6, none⟩ (.int .i64 1) = r1 at *
        have c2 := (cell_at HH'.out 2).trans (by rfl : _ = some (Value.iface 47 (.pointer (some a))))
        go_quiet (fail)
        go_wp2_with fail
        refine (zone_err (r1.drewN nq) b g s q a HH'.out).mono ?_
        rintro e w2 ⟨rfl, hw2⟩
        replace hw2 := hw2.symm
        subst hw2
        go_wp2
        go_end0
        exact ⟨rfl, HB'.out.drewN nq, Or.inl ⟨HX.out, ⟨q, a, hq, HH'.out⟩, HA'.out⟩⟩
      | false =>
        have c2 := (cell_at HH.out 2).trans (by rfl : _ = some (Value.iface 47 (.pointer (some a))))
        go_wp2_with fail
        go_quiet (fail)
        go_wp2_with fail
        refine (zone_err (r0.drewN nq) b g s q a HH.out).mono ?_
        rintro e w2 ⟨rfl, hw2⟩
        replace hw2 := hw2.symm
        subst hw2
        go_wp2
        go_end0
        exact ⟨rfl, HB.out.drewN nq, Or.inl ⟨HX.out, ⟨q, a, hq, HH.out⟩, HA.out⟩⟩

end Go.Proofs.Qxb6616501aFmt
