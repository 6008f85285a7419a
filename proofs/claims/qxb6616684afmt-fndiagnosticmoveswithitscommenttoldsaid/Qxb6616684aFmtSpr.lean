/-
  DERIVED. fmt.Sprintf (27) without operands: every format has an answer.
-/
import Derived.Test.Qxb6616684aFmtAddFile
import Derived.Stop.CallBack
import Derived.Stop.IfaceNil
import Derived.Stop.Texts
import GoSem.ClaimData
namespace Go.Proofs.Qxb6616684aFmt
open Go.RowKit Go.RwLone Go.MuLone
open Go.Extern.Stop Go.Stop Go.Extern
set_option linter.unusedVariables false

theorem Tryf.call27 (args : Array Value) (w : World) : (callFunc 27 args).run Tryf.prog w = (FmtCalls.sprintf #[9, 87] #[9] args).run Tryf.prog w :=
  run_callFunc_next Tryf.func27 (by kernel_rfl) (by kernel_rfl) (by kernel_rfl) args w
theorem Tryf.guard (name : String) (w : World) : (FmtStop.guard name).run Tryf.prog w = .ok () w := by kernel_rfl
theorem Tryf.nextTurns : Extern.next FmtCalls.turnsRow = some (FmtCalls.begun #[] #[]) := by kernel_rfl

theorem walk0 : ∀ (fuel k : Nat) (l : List UInt8) (acc : List (Nat × UInt8 × Bool)) (r : List (Nat × UInt8 × Bool) × Nat), FmtDoors.walk 0 fuel k l acc = some r → r.1 = acc
  | 0, k, l, acc, r, h => by simp [FmtDoors.walk] at h
  | fuel + 1, k, [], acc, r, h => by simp [FmtDoors.walk] at h; rw [← h]
  | fuel + 1, k, c :: l, acc, r, h => by
    rw [FmtDoors.walk] at h
    split at h
    · exact walk0 fuel k l acc r h
    · simp only [] at h
      split at h
      · cases h
      · split at h
        · cases h
        · cases h; rfl
        · split at h
          · cases h
          · split at h
            · exact walk0 fuel k _ acc r h
            · rename_i hn
              simp at hn
theorem printed0 (f : ByteArray) : FmtStop.printed? f 0 = none ∨ FmtStop.printed? f 0 = some [] := by
  unfold FmtStop.printed?
  cases h : FmtDoors.walk 0 (f.size + 1) 0 f.data.toList [] with
  | none => exact Or.inl rfl
  | some r =>
    right
    have := walk0 _ _ _ _ _ h
    simp [this]

/-- what Sprintf gives -/
def said (F : Interp) (f : ByteArray) : ByteArray := FmtStop.textOf (F "fmt.Sprintf" [f.data.toList] 0)

theorem spr_none (F : Interp) (f : ByteArray) (w : World) (hF : F.answers w.tape) (h : FmtStop.printed? f 0 = none) :
    (callFunc 27 #[.string f, .slice none 0 0]).run Tryf.prog w = .ok (.value (.string (said F f))) w.drew := by
  have hF' := answers_open hF
  rw [Tryf.call27]
  simp [go_sem, Tryf.guard, FmtDoors.count, h, FmtStop.cells, FmtCalls.finish, FmtCalls.frontName, said]
  rw [hF']
theorem spr_some (F : Interp) (f : ByteArray) (w : World) (hF : F.answers w.tape) (h : FmtStop.printed? f 0 = some []) :
    (callFunc 27 #[.string f, .slice none 0 0]).run Tryf.prog w = .ok (.row FmtCalls.turnsRow (FmtCalls.save 0 0 (.slice none 0 0) f [] [])) w := by
  rw [Tryf.call27]
  simp [go_sem, Tryf.guard, FmtDoors.count, h]
theorem spr_rows (F : Interp) (f : ByteArray) (w : World) (hF : F.answers w.tape) :
    (FmtCalls.begun #[] #[] (FmtCalls.save 0 0 (.slice none 0 0) f [] [])).run Tryf.prog w = .ok (.value (.string (said F f))) w.drew := by
  have hF' := answers_open hF
  simp [go_sem, FmtCalls.begun, FmtCalls.save, FmtCalls.resume, FmtCalls.strings, FmtDoors.triples, FmtCalls.turns, FmtCalls.finish, FmtCalls.frontName, said]
  rw [hF']
end Go.Proofs.Qxb6616684aFmt
