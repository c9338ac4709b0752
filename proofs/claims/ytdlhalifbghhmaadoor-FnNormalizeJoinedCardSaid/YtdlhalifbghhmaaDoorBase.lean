/- Words that all walks of this seat share: texts as lists of bytes. No condition: lemmas on lists, byte arrays and worlds alone. -/
import Derived.Test.YtdlhalifbghhmaaDoorProg
import Derived.WalkKit
import Derived.KernelRfl
import Derived.Deep.QuietTactic
import Derived.BigQuiet
import Derived.WalkLawsBesides
import Derived.WalkSpells
import Derived.Lib.ConvBytes
import Derived.Lib.AppendStr
import Derived.Laws.BytesArg
import Derived.Lib.Strings
import Derived.Deep.LoopGhost
import Derived.StillTailTactics
import Derived.Lib.Hide
set_option maxRecDepth 100000
set_option linter.unusedVariables false
set_option linter.unusedSimpArgs false
namespace Go.Proofs.YtdlhalifbghhmaaDoor
open Go.RowKit

/-- A text out of its bytes. -/
abbrev B (l : List UInt8) : ByteArray := ⟨l.toArray⟩

theorem B_surj (s : ByteArray) : ∃ l, s = B l := ⟨s.data.toList, by simp [B]⟩
theorem B_size (l : List UInt8) : (B l).size = l.length := by simp [B, ByteArray.size]
theorem B_data (l : List UInt8) : (B l).data.toList = l := by simp [B]
theorem B_toList (l : List UInt8) : (B l).toList = l := by rw [ByteArray.toList_eq]
theorem B_extract (l : List UInt8) (i j : Nat) : (B l).extract i j = B ((l.drop i).take (j - i)) := by
  rw [Lib.extract_eq, B_data]
theorem B_inj {a b : List UInt8} (h : B a = B b) : a = b := by
  have := congrArg (fun s => s.data.toList) h
  simpa [B] using this
theorem B_get (l : List UInt8) (i : Nat) (h : i < (B l).size) : (B l)[i] = l[i]'(by rw [B_size] at h; exact h) := by
  show (B l).data[i] = _
  simp [B]

theorem B_append (a b : List UInt8) : (B a) ++ (B b) = B (a ++ b) := by
  apply ByteArray.ext
  simp [B]

theorem bcell {W w1 : World} (hb : Below W.heap.size W w1) : (∀ b o, b < W.heap.size → w1.cell? ⟨b, o, none⟩ = W.cell? ⟨b, o, none⟩) ∧ (∀ b o, b < W.heap.size → w1.frozen? ⟨b, o, none⟩ = W.frozen? ⟨b, o, none⟩) :=
  ⟨fun b o h => hb.cell (p := ⟨b, o, none⟩) h, fun b o h => hb.frozen (p := ⟨b, o, none⟩) h⟩

end Go.Proofs.YtdlhalifbghhmaaDoor
