/- Words that all walks of this seat share: texts as lists of bytes. No condition: lemmas on lists, byte arrays and worlds alone. -/
import Derived.Test.YtjkecadfakjanaaGreatDoorProg
import Derived.WalkKit
import Derived.KernelRfl
import Derived.Deep.QuietTactic
import Derived.BigQuiet
import Derived.WalkLawsBesides
import Derived.WalkSpells
import Derived.Lib.ConvBytes
import Derived.Lib.AppendStr
import Derived.Laws.BytesArg
import Derived.Lib.Strings
import Derived.Deep.LoopGhost
import Derived.StillTailTactics
import Derived.OneCell
import Derived.Lib.Hide
set_option maxRecDepth 100000
set_option linter.unusedVariables false
set_option linter.unusedSimpArgs false
namespace Go.Proofs.YtjkecadfakjanaaGreatDoor
open Go.RowKit

/-- A text out of its bytes. -/
abbrev B (l : List UInt8) : ByteArray := ⟨l.toArray⟩

theorem B_surj (s : ByteArray) : ∃ l, s = B l := ⟨s.data.toList, by simp [B]⟩
theorem B_size (l : List UInt8) : (B l).size = l.length := by simp [B, ByteArray.size]
theorem B_data (l : List UInt8) : (B l).data.toList = l := by simp [B]
theorem B_toList (l : List UInt8) : (B l).toList = l := by rw [ByteArray.toList_eq]
theorem B_extract (l : List UInt8) (i j : Nat) : (B l).extract i j = B ((l.drop i).take (j - i)) := by
 rw [Lib.extract_eq, B_data]
theorem B_inj {a b : List UInt8} (h : B a = B b) : a = b := by
 have := congrArg (fun s => s.data.toList) h
 simpa [B] using this
theorem B_get (l : List UInt8) (i : Nat) (h : i < (B l).size) : (B l)[i] = l[i]'(by rw [B_size] at h; exact h) := by
 show (B l).data[i] = _
 simp [B]

theorem B_append (a b : List UInt8) : (B a) ++ (B b) = B (a ++ b) := by
 apply ByteArray.ext
 simp [B]

theorem blk_new (w : World) (o : Obj) : (w.alloc o).heap[w.heap.size]? = some o := by
 show (w.heap.push o)[w.heap.size]? = _
 simp
theorem blk_old (w : World) (o : Obj) {b : Nat} {x : Obj} (h : w.heap[b]? = some x) : (w.alloc o).heap[b]? = some x := by
 rw [Below.heap_alloc _ _ _ (lt_of_block h)]; exact h
theorem blk_below {w w' : World} {b : Nat} {x : Obj} (h : w.heap[b]? = some x) (hb : Below w.heap.size w w') : w'.heap[b]? = some x := by
 rw [hb.block b (lt_of_block h)]; exact h
theorem Below_alloc (w : World) (o : Obj) : Below w.heap.size w (w.alloc o) := (Below.refl _ _).alloc (Nat.le_refl _) _
/-- One step after another: the second leaves all that was there when it began. -/
theorem belowThen {n : Nat} {a b c : World} (h : Below n a b) (h' : Below b.heap.size b c) (hn : n <= a.heap.size) : Below n a c := h.trans (h'.mono (Nat.le_trans hn h.size))

theorem Below_drewN {n : Nat} {a w : World} (h : Below n a w) (k : Nat) : Below n a (w.drewN k) := ⟨h.os, h.tape, h.output, h.size, h.block⟩

theorem cell_blk {w : World} {b : Nat} {c : Array Value} {e : TypeId} {f : Nat × Nat} (h : w.heap[b]? = some (.cells c e f)) (k : Nat) : w.cell? ⟨b, k, none⟩ = c[k]? := by
 unfold World.cell?; rw [h]; rfl
theorem free_blk {w : World} {b : Nat} {c : Array Value} {e : TypeId} (h : w.heap[b]? = some (.cells c e (0, 0))) (k : Nat) : w.frozen? ⟨b, k, none⟩ = false := by
 unfold World.frozen?; rw [h]; simp

/-- A region that draws its order: reads first, one forced tail (the library's law, its world under a name that the walk reads). -/
theorem wp_tail {P : Program} {id : Nat} {Q : Exit -> Act -> World -> Prop} {a : Act} {w : World} {l : List Oper} (n : Nat) (hm : P.follows .mixedOrders = true) (hB : Region.lexTailB .any l.toArray n = true)
  (h : wpStill P l.toArray w.drew (fun a' => wpList P l.toArray Q (l.drop n) a' w.drew) (l.take n) a) : (Code.region id l.toArray true).wp P Q a w := wp_region_still_tail n hm hB h

theorem bcell {W w1 : World} (hb : Below W.heap.size W w1) : (∀ b o, b < W.heap.size -> w1.cell? ⟨b, o, none⟩ = W.cell? ⟨b, o, none⟩) /\ (∀ b o, b < W.heap.size -> w1.frozen? ⟨b, o, none⟩ = W.frozen? ⟨b, o, none⟩) :=
 ⟨fun b o h => hb.cell (p := ⟨b, o, none⟩) h, fun b o h => hb.frozen (p := ⟨b, o, none⟩) h⟩

end Go.Proofs.YtjkecadfakjanaaGreatDoor
