/- A known identifier replaced by another one; the extension asked of a path under way. Conditions: a path in memory whose identifiers lie within its text. -/
import Derived.Test.YtjkecadfakjanaaGreatDoorGrow
import Derived.Laws.OwnMore
set_option maxRecDepth 100000
set_option linter.unusedVariables false
set_option linter.unusedSimpArgs false
namespace Go.Proofs.YtjkecadfakjanaaGreatDoor
open Go.RowKit
attribute [local go_sem] B_extract B_toList B_append

theorem pairCells_set : ∀ (l : List (Nat × Nat)) (i : Nat) (id : Nat × Nat), pairCells (l.set i id) = ((pairCells l).set (i * 2) (i64 id.1)).set (i * 2 + 1) (i64 id.2)
 | [], i, id => by simp [pairCells]
 | x :: r, 0, id => by simp [pairCells]
 | x :: r, i + 1, id => by
  have ih := pairCells_set r i id
  have e : ∀ (y : Nat × Nat) (t : List (Nat × Nat)), pairCells (y :: t) = i64 y.1 :: i64 y.2 :: pairCells t := fun y t => by simp [pairCells]
  rw [List.set_cons_succ, e, e, ih, show (i + 1) * 2 = (i * 2) + 1 + 1 by omega]
  rfl

theorem PathAt.setKnown {w : World} {base b : Nat} {p : PathS} {vk vu vl : Value} {un : Un} (h : PathAt w base b p vk vu vl un) {g cap : Nat} (hv : vk = .slice (some ⟨g, 0, none⟩) p.known.length cap) (l : Nat) (id : Nat × Nat) :
  PathAt ((w.setCell ⟨g, l * 2, none⟩ (i64 id.1)).setCell ⟨g, l * 2 + 1, none⟩ (i64 id.2)) base b { p with known := p.known.set l id } vk vu vl un /\
   Below base w ((w.setCell ⟨g, l * 2, none⟩ (i64 id.1)).setCell ⟨g, l * 2 + 1, none⟩ (i64 id.2)) := by
 subst hv
 obtain ⟨cur, hcur, hbg, hlt⟩ := ownsRow_blk h.kn (g := g) rfl
 have far : ∀ k, k ≠ g -> ((w.setCell ⟨g, l * 2, none⟩ (i64 id.1)).setCell ⟨g, l * 2 + 1, none⟩ (i64 id.2)).heap[k]? = w.heap[k]? := fun k hk => (heap_set_far _ hk).trans (heap_set_far _ hk)
 have hbg' : b ≠ g := fun e => blk_ne hcur h.blk lh_path e.symm
 refine ⟨⟨(far b hbg').trans h.blk, ?_, ?_, ?_, h.ne, fun g' cur' e => ⟨(far g' (blk_ne (h.kp g' cur' e).1 hcur int_lh)).trans (h.kp g' cur' e).1, (h.kp g' cur' e).2⟩, h.lb⟩, ((Below.refl _ _).setCell hbg _).setCell hbg _⟩
 ·have := ((h.kn.stored (l * 2) (i64 id.1)).1.stored (l * 2 + 1) (i64 id.2)).1
  rw [pairCells_set]
  simpa using this
 ·refine ownsRow_far h.uk fun k hk => far k ?_
  rintro rfl
  rcases h.ne with e | e
  ·cases e
  ·exact e hk.symm
 ·refine ownsRow_far h.lg fun k hk => far k ?_
  rintro rfl
  obtain ⟨c2, hc2, _⟩ := ownsRow_blk h.lg hk
  exact blk_ne hc2 hcur int_lh rfl

/-- The known identifiers' own cells behind an append to the unknown words. -/
theorem PathAt.behindK {w wa w1 : World} {base b : Nat} {p : PathS} {vk vu vl : Value} {un : Un} (h : PathAt w base b p vk vu vl un) (hwa : Below w.heap.size w wa) (hgrow : wa.grownBy w1 vu.ownBlock) {g : Nat} (hg : vk.ownBlock = some g) :
  ∀ j, w1.cell? ⟨g, j, none⟩ = w.cell? ⟨g, j, none⟩ := by
 obtain ⟨cur, hcur, hbg, hlt⟩ := ownsRow_blk h.kn hg
 have hne : some g ≠ vu.ownBlock := by
  rcases h.ne with e | e
  ·rw [e] at hg; cases hg
  ·rw [<- hg]; exact e
 have hb : w1.heap[g]? = w.heap[g]? := (hgrow.block g (Nat.lt_of_lt_of_le hlt hwa.size) hne).trans (hwa.block g hlt)
 intro j
 simp [World.cell?, hb]

theorem c_ExtW {w : World} {base b : Nat} {p : PathS} {vk vu vl : Value} {un : Un} (h : PathAt w base b p vk vu vl un) (hw : Within p.s p.known) (hs : p.s.length <= 140737488355328) :
  Calls Tryz.prog 77 #[.pointer (some ⟨b, 0, none⟩)] w fun e w' => e = .returned (.string (B (p.idStr 0))) /\ Below w.heap.size w w' := by
 have H := Lib.hid (c_idStr p 0 w base b vk vu vl un h hw hs)
 generalize p.idStr 0 = r at H |-
 clear h hw
 go_enter Tryz.func77, Tryz.ntmps77
 go_wp2_with fail
 refine H.out.mono ?_; rintro e w' ⟨rfl, hb⟩
 go_wp2_with fail
 go_ret
 exact ⟨rfl, hb⟩

end Go.Proofs.YtjkecadfakjanaaGreatDoor
