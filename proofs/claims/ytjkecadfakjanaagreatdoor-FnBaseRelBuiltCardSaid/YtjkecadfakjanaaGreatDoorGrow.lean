/- A path in memory that grows: an identifier, an unknown word, a language appended; a field written. No program walked here. -/
import Derived.Test.YtjkecadfakjanaaGreatDoorGet4
import Derived.Deep.AppendLies
set_option maxRecDepth 100000
set_option linter.unusedVariables false
set_option linter.unusedSimpArgs false
namespace Go.Proofs.YtjkecadfakjanaaGreatDoor
open Go.RowKit

theorem ownsRow_far {w w' : World} {base : Nat} {e : TypeId} {size : Nat} {v : Value} {n : Nat} {xs : List Value} (h : w.ownsRow base e size v n xs) (hb : ∀ g, v.ownBlock = some g -> w'.heap[g]? = w.heap[g]?) : w'.ownsRow base e size v n xs := by
 obtain ⟨h1, h2⟩ := h
 refine ⟨h1, ?_⟩
 rcases h2 with h2 | ⟨g, cap, cur, hv, hg, hh, r⟩
 ·exact .inl h2
 ·exact .inr ⟨g, cap, cur, hv, hg, (hb g (by rw [hv]; rfl)).trans hh, r⟩

/-- The block that a row lies in: its elements' type, from 'base' on, within the heap. -/
theorem ownsRow_blk {w : World} {base : Nat} {e : TypeId} {size : Nat} {v : Value} {n : Nat} {xs : List Value} (h : w.ownsRow base e size v n xs) {g : Nat} (hg : v.ownBlock = some g) :
  ∃ cur, w.heap[g]? = some (.cells cur e (0, 0)) /\ base <= g /\ g < w.heap.size := by
 rcases h.2 with ⟨rfl, _⟩ | ⟨g', cap, cur, rfl, hb, hh, _⟩
 ·cases hg
 ·have : g' = g := Option.some.inj hg
  subst this
  exact ⟨cur, hh, hb, (Array.getElem?_eq_some_iff.1 hh).1⟩

theorem blk_ne {w : World} {a b : Nat} {c d : Array Value} {e f : TypeId} {x y : Nat × Nat} (h : w.heap[a]? = some (.cells c e x)) (k : w.heap[b]? = some (.cells d f y)) (hef : e ≠ f) : a ≠ b := by
 intro hab
 subst hab
 rw [h] at k
 injection k with k
 injection k with _ k2 _
 exact hef k2

theorem heap_set_far {w : World} {b k g : Nat} (v : Value) (h : g ≠ b) : (w.setCell ⟨b, k, none⟩ v).heap[g]? = w.heap[g]? := by
 simp [World.setCell, Array.getElem?_modify, Ne.symm h]

theorem blk_set {w : World} {b k : Nat} {c : Array Value} {t : TypeId} {fr : Nat × Nat} (v : Value) (h : w.heap[b]? = some (.cells c t fr)) : (w.setCell ⟨b, k, none⟩ v).heap[b]? = some (.cells (c.setIfInBounds k v) t fr) := by
 rw [setCell_eq_setRow w b k c t fr v h]
 exact setRow_heap w b c _ t fr h

theorem int_lh : (3 : TypeId) ≠ 80 := by decide
theorem int_path : (3 : TypeId) ≠ 82 := by decide
theorem lh_path : (80 : TypeId) ≠ 82 := by decide

/-- A field other than the three lists is written. -/
theorem PathAt.set {w : World} {base b : Nat} {p : PathS} {vk vu vl : Value} {un : Un} (h : PathAt w base b p vk vu vl un) (k : Nat) (v : Value) (p' : PathS) (he : (pcells p vk vu vl un).setIfInBounds k v = pcells p' vk vu vl un)
  (h1 : p'.known = p.known) (h2 : p'.unknown = p.unknown) (h3 : p'.langs = p.langs) : PathAt (w.setCell ⟨b, k, none⟩ v) base b p' vk vu vl un /\ Below base w (w.setCell ⟨b, k, none⟩ v) := by
 refine ⟨⟨?_, ?_, ?_, ?_, h.ne, fun g cur e => ⟨(heap_set_far v (blk_ne (h.kp g cur e).1 h.blk int_path)).trans (h.kp g cur e).1, (h.kp g cur e).2⟩, h.lb⟩, (Below.refl _ _).setCell h.lb v⟩
 ·rw [blk_set v h.blk, he]
 ·rw [h1]; exact ownsRow_far h.kn fun g hg => heap_set_far v (by obtain ⟨cur, hc, _⟩ := ownsRow_blk h.kn hg; exact blk_ne hc h.blk lh_path)
 ·rw [h2]; exact ownsRow_far h.uk fun g hg => heap_set_far v (by obtain ⟨cur, hc, _⟩ := ownsRow_blk h.uk hg; exact blk_ne hc h.blk lh_path)
 ·rw [h3]; exact ownsRow_far h.lg fun g hg => heap_set_far v (by obtain ⟨cur, hc, _⟩ := ownsRow_blk h.lg hg; exact blk_ne hc h.blk int_path)

theorem pairCells_add (l : List (Nat × Nat)) (id : Nat × Nat) : pairCells (l ++ [id]) = pairCells l ++ [i64 id.1, i64 id.2] := by simp [pairCells]
theorem natCells_add (l : List Nat) (n : Nat) : natCells (l ++ [n]) = natCells l ++ [i64 n] := by simp [natCells]

/-- The path's own block behind an append to one of its lists. -/
theorem PathAt.behind {w wa w1 : World} {base b : Nat} {p : PathS} {vk vu vl : Value} {un : Un} (h : PathAt w base b p vk vu vl un) (hwa : Below w.heap.size w wa) {row : Option Nat} (hgrow : wa.grownBy w1 row) (hr : row = vk.ownBlock \/ row = vu.ownBlock \/ row = vl.ownBlock) :
  (∀ k, w1.cell? ⟨b, k, none⟩ = (pcells p vk vu vl un)[k]?) /\ ∀ k, w1.frozen? ⟨b, k, none⟩ = false := by
 have hsz := hwa.size
 have hbl : b < w.heap.size := (Array.getElem?_eq_some_iff.1 h.blk).1
 have hne : some b ≠ row := fun e => by
  rcases hr with hr | hr | hr
  ·obtain ⟨cur, hc, _⟩ := ownsRow_blk h.kn (hr.symm.trans e.symm)
   exact blk_ne hc h.blk lh_path rfl
  ·obtain ⟨cur, hc, _⟩ := ownsRow_blk h.uk (hr.symm.trans e.symm)
   exact blk_ne hc h.blk lh_path rfl
  ·obtain ⟨cur, hc, _⟩ := ownsRow_blk h.lg (hr.symm.trans e.symm)
   exact blk_ne hc h.blk int_path rfl
 have hb1 : w1.heap[b]? = some (.cells (pcells p vk vu vl un) 82 (0, 0)) := by
  rw [hgrow.block b (by omega) hne, hwa.block b hbl]; exact h.blk
 exact ⟨fun k => cell_blk hb1 k, fun k => free_blk hb1 k⟩

/-- An identifier is appended to the known ones. -/
theorem PathAt.pushKnown {w wa w1 : World} {base b g cap : Nat} {p : PathS} {vk vu vl : Value} {un : Un} (h : PathAt w base b p vk vu vl un) (hwa : Below w.heap.size w wa) (id : Nat × Nat)
  (hown : w1.ownsRow base 80 2 (.slice (some ⟨g, 0, none⟩) (p.known.length + 1) cap) (p.known.length + 1) (pairCells p.known ++ [i64 id.1, i64 id.2]))
  (hgrow : wa.grownBy w1 vk.ownBlock) (hat : vk.ownBlock = some g \/ g = wa.heap.size) :
  PathAt (w1.setCell ⟨b, 6, none⟩ (.slice (some ⟨g, 0, none⟩) (p.known.length + 1) cap)) base b (p.addKnown id) (.slice (some ⟨g, 0, none⟩) (p.known.length + 1) cap) vu vl un /\
   Below base w (w1.setCell ⟨b, 6, none⟩ (.slice (some ⟨g, 0, none⟩) (p.known.length + 1) cap)) := by
 have hsz := hwa.size
 have hbl : b < w.heap.size := (Array.getElem?_eq_some_iff.1 h.blk).1
 have far : ∀ k, k < w.heap.size -> vk.ownBlock ≠ some k -> w1.heap[k]? = w.heap[k]? := fun k hk hne => by
  rw [hgrow.block k (by omega) (Ne.symm hne), hwa.block k hk]
 have hbk : vk.ownBlock ≠ some b := fun e => by
  obtain ⟨cur, hc, _⟩ := ownsRow_blk h.kn e
  exact blk_ne hc h.blk lh_path rfl
 have hb1 : w1.heap[b]? = some (.cells (pcells p vk vu vl un) 82 (0, 0)) := (far b hbl hbk).trans h.blk
 have hgb : g ≠ b := by
  obtain ⟨cur, hc, _⟩ := ownsRow_blk hown (g := g) rfl
  exact blk_ne hc hb1 lh_path
 refine ⟨⟨?_, ?_, ?_, ?_, ?_, fun g' cur' e => ⟨(heap_set_far _ (blk_ne (h.kp g' cur' e).1 h.blk int_path)).trans ((far g' (Array.getElem?_eq_some_iff.1 (h.kp g' cur' e).1).1 (fun x => by obtain ⟨c2, hc2, _⟩ := ownsRow_blk h.kn x; exact blk_ne (h.kp g' cur' e).1 hc2 int_lh rfl)).trans (h.kp g' cur' e).1), (h.kp g' cur' e).2⟩, h.lb⟩, ?_⟩
 ·rw [blk_set _ hb1]; rfl
 ·have := ownsRow_far (w' := w1.setCell ⟨b, 6, none⟩ (.slice (some ⟨g, 0, none⟩) (p.known.length + 1) cap)) hown fun k hk => by
   have : g = k := Option.some.inj hk
   subst this
   exact heap_set_far _ hgb
  rw [<- pairCells_add] at this
  simpa [PathS.addKnown] using this
 ·refine ownsRow_far h.uk fun k hk => ?_
  obtain ⟨cur, hc, _, hlt⟩ := ownsRow_blk h.uk hk
  rw [heap_set_far _ (blk_ne hc h.blk lh_path), far k hlt]
  rcases h.ne with e | e
  ·rw [e]; simp
  ·rw [<- hk]; exact e
 ·refine ownsRow_far h.lg fun k hk => ?_
  obtain ⟨cur, hc, _, hlt⟩ := ownsRow_blk h.lg hk
  rw [heap_set_far _ (blk_ne hc h.blk int_path), far k hlt]
  intro e
  obtain ⟨cur', hc', _⟩ := ownsRow_blk h.kn e
  exact blk_ne hc hc' int_lh rfl
 ·right
  intro e
  have e : some g = vu.ownBlock := e
  rcases hat with h1 | h1
  ·rcases h.ne with e2 | e2
   ·rw [e2] at h1; cases h1
   ·exact e2 (h1.trans e)
  ·obtain ⟨_, _, _, hlt⟩ := ownsRow_blk h.uk e.symm
   omega
 ·refine (Below.grown (hwa.mono ?_) hgrow ?_ ?_).setCell h.lb _
  ·have := h.lb; omega
  ·have := h.lb; omega
  ·intro k hk
   exact (ownsRow_blk h.kn hk).choose_spec.2.1

/-- A word is appended to the unknown ones. -/
theorem PathAt.pushUnknown {w wa w1 : World} {base b g cap : Nat} {p : PathS} {vk vu vl : Value} {un : Un} (h : PathAt w base b p vk vu vl un) (hwa : Below w.heap.size w wa) (id : Nat × Nat)
  (hown : w1.ownsRow base 80 2 (.slice (some ⟨g, 0, none⟩) (p.unknown.length + 1) cap) (p.unknown.length + 1) (pairCells p.unknown ++ [i64 id.1, i64 id.2]))
  (hgrow : wa.grownBy w1 vu.ownBlock) (hat : vu.ownBlock = some g \/ g = wa.heap.size) :
  PathAt (w1.setCell ⟨b, 7, none⟩ (.slice (some ⟨g, 0, none⟩) (p.unknown.length + 1) cap)) base b { p with unknown := p.unknown ++ [id] } vk (.slice (some ⟨g, 0, none⟩) (p.unknown.length + 1) cap) vl un /\
   Below base w (w1.setCell ⟨b, 7, none⟩ (.slice (some ⟨g, 0, none⟩) (p.unknown.length + 1) cap)) := by
 have hsz := hwa.size
 have hbl : b < w.heap.size := (Array.getElem?_eq_some_iff.1 h.blk).1
 have far : ∀ k, k < w.heap.size -> vu.ownBlock ≠ some k -> w1.heap[k]? = w.heap[k]? := fun k hk hne => by
  rw [hgrow.block k (by omega) (Ne.symm hne), hwa.block k hk]
 have hbk : vu.ownBlock ≠ some b := fun e => by
  obtain ⟨cur, hc, _⟩ := ownsRow_blk h.uk e
  exact blk_ne hc h.blk lh_path rfl
 have hb1 : w1.heap[b]? = some (.cells (pcells p vk vu vl un) 82 (0, 0)) := (far b hbl hbk).trans h.blk
 have hgb : g ≠ b := by
  obtain ⟨cur, hc, _⟩ := ownsRow_blk hown (g := g) rfl
  exact blk_ne hc hb1 lh_path
 refine ⟨⟨?_, ?_, ?_, ?_, ?_, fun g' cur' e => ⟨(heap_set_far _ (blk_ne (h.kp g' cur' e).1 h.blk int_path)).trans ((far g' (Array.getElem?_eq_some_iff.1 (h.kp g' cur' e).1).1 (fun x => by obtain ⟨c2, hc2, _⟩ := ownsRow_blk h.uk x; exact blk_ne (h.kp g' cur' e).1 hc2 int_lh rfl)).trans (h.kp g' cur' e).1), (h.kp g' cur' e).2⟩, h.lb⟩, ?_⟩
 ·rw [blk_set _ hb1]; rfl
 ·refine ownsRow_far h.kn fun k hk => ?_
  obtain ⟨cur, hc, _, hlt⟩ := ownsRow_blk h.kn hk
  rw [heap_set_far _ (blk_ne hc h.blk lh_path), far k hlt]
  rcases h.ne with e | e
  ·rw [e] at hk; cases hk
  ·rw [<- hk]; exact e.symm
 ·have := ownsRow_far (w' := w1.setCell ⟨b, 7, none⟩ (.slice (some ⟨g, 0, none⟩) (p.unknown.length + 1) cap)) hown fun k hk => by
   have : g = k := Option.some.inj hk
   subst this
   exact heap_set_far _ hgb
  rw [<- pairCells_add] at this
  simpa using this
 ·refine ownsRow_far h.lg fun k hk => ?_
  obtain ⟨cur, hc, _, hlt⟩ := ownsRow_blk h.lg hk
  rw [heap_set_far _ (blk_ne hc h.blk int_path), far k hlt]
  intro e
  obtain ⟨cur', hc', _⟩ := ownsRow_blk h.uk e
  exact blk_ne hc hc' int_lh rfl
 ·rcases hkb : vk.ownBlock with _ | k
  ·exact .inl rfl
  ·right
   intro e
   have e : some k = some g := e
   rcases hat with h1 | h1
   ·rcases h.ne with e2 | e2
    ·rw [e2] at hkb; cases hkb
    ·exact e2 (by rw [hkb, h1, e])
   ·obtain ⟨_, _, _, hlt⟩ := ownsRow_blk h.kn hkb
    have := Option.some.inj e
    omega
 ·refine (Below.grown (hwa.mono ?_) hgrow ?_ ?_).setCell h.lb _
  ·have := h.lb; omega
  ·have := h.lb; omega
  ·intro k hk
   exact (ownsRow_blk h.uk hk).choose_spec.2.1

/-- A place is appended to the languages. -/
theorem PathAt.pushLang {w wa w1 : World} {base b g cap : Nat} {p : PathS} {vk vu vl : Value} {un : Un} (h : PathAt w base b p vk vu vl un) (hwa : Below w.heap.size w wa) (n : Nat)
  (hown : w1.ownsRow base 3 1 (.slice (some ⟨g, 0, none⟩) (p.langs.length + 1) cap) (p.langs.length + 1) (natCells p.langs ++ [i64 n]))
  (hgrow : wa.grownBy w1 vl.ownBlock) (hat : vl.ownBlock = some g \/ g = wa.heap.size) :
  PathAt (w1.setCell ⟨b, 14, none⟩ (.slice (some ⟨g, 0, none⟩) (p.langs.length + 1) cap)) base b { p with langs := p.langs ++ [n] } vk vu (.slice (some ⟨g, 0, none⟩) (p.langs.length + 1) cap) un /\
   Below base w (w1.setCell ⟨b, 14, none⟩ (.slice (some ⟨g, 0, none⟩) (p.langs.length + 1) cap)) := by
 have hsz := hwa.size
 have hbl : b < w.heap.size := (Array.getElem?_eq_some_iff.1 h.blk).1
 have far : ∀ k, k < w.heap.size -> vl.ownBlock ≠ some k -> w1.heap[k]? = w.heap[k]? := fun k hk hne => by
  rw [hgrow.block k (by omega) (Ne.symm hne), hwa.block k hk]
 have hbk : vl.ownBlock ≠ some b := fun e => by
  obtain ⟨cur, hc, _⟩ := ownsRow_blk h.lg e
  exact blk_ne hc h.blk int_path rfl
 have hb1 : w1.heap[b]? = some (.cells (pcells p vk vu vl un) 82 (0, 0)) := (far b hbl hbk).trans h.blk
 have hgb : g ≠ b := by
  obtain ⟨cur, hc, _⟩ := ownsRow_blk hown (g := g) rfl
  exact blk_ne hc hb1 int_path
 have hkp : un.kept (w1.setCell ⟨b, 14, none⟩ (.slice (some ⟨g, 0, none⟩) (p.langs.length + 1) cap)) (.slice (some ⟨g, 0, none⟩) (p.langs.length + 1) cap) := by
  intro g' cur' e
  obtain ⟨e1, e2⟩ := h.kp g' cur' e
  have hlt := (Array.getElem?_eq_some_iff.1 e1).1
  refine ⟨(heap_set_far _ (blk_ne e1 h.blk int_path)).trans ((far g' hlt e2).trans e1), fun x => ?_⟩
  have x : g = g' := Option.some.inj x
  rcases hat with y | y
  ·exact e2 (by rw [y, x])
  ·omega
 refine ⟨⟨?_, ?_, ?_, ?_, h.ne, hkp, h.lb⟩, ?_⟩
 ·rw [blk_set _ hb1]; rfl
 ·refine ownsRow_far h.kn fun k hk => ?_
  obtain ⟨cur, hc, _, hlt⟩ := ownsRow_blk h.kn hk
  rw [heap_set_far _ (blk_ne hc h.blk lh_path), far k hlt]
  intro e
  obtain ⟨cur', hc', _⟩ := ownsRow_blk h.lg e
  exact blk_ne hc' hc int_lh rfl
 ·refine ownsRow_far h.uk fun k hk => ?_
  obtain ⟨cur, hc, _, hlt⟩ := ownsRow_blk h.uk hk
  rw [heap_set_far _ (blk_ne hc h.blk lh_path), far k hlt]
  intro e
  obtain ⟨cur', hc', _⟩ := ownsRow_blk h.lg e
  exact blk_ne hc' hc int_lh rfl
 ·have := ownsRow_far (w' := w1.setCell ⟨b, 14, none⟩ (.slice (some ⟨g, 0, none⟩) (p.langs.length + 1) cap)) hown fun k hk => by
   have : g = k := Option.some.inj hk
   subst this
   exact heap_set_far _ hgb
  rw [<- natCells_add] at this
  simpa using this
 ·refine (Below.grown (hwa.mono ?_) hgrow ?_ ?_).setCell h.lb _
  ·have := h.lb; omega
  ·have := h.lb; omega
  ·intro k hk
   exact (ownsRow_blk h.lg hk).choose_spec.2.1

end Go.Proofs.YtjkecadfakjanaaGreatDoor
