/- A statement 'a, b := f(..), g(..)' of two answers: what holds while its operations come up, and the four of them over whatever frame. Conditions: those that each lemma names. -/
import Derived.Test.YtjkecadfakjanaaGreatDoorTwo
import Derived.Test.YtjkecadfakjanaaGreatDoorAnsD
import Derived.Test.YtjkecadfakjanaaGreatDoorParse
set_option maxRecDepth 100000
set_option linter.unusedVariables false
set_option linter.unusedSimpArgs false
namespace Go.Proofs.YtjkecadfakjanaaGreatDoor
open Go.RowKit

/-- An answer that reads as T. -/
def TellsT (T : ToldM) (v : Value) : Prop := ∃ a1 l1 c1 a2 l2 c2 a3 l3 c3, v = toldVal T (.slice a1 l1 c1) (.slice a2 l2 c2) (.slice a3 l3 c3)
/-- A new cell for an answer. -/
def NewTold (n : Nat) (w : World) (v : Value) : Prop := ∃ g, v = .pointer (some ⟨g, 0, none⟩) /\ n < g /\ w.heap[g]? = some (.cells zeroCells 29 (0, 0))
theorem NewTold.below {n : Nat} {w w' : World} {v : Value} (h : NewTold n w v) (hb : Below w.heap.size w w') : NewTold n w' v := by
 obtain ⟨g, e, h1, h2⟩ := h
 exact ⟨g, e, h1, blk_below h2 hb⟩
theorem NewTold.ne {n : Nat} {w : World} {v : Value} (h : NewTold n w v) : v ≠ .pointer (some ⟨w.heap.size, 0, none⟩) := by
 obtain ⟨g, e, h1, h2⟩ := h
 intro x
 rw [e] at x
 have hlt : g < w.heap.size := (Array.getElem?_eq_some_iff.1 h2).1
 have := (Addr.mk.inj (Option.some.inj (Value.pointer.inj x))).1
 omega
/-- While the two are asked: the site's cells stand; what has been told; the new cells. -/
structure Asks (w : World) (vl vd vf vc : Value) (T : ToldM) (r1 r2 b1 b2 : Option Value) (w' : World) : Prop where
 lt : w.heap.size < w'.heap.size
 st : (w'.cell? ⟨w.heap.size, 0, none⟩ = some vl /\ w'.cell? ⟨w.heap.size, 1, none⟩ = some vd /\ w'.cell? ⟨w.heap.size, 2, none⟩ = some vf /\ w'.cell? ⟨w.heap.size, 3, none⟩ = some vc) /\ Below w.heap.size w w'
 f1 : ∀ v, r1 = some v -> TellsT T v
 f2 : ∀ v, r2 = some v -> TellsT T v
 g1 : ∀ v, b1 = some v -> NewTold w.heap.size w' v
 g2 : ∀ v, b2 = some v -> NewTold w.heap.size w' v
 ne : ∀ v v', b1 = some v -> b2 = some v' -> v ≠ v'
theorem Asks.tell {w : World} {vl vd vf vc : Value} {T : ToldM} {r1 r2 b1 b2 : Option Value} {w1 w2 : World} (h : Asks w vl vd vf vc T r1 r2 b1 b2 w1) (hb : Below w1.heap.size w1 w2) (r1' r2' : Option Value) (h1 : ∀ v, r1' = some v -> TellsT T v) (h2 : ∀ v, r2' = some v -> TellsT T v) :
  Asks w vl vd vf vc T r1' r2' b1 b2 w2 := by
 obtain ⟨hs, ⟨⟨k0, k1, k2, k3⟩, hB⟩, _, _, g1, g2, ne⟩ := h
 have q := fun o => (bcell hb).1 w.heap.size o hs
 exact ⟨Nat.lt_of_lt_of_le hs hb.size, ⟨⟨(q 0).trans k0, (q 1).trans k1, (q 2).trans k2, (q 3).trans k3⟩, belowThen hB hb (Nat.le_refl _)⟩, h1, h2, fun v e => (g1 v e).below hb, fun v e => (g2 v e).below hb, ne⟩
theorem told_tells {n : Nat} {w : World} {v : Value} {T : ToldM} (h : ToldAtN n w v T) : TellsT T v := by
 obtain ⟨ql, qi, qu, rfl, ⟨s1, _⟩, ⟨s2, _⟩, ⟨s3, _⟩⟩ := h
 obtain ⟨a1, l1, c1, rfl⟩ := s1.slice
 obtain ⟨a2, l2, c2, rfl⟩ := s2.slice
 obtain ⟨a3, l3, c3, rfl⟩ := s3.slice
 exact ⟨_, _, _, _, _, _, _, _, _, rfl⟩
/-- A new cell comes up first, the other may stand. -/
theorem Asks.new1 {w : World} {vl vd vf vc : Value} {T : ToldM} {r1 r2 b2 : Option Value} {w1 : World} (h : Asks w vl vd vf vc T r1 r2 none b2 w1) :
  Asks w vl vd vf vc T r1 r2 (some (.pointer (some ⟨w1.heap.size, 0, none⟩))) b2 (w1.alloc (.cells zeroCells 29)) := by
 have hb := Below_alloc w1 (.cells zeroCells 29)
 have hA := h.tell hb r1 r2 h.f1 h.f2
 exact ⟨hA.lt, hA.st, hA.f1, hA.f2, fun v e => by cases e; exact ⟨_, rfl, h.lt, blk_new w1 _⟩, hA.g2, fun v v' e e' => by cases e; exact fun x => (h.g2 v' e').ne x.symm⟩
theorem Asks.new2 {w : World} {vl vd vf vc : Value} {T : ToldM} {r1 r2 b1 : Option Value} {w1 : World} (h : Asks w vl vd vf vc T r1 r2 b1 none w1) :
  Asks w vl vd vf vc T r1 r2 b1 (some (.pointer (some ⟨w1.heap.size, 0, none⟩))) (w1.alloc (.cells zeroCells 29)) := by
 have hb := Below_alloc w1 (.cells zeroCells 29)
 have hA := h.tell hb r1 r2 h.f1 h.f2
 exact ⟨hA.lt, hA.st, hA.f1, hA.f2, hA.g1, fun v e => by cases e; exact ⟨_, rfl, h.lt, blk_new w1 _⟩, fun v v' e e' => by cases e'; exact (h.g1 v e).ne⟩

/-! ### The operations over whatever frame -/
theorem eval_putIf {a : Act} {r : Option Value} {d : Option Tmp} {x : Tmp} (h : ∀ y, d = some y -> x ≠ y) : (putIf r d a).eval (.tmp x) = a.eval (.tmp x) := by
 cases r with
 | none => rfl
 | some v => exact Act.eval_put fun y e q => h y e (Operand.tmp.inj q)
theorem eval_actT {a : Act} {d1 d2 e1 e2 : Tmp} {r1 r2 b1 b2 : Option Value} {x : Tmp} (h1 : x ≠ d1) (h2 : x ≠ d2) (h3 : x ≠ e1) (h4 : x ≠ e2) : (actT a (some d1) (some d2) (some e1) (some e2) r1 r2 b1 b2).eval (.tmp x) = a.eval (.tmp x) := by
 unfold actT
 rw [eval_putIf (by rintro y ⟨rfl⟩; exact h4), eval_putIf (by rintro y ⟨rfl⟩; exact h3), eval_putIf (by rintro y ⟨rfl⟩; exact h2), eval_putIf (by rintro y ⟨rfl⟩; exact h1)]
theorem wpOp_run {P : Program} {ops : Array Oper} {Q : Exit -> Act -> World -> Prop} {i : Nat} {o : Oper} {a : Act} {w : World} {K : Act -> World -> Prop} (ho : ops[i]? = some o) (hg : o.guard = none) (v : Value) (w' : World)
  (hrun : (execOp a.eval o).run P w = .ok (.value v) w') (h : K (a.put o.dst v) w') : wpOp P ops Q i K a w := by
 refine wpOp_step ho fun K' hK => ?_
 rw [if_pos (by simp only [Region.wanted, hg])]
 unfold Oper.wp
 rw [hrun, Oper.upon_value]
 exact hK _ _ h
theorem wpOp_enter {P : Program} {ops : Array Oper} {Q : Exit -> Act -> World -> Prop} {i : Nat} {o : Oper} {a : Act} {w : World} {K : Act -> World -> Prop} (ho : ops[i]? = some o) (hg : o.guard = none) (f : FuncId) (args : Array Value)
  (hrun : (execOp a.eval o).run P w = .ok (.enter f args) w) (h : Calls P f args w fun e w' => ∃ v, e = .returned v /\ K (a.put o.dst v) w') : wpOp P ops Q i K a w := by
 refine wpOp_step ho fun K' hK => ?_
 rw [if_pos (by simp only [Region.wanted, hg])]
 unfold Oper.wp
 rw [hrun, Oper.upon_enter]
 refine h.mono fun e w'' ⟨v, e1, hk⟩ => ?_
 subst e1
 exact hK _ _ hk
theorem wpOp_storeRow {P : Program} {ops : Array Oper} {Q : Exit -> Act -> World -> Prop} {i : Nat} {o : Oper} {a : Act} {w : World} {K : Act -> World -> Prop} (ho : ops[i]? = some o) (hg : o.guard = none) (ty : TypeId) (x y : Operand) (hop : o.op = .store ty x y) (hd : o.dst = none)
  (g : Nat) (cells : Array Value) (hx : a.eval x = .pointer (some ⟨g, 0, none⟩)) (hy : a.eval y = .agg cells) (t : TypeId) (old : Array Value) (hgk : w.heap[g]? = some (.cells old t (0, 0))) (hi : (P.info? ty).map (·.size) = some cells.size)
  (hold : old.size = cells.size) (h1 : cells.all (·.oneCell') = true) (h : K a (w.setRow g cells)) : wpOp P ops Q i K a w := by
 refine wpOp_step ho fun K' hK => ?_
 rw [if_pos (by simp only [Region.wanted, hg])]
 refine wp_store_row ty x y hop g cells hx hy t old hgk hi hold h1 ?_
 rw [hd]; exact hK _ _ h
theorem run_call3 {P : Program} {ρ : Operand -> Value} {w : World} {dst : Option Tmp} {f : FuncId} {x y z : Tmp} {ats : Array TypeId} {ty : TypeId} {pos : String} {after : Array Edge} {guard : Option (Nat × Bool)} {vx vy vz : Value}
  (hf : ρ (.func f) = .func (.func f) #[] #[]) (hx : ρ (.tmp x) = vx) (hy : ρ (.tmp y) = vy) (hz : ρ (.tmp z) = vz) (hcf : (callFunc f #[vx, vy, vz]).run P w = .ok (.enter f #[vx, vy, vz]) w) :
  (execOp ρ { dst, op := .call { callee := .value (.func f), args := #[.tmp x, .tmp y, .tmp z], argTypes := ats }, type := ty, pos, after, guard }).run P w = .ok (.enter f #[vx, vy, vz]) w := by
 subst hx hy hz
 unfold execOp
 simp [hf, go_sem]
 exact hcf
theorem run_call4 {P : Program} {ρ : Operand -> Value} {w : World} {dst : Option Tmp} {f : FuncId} {x y z u : Tmp} {ats : Array TypeId} {ty : TypeId} {pos : String} {after : Array Edge} {guard : Option (Nat × Bool)} {vx vy vz vu : Value}
  (hf : ρ (.func f) = .func (.func f) #[] #[]) (hx : ρ (.tmp x) = vx) (hy : ρ (.tmp y) = vy) (hz : ρ (.tmp z) = vz) (hu : ρ (.tmp u) = vu) (hcf : (callFunc f #[vx, vy, vz, vu]).run P w = .ok (.enter f #[vx, vy, vz, vu]) w) :
  (execOp ρ { dst, op := .call { callee := .value (.func f), args := #[.tmp x, .tmp y, .tmp z, .tmp u], argTypes := ats }, type := ty, pos, after, guard }).run P w = .ok (.enter f #[vx, vy, vz, vu]) w := by
 subst hx hy hz hu
 unfold execOp
 simp [hf, go_sem]
 exact hcf
theorem run_newTold {ρ : Operand -> Value} {w : World} {dst : Option Tmp} {ty : TypeId} {pos : String} {after : Array Edge} {guard : Option (Nat × Bool)} :
  (execOp ρ { dst, op := .alloc 29, type := ty, pos, after, guard }).run Tryz.prog w = .ok (.value (.pointer (some ⟨w.heap.size, 0, none⟩))) (w.alloc (.cells zeroCells 29)) := by
 kernel_rfl

end Go.Proofs.YtjkecadfakjanaaGreatDoor
