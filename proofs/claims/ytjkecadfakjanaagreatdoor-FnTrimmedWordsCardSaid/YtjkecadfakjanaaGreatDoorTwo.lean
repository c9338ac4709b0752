/- A law for a statement 'a, b := f(..), g(..)' whose order is open: the two new cells may be made anywhere ahead of the stores, f is called ahead of g; so one need only say of each of the four what it does, whatever of the others has been. Plain laws of the model; no program here. Conditions: a Bool over the statement's operations, which the kernel works out. -/
import Derived.Test.YtjkecadfakjanaaGreatDoorBase
import Derived.Deep.RegionHeld3
set_option linter.unusedVariables false
set_option linter.unusedSimpArgs false
namespace Go.Proofs.YtjkecadfakjanaaGreatDoor
section
variable {P : Program} {ops : Array Oper} {md : Region.Mode} {Q : Exit -> Act -> World -> Prop} {S : World -> Prop}

def markIf (b : Bool) (i : Nat) (l : Array Bool) : Array Bool := if b then l.setIfInBounds i true else l
/-- The numbers of the four operations: the calls c1, c2, the new cells a1, a2; what has come up ahead of them. -/
structure Two where
 c1 : Nat
 c2 : Nat
 a1 : Nat
 a2 : Nat
 l0 : Array Bool
def Two.lst (t : Two) (p q x y : Bool) : Array Bool := markIf y t.a2 (markIf x t.a1 (markIf q t.c2 (markIf p t.c1 t.l0)))
def Two.stateB (t : Two) (md : Region.Mode) (ops : Array Oper) (p q x y : Bool) : Bool :=
 !(Region.ready md ops (t.lst p q x y)).isEmpty && (Region.ready md ops (t.lst p q x y)).all (fun i => (i == t.c1 && !p) || (i == t.c2 && p && !q) || (i == t.a1 && !x) || (i == t.a2 && !y))
  && (p || (t.lst p q x y).setIfInBounds t.c1 true == t.lst true q x y) && (q || (t.lst p q x y).setIfInBounds t.c2 true == t.lst p true x y)
  && (x || (t.lst p q x y).setIfInBounds t.a1 true == t.lst p q true y) && (y || (t.lst p q x y).setIfInBounds t.a2 true == t.lst p q x true)
def Two.okB (t : Two) (md : Region.Mode) (ops : Array Oper) : Bool :=
 [(false, false), (true, false), (true, true)].all fun pq => [false, true].all fun x => [false, true].all fun y => (pq.1 && pq.2 && x && y) || t.stateB md ops pq.1 pq.2 x y
theorem Two.state {t : Two} (h : t.okB md ops = true) (p q x y : Bool) (hq : q = true -> p = true) (hn : (p && q && x && y) = false) : t.stateB md ops p q x y = true := by
 have h1 := List.all_eq_true.1 h (p, q) (by cases p <;> cases q <;> simp at hq |-)
 have h2 := List.all_eq_true.1 h1 x (by cases x <;> simp)
 have h3 := List.all_eq_true.1 h2 y (by cases y <;> simp)
 rw [Bool.or_eq_true] at h3
 rcases h3 with h3 | h3
 ·have h4 : (p && q && x && y) = true := h3
  rw [hn] at h4
  cases h4
 ·exact h3

/-- How many of the four are still to come. -/
def leftOf (r1 r2 b1 b2 : Option Value) : Nat := (if r1.isSome then 0 else 1) + (if r2.isSome then 0 else 1) + (if b1.isSome then 0 else 1) + (if b2.isSome then 0 else 1)
theorem two_any (t : Two) (act : Option Value -> Option Value -> Option Value -> Option Value -> Act) (G : Option Value -> Option Value -> Option Value -> Option Value -> World -> Prop)
  (hB : t.okB md ops = true) (hS : ∀ r1 r2 b1 b2 w, G r1 r2 b1 b2 w -> S w)
  (hc1 : ∀ b1 b2 w, G none none b1 b2 w -> wpOp P ops Q t.c1 (fun a' w' => ∃ v, a' = act (some v) none b1 b2 /\ G (some v) none b1 b2 w') (act none none b1 b2) w)
  (hc2 : ∀ v b1 b2 w, G (some v) none b1 b2 w -> wpOp P ops Q t.c2 (fun a' w' => ∃ u, a' = act (some v) (some u) b1 b2 /\ G (some v) (some u) b1 b2 w') (act (some v) none b1 b2) w)
  (ha1 : ∀ r1 r2 b2 w, G r1 r2 none b2 w -> wpOp P ops Q t.a1 (fun a' w' => ∃ b, a' = act r1 r2 (some b) b2 /\ G r1 r2 (some b) b2 w') (act r1 r2 none b2) w)
  (ha2 : ∀ r1 r2 b1 w, G r1 r2 b1 none w -> wpOp P ops Q t.a2 (fun a' w' => ∃ b, a' = act r1 r2 b1 (some b) /\ G r1 r2 b1 (some b) w') (act r1 r2 b1 none) w)
  (hfin : ∀ v u b b' w, G (some v) (some u) (some b) (some b') w -> wpAnyH P md ops Q S 2 (t.lst true true true true) (act (some v) (some u) (some b) (some b')) w) :
  ∀ (n : Nat) (r1 r2 b1 b2 : Option Value) (w : World), leftOf r1 r2 b1 b2 = n -> (r2.isSome = true -> r1.isSome = true) -> G r1 r2 b1 b2 w ->
   wpAnyH P md ops Q S (n + 2) (t.lst r1.isSome r2.isSome b1.isSome b2.isSome) (act r1 r2 b1 b2) w := by
 intro n
 induction n with
 | zero =>
  intro r1 r2 b1 b2 w hn hq hg
  cases r1 <;> cases r2 <;> cases b1 <;> cases b2 <;> simp [leftOf] at hn
  exact hfin _ _ _ _ _ hg
 | succ n ih =>
  intro r1 r2 b1 b2 w hn hq hg
  have hnot : (r1.isSome && r2.isSome && b1.isSome && b2.isSome) = false := by
   cases r1 <;> cases r2 <;> cases b1 <;> cases b2 <;> simp [leftOf] at hn |-
  have hst := Two.state hB r1.isSome r2.isSome b1.isSome b2.isSome hq hnot
  unfold Two.stateB at hst
  simp only [Bool.and_eq_true, Bool.not_eq_true', List.isEmpty_eq_false_iff, List.all_eq_true, Bool.or_eq_true, beq_iff_eq] at hst
  obtain ⟨⟨⟨⟨⟨hne, hall⟩, s1⟩, s2⟩, s3⟩, s4⟩ := hst
  refine ⟨fun h0 => absurd h0 hne, fun i hi => ?_⟩
  rcases hall i hi with ((⟨rfl, h⟩ | ⟨⟨rfl, hp⟩, h⟩) | ⟨rfl, h⟩) | ⟨rfl, h⟩
  ·cases r1 with
   | some v => cases h
   | none =>
    cases r2 with
    | some u => cases hq rfl
    | none =>
     refine wpOp_mono (fun a' w' ⟨v, e, g⟩ => ⟨hS _ _ _ _ _ g, ?_⟩) (hc1 _ _ _ hg)
     subst e
     have := ih (some v) none b1 b2 w' (by simp [leftOf] at hn |-; omega) (fun x => by cases x) g
     rw [s1.resolve_left (by decide)]
     exact this
  ·cases r2 with
   | some u => cases h
   | none =>
    cases r1 with
    | none => cases hp
    | some v =>
     refine wpOp_mono (fun a' w' ⟨u, e, g⟩ => ⟨hS _ _ _ _ _ g, ?_⟩) (hc2 _ _ _ _ hg)
     subst e
     have := ih (some v) (some u) b1 b2 w' (by simp [leftOf] at hn |-; omega) (fun _ => rfl) g
     rw [s2.resolve_left (by decide)]
     exact this
  ·cases b1 with
   | some b => cases h
   | none =>
    refine wpOp_mono (fun a' w' ⟨b, e, g⟩ => ⟨hS _ _ _ _ _ g, ?_⟩) (ha1 _ _ _ _ hg)
    subst e
    have := ih r1 r2 (some b) b2 w' (by simp [leftOf] at hn |-; omega) hq g
    rw [s3.resolve_left (by decide)]
    exact this
  ·cases b2 with
   | some b => cases h
   | none =>
    refine wpOp_mono (fun a' w' ⟨b, e, g⟩ => ⟨hS _ _ _ _ _ g, ?_⟩) (ha2 _ _ _ _ hg)
    subst e
    have := ih r1 r2 b1 (some b) w' (by simp [leftOf] at hn |-; omega) hq g
    rw [s4.resolve_left (by decide)]
    exact this
def putIf (o : Option Value) (d : Option Tmp) (a : Act) : Act := match o with | some v => a.put d v | none => a
/-- The frame, by what has come up. -/
def actT (a : Act) (d1 d2 e1 e2 : Option Tmp) (r1 r2 b1 b2 : Option Value) : Act := putIf b2 e2 (putIf b1 e1 (putIf r2 d2 (putIf r1 d1 a)))
theorem putIf_comm (a : Act) (o : Option Value) (d e : Option Tmp) (v : Value) (h : ∀ x, d = some x -> e ≠ some x) : putIf o e (a.put d v) = (putIf o e a).put d v := by
 cases o with
 | none => rfl
 | some u => exact Act.put_comm a v u h
theorem two_start (t : Two) (a : Act) (d1 d2 e1 e2 : Option Tmp) (G : Option Value -> Option Value -> Option Value -> Option Value -> World -> Prop)
  (h12 : ∀ x, d1 = some x -> d2 ≠ some x) (h13 : ∀ x, d1 = some x -> e1 ≠ some x) (h14 : ∀ x, d1 = some x -> e2 ≠ some x) (h23 : ∀ x, d2 = some x -> e1 ≠ some x) (h24 : ∀ x, d2 = some x -> e2 ≠ some x) (h34 : ∀ x, e1 = some x -> e2 ≠ some x)
  (hB : t.okB md ops = true) (hS : ∀ r1 r2 b1 b2 w, G r1 r2 b1 b2 w -> S w)
  (hc1 : ∀ b1 b2 w, G none none b1 b2 w -> wpOp P ops Q t.c1 (fun a' w' => ∃ v, a' = (actT a d1 d2 e1 e2 none none b1 b2).put d1 v /\ G (some v) none b1 b2 w') (actT a d1 d2 e1 e2 none none b1 b2) w)
  (hc2 : ∀ v b1 b2 w, G (some v) none b1 b2 w -> wpOp P ops Q t.c2 (fun a' w' => ∃ u, a' = (actT a d1 d2 e1 e2 (some v) none b1 b2).put d2 u /\ G (some v) (some u) b1 b2 w') (actT a d1 d2 e1 e2 (some v) none b1 b2) w)
  (ha1 : ∀ r1 r2 b2 w, G r1 r2 none b2 w -> wpOp P ops Q t.a1 (fun a' w' => ∃ b, a' = (actT a d1 d2 e1 e2 r1 r2 none b2).put e1 b /\ G r1 r2 (some b) b2 w') (actT a d1 d2 e1 e2 r1 r2 none b2) w)
  (ha2 : ∀ r1 r2 b1 w, G r1 r2 b1 none w -> wpOp P ops Q t.a2 (fun a' w' => ∃ b, a' = (actT a d1 d2 e1 e2 r1 r2 b1 none).put e2 b /\ G r1 r2 b1 (some b) w') (actT a d1 d2 e1 e2 r1 r2 b1 none) w)
  (hfin : ∀ v u b b' w, G (some v) (some u) (some b) (some b') w -> wpAnyH P md ops Q S 2 (t.lst true true true true) (((((a.put d1 v).put d2 u).put e1 b)).put e2 b') w)
  (w : World) (hg : G none none none none w) : wpAnyH P md ops Q S 6 t.l0 a w :=
 two_any t (actT a d1 d2 e1 e2) G hB hS
  (fun b1 b2 w g => wpOp_mono (fun a' w' ⟨v, e, g'⟩ => ⟨v, by rw [e]; show (putIf b2 e2 (putIf b1 e1 a)).put d1 v = putIf b2 e2 (putIf b1 e1 (a.put d1 v)); rw [putIf_comm _ b1 d1 e1 v h13, putIf_comm _ b2 d1 e2 v h14], g'⟩) (hc1 b1 b2 w g))
  (fun v b1 b2 w g => wpOp_mono (fun a' w' ⟨u, e, g'⟩ => ⟨u, by rw [e]; show (putIf b2 e2 (putIf b1 e1 (a.put d1 v))).put d2 u = putIf b2 e2 (putIf b1 e1 ((a.put d1 v).put d2 u)); rw [putIf_comm _ b1 d2 e1 u h23, putIf_comm _ b2 d2 e2 u h24], g'⟩) (hc2 v b1 b2 w g))
  (fun r1 r2 b2 w g => wpOp_mono (fun a' w' ⟨b, e, g'⟩ => ⟨b, by rw [e]; show (putIf b2 e2 (putIf r2 d2 (putIf r1 d1 a))).put e1 b = putIf b2 e2 ((putIf r2 d2 (putIf r1 d1 a)).put e1 b); rw [putIf_comm _ b2 e1 e2 b h34], g'⟩) (ha1 r1 r2 b2 w g))
  (fun r1 r2 b1 w g => wpOp_mono (fun a' w' ⟨b, e, g'⟩ => ⟨b, by rw [e]; rfl, g'⟩) (ha2 r1 r2 b1 w g))
  (fun v u b b' w g => hfin v u b b' w g) 4 none none none none w rfl (fun h => by cases h) hg
end
end Go.Proofs.YtjkecadfakjanaaGreatDoor
