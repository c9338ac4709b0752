/- A region that draws its order, whose last operation waits for all others: the reads may be taken first, each under what the world holds as long as the last one has not come up. No program here; no condition. -/
import Derived.StillTail
import Derived.OrdersHeld
import Derived.RegionTactic
set_option linter.unusedVariables false
set_option linter.unusedSimpArgs false
namespace Go.Proofs.YtjkecadfakjanaaGreatDoor
open Go

/-- Whatever order is picked from here on; behind each operation but the last, L, the world meets S. -/
def wpAnyG (P : Program) (md : Region.Mode) (ops : Array Oper) (Q : Exit -> Act -> World -> Prop) (S : World -> Prop) (L : Nat) : Nat -> Array Bool -> Act -> World -> Prop
 | 0, listed, a, w => Region.ready md ops listed = [] /\ Q .normal a w
 | n + 1, listed, a, w => (Region.ready md ops listed = [] -> Q .normal a w) /\
   ∀ i ∈ Region.ready md ops listed, wpOp P ops Q i (fun a' w' => (i < L -> S w') /\ wpAnyG P md ops Q S L n (listed.setIfInBounds i true) a' w') a w

section
variable {P : Program} {ops : Array Oper} {md : Region.Mode} {Q : Exit -> Act -> World -> Prop} {S : World -> Prop} {L : Nat}

theorem wpAny_of_G : ∀ (n : Nat) (listed : Array Bool) (a : Act) (w : World), wpAnyG P md ops Q S L n listed a w -> wpAny P md ops Q n listed a w
 | 0, _, _, _, h => h
 | n + 1, _, _, _, h => ⟨h.1, fun i hi => wpOp_mono (fun a' w' h' => wpAny_of_G n _ a' w' h'.2) (h.2 i hi)⟩

theorem wpAnyG_first {i : Nat} {oi : Oper} {v : Value} (hi : ops[i]? = some oi) (hsel : ∀ (j : Nat) (o : Oper) cs b, ops[j]? = some o -> o.op ≠ .select cs b)
  (hs : Region.sinkB md ops L = true) (hc : Region.chainB md ops L = true) (hL : L < ops.size) (hiL : i < L)
  (hQ : ∀ c a w, Q (.panic c) (a.put oi.dst v) w -> Q (.panic c) a w) :
  ∀ (n : Nat) (listed : Array Bool) (a : Act) (w : World), HeadInv md ops L listed ->
   (∀ j oj, ops[j]? = some oj -> j ≠ i -> listed.getD j true = false -> (∀ e ∈ oj.after, Region.binds md e = true -> e.on ≠ i) -> oi.apart ops oj = true) ->
   i ∈ Region.ready md ops listed -> YieldsIf P ops S oi v a -> S w ->
   wpAnyG P md ops Q S L n (listed.setIfInBounds i true) (a.put oi.dst v) w -> wpAnyG P md ops Q S L (n + 1) listed a w
 | 0, listed, a, w, inv, _, hr, hy, hS, H => by
  refine ⟨fun e => absurd (e ▸ hr) (by simp), fun j hj => ?_⟩
  by_cases hji : j = i
  ·subst hji; exact hy.wpOp hi hS ⟨fun _ => hS, H⟩
  ·have h0 := ready_mono hj hji
   rw [H.1] at h0
   cases h0
 | n + 1, listed, a, w, inv, hfree, hr, hy, hS, H => by
  refine ⟨fun e => absurd (e ▸ hr) (by simp), fun j hj => ?_⟩
  by_cases hji : j = i
  ·subst hji; exact hy.wpOp hi hS ⟨fun _ => hS, H⟩
  ·have hun : listed.getD i true = false := (mem_ready.1 hr).1
   have hjL : j < L := by
    rcases Nat.lt_or_ge j L with h | h
    ·exact h
    ·exact absurd hj (tail_waits hs hc hL inv _ i rfl hiL hun j h)
   obtain ⟨hjun, oj, hoj, hall⟩ := mem_ready.1 hj
   have hnot : ∀ e ∈ oj.after, Region.binds md e = true -> e.on ≠ i := fun e he hb heq => by
    have h1 := hall e he hb
    rw [heq, getD_both hun] at h1
    cases h1
   have hfree' : ∀ k ok, ops[k]? = some ok -> k ≠ i -> (listed.setIfInBounds j true).getD k true = false -> (∀ e ∈ ok.after, Region.binds md e = true -> e.on ≠ i) -> oi.apart ops ok = true := fun k ok hk hki hku hno => by
    refine hfree k ok hk hki ?_ hno
    by_cases hjk : j = k
    ·subst hjk; exact hjun
    ·rw [getD_set_ne true hjk] at hku; exact hku
   have h2 := wpOp_putIf hoj (hfree j oj hoj hji hjun hnot) (fun cs b => hsel i oi cs b hi) (fun cs b => hsel j oj cs b hoj) hQ hy (H.2 j (ready_mono hj hji))
   refine wpOp_mono (fun a' w' h3 => ?_) h2
   refine ⟨h3.2.1, wpAnyG_first hi hsel hs hc hL hiL hQ n (listed.setIfInBounds j true) a' w' (inv.set hj hjL) hfree' (ready_mono hr (Ne.symm hji)) h3.1 (h3.2.1 hjL) ?_⟩
   rw [Array.setIfInBounds_comm _ _ hji]
   exact h3.2.2

/-- Number i is taken first. -/
theorem wpAnyG_take {i : Nat} {oi : Oper} {v : Value} {n : Nat} {listed : Array Bool} {a : Act} {w : World} (hi : ops[i]? = some oi)
  (hB : (Region.noSelect ops && Region.sinkB md ops L && Region.chainB md ops L && decide (L < ops.size) && decide (i < L)) = true) (hf : Region.free md ops listed i = true) (hr : (Region.ready md ops listed).contains i = true)
  (hQ : ∀ c a w, Q (.panic c) (a.put oi.dst v) w -> Q (.panic c) a w) (hy : YieldsIf P ops S oi v a) (hS : S w) (inv : HeadInv md ops L listed)
  (h : HeadInv md ops L (listed.setIfInBounds i true) -> wpAnyG P md ops Q S L n (listed.setIfInBounds i true) (a.put oi.dst v) w) : wpAnyG P md ops Q S L (n + 1) listed a w := by
 simp only [Bool.and_eq_true, decide_eq_true_eq] at hB
 obtain ⟨⟨⟨⟨h1, h2⟩, h3⟩, h4⟩, h5⟩ := hB
 have hr' : i ∈ Region.ready md ops listed := by simpa using hr
 exact wpAnyG_first hi (Region.noSelect_spec h1) h2 h3 h4 h5 hQ n listed a w inv (Region.free_spec hi hf) hr' hy hS (h (inv.set hr' h5))

/-- One operation alone may come up. -/
theorem wpAnyG_one {i : Nat} {o : Oper} {n : Nat} {listed : Array Bool} {a : Act} {w : World} (hi : ops[i]? = some o) (hr : Region.ready md ops listed = [i])
  (h : ∀ K : Act -> World -> Prop, (∀ a' w', (i < L -> S w') -> wpAnyG P md ops Q S L n (listed.setIfInBounds i true) a' w' -> K a' w') ->
   (if Region.wanted o (yielded ops a.tmps) = true then Oper.wp P o a w K Q else K (a.put o.dst undef) w)) :
  wpAnyG P md ops Q S L (n + 1) listed a w := by
 refine ⟨fun e => absurd (hr.symm.trans e) (by simp), fun j hj => ?_⟩
 rw [hr] at hj
 obtain rfl : j = i := by simpa using hj
 exact wpOp_step hi (fun K' hK => h K' (fun a' w' h1 h2 => hK a' w' ⟨h1, h2⟩))

theorem wpAnyG_done {listed : Array Bool} {a : Act} {w : World} (hr : Region.ready md ops listed = []) (h : Q .normal a w) : ∀ n, wpAnyG P md ops Q S L n listed a w
 | 0 => ⟨hr, h⟩
 | _ + 1 => ⟨fun _ => h, by rw [hr]; simp⟩
end

theorem wp_region_G {P : Program} {ops : Array Oper} {Q : Exit -> Act -> World -> Prop} (S : World -> Prop) (L : Nat) {id : Nat} {a : Act} {w : World} (hm : P.follows .mixedOrders = true)
  (h : HeadInv .any ops L (Array.replicate ops.size false) -> wpAnyG P .any ops Q S L ops.size (Array.replicate ops.size false) a w.drew) : (Code.region id ops true).wp P Q a w := by
 refine wp_region_any hm (wpAny_of_G _ _ _ _ (h ⟨by simp, fun j oj _ hl => (by rw [getD_replicate_false] at hl; cases hl), fun t _ ht => getD_in (by simpa using ht) (getD_replicate_false _ _)⟩))

end Go.Proofs.YtjkecadfakjanaaGreatDoor
