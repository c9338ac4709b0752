/- The reference's reading of a whole path walked: WordsOf. Conditions: a site in memory; a path of at most 100000 bytes. -/
import Derived.Test.YtjkecadfakjanaaGreatDoorReadM
import Derived.Test.YtjkecadfakjanaaGreatDoorEqM
import Derived.Test.YtjkecadfakjanaaGreatDoorBase
import Derived.StillTail
import Derived.Test.YtjkecadfakjanaaGreatDoorRepF
set_option maxRecDepth 100000
set_option linter.unusedVariables false
set_option linter.unusedSimpArgs false
namespace Go.Proofs.YtjkecadfakjanaaGreatDoor
open Go.RowKit
attribute [local go_sem] B_extract B_toList B_append

/-! ### What a reading keeps while it reads -/
structure RW (r : ReadM) (n : Nat) : Prop where
 il : r.w.ids.length <= n
 ul : r.w.unknown.length <= n
 gl : r.w.langs.length <= n
 ml : r.marks.length <= n
 lay : r.layoutAt < 0 \/ ∃ k : Nat, r.layoutAt = (k : Int) /\ k < r.w.ids.length
theorem RW.ident {r : ReadM} {n : Nat} (h : RW r n) (t : Str) (at_ : Int) : RW (r.identify t at_) (n + 1) := by
 have h1 := h.il
 have h2 := h.ul
 have h3 := h.gl
 have h4 := h.ml
 refine ⟨?_, ?_, ?_, ?_, ?_⟩
 ·show (r.w.ids ++ [t]).length <= n + 1
  rw [List.length_append, List.length_singleton]; omega
 ·show r.w.unknown.length <= n + 1; omega
 ·show r.w.langs.length <= n + 1; omega
 ·show (r.marks ++ [at_]).length <= n + 1
  rw [List.length_append, List.length_singleton]; omega
 ·rcases h.lay with x | ⟨k, x, y⟩
  ·exact .inl x
  ·refine .inr ⟨k, x, ?_⟩
   show k < (r.w.ids ++ [t]).length
   rw [List.length_append]; omega
theorem readStep_rw (site : SiteM) {r : ReadM} {n : Nat} (h : RW r n) (word : Str) (at_ : Int) : RW (readStep site r word at_) (n + 1) := by
 have h1 := h.il
 have h2 := h.ul
 have h3 := h.gl
 have h4 := h.ml
 unfold readStep
 split
 ·rename_i x hx
  rw [wrapper_eq]
  split
  ·have a := h.ident (langV x) at_
   refine ⟨a.il, a.ul, ?_, a.ml, a.lay⟩
   show (r.w.langs ++ [langV x]).length <= n + 1
   rw [List.length_append, List.length_singleton]; omega
  ·split
   ·split
    ·have a := h.ident (tagStr x pFormat) at_
     exact ⟨a.il, a.ul, a.gl, a.ml, a.lay⟩
    ·split
     ·have a := h.ident (tagStr x pKind) at_
      exact ⟨a.il, a.ul, a.gl, a.ml, a.lay⟩
     ·split
      ·have a := h.ident (tagStr x pLayout) at_
       exact ⟨a.il, a.ul, a.gl, a.ml, a.lay⟩
      ·have a := h.ident word at_
       exact ⟨a.il, a.ul, a.gl, a.ml, a.lay⟩
   ·have a := h.ident word at_
    exact ⟨a.il, a.ul, a.gl, a.ml, a.lay⟩
 ·rw [plain_eq]
  have a := h.ident word at_
  split
  ·exact ⟨a.il, a.ul, a.gl, a.ml, a.lay⟩
  ·split
   ·exact ⟨a.il, a.ul, a.gl, a.ml, a.lay⟩
   ·split
    ·exact ⟨a.il, a.ul, a.gl, a.ml, a.lay⟩
    ·split
     ·exact ⟨a.il, a.ul, a.gl, a.ml, a.lay⟩
     ·split
      ·split
       ·refine ⟨a.il, a.ul, a.gl, a.ml, .inr ⟨r.w.ids.length, rfl, ?_⟩⟩
        show r.w.ids.length < (r.w.ids ++ [word]).length
        rw [List.length_append, List.length_singleton]; omega
       ·refine ⟨?_, ?_, ?_, ?_, ?_⟩
        ·show (r.w.ids.set r.layoutAt.toNat word).length <= n + 1
         rw [List.length_set]; omega
        ·show (r.w.unknown ++ [r.layout]).length <= n + 1
         rw [List.length_append, List.length_singleton]; omega
        ·show r.w.langs.length <= n + 1; omega
        ·show (r.marks ++ [at_]).length <= n + 1
         rw [List.length_append, List.length_singleton]; omega
        ·rcases h.lay with x | ⟨k, x, y⟩
         ·exact .inl x
         ·refine .inr ⟨k, x, ?_⟩
          show k < (r.w.ids.set r.layoutAt.toNat word).length
          rw [List.length_set]; exact y
      ·refine ⟨?_, ?_, ?_, ?_, h.lay⟩
       ·show r.w.ids.length <= n + 1; omega
       ·show (r.w.unknown ++ [word]).length <= n + 1
        rw [List.length_append, List.length_singleton]; omega
       ·show r.w.langs.length <= n + 1; omega
       ·show r.marks.length <= n + 1; omega
theorem RW.mono {r : ReadM} {n m : Nat} (h : RW r n) (hm : n <= m) : RW r m := ⟨Nat.le_trans h.il hm, Nat.le_trans h.ul hm, Nat.le_trans h.gl hm, Nat.le_trans h.ml hm, h.lay⟩
theorem RW.fits {r : ReadM} {n : Nat} (h : RW r n) (hn : n <= 1000000) : RFits r := ⟨Nat.le_trans h.il hn, Nat.le_trans h.ul hn, Nat.le_trans h.gl hn, Nat.le_trans h.ml hn⟩

/-! ### One word of the loop -/
theorem readWord_last (site : SiteM) (name : Str) (cuts : List Nat) (r : ReadM) (m e : Nat) (h : m + 1 = cuts.length) :
  (readWord site name cuts r (m + 1) e) = (let r1 := r.identify ((name.drop (cuts.getD m 0 + 1)).take (e - (cuts.getD m 0 + 1))) (cuts.getD m 0 : Nat); ({ r1 with w := { r1.w with ext := (name.drop (cuts.getD m 0 + 1)).take (e - (cuts.getD m 0 + 1)) } }, cuts.getD m 0)) := by
 unfold readWord
 dsimp only
 have z : (m + 1 = 0) = False := by simp
 simp only [z, if_false, Nat.add_sub_cancel]
 rw [if_pos h]
theorem readDown_nameEnd (site : SiteM) (name : Str) (cuts : List Nat) : ∀ (n : Nat) (r : ReadM) (e : Nat), (readDown site name cuts n r e).w.nameEnd = r.w.nameEnd /\ (readDown site name cuts n r e).w.name = r.w.name /\ (readDown site name cuts n r e).w.path = r.w.path := by
 have step : ∀ (r : ReadM) (word : Str) (at_ : Int), (readStep site r word at_).w.nameEnd = r.w.nameEnd /\ (readStep site r word at_).w.name = r.w.name /\ (readStep site r word at_).w.path = r.w.path := by
  intro r word at_
  unfold readStep
  split
  ·rw [wrapper_eq]; repeat' split
   all_goals exact ⟨rfl, rfl, rfl⟩
  ·rw [plain_eq]; repeat' split
   all_goals exact ⟨rfl, rfl, rfl⟩
 have one : ∀ (r : ReadM) (i e : Nat), (readWord site name cuts r i e).1.w.nameEnd = r.w.nameEnd /\ (readWord site name cuts r i e).1.w.name = r.w.name /\ (readWord site name cuts r i e).1.w.path = r.w.path := by
  intro r i e
  unfold readWord
  dsimp only
  split
  ·exact ⟨rfl, rfl, rfl⟩
  ·exact step r _ _
 intro n
 induction n with
 | zero => intro r e; exact one r 0 e
 | succ n ih =>
  intro r e
  obtain ⟨a, b, c⟩ := ih (readWord site name cuts r (n + 1) e).1 (readWord site name cuts r (n + 1) e).2
  obtain ⟨x, y, z⟩ := one r (n + 1) e
  exact ⟨a.trans x, b.trans y, c.trans z⟩

/-! ### A row of cells set -/
def setFrom (c : Array Value) : Nat -> List Value -> Array Value
 | _, [] => c
 | o, v :: r => setFrom (c.setIfInBounds o v) (o + 1) r
theorem setFrom_list : ∀ (vs pre old suf : List Value), old.length = vs.length -> setFrom (pre ++ (old ++ suf)).toArray pre.length vs = (pre ++ (vs ++ suf)).toArray
 | [], pre, [], suf, _ => rfl
 | v :: r, pre, x :: old, suf, h => by
  have ih := setFrom_list r (pre ++ [v]) old suf (by simpa using h)
  rw [setFrom, List.setIfInBounds_toArray]
  have e : (pre ++ (x :: old ++ suf)).set pre.length v = pre ++ [v] ++ (old ++ suf) := by
   rw [List.set_append_right _ _ (Nat.le_refl _)]; simp
  rw [e]
  rw [List.length_append, List.length_singleton] at ih
  rw [ih]; simp
def rtail (sv : SiteV) (r : ReadM) (vm : Value) : List Value :=
 [sv.vl, sv.vd, sv.vf, sv.vc, .bool r.layouts, .bool r.shortcode, i64 r.points, vm, .string (B r.lang), .string (B r.format), .string (B r.kind), .string (B r.layout), .bool r.hasLang, .bool r.hasKind, .bool r.baseof, i64 r.layoutAt]
theorem rcells_tail (sv : SiteV) (r : ReadM) (vi vu vg vm : Value) : ([] ++ (wcells r.w vi vu vg ++ rtail sv r vm)).toArray = rcells sv r vi vu vg vm := rfl
theorem setCells_blk {w : World} {b : Nat} {t : TypeId} {fr : Nat × Nat} : ∀ (vs : List Value) (o : Nat) (w : World) (c : Array Value), w.heap[b]? = some (.cells c t fr) -> (w.setCells b o vs).heap[b]? = some (.cells (setFrom c o vs) t fr)
 | [], o, w, c, h => h
 | v :: r, o, w, c, h => setCells_blk (w := w) r (o + 1) _ _ (blk_set v h)
theorem setCells_far {b g : Nat} (hne : g ≠ b) : ∀ (vs : List Value) (o : Nat) (w : World), (w.setCells b o vs).heap[g]? = w.heap[g]?
 | [], o, w => rfl
 | v :: r, o, w => (setCells_far hne r (o + 1) _).trans (heap_set_far v hne)
theorem setCells_below {base b : Nat} (hb : base <= b) : ∀ (vs : List Value) (o : Nat) (w : World), Below base w (w.setCells b o vs)
 | [], o, w => Below.refl _ _
 | v :: r, o, w => ((Below.refl _ _).setCell hb v).trans (setCells_below hb r (o + 1) _)
/-- The words of a reading laid anew; no list in them. -/
theorem RdAt.setW {w : World} {base b : Nat} {sv : SiteV} {r : ReadM} {vi vu vg vm : Value} (h : RdAt w base b sv r vi vu vg vm) (W : WordsM) (h1 : W.ids = []) (h2 : W.unknown = []) (h3 : W.langs = []) :
  RdAt (w.setCells b 0 (wcells W (.slice none 0 0) (.slice none 0 0) (.slice none 0 0))) base b sv { r with w := W } (.slice none 0 0) (.slice none 0 0) (.slice none 0 0) vm /\ Below base w (w.setCells b 0 (wcells W (.slice none 0 0) (.slice none 0 0) (.slice none 0 0))) := by
 refine ⟨⟨?_, ?_, ?_, ?_, ?_, Apart.nilL _, Apart.nilL _, Apart.nilL _, h.lb, ownsRow_far h.cut fun g hg => setCells_far (by obtain ⟨cur, hc, _⟩ := ownsRow_blk h.cut hg; exact blk_ne hc h.blk int_rd) _ _ _, h.cm⟩, setCells_below h.lb _ _ _⟩
 ·rw [setCells_blk (w := w) _ 0 w _ h.blk]
  have e3 := setFrom_list (wcells W (.slice none 0 0) (.slice none 0 0) (.slice none 0 0)) [] (wcells r.w vi vu vg) (rtail sv r vm) rfl
  have e4 : ([] ++ (wcells W (.slice none 0 0) (.slice none 0 0) (.slice none 0 0) ++ rtail sv r vm)).toArray = rcells sv { r with w := W } (.slice none 0 0) (.slice none 0 0) (.slice none 0 0) vm := rcells_tail sv { r with w := W } (.slice none 0 0) (.slice none 0 0) (.slice none 0 0) vm
  rw [rcells_tail sv r vi vu vg vm, e4] at e3
  rw [List.length_nil] at e3
  rw [e3]
 ·show World.ownsRow _ _ _ _ _ W.ids.length (strCells W.ids); rw [h1]; exact World.ownsRow_nil _ _ _ _
 ·show World.ownsRow _ _ _ _ _ W.unknown.length (strCells W.unknown); rw [h2]; exact World.ownsRow_nil _ _ _ _
 ·show World.ownsRow _ _ _ _ _ W.langs.length (strCells W.langs); rw [h3]; exact World.ownsRow_nil _ _ _ _
 ·exact ownsRow_far h.mks fun g hg => setCells_far (by obtain ⟨cur, hc, _⟩ := ownsRow_blk h.mks hg; exact blk_ne hc h.blk int_rd) _ _ _
theorem RdAt.there {w : World} {base b : Nat} {sv : SiteV} {r : ReadM} {vi vu vg vm : Value} (h : RdAt w base b sv r vi vu vg vm) : w.there b 0 15 := by
 intro j hj
 rw [Nat.zero_add]
 refine ⟨?_, h.free j⟩
 rw [cell_blk h.blk, Array.getElem?_eq_getElem (by show j < 31; omega)]
 rfl
/-- A reading made anew. -/
def readNew (lay sh : Bool) : ReadM := { w := {}, layouts := lay, shortcode := sh, points := 0 }
theorem RdAt.new {w : World} {base : Nat} (sv : SiteV) (lay sh : Bool) (hb : base <= w.heap.size) (h1 : sv.cv = .slice none 0 0) (h2 : sv.cl = []) :
  RdAt (w.alloc (.cells (rcells sv (readNew lay sh) (.slice none 0 0) (.slice none 0 0) (.slice none 0 0) (.slice none 0 0)) 105)) base w.heap.size sv (readNew lay sh) (.slice none 0 0) (.slice none 0 0) (.slice none 0 0) (.slice none 0 0) :=
 ⟨blk_new w _, World.ownsRow_nil _ _ _ _, World.ownsRow_nil _ _ _ _, World.ownsRow_nil _ _ _ _, World.ownsRow_nil _ _ _ _, Apart.nilL _, Apart.nilL _, Apart.nilL _, hb, by rw [h1, h2]; exact World.ownsRow_nil _ _ _ _, Apart.nilL _⟩

end Go.Proofs.YtjkecadfakjanaaGreatDoor

namespace Go.Proofs.YtjkecadfakjanaaGreatDoor
section
variable {P : Program} {ops : Array Oper} {md : Region.Mode} {w : World}

/-- Each operation ahead of the n-th, but the k-th, is waited for by a later one (not the k-th) up to the n-th. -/
def lateSink (md : Region.Mode) (ops : Array Oper) (n k : Nat) : Bool :=
 (List.range n).all fun i => i == k || (List.range (n + 1)).any fun j => decide (i < j) && j != k && Region.waitsFor md ops j i

theorem late_top {n k : Nat} {listed : Array Bool} (hs : lateSink md ops n k = true) (hn : n < ops.size) (inv : HeadInv md ops n listed) :
  ∀ (d i : Nat), n - i <= d -> i < n -> i ≠ k -> listed.getD i true = false -> ∃ j, listed.getD j true = false /\ Region.waitsFor md ops n j = true := by
 intro d
 induction d with
 | zero => intro i hd hi; omega
 | succ d ih =>
  intro i hd hi hik hun
  have h1 := List.all_eq_true.1 hs i (List.mem_range.2 hi)
  rw [Bool.or_eq_true] at h1
  rcases h1 with h1 | h1
  ·exact absurd (by simpa using h1) hik
  ·obtain ⟨j, hj, hj2⟩ := List.any_eq_true.1 h1
   simp only [Bool.and_eq_true, decide_eq_true_eq, bne_iff_ne, ne_eq] at hj2
   have hjle := List.mem_range.1 hj
   by_cases hjn : j = n
   ·exact ⟨i, hun, hjn ▸ hj2.2⟩
   ·refine ih j (by omega) (by omega) hj2.1.2 ?_
    obtain ⟨oj, hoj, e, he, hb, hon⟩ := Region.waitsFor_spec hj2.2
    cases hl : listed.getD j false with
    | false => exact getD_in (by rw [inv.size]; omega) hl
    | true =>
     have h2 := inv.closed j oj hoj hl e he hb
     rw [hon, getD_both hun] at h2
     cases h2
theorem late_below {n k i j : Nat} {listed : Array Bool} (hs : lateSink md ops n k = true) (hc : Region.chainB md ops n = true) (hn : n < ops.size) (inv : HeadInv md ops n listed)
  (hi : i < n) (hik : i ≠ k) (hun : listed.getD i true = false) (hj : j ∈ Region.ready md ops listed) : j < n := by
 rcases Nat.lt_or_ge j n with h | h
 ·exact h
 ·exfalso
  obtain ⟨_, oj, hoj, hall⟩ := mem_ready.1 hj
  have hlt : j < ops.size := (Array.getElem?_eq_some_iff.1 hoj).1
  have clash : ∀ x, listed.getD x true = false -> Region.waitsFor md ops j x = true -> False := fun x hx hwt => by
   obtain ⟨o', ho', e, he, hb, hon⟩ := Region.waitsFor_spec hwt
   have e1 : o' = oj := Option.some.inj (ho'.symm.trans hoj)
   have h2 := hall e (e1 ▸ he) hb
   rw [hon, getD_both hx] at h2
   cases h2
  by_cases hjn : j = n
  ·obtain ⟨x, hx, hwt⟩ := late_top hs hn inv n i (by omega) hi hik hun
   exact clash x hx (hjn ▸ hwt)
  ·have h1 := List.all_eq_true.1 hc j (List.mem_range.2 hlt)
   simp only [Bool.or_eq_true, decide_eq_true_eq] at h1
   rcases h1 with h1 | h1
   ·omega
   ·exact clash (j - 1) (inv.tail (j - 1) (by omega) (by omega)) h1

theorem late_first {n k i : Nat} {oi : Oper} {v : Value} {L : Array Bool -> Act -> Prop} (hi : ops[i]? = some oi) (hsel : ∀ (j : Nat) (o : Oper) cs b, ops[j]? = some o -> o.op ≠ .select cs b)
  (hs : lateSink md ops n k = true) (hc : Region.chainB md ops n = true) (hn : n < ops.size) (hin : i < n) (hik : i ≠ k)
  (hdone : ∀ listed a, L listed a -> ∀ j ∈ Region.ready md ops listed, n <= j) :
  ∀ (f : Nat) (listed : Array Bool) (a : Act), HeadInv md ops n listed ->
   (∀ j oj, ops[j]? = some oj -> j ≠ i -> listed.getD j true = false -> (∀ e ∈ oj.after, Region.binds md e = true -> e.on ≠ i) -> oi.apart ops oj = true) ->
   i ∈ Region.ready md ops listed -> YieldsAt P ops w oi v a ->
   wpAnyL P md ops w n L f (listed.setIfInBounds i true) (a.put oi.dst v) -> wpAnyL P md ops w n L (f + 1) listed a := by
 intro f
 induction f with
 | zero =>
  intro listed a inv hfree hr hy H
  have hun := (mem_ready.1 hr).1
  refine ⟨List.ne_nil_of_mem hr, fun j hj => ?_⟩
  have hjn := late_below hs hc hn inv hin hik hun hj
  by_cases hji : j = i
  ·subst hji; exact ⟨hin, hy.stOp hi H⟩
  ·have := hdone _ _ H j (ready_mono hj hji)
   omega
 | succ f ih =>
  intro listed a inv hfree hr hy H
  have hun := (mem_ready.1 hr).1
  refine ⟨List.ne_nil_of_mem hr, fun j hj => ?_⟩
  have hjn := late_below hs hc hn inv hin hik hun hj
  refine ⟨hjn, ?_⟩
  by_cases hji : j = i
  ·subst hji; exact hy.stOp hi H
  obtain ⟨hjun, oj, hoj, hall⟩ := mem_ready.1 hj
  have hap : oi.apart ops oj = true := hfree j oj hoj hji hjun fun e he hb heq => by
   have h1 := hall e he hb
   rw [heq, getD_both hun] at h1
   cases h1
  refine stOp_mono (fun a' h3 => ?_) (stOp_put hoj hap (fun cs b => hsel i oi cs b hi) (fun cs b => hsel j oj cs b hoj) hy (H.2 j (ready_mono hj hji)).2)
  refine ih (listed.setIfInBounds j true) a' (inv.set hj hjn) (fun m om hm hmi hmun hno => hfree m om hm hmi ?_ hno) (ready_mono hr (Ne.symm hji)) h3.1 ?_
  ·by_cases hjm : j = m
   ·subst hjm; exact hjun
   ·rw [getD_set_ne true hjm] at hmun; exact hmun
  ·rw [Array.setIfInBounds_comm _ _ hji]
   exact h3.2

/-- The order 'ord' of the head: each may come up then, and is apart from what is left; behind it the tail is one sequence. -/
def lateOrd (md : Region.Mode) (ops : Array Oper) (g n : Nat) : List Nat -> Array Bool -> Bool
 | [], listed => Region.seqB md ops g n listed
 | i :: r, listed => decide (i < n) && (Region.ready md ops listed).contains i && Region.free md ops listed i && lateOrd md ops g n r (listed.setIfInBounds i true)
def lateB (md : Region.Mode) (ops : Array Oper) (n k : Nat) : Bool :=
 Region.noSelect ops && decide (n < ops.size) && decide (k < n) && lateSink md ops n k && Region.chainB md ops n && (Region.ready md ops (Array.replicate ops.size false)).contains k && Region.free md ops (Array.replicate ops.size false) k
  && lateOrd md ops (ops.size - n) n ((List.range n).eraseIdx k) ((Array.replicate ops.size false).setIfInBounds k true) && ((List.range n).eraseIdx k).all (· != k)

theorem late_lex {n g k : Nat} {Lq : Act -> Prop} (hsel : Region.noSelect ops = true) (hs : lateSink md ops n k = true) (hc : Region.chainB md ops n = true) (hn : n < ops.size) :
  ∀ (ord : List Nat) (l : List Oper) (listed : Array Bool) (a : Act), (ord.map fun i => ops[i]?) = l.map some -> HeadInv md ops n listed -> ord.all (· != k) = true ->
  lateOrd md ops g n ord listed = true -> wpStill P ops w Lq l a ->
  wpAnyL P md ops w n (fun listed' a' => Region.seqB md ops g n listed' = true /\ Lq a') ord.length listed a
 | [], [], listed, a, _, _, _, hB, h => ⟨hB, h⟩
 | [], o :: l, _, _, hm, _, _, _, _ => by simp at hm
 | i :: ord, [], _, _, hm, _, _, _, _ => by simp at hm
 | i :: ord, o :: l, listed, a, hm, inv, hk, hB, h => by
  have h0 : ops[i]? = some o := (List.cons.inj hm).1
  simp only [lateOrd, Bool.and_eq_true, decide_eq_true_eq] at hB
  obtain ⟨⟨⟨hin, hr⟩, hf⟩, hB'⟩ := hB
  simp only [List.all_cons, Bool.and_eq_true, bne_iff_ne, ne_eq] at hk
  have hr' : i ∈ Region.ready md ops listed := by simpa using hr
  have hst : stOp P ops w i (wpStill P ops w Lq l) a := by unfold stOp; simp only [h0]; exact h
  obtain ⟨v, hy, hK⟩ := yieldsAt_of_stOp h0 hst
  exact late_first h0 (Region.noSelect_spec hsel) hs hc hn hin hk.1 (fun listed' a' hL => seqB_ready hL.1) ord.length listed a inv (Region.free_spec h0 hf) hr' hy
   (late_lex hsel hs hc hn ord l _ _ (List.cons.inj hm).2 (inv.set hr' hin) hk.2 hB' hK)

/-- The region: the k-th operation first (it yields its value in whatever world), then the head as it stands, then the tail. -/
theorem wp_late {id : Nat} {Q : Exit -> Act -> World -> Prop} {a : Act} {l : List Oper} (n k : Nat) (ok : Oper) (vk : Value) (hm : P.follows .mixedOrders = true) (hk : l.toArray[k]? = some ok)
  (hQ : ∀ c a w, Q (.panic c) (a.put ok.dst vk) w -> Q (.panic c) a w) (hy : Yields P l.toArray ok vk a)
  (hB : lateB .any l.toArray n k = true) (ls : List Oper) (hls : (((List.range n).eraseIdx k).map fun i => l.toArray[i]?) = ls.map some)
  (h : wpStill P l.toArray w.drew (fun a' => wpList P l.toArray Q (l.drop n) a' w.drew) ls (a.put ok.dst vk)) : (Code.region id l.toArray true).wp P Q a w := by
 simp only [lateB, Bool.and_eq_true, decide_eq_true_eq] at hB
 obtain ⟨⟨⟨⟨⟨⟨⟨⟨hsel, hn⟩, hkn⟩, hs⟩, hc⟩, hr⟩, hf⟩, hlex⟩, hall⟩ := hB
 have inv0 : HeadInv .any l.toArray n (Array.replicate l.toArray.size false) :=
  ⟨by simp, fun j oj _ hl => (by rw [getD_replicate_false] at hl; cases hl), fun t _ ht => getD_in (by simpa using ht) (getD_replicate_false _ _)⟩
 have hr' : k ∈ Region.ready .any l.toArray (Array.replicate l.toArray.size false) := by simpa using hr
 have H := late_lex (md := .any) (g := l.toArray.size - n) (w := w.drew) hsel hs hc hn _ ls _ (a.put ok.dst vk) hls (inv0.set hr' hkn) hall hlex h
 have hol : ((List.range n).eraseIdx k).length = n - 1 := by rw [List.length_eraseIdx_of_lt (by simpa using hkn), List.length_range]
 have hdl : (l.drop n).length = l.toArray.size - n := by simp
 have := wpAny_of_head (Q' := Q) (g := l.toArray.size - n) (fun listed a' hL => by
  have := wpAny_of_seq (md := .any) (Q' := Q) (l.drop n) n listed a' w.drew (fun j => by simp [List.getElem?_drop]) (by rw [hdl]; exact hL.1) hL.2
  rwa [hdl] at this) _ _ _ H
 rw [hol] at this
 refine wp_region_any hm ?_
 have e : l.toArray.size = (n - 1 + (l.toArray.size - n)) + 1 := by omega
 rw [show wpAny P Region.Mode.any l.toArray Q l.toArray.size (Array.replicate l.toArray.size false) a { w with drawn := w.drawn + 1 } = wpAny P Region.Mode.any l.toArray Q ((n - 1 + (l.toArray.size - n)) + 1) (Array.replicate l.toArray.size false) a { w with drawn := w.drawn + 1 } by rw [<- e]]
 exact wpAny_take hk hsel hf hr hQ hy this
theorem late_list (l : List Oper) (n k : Nat) (h : n <= l.length) : (((List.range n).eraseIdx k).map fun i => l.toArray[i]?) = ((l.take n).eraseIdx k).map some := by
 have e : ((List.range n).map fun i => l.toArray[i]?) = (l.take n).map some := by
  apply List.ext_getElem
  ·simp; omega
  ·intro i h1 h2
   simp at h1
   simp [show i < l.length by omega]
 simp only [List.eraseIdx_eq_take_drop_succ, List.map_append, List.map_take, List.map_drop] at e |-
 rw [e]
/-- The same, the head written as what is left of the list. -/
theorem wp_late2 {id : Nat} {Q : Exit -> Act -> World -> Prop} {a : Act} {l : List Oper} (n k : Nat) (ok : Oper) (vk : Value) (hm : P.follows .mixedOrders = true) (hk : l.toArray[k]? = some ok)
  (hQ : ∀ c a w, Q (.panic c) (a.put ok.dst vk) w -> Q (.panic c) a w) (hy : Yields P l.toArray ok vk a)
  (hB : lateB .any l.toArray n k = true) (hn : n <= l.length)
  (h : wpStill P l.toArray w.drew (fun a' => wpList P l.toArray Q (l.drop n) a' w.drew) ((l.take n).eraseIdx k) (a.put ok.dst vk)) : (Code.region id l.toArray true).wp P Q a w :=
 wp_late n k ok vk hm hk hQ hy hB _ (late_list l n k hn) h
end
end Go.Proofs.YtjkecadfakjanaaGreatDoor

namespace Go.Proofs.YtjkecadfakjanaaGreatDoor
open Go.RowKit
attribute [local go_sem] B_extract B_toList B_append

/-- Words in memory: the value, its lists in blocks from n on. -/
def WordsAtN (n : Nat) (w : World) (v : Value) (W : WordsM) : Prop := ∃ vi vu vg, v = .agg (wcells W vi vu vg).toArray /\ (StrsAt w vi W.ids /\ NewRow n vi) /\ (StrsAt w vu W.unknown /\ NewRow n vu) /\ (StrsAt w vg W.langs /\ NewRow n vg)
theorem ownsRow_new {w : World} {base : Nat} {e : TypeId} {s n : Nat} {v : Value} {xs : List Value} (h : w.ownsRow base e s v n xs) : NewRow base v := fun a l c e => by
 subst e
 rcases h.2 with ⟨x, _⟩ | ⟨g, cap, cur, x, hb, _⟩
 ·cases x
 ·have y := (Value.slice.inj x).1
  cases y
  exact hb

/-! ### One word of the loop, in the walk's terms -/
theorem readWord_rw (site : SiteM) (name : Str) (C : List Nat) {r : ReadM} {n : Nat} (h : RW r n) (i e : Nat) : RW (readWord site name C r i e).1 (n + 1) := by
 unfold readWord
 dsimp only
 split
 ·have a := h.ident ((name.drop (if i = 0 then 0 else C.getD (i - 1) 0 + 1)).take (e - (if i = 0 then 0 else C.getD (i - 1) 0 + 1))) (if i = 0 then (-1 : Int) else (C.getD (i - 1) 0 : Nat))
  exact ⟨a.il, a.ul, a.gl, a.ml, a.lay⟩
 ·exact readStep_rw site h _ _
def atOf (C : List Nat) (m : Nat) : Int := if m = 0 then -1 else (C.getD (m - 1) 0 : Nat)
def fromOf (C : List Nat) (m : Nat) : Nat := if m = 0 then 0 else C.getD (m - 1) 0 + 1
theorem readWord_at_last (site : SiteM) (name : Str) (C : List Nat) (r : ReadM) {m : Nat} (e : Nat) (h : m = C.length) :
  (readWord site name C r m e).1 = { r.identify ((name.drop (fromOf C m)).take (e - fromOf C m)) (atOf C m) with w := { (r.identify ((name.drop (fromOf C m)).take (e - fromOf C m)) (atOf C m)).w with ext := (name.drop (fromOf C m)).take (e - fromOf C m) } } := by
 unfold readWord
 dsimp only
 rw [if_pos h]; rfl
theorem readWord_at (site : SiteM) (name : Str) (C : List Nat) (r : ReadM) {m : Nat} (e : Nat) (h : m ≠ C.length) :
  (readWord site name C r m e).1 = readStep site r ((name.drop (fromOf C m)).take (e - fromOf C m)) (atOf C m) := by
 unfold readWord
 dsimp only
 rw [if_neg h]; rfl
theorem readStep_wrap (site : SiteM) (r : ReadM) (W : Str) (x : Int) (h : wrapOk W = true) : readStep site r W x = ReadM.wrapper site r W (wrapStr W) x := by
 unfold readStep wrapStr
 unfold wrapOk at h
 cases e : wrapped W with
 | none => rw [e] at h; cases h
 | some y => rfl
theorem readStep_plain (site : SiteM) (r : ReadM) (W : Str) (x : Int) (h : wrapOk W = false) : readStep site r W x = ReadM.plain site r W x := by
 unfold readStep
 unfold wrapOk at h
 cases e : wrapped W with
 | none => rfl
 | some y => rw [e] at h; cases h
theorem read_next (site : SiteM) (name : Str) (C : List Nat) (r RF : ReadM) (m : Nat) (hm : m <= C.length) (hC : C ≠ []) (h : RF = readDown site name C m r (endAt name C m)) (r' : ReadM) (e : r' = (readWord site name C r m (endAt name C m)).1) :
  (∀ m', m = m' + 1 -> C ≠ [] -> atOf C m = (endAt name C m' : Nat) /\ RF = readDown site name C m' r' (endAt name C m')) /\ ((m = 0 \/ C = []) -> RF = r') := by
 subst e
 constructor
 ·intro m' e _
  subst e
  have h1 : endAt name C m' = C.getD m' 0 := by unfold endAt; rw [if_pos (by omega)]
  have h2 : (readWord site name C r (m' + 1) (endAt name C (m' + 1))).2 = C.getD m' 0 := by unfold readWord; rfl
  refine ⟨by rw [h1]; rfl, ?_⟩
  rw [h1, <- h2]
  exact h
 ·rintro (rfl | h0)
  ·exact h
  ·exact absurd h0 hC
theorem atOf_succ (C : List Nat) (k : Nat) (h : k < C.length) : atOf C (k + 1) = (C[k] : Nat) /\ fromOf C (k + 1) = C[k] + 1 := by
 have e : C.getD k 0 = C[k] := by rw [List.getD_eq_getElem?_getD, List.getElem?_eq_getElem h]; rfl
 unfold atOf fromOf
 rw [if_neg (by omega), if_neg (by omega), Nat.add_sub_cancel, e]
 exact ⟨rfl, rfl⟩
theorem ownsRow_base {w : World} {base base' : Nat} {e : TypeId} {z n : Nat} {v : Value} {xs : List Value} (h : w.ownsRow base e z v n xs) (hb : base' <= base) : w.ownsRow base' e z v n xs := by
 obtain ⟨h1, h | ⟨g, cap, cur, h2, h3, h4⟩⟩ := h
 ·exact ⟨h1, .inl h⟩
 ·exact ⟨h1, .inr ⟨g, cap, cur, h2, Nat.le_trans hb h3, h4⟩⟩

/-! ### The end of a name -/
theorem ints_read {w : World} {base : Nat} {v : Value} {l : List Int} (h : w.ownsRow base 3 1 v l.length (intCells l)) :
  ∃ a cap, v = .slice a l.length cap /\ ∀ i (hi : i < l.length), ∃ g, a = some ⟨g, 0, none⟩ /\ w.cell? ⟨g, i, none⟩ = some (.int .i64 l[i]) := by
 obtain ⟨hl, h | ⟨g, cap, cur, rfl, hb, hg, hn, hm, hc, ht⟩⟩ := h
 ·obtain ⟨rfl, h0⟩ := h
  have : l = [] := List.length_eq_zero_iff.1 h0
  subst this
  exact ⟨none, 0, rfl, fun i hi => by simp at hi⟩
 ·refine ⟨some ⟨g, 0, none⟩, cap, rfl, fun i hi => ⟨g, rfl, ?_⟩⟩
  have h1 : (intCells l)[i]? = some (i64 l[i]) := by simp [intCells, hi]
  rw [<- ht, List.getElem?_take_of_lt (by omega), Array.getElem?_toList] at h1
  rw [cell_blk hg, h1]; rfl
def setNE (r : ReadM) (n : Nat) : ReadM := { r with w := { r.w with nameEnd := n } }
theorem markEnd_take (l : List Int) (n k : Nat) (h : k < l.length) : markEnd (l.take (k + 1)) n = if 0 <= l[k] /\ l[k] < (markEnd (l.take k) n : Int) then l[k].toNat else markEnd (l.take k) n := by
 rw [List.take_succ_eq_append_getElem h, markEnd_snoc]
theorem markEnd_le : ∀ (l : List Int) (n : Nat), markEnd l n <= n
 | [], n => Nat.le_refl _
 | m :: l, n => by
  have ih := markEnd_le l (if 0 <= m /\ m < (n : Int) then m.toNat else n)
  refine Nat.le_trans ih ?_
  split
  ·rename_i h; omega
  ·exact Nat.le_refl _
/-- The last steps of a reading. -/
def sLang (r : ReadM) : ReadM := { r with w := { r.w with lang := if r.w.langs ≠ [] then r.w.langs.headD [] else r.lang } }
def sFmt (r : ReadM) : ReadM := { r with w := { r.w with format := chooseL r.w.format r.format } }
def sFmtC (site : SiteM) (C : List Nat) (r : ReadM) : Bool := r.layouts && r.w.format == [] && !C.isEmpty && formatNamed site.formats r.w.ext
def sFmt2 (site : SiteM) (C : List Nat) (r : ReadM) : ReadM := { r with w := { r.w with format := if sFmtC site C r then r.w.ext else r.w.format } }
def sKind (r : ReadM) : ReadM := { r with w := { r.w with kind := chooseL r.w.kind r.kind, layout := chooseL r.w.layout r.layout } }
def sTyp (site : SiteM) (r : ReadM) : ReadM := { r with w := { r.w with typ := ReadM.typeOf site r } }

set_option maxHeartbeats 32000000 in
theorem c_WordsOf (site : SiteM) (comp s : Str) (own : Bool) (vl vd vf vc : Value) (w : World) (hv : SiteAt w vl vd vf vc site) (hcl : comp.length <= 2147483647) (hsl : s.length <= 100000) :
  Calls Tryz.prog 99 #[.agg #[vl, vd, vf, vc], .string (B comp), .string (B s), .bool own] w fun e w' => ∃ v, e = .returned v /\ WordsAtN w.heap.size w' v (wordsOf site comp s own) /\ Below w.heap.size w w' := by
 obtain ⟨WO, hWO⟩ : ∃ W, W = wordsOf site comp s own := ⟨_, rfl⟩
 rw [<- hWO]
 have hW0 := hWO.trans (wordsOf_eq site comp s own)
 clear hWO
 obtain ⟨path, hpath⟩ : ∃ p, p = pathOf s own := ⟨_, rfl⟩
 rw [<- hpath] at hW0
 obtain ⟨name, hname⟩ : ∃ p, p = lastPart path := ⟨_, rfl⟩
 rw [<- hname] at hW0
 have hpl : path.length <= 100001 := by rw [hpath]; have := pathOf_len s own; omega
 have hnl : name.length <= 100001 := by rw [hname]; have := lastPart_len path; omega
 have HPO : Hid (∀ wx, Calls Tryz.prog 40 #[.string (B s), .bool own] wx fun e w' => e = .returned (.string (B path)) /\ Below wx.heap.size wx w') := by rw [hpath]; exact Lib.hid (fun wx => c_PathOf s own wx (by omega))
 have HLP : Hid (∀ wx, Calls Tryz.prog 60 #[.string (B path)] wx fun e w' => e = .returned (.string (B name)) /\ wx = w') := by rw [hname]; exact Lib.hid (fun wx => c_lastPart path wx (by omega))
 have HHO : Hid (∀ wx, Calls Tryz.prog 57 #[.string (B path), .string (B kShort)] wx fun e w' => e = .returned (.bool (holdsL path kShort)) /\ w' = wx) := fun wx => (c_holds path kShort wx (by omega) (by decide)).mono fun _ _ ⟨he, hw⟩ => ⟨he, hw.symm⟩
 have HCP : Hid (∀ wx, Calls Tryz.prog 107 #[.string (B name)] wx fun e w' => ∃ v, e = .returned v /\ OwnN w' wx.heap.size v (cutPoints name) /\ Below wx.heap.size wx w') := fun wx => c_cutPoints name wx (by omega)
 have HWR : Hid (∀ (t : Str) (ht : t.length <= 1000000000) wx, Calls Tryz.prog 108 #[.string (B t)] wx fun e w' => e = .returned (.tuple #[.string (B (wrapStr t)), .bool (wrapOk t)]) /\ wx = w') := fun t ht wx => c_wrapped t wx (Nat.le_trans ht (by decide))
 have HCH : Hid (∀ (x y : Str) wx, Calls Tryz.prog 132 #[.string (B x), .string (B y)] wx fun e w' => e = .returned (.string (B (chooseL x y))) /\ w' = wx) := fun x y wx => (c_choose x y wx).mono fun _ _ ⟨he, hw⟩ => ⟨he, hw.symm⟩
 obtain ⟨C, hC⟩ : ∃ C, C = cutPoints name := ⟨_, rfl⟩
 have hCn : C.length <= name.length := by rw [hC]; exact cutsFrom_len _ _ _
 have HEL : Hid (∀ i, i < C.length -> endAt name C i + 1 <= endAt name C (i + 1)) := by subst hC; exact fun i h => endAt_lt h
 have HEE : Hid (∀ i, endAt name C i <= name.length) := by subst hC; exact fun i => endAt_le i
 have HE0 : Hid (∀ i (h : i < C.length), endAt name C i = C[i]) := fun i h => by unfold endAt; rw [if_pos h, List.getD_eq_getElem?_getD, List.getElem?_eq_getElem h]; rfl
 have HEN : Hid (endAt name C C.length = name.length) := by show _ = _; unfold endAt; rw [if_neg (Nat.lt_irrefl _)]
 obtain ⟨RF, hRF⟩ : ∃ R, R = readAll site comp path name := ⟨_, rfl⟩
 rw [<- hRF] at hW0
 rw [<- hC] at HCP
 have hRF0 : C = [] -> RF = read0 comp path name := fun h => by rw [hRF]; unfold readAll; rw [<- hC, if_pos h]
 have hRF1 : C ≠ [] -> RF = readDown site name C C.length (read0 comp path name) name.length := fun h => by rw [hRF]; unfold readAll; rw [<- hC, if_neg h]
 replace hRF0 := Lib.hid hRF0
 replace hRF1 := Lib.hid hRF1
 have hCh := Lib.hid hC
 have HW := Lib.hid hW0
 obtain ⟨hp1, hp2⟩ : RF.w.name = name /\ RF.w.path = path := by rw [hRF]; exact ⟨(readAll_keep site comp path name).2, (readAll_keep site comp path name).1⟩
 have hne : RF.w.nameEnd = name.length := by
  rw [hRF]
  unfold readAll
  split
  ·rfl
  ·exact (readDown_nameEnd site name _ _ _ _).1
 have hR0 : RW (read0 comp path name) 0 := ⟨Nat.le_refl _, Nat.le_refl _, Nat.le_refl _, Nat.le_refl _, .inl (by show (-1 : Int) < 0; decide)⟩
 replace hR0 := Lib.hid hR0
 replace hp1 := Lib.hid hp1
 replace hp2 := Lib.hid hp2
 replace hne := Lib.hid hne
 clear hW0 hRF hC hpath hname
 obtain ⟨sv, hsv⟩ : ∃ sv : SiteV, sv = { vl := vl, vd := vd, vf := vf, vc := vc } := ⟨_, rfl⟩
 obtain ⟨obs, hobs⟩ : ∃ o : Obj, o = .cells #[vl, vd, vf, vc] 25 := ⟨_, rfl⟩
 obtain ⟨obj, hobj⟩ : ∃ o : Obj, o = .cells #[.string (B []), .string (B []), .string (B []), .int .i64 0, .slice none 0 0, .slice none 0 0, .slice none 0 0, .string (B []), .string (B []), .string (B []), .string (B []), .string (B []), .string (B []), .bool false, .int .i64 0] 85 := ⟨_, rfl⟩
 have hB1 : Hid (Below w.heap.size w ((w.alloc obs).alloc obj)) := (Below_alloc w obs).trans ((Below_alloc (w.alloc obs) obj).mono (by simp))
 have hz1 : ((w.alloc obs).alloc obj).heap.size = w.heap.size + 2 := by simp
 have hsb : Hid (((w.alloc obs).alloc obj).heap[w.heap.size]? = some (.cells #[vl, vd, vf, vc] 25)) := by
  have := blk_old (w.alloc obs) obj (blk_new w obs)
  rw [hobs] at this |-; exact this
 have hob : Hid (((w.alloc obs).alloc obj).heap[w.heap.size + 1]? = some (.cells #[.string (B []), .string (B []), .string (B []), .int .i64 0, .slice none 0 0, .slice none 0 0, .slice none 0 0, .string (B []), .string (B []), .string (B []), .string (B []), .string (B []), .string (B []), .bool false, .int .i64 0] 85)) := by
  have := blk_new (w.alloc obs) obj
  rw [show (w.alloc obs).heap.size = w.heap.size + 1 by simp, hobj] at this
  rw [hobj]; exact this
 have HS1 : Hid (SiteAt ((w.alloc obs).alloc obj) sv.vl sv.vd sv.vf sv.vc site) := by rw [hsv]; exact (hv.alloc obs).alloc obj
 clear hv
 go_enter Tryz.func99, Tryz.ntmps99
 go_wp2_with fail
 rw [<- hobj, <- hobs]
 generalize (w.alloc obs).alloc obj = w1 at hB1 hz1 hsb hob HS1 |-
 refine (HPO.out _).mono ?_; rintro e w2 ⟨rfl, b2⟩
 have hB2 := Lib.hid (belowThen hB1.out b2 (Nat.le_refl _))
 have hsb2 := Lib.hid (blk_below hsb.out b2)
 have hob2 := Lib.hid (blk_below hob.out b2)
 have HS2 := Lib.hid (HS1.out.below b2)
 have hz2 := b2.size
 clear b2 hB1 hsb hob HS1 HPO
 go_wp2_with fail
 refine (HLP.out _).mono ?_; rintro e w3 ⟨rfl, rfl⟩
 clear HLP
 go_upto_region 3 with fail
 obtain ⟨LY, hLY⟩ : ∃ t, t = (comp == kLayouts) := ⟨_, rfl⟩
 obtain ⟨SH, hSH⟩ : ∃ t, t = holdsL path kShort := ⟨_, rfl⟩
 rw [<- hSH] at HHO
 have hLY2 : (comp == [108, 97, 121, 111, 117, 116, 115]) = LY := hLY.symm
 replace hLY := Lib.hid hLY
 replace hSH := Lib.hid hSH
 obtain ⟨k0, k1, k2, k3⟩ : w2.cell? ⟨w.heap.size, 0, none⟩ = some vl /\ w2.cell? ⟨w.heap.size, 1, none⟩ = some vd /\ w2.cell? ⟨w.heap.size, 2, none⟩ = some vf /\ w2.cell? ⟨w.heap.size, 3, none⟩ = some vc := ⟨cell_blk hsb2.out 0, cell_blk hsb2.out 1, cell_blk hsb2.out 2, cell_blk hsb2.out 3⟩
 have hbz : w.heap.size <= w2.heap.size := by omega
 go_cut [11] from 26 to 32 (fun s11 wx => ∃ b, s11 = .pointer (some ⟨b, 0, none⟩) /\ RScan w2 wx b sv (readNew LY SH))
 case first =>
  have HN : Hid (RScan w2 ((w2.drewN 1).alloc (.cells (rcells sv (readNew LY SH) (.slice none 0 0) (.slice none 0 0) (.slice none 0 0) (.slice none 0 0)) 105)) w2.heap.size sv (readNew LY SH)) := by
   have a := RdAt.new (w := w2.drewN 1) (base := w2.heap.size) sv LY SH (Nat.le_refl _) (by subst hsv; rfl) (by subst hsv; rfl)
   exact ⟨_, _, _, _, a, (Below_drewN (Below.refl _ _) 1).trans ((Below_alloc (w2.drewN 1) _).mono (Nat.le_refl _))⟩
  rw [hsv] at HN
  refine wp_tail 5 (by kernel_rfl) (by kernel_rfl) ?_
  simp only [List.take_succ_cons, List.take_zero, List.drop_succ_cons, List.drop_zero]
  clear HCP HWR HCH HEL HEE HE0 HEN hRF0 hRF1 hCh HW hp1 hp2 hne hR0 hCn
  still_step
  still_step
  still_step
  still_step
  still_call (HHO.out _)
  repeat still_step
  try refine wpStill_nil ?_
  go_wp2_with fail
  go_meet
  exact ⟨_, rfl, by rw [hsv]; exact HN.out⟩
 case rest =>
 obtain ⟨b, rfl, hr⟩ := hcut
 have H3 := Lib.hid hr
 clear hr k0 k1 k2 k3 hLY2
 obtain ⟨w3, rfl⟩ : ∃ x : World, x = wc := ⟨_, rfl⟩
 have HSW : Hid (∀ wx, Below w2.heap.size w2 wx -> SiteAt wx sv.vl sv.vd sv.vf sv.vc site) := fun wx hb => HS2.out.below hb
 -- the words laid
 obtain ⟨vi, vu, vg, vm, a, hB⟩ := H3.out
 have hth := Lib.hid a.there
 obtain ⟨q1, q2⟩ := a.setW { component := comp, path := path, name := name, nameEnd := name.length } rfl rfl rfl
 have H4 : Hid (RScan w2 (w3.setCells b 0 (wcells { component := comp, path := path, name := name, nameEnd := name.length } (.slice none 0 0) (.slice none 0 0) (.slice none 0 0))) b sv { readNew LY SH with w := { component := comp, path := path, name := name, nameEnd := name.length } }) := ⟨_, _, _, _, q1, hB.trans q2⟩
 clear a hB q1 q2
 have hone4 := wcells_one { component := comp, path := path, name := name, nameEnd := name.length } none none none 0 0 0 0 0 0
 go_upto_region 5 with (refine wpList_store_mid rfl 85 (.tmp 41) (.tmp 39) rfl b 0 (wcells { component := comp, path := path, name := name, nameEnd := name.length } (.slice none 0 0) (.slice none 0 0) (.slice none 0 0)).toArray rfl rfl hth.out (by kernel_rfl) hone4 (Hid.out ?_))
 have H4' : Hid (RScan w2 (w3.setCells b 0 ((wcells { component := comp, path := path, name := name, nameEnd := name.length } (.slice none 0 0) (.slice none 0 0) (.slice none 0 0)).toArray.toList)) b sv { readNew LY SH with w := { component := comp, path := path, name := name, nameEnd := name.length } }) := H4
 obtain ⟨R0, hR0e⟩ : ∃ R, R = { readNew LY SH with w := { component := comp, path := path, name := name, nameEnd := name.length } } := ⟨_, rfl⟩
 rw [<- hR0e] at H4'
 replace hR0e := Lib.hid hR0e
 clear H4 H3 hth hone4
 generalize w3.setCells b 0 _ = w4 at H4' |-
 refine Lib.hid ?_
 go_wp2_with fail
 refine (HCP.out _).mono ?_; rintro e w5 ⟨cv, rfl, hO, b5⟩
 have HR5 : Hid (∃ sw : SiteV, sw.vl = vl /\ sw.vd = vd /\ sw.vf = vf /\ sw.vc = vc /\ sw.cv = cv /\ sw.cl = C /\ RScan w2 w5 b sw R0) := by
  obtain ⟨vi, vu, vg, vm, a, hB⟩ := H4'.out
  have a5 := a.below b5
  refine ⟨⟨vl, vd, vf, vc, cv, C⟩, rfl, rfl, rfl, rfl, rfl, rfl, vi, vu, vg, vm, ⟨?_, a5.ids, a5.unk, a5.lgs, a5.mks, a5.iu, a5.ig, a5.ug, a5.lb, ?_, ?_⟩, hB.trans (b5.mono hB.size)⟩
  ·have := a5.blk
   rw [hsv] at this
   exact this
  ·exact ownsRow_base hO.own hB.size
  ·intro g h1 h2
   obtain ⟨_, _, _, hlt⟩ := ownsRow_blk a.mks h1
   obtain ⟨_, _, hge, _⟩ := ownsRow_blk hO.own h2
   omega
 obtain ⟨ca, ccap, rfl, hcells⟩ := nats_read hO.own
 clear hcells hO b5 H4'
 obtain ⟨sw, e1, e2, e3, e4, e5, e6, hr5⟩ := HR5.out
 have HS : Hid (SiteAt w2 sw.vl sw.vd sw.vf sw.vc site) := by
  rw [e1, e2, e3, e4]
  have := HS2.out
  rw [hsv] at this
  exact this
 clear HR5 HSW HS2
 obtain ⟨vi, vu, vg, vm, a, hB⟩ := hr5
 have k21 := a.cell 21 (i64 R0.points) rfl
 have k21f := a.free 21
 have hread : { R0 with points := C.length } = read0 comp path name := by
  rw [hR0e.out, hLY.out, hSH.out, hCh.out]; rfl
 have hset := a.set 21 (i64 C.length) { R0 with points := C.length } rfl rfl rfl rfl rfl
 have H6 : Hid (RScan w2 (w5.setCell ⟨b, 21, none⟩ (.int .i64 C.length)) b sw (read0 comp path name)) := by
  rw [<- hread]
  exact ⟨_, _, _, _, hset.1, hB.trans hset.2⟩
 have hsz6 : w2.heap.size <= w5.heap.size := hB.size
 clear a hB hset hread hR0e hLY hSH
 go_upto_region 7 with fail
 generalize w5.setCell ⟨b, 21, none⟩ _ = w6 at H6 |-
 clear k21 k21f
 have hcl : C.length <= 100001 := by omega
 go_wp2_with fail
 go_loopw [13, 14] (fun s13 s14 wr => ∃ (j : Nat) (r : ReadM) (en : Int), j <= C.length + 1 /\ s14 = .int .i64 ((j : Int) - 2) /\ s13 = .int .i64 en /\ RScan w2 wr b sw r /\ RW r (C.length + 1 - j) /\ Hid (∀ m, j = m + 1 -> C ≠ [] -> en = (endAt name C m : Nat) /\ RF = readDown site name C m r (endAt name C m)) /\ Hid ((j = 0 \/ C = []) -> RF = r)) (fun _ s14 _ => (intOf s14 + 2).toNat)
 case atStart =>
  refine ⟨C.length + 1, _, name.length, Nat.le_refl _, by congr 1; omega, rfl, H6.out, by rw [Nat.sub_self]; exact hR0.out, Lib.hid fun m hm hc => ?_, Lib.hid fun hc => hRF0.out (hc.resolve_left (by omega))⟩
  obtain rfl : m = C.length := by omega
  rw [HEN.out]
  exact ⟨rfl, hRF1.out hc⟩
 case round =>
 obtain ⟨j, r, en, hj, rfl, rfl, hsc, hrw, hmid, hfin⟩ := hrel
 have HSC := Lib.hid hsc
 have HRW := Lib.hid hrw
 clear hsc hrw H6
 by_cases hex : j = 0 \/ C = []
 ·obtain rfl : RF = r := hfin.out hex
  clear hmid
  have hml := HRW.out.ml
  have hil := HRW.out.il
  have hgl := HRW.out.gl
  have hul := HRW.out.ul
  have hR2 : setNE RF name.length = RF := by
   have := hne.out
   unfold setNE
   rw [<- this]
  clear HWR hRF0 hRF1 hR0 HEL HEE HE0 HEN hj HRW hfin
  go_upto_region 9 with fail
  go_cut [60] from 54 to 60 (fun s60 wx => s60 = .bool false /\ wr = wx)
  case first =>
   rcases hex with rfl | hC
   ·go_wp2_with fail
    all_goals go_meet
    all_goals exact ⟨rfl, rfl⟩
   ·have hl1 : Hid (decide (0 < C.length) = false) := by show _ = _; rw [hC]; rfl
    clear hC
    go_wp2_with fail
    all_goals go_meet
    all_goals exact ⟨by first | rfl | rw [hl1.out], rfl⟩
  case rest =>
  obtain ⟨rfl, rfl⟩ := hcut
  clear hex
  go_wp2_with fail
  go_loopw [20] (fun s20 wq => ∃ k : Nat, k <= RF.marks.length /\ s20 = .int .i64 k /\ RScan w2 wq b sw (setNE RF (markEnd (RF.marks.take k) name.length))) (fun s20 _ => RF.marks.length - (intOf s20).toNat)
  case atStart =>
   exact ⟨0, Nat.zero_le _, rfl, by rw [List.take_zero]; show RScan w2 wr b sw (setNE RF name.length); rw [hR2]; exact HSC.out⟩
  case round =>
  rename World => wr2
  obtain ⟨k, hk, rfl, hsc⟩ := hrel
  clear HSC
  obtain ⟨NE, hNE⟩ : ∃ n, n = markEnd (RF.marks.take k) name.length := ⟨_, rfl⟩
  rw [<- hNE] at hsc
  replace hNE := Lib.hid hNE
  obtain ⟨vi, vu, vg, vm, a, hB⟩ := hsc
  have hmk : wr2.ownsRow w2.heap.size 3 1 vm RF.marks.length (intCells RF.marks) := a.mks
  obtain ⟨am, cm, rfl, hcs⟩ := ints_read hmk
  have k22 := a.cell 22 (.slice am RF.marks.length cm) rfl
  have k3 := a.cell 3 (.int .i64 NE) rfl
  have k3f := a.free 3
  by_cases hlt : k < RF.marks.length
  ·obtain ⟨g, rfl, hx⟩ := hcs k hlt
   have hst := Lib.hid (markEnd_take RF.marks name.length k hlt)
   rw [<- hNE.out] at hst
   have g1 : (k : Int) < (RF.marks.length : Int) := by omega
   have g0 : (0 : Int) <= (k : Int) := by omega
   generalize RF.marks[k] = mk at hx hst
   have HZ : Hid (∀ n, RdAt (wr2.drewN n) w2.heap.size b sw (setNE RF NE) vi vu vg (.slice (some ⟨g, 0, none⟩) RF.marks.length cm)) := fun n => a.below (Below_drewN (Below.refl _ _) n)
   have HX : Hid (∀ n, (wr2.drewN n).cell? ⟨g, k, none⟩ = some (.int .i64 mk)) := fun n => hx
   have HB := Lib.hid hB
   clear hcs hmk a hB
   have R26 : Hid (∀ wz r', RScan w2 wz b sw (setNE RF r') -> r' = markEnd (RF.marks.take (k + 1)) name.length -> ∃ k' : Nat, k' <= RF.marks.length /\ Value.int .i64 ((k : Int) + 1) = .int .i64 k' /\ RScan w2 wz b sw (setNE RF (markEnd (RF.marks.take k') name.length))) := fun wz r' h e => ⟨k + 1, by omega, by go_num, by rw [<- e]; exact h⟩
   by_cases h0 : (0 : Int) <= mk
   ·obtain ⟨q, rfl⟩ : ∃ q : Nat, mk = (q : Int) := ⟨mk.toNat, by omega⟩
    by_cases h1 : (q : Int) < (NE : Int)
    ·have hN : Hid (q = markEnd (RF.marks.take (k + 1)) name.length) := by show _ = _; rw [hst.out, if_pos ⟨h0, h1⟩]; simp
     clear hst
     go_upto_region 26 with fail
     go_quiet (fail)
     have a2 := HZ.out nq
     have hB2 := Lib.hid (HB.out.trans (Below_drewN (Below.refl _ _) nq))
     have jx := HX.out nq
     generalize wr2.drewN nq = wz at a2 hB2 jx |-
     have j22 := a2.cell 22 (.slice (some ⟨g, 0, none⟩) RF.marks.length cm) rfl
     have j3 := a2.cell 3 (.int .i64 NE) rfl
     have j3f := a2.free 3
     have hset := a2.set 3 (i64 q) (setNE RF q) rfl rfl rfl rfl rfl
     have H9 : Hid (RScan w2 (wz.setCell ⟨b, 3, none⟩ (.int .i64 q)) b sw (setNE RF q)) := ⟨_, _, _, _, hset.1, hB2.out.trans hset.2⟩
     clear a2 hset
     go_wp2_with fail
     go_roundw
     case rel => exact R26.out _ q H9.out hN.out
     case measure => simp [intOf]; omega
    ·have hN : Hid (NE = markEnd (RF.marks.take (k + 1)) name.length) := by show _ = _; rw [hst.out, if_neg (fun x => h1 x.2)]
     have hg : decide ((q : Int) < (NE : Int)) = false := decide_eq_false h1
     clear hst
     go_upto_region 26 with fail
     go_quiet (fail)
     have a2 := HZ.out nq
     have hB2 := Lib.hid (HB.out.trans (Below_drewN (Below.refl _ _) nq))
     generalize wr2.drewN nq = wz at a2 hB2 |-
     have H9 : Hid (RScan w2 wz b sw (setNE RF NE)) := ⟨_, _, _, _, a2, hB2.out⟩
     clear a2
     go_wp2_with fail
     go_roundw
     case rel => exact R26.out _ NE H9.out hN.out
     case measure => simp [intOf]; omega
   ·have hN : Hid (NE = markEnd (RF.marks.take (k + 1)) name.length) := by show _ = _; rw [hst.out, if_neg (fun x => h0 x.1)]
    have hg : decide ((0 : Int) <= mk) = false := decide_eq_false h0
    clear hst
    go_upto_region 26 with fail
    go_quiet (fail)
    have a2 := HZ.out nq
    have hB2 := Lib.hid (HB.out.trans (Below_drewN (Below.refl _ _) nq))
    generalize wr2.drewN nq = wz at a2 hB2 |-
    have H9 : Hid (RScan w2 wz b sw (setNE RF NE)) := ⟨_, _, _, _, a2, hB2.out⟩
    clear a2
    go_wp2_with fail
    go_roundw
    case rel => exact R26.out _ NE H9.out hN.out
    case measure => simp [intOf]; omega
  ·have hkl : k = RF.marks.length := by omega
   subst hkl
   have hWE : Hid (WO = (sTyp site (sKind (sFmt2 site C (sFmt (sLang (setNE RF NE)))))).w) := by
    show _ = _
    rw [HW.out, hCh.out, hNE.out, List.take_length]; rfl
   have hNl : NE <= name.length := by rw [hNE.out]; exact markEnd_le _ _
   have HSR : Hid (RScan w2 wr2 b sw (setNE RF NE)) := ⟨_, _, _, _, a, hB⟩
   have hRn : Hid ((setNE RF NE).w.name = name /\ (setNE RF NE).w.path = path /\ (setNE RF NE).w.nameEnd = NE /\ (setNE RF NE).w.unknown.length <= 100003 /\ (setNE RF NE).w.langs.length <= 100003) := ⟨hp1.out, hp2.out, rfl, by show RF.w.unknown.length <= _; omega, by show RF.w.langs.length <= _; omega⟩
   have hil2 : (setNE RF NE).w.ids.length <= C.length + 1 - j := hil
   have hgl2 : (setNE RF NE).w.langs.length <= C.length + 1 - j := hgl
   have k22' : wr2.cell? ⟨b, 22, none⟩ = some (.slice am RF.marks.length cm) := k22
   obtain ⟨R, hR⟩ : ∃ R, R = setNE RF NE := ⟨_, rfl⟩
   rw [<- hR] at hWE HSR hRn hil2 hgl2
   clear hcs hmk a hB hR k22 k3 k3f hNE HW hCh hil hgl hul hml hp1 hp2 hne hR2
   obtain ⟨vi, vu, vg, vm, a, hB⟩ := HSR.out
   obtain ⟨a1, a2, a3, c1, c2, c3, rfl, rfl, rfl⟩ := a.slices hB.size
   have k6 := a.cell 6 (.slice a3 R.w.langs.length c3) rfl
   go_upto_if 159 with fail
   clear k22'
   go_cut [] from 153 to 178 (fun wx => RScan w2 wx b sw (sLang R))
   case first =>
    clear hWE HCH
    have k11 := a.cell 11 (.string (B R.w.lang)) rfl
    have k11f := a.free 11
    have k23 := a.cell 23 (.string (B R.lang)) rfl
    obtain ⟨-, ag, cap, eg, hcs⟩ := (OwnS.mk a.lgs hB.size).strs (by omega)
    obtain ⟨rfl, -, rfl⟩ := Value.slice.inj eg
    clear eg
    by_cases hL : R.w.langs = []
    ·skip
     have e : sLang R = { R with w := { R.w with lang := R.lang } } := by unfold sLang; rw [hL]; rfl
     have hset := a.set 11 (.string (B R.lang)) { R with w := { R.w with lang := R.lang } } rfl rfl rfl rfl rfl
     have H9 : Hid (RScan w2 (wr2.setCell ⟨b, 11, none⟩ (.string (B R.lang))) b sw (sLang R)) := by
      show RScan _ _ _ _ _
      rw [e]; exact ⟨_, _, _, _, hset.1, hB.trans hset.2⟩
     have g0 : R.w.langs.length = 0 := by rw [hL]; rfl
     clear a hB hset hcs e HSR hL
     go_wp2_with fail
     go_meet
     exact H9.out
    ·obtain ⟨x, t, hL⟩ := List.exists_cons_of_ne_nil hL
     have e : sLang R = { R with w := { R.w with lang := x } } := by unfold sLang; rw [hL]; rfl
     have hset := a.set 11 (.string (B x)) { R with w := { R.w with lang := x } } rfl rfl rfl rfl rfl
     have H9 : Hid (RScan w2 (wr2.setCell ⟨b, 11, none⟩ (.string (B x))) b sw (sLang R)) := by
      show RScan _ _ _ _ _
      rw [e]; exact ⟨_, _, _, _, hset.1, hB.trans hset.2⟩
     obtain ⟨g, o, rfl, hc0⟩ := hcs 0 (by rw [hL]; simp)
     simp only [hL, List.getElem_cons_zero, Nat.add_zero] at hc0
     have g0 : 0 < R.w.langs.length := by rw [hL]; simp
     have g1 : (0 : Int) < (R.w.langs.length : Int) := by omega
     clear a hB hset hcs e HSR hL
     go_wp2_with fail
     go_meet
     exact H9.out
   case rest =>
   have HS1 := Lib.hid hcut
   clear hcut HSR k6 a hB
   obtain ⟨w5, rfl⟩ : ∃ x : World, x = wc := ⟨_, rfl⟩
   have hil3 : (sLang R).w.ids.length <= C.length + 1 - j := hil2
   have hRn2 : Hid ((sLang R).w.name = name /\ (sLang R).w.path = path /\ (sLang R).w.nameEnd = NE /\ (sLang R).w.unknown.length <= 100003 /\ (sLang R).w.langs.length <= 100003) := hRn
   clear hRn hil2 hgl2
   generalize sLang R = R1 at HS1 hWE hil3 hRn2
   go_upto_region 31 with fail
   go_cut [] from 179 to 192 (fun wx => RScan w2 wx b sw (sFmt R1))
   case first =>
    clear hWE
    obtain ⟨vi, vu, vg, vm, a, hB⟩ := HS1.out
    have k8 := a.cell 8 (.string (B R1.w.format)) rfl
    have k8f := a.free 8
    have k24 := a.cell 24 (.string (B R1.format)) rfl
    have a2 := a.below (Below_drewN (Below.refl _ _) 1)
    have hset := a2.set 8 (.string (B (chooseL R1.w.format R1.format))) (sFmt R1) rfl rfl rfl rfl rfl
    have H9 : Hid (RScan w2 ((w5.drewN 1).setCell ⟨b, 8, none⟩ (.string (B (chooseL R1.w.format R1.format)))) b sw (sFmt R1)) := ⟨_, _, _, _, hset.1, (hB.trans (Below_drewN (Below.refl _ _) 1)).trans hset.2⟩
    clear a a2 hB hset HS1
    refine wp_tail 14 (by kernel_rfl) (by kernel_rfl) ?_
    simp only [List.take_succ_cons, List.take_zero, List.drop_succ_cons, List.drop_zero]
    still_step
    still_step
    still_step
    still_step
    still_step
    still_step
    still_step
    still_step
    still_step
    still_step
    still_call (HCH.out _ _ _)
    repeat still_step
    try refine wpStill_nil ?_
    go_wp2_with fail
    go_meet
    exact H9.out
   case rest =>
   have HS2 := Lib.hid hcut
   clear hcut HS1
   obtain ⟨w6, rfl⟩ : ∃ x : World, x = wc := ⟨_, rfl⟩
   have hil4 : (sFmt R1).w.ids.length <= C.length + 1 - j := hil3
   have hRn3 : Hid ((sFmt R1).w.name = name /\ (sFmt R1).w.path = path /\ (sFmt R1).w.nameEnd = NE /\ (sFmt R1).w.unknown.length <= 100003 /\ (sFmt R1).w.langs.length <= 100003) := hRn2
   clear hRn2 hil3
   generalize sFmt R1 = R2 at HS2 hWE hil4 hRn3
   go_upto_region 32 with fail
   go_cut [219] from 193 to 218 (fun s219 wx => s219 = .bool (sFmtC site C R2) /\ ∃ n, w6.drewN n = wx)
   case first =>
    clear hWE HCH
    obtain ⟨vi, vu, vg, vm, a, hB⟩ := HS2.out
    have k19 := a.cell 19 (.bool R2.layouts) rfl
    have k8 := a.cell 8 (.string (B R2.w.format)) rfl
    have k7 := a.cell 7 (.string (B R2.w.ext)) rfl
    have ks : w6.cell? ⟨w.heap.size, 2, none⟩ = some vf := cell_blk (blk_below hsb2.out hB) 2
    have HFN : Hid (∀ n, Calls Tryz.prog 133 #[vf, .string (B R2.w.ext)] (w6.drewN n) fun e w' => e = .returned (.bool (formatNamed site.formats R2.w.ext)) /\ w' = w6.drewN n) := fun n => by
     have hf := (HS.out.below (hB.trans (Below_drewN (Below.refl _ _) n))).f
     rw [e3] at hf
     exact (c_formatNamed site.formats R2.w.ext vf (w6.drewN n) hf).mono fun _ _ ⟨he, hw⟩ => ⟨he, hw.symm⟩
    have HE0 : Hid (sFmtC site C R2 = (R2.layouts && R2.w.format == [] && !C.isEmpty && formatNamed site.formats R2.w.ext)) := rfl
    generalize formatNamed site.formats R2.w.ext = FN at HFN HE0
    clear a hB HS2 hsb2 HS e1 e2 e3 e4 e5 e6
    cases hly : R2.layouts with
    | false =>
     have hD : Hid (sFmtC site C R2 = false) := by show _ = _; rw [HE0.out, hly]; rfl
     rw [hly] at k19
     clear HE0 hly HFN
     go_quiet (fail)
     go_wp2_with fail
     go_meet
     exact ⟨by rw [hD.out], _, rfl⟩
    | true =>
     rw [hly] at k19
     cases hfm : (R2.w.format == []) with
     | false =>
      have hD : Hid (sFmtC site C R2 = false) := by show _ = _; rw [HE0.out, hfm, hly]; rfl
      clear HE0 hly HFN
      go_quiet (fail)
      go_wp2_with fail
      go_meet
      exact ⟨by rw [hD.out], _, rfl⟩
     | true =>
      by_cases hC : C = []
      ·have hD : Hid (sFmtC site C R2 = false) := by show _ = _; rw [HE0.out, hC]; simp
       have g1 : decide ((0 : Int) < (C.length : Int)) = false := by rw [hC]; rfl
       have g2 : decide (0 < C.length) = false := by rw [hC]; rfl
       clear HE0 hly HFN hC
       go_quiet (fail)
       go_wp2_with fail
       go_meet
       exact ⟨by rw [hD.out], _, rfl⟩
      ·have g2 : 0 < C.length := List.length_pos_iff.2 hC
       have g1 : (0 : Int) < (C.length : Int) := by omega
       have hD : Hid (sFmtC site C R2 = FN) := by
        show _ = _
        rw [HE0.out, hfm, hly]
        cases C with
        | nil => exact absurd rfl hC
        | cons x t => rfl
       clear HE0 hly hC
       go_quiet ((go_at_call 133; exact Calls.quiet_of_same (HFN.out _)))
       go_wp2_with fail
       go_meet
       exact ⟨by rw [hD.out], _, rfl⟩
   case rest =>
   obtain ⟨rfl, nd, rfl⟩ := hcut
   have HS3 : Hid (RScan w2 (w6.drewN nd) b sw R2) := HS2.out.below (Below_drewN (Below.refl _ _) nd)
   clear HS2
   generalize w6.drewN nd = w7 at HS3 |-
   go_upto_if 219 with fail
   go_cut [] from 219 to 228 (fun wx => RScan w2 wx b sw (sFmt2 site C R2))
   case first =>
    obtain ⟨vi, vu, vg, vm, a, hB⟩ := HS3.out
    have k7 := a.cell 7 (.string (B R2.w.ext)) rfl
    have k8 := a.cell 8 (.string (B R2.w.format)) rfl
    have k8f := a.free 8
    cases hD : sFmtC site C R2 with
    | false =>
     have e : sFmt2 site C R2 = R2 := by unfold sFmt2; rw [hD]; rfl
     have H9 : Hid (RScan w2 w7 b sw (sFmt2 site C R2)) := by rw [e]; exact HS3.out
     clear a hB HS3 e hD hWE
     go_wp2_with fail
     go_meet
     exact H9.out
    | true =>
     have e : sFmt2 site C R2 = { R2 with w := { R2.w with format := R2.w.ext } } := by unfold sFmt2; rw [hD]; rfl
     have hset := a.set 8 (.string (B R2.w.ext)) { R2 with w := { R2.w with format := R2.w.ext } } rfl rfl rfl rfl rfl
     have H9 : Hid (RScan w2 (w7.setCell ⟨b, 8, none⟩ (.string (B R2.w.ext))) b sw (sFmt2 site C R2)) := by rw [e]; exact ⟨_, _, _, _, hset.1, hB.trans hset.2⟩
     clear a hB hset HS3 e hD hWE
     go_wp2_with fail
     go_meet
     exact H9.out
   case rest =>
   have HS4 := Lib.hid hcut
   clear hcut HS3
   obtain ⟨w8, rfl⟩ : ∃ x : World, x = wc := ⟨_, rfl⟩
   have hil5 : (sFmt2 site C R2).w.ids.length <= C.length + 1 - j := hil4
   have hRn4 : Hid ((sFmt2 site C R2).w.name = name /\ (sFmt2 site C R2).w.path = path /\ (sFmt2 site C R2).w.nameEnd = NE /\ (sFmt2 site C R2).w.unknown.length <= 100003 /\ (sFmt2 site C R2).w.langs.length <= 100003) := hRn3
   clear hRn3 hil4
   generalize sFmt2 site C R2 = R3 at HS4 hWE hil5 hRn4
   go_upto_region 34 with fail
   go_cut [] from 229 to 256 (fun wx => RScan w2 wx b sw (sKind R3))
   case first =>
    clear hWE
    obtain ⟨vi, vu, vg, vm, a, hB⟩ := HS4.out
    have k9 := a.cell 9 (.string (B R3.w.kind)) rfl
    have k9f := a.free 9
    have k10 := a.cell 10 (.string (B R3.w.layout)) rfl
    have k10f := a.free 10
    have k25 := a.cell 25 (.string (B R3.kind)) rfl
    have k26 := a.cell 26 (.string (B R3.layout)) rfl
    have a2 := a.below (Below_drewN (Below.refl _ _) 1)
    have hset := a2.set 9 (.string (B (chooseL R3.w.kind R3.kind))) { R3 with w := { R3.w with kind := chooseL R3.w.kind R3.kind } } rfl rfl rfl rfl rfl
    have hset2 := hset.1.set 10 (.string (B (chooseL R3.w.layout R3.layout))) (sKind R3) rfl rfl rfl rfl rfl
    have k10z := hset.1.cell 10 (.string (B R3.w.layout)) rfl
    have k10zf := hset.1.free 10
    have H9 : Hid (RScan w2 (((w8.drewN 1).setCell ⟨b, 9, none⟩ (.string (B (chooseL R3.w.kind R3.kind)))).setCell ⟨b, 10, none⟩ (.string (B (chooseL R3.w.layout R3.layout)))) b sw (sKind R3)) := ⟨_, _, _, _, hset2.1, ((hB.trans (Below_drewN (Below.refl _ _) 1)).trans hset.2).trans hset2.2⟩
    clear a a2 hB hset hset2 HS4
    refine wp_late2 25 1 _ (.pointer (some ⟨b, 0, none⟩)) (by kernel_rfl) rfl (fun _ _ _ h => h) (Or.inl ⟨by rfl, fun w => by go_simp⟩) (by kernel_rfl) (by decide) ?_
    simp only [List.take_succ_cons, List.take_zero, List.drop_succ_cons, List.drop_zero, List.eraseIdx, Act.put, List.setIfInBounds_toArray, List.set_cons_zero, List.set_cons_succ]
    still_step
    still_step
    still_step
    still_step
    still_step
    still_step
    still_step
    still_step
    still_step
    still_step
    still_call (HCH.out _ _ _)
    still_step
    still_step
    still_step
    still_step
    still_step
    still_step
    still_step
    still_step
    still_step
    still_call (HCH.out _ _ _)
    still_step
    still_step
    still_step
    try refine wpStill_nil ?_
    go_wp2_with fail
    go_meet
    exact H9.out
   case rest =>
   have HS5 := Lib.hid hcut
   clear hcut HS4
   obtain ⟨w9, rfl⟩ : ∃ x : World, x = wc := ⟨_, rfl⟩
   have hil6 : (sKind R3).w.ids.length <= C.length + 1 - j := hil5
   have hRn5 : Hid ((sKind R3).w.name = name /\ (sKind R3).w.path = path /\ (sKind R3).w.nameEnd = NE /\ (sKind R3).w.unknown.length <= 100003 /\ (sKind R3).w.langs.length <= 100003) := hRn4
   clear hRn4 hil5
   generalize sKind R3 = R4 at HS5 hWE hil6 hRn5
   have HTY : Hid (Calls Tryz.prog 134 #[.pointer (some ⟨b, 0, none⟩)] w9 fun e w' => e = .returned (.int .i64 (ReadM.typeOf site R4)) /\ Below w9.heap.size w9 w') := by
    obtain ⟨vi, vu, vg, vm, a, hB⟩ := HS5.out
    exact c_typeOf a hB.size (HS.out.below hB) (by rw [hRn5.out.2.2.1, hRn5.out.1]; exact hNl) (by rw [hRn5.out.1]; omega) (by rw [hRn5.out.2.1]; omega) (by omega)
   go_wp2_with fail
   refine HTY.out.mono ?_; rintro ex w10 ⟨rfl, b10⟩
   obtain ⟨vi, vu, vg, vm, a, hB⟩ := HS5.out
   have a2 := a.below b10
   have hB2 := belowThen hB b10 (Nat.le_refl _)
   have k14 := a2.cell 14 (.int .i64 R4.w.typ) rfl
   have k14f := a2.free 14
   have hset := a2.set 14 (.int .i64 (ReadM.typeOf site R4)) (sTyp site R4) rfl rfl rfl rfl rfl
   have H9 : Hid (RScan w2 (w10.setCell ⟨b, 14, none⟩ (.int .i64 (ReadM.typeOf site R4))) b sw (sTyp site R4)) := ⟨_, _, _, _, hset.1, hB2.trans hset.2⟩
   clear a a2 hB hB2 hset HS5 HTY b10
   go_upto_region 36 with fail
   generalize w10.setCell ⟨b, 14, none⟩ _ = w11 at H9 |-
   have hil7 : (sTyp site R4).w.ids.length <= C.length + 1 - j := hil6
   have hRn6 : Hid ((sTyp site R4).w.unknown.length <= 100003 /\ (sTyp site R4).w.langs.length <= 100003) := hRn5.out.2.2.2
   generalize sTyp site R4 = R5 at H9 hWE hil7 hRn6
   obtain ⟨vi, vu, vg, vm, a, hB⟩ := H9.out
   obtain ⟨a1, a2, a3, c1, c2, c3, rfl, rfl, rfl⟩ := a.slices hB.size
   have HRng := Lib.hid a.words
   have hone := wcells_one R5.w a1 a2 a3 R5.w.ids.length R5.w.unknown.length R5.w.langs.length c1 c2 c3
   have hlen := wcells_len R5.w (.slice a1 R5.w.ids.length c1) (.slice a2 R5.w.unknown.length c2) (.slice a3 R5.w.langs.length c3)
   obtain ⟨L, hL⟩ : ∃ L, L = wcells R5.w (.slice a1 R5.w.ids.length c1) (.slice a2 R5.w.unknown.length c2) (.slice a3 R5.w.langs.length c3) := ⟨_, rfl⟩
   rw [<- hL] at HRng hone hlen
   replace hL := Lib.hid hL
   replace hone := Lib.hid hone
   replace hlen := Lib.hid hlen
   have hob3 := Lib.hid (blk_below hob2.out hB)
   have s1 := Lib.hid ((OwnS.mk a.ids hB.size).strs (by omega))
   have s2 := Lib.hid ((OwnS.mk a.unk hB.size).strs (Nat.le_trans hRn6.out.1 (by decide)))
   have s3 := Lib.hid ((OwnS.mk a.lgs hB.size).strs (Nat.le_trans hRn6.out.2 (by decide)))
   have n1 := Lib.hid (ownsRow_new a.ids)
   have n2 := Lib.hid (ownsRow_new a.unk)
   have n3 := Lib.hid (ownsRow_new a.lgs)
   have hgz : w.heap.size + 1 < w2.heap.size := by omega
   have HBB : Hid (Below w.heap.size w w11) := hB2.out.trans (hB.mono (by omega))
   clear a hB H9
   go_wp2_with (refine wpList_load_mid rfl 85 (.tmp 265) rfl b 0 rfl L _ HRng.out Tryz.underlying85 rfl (by rw [hlen.out]; kernel_rfl) (Hid.out ?_))
   refine Lib.hid ?_
   go_wp2_with (refine wpList_store_row rfl 85 (.tmp 8) (.tmp 266) rfl (w.heap.size + 1) L.toArray rfl rfl 85 _ hob3.out (by rw [List.size_toArray, hlen.out]; kernel_rfl) hlen.out.symm hone.out (Hid.out ?_))
   have hrow := Lib.hid (setRow_heap w11 (w.heap.size + 1) _ L.toArray _ _ hob3.out)
   have hbel : Hid (Below w.heap.size w (w11.setRow (w.heap.size + 1) L.toArray)) := HBB.out.trans ⟨rfl, rfl, rfl, by simp, fun k hk => setRow_other _ _ _ _ (by omega)⟩
   have t1 := Lib.hid (s1.out.setRow (g := w.heap.size + 1) (cs := L.toArray) n1.out hgz)
   have t2 := Lib.hid (s2.out.setRow (g := w.heap.size + 1) (cs := L.toArray) n2.out hgz)
   have t3 := Lib.hid (s3.out.setRow (g := w.heap.size + 1) (cs := L.toArray) n3.out hgz)
   generalize w11.setRow _ _ = wf at hrow hbel t1 t2 t3 |-
   refine Lib.hid ?_
   go_wp2_with fail
   refine bodyPost_ret (results_cell (w.heap.size + 1) rfl rfl (run_loadVar_row wf (w.heap.size + 1) _ 85 L.toArray _ _ hrow.out Tryz.underlying85 rfl (by rw [List.size_toArray, hlen.out]; kernel_rfl))) rfl ?_
   refine ⟨_, rfl, ?_, hbel.out⟩
   rw [hWE.out, hL.out]
   exact ⟨_, _, _, rfl, ⟨t1.out, n1.out.mono (by omega)⟩, ⟨t2.out, n2.out.mono (by omega)⟩, ⟨t3.out, n3.out.mono (by omega)⟩⟩
 ·have hC0 : C ≠ [] := fun h => hex (.inr h)
  obtain ⟨m, rfl⟩ : ∃ m, j = m + 1 := ⟨j - 1, by have : j ≠ 0 := fun h => hex (.inl h); omega⟩
  obtain ⟨hen, hdn⟩ := hmid.out m rfl hC0
  subst hen
  have hmc : m <= C.length := by omega
  have HNX := Lib.hid (read_next site name C r RF m hmc hC0 hdn)
  have hlc := List.length_pos_iff.2 hC0
  have hrn := HRW.out
  rw [show C.length + 1 - (m + 1) = C.length - m by omega] at hrn
  have HRW2 := Lib.hid (readWord_rw site name C hrn m (endAt name C m))
  have hfit := Lib.hid (hrn.fits (by omega))
  have hlay := Lib.hid hrn.lay
  have hfe : fromOf C m <= endAt name C m := by
   cases m with
   | zero => exact Nat.zero_le _
   | succ k =>
    rw [(atOf_succ C k (by omega)).2, <- HE0.out k (by omega)]
    exact HEL.out k (by omega)
  have hee := HEE.out m
  obtain ⟨ix, hix⟩ : ∃ x : Int, x = ((m + 1 : Nat) : Int) - 2 := ⟨_, rfl⟩
  rw [<- hix]
  have g1 : (-1 : Int) <= ix := by omega
  have g2 : (0 : Int) < (C.length : Int) := by omega
  clear hmid hfin hex hrn hdn hj HRW
  go_upto_if 64 with fail
  go_cut [15, 16] from 63 to 73 (fun s15 s16 wx => s15 = .int .i64 (atOf C m) /\ s16 = .int .i64 (fromOf C m : Nat) /\ ∃ n, wr.drewN n = wx)
  case first =>
   cases m with
   | zero =>
    obtain rfl : ix = -1 := by omega
    clear hix
    go_wp2_with fail
    go_meet
    exact ⟨rfl, rfl, 0, rfl⟩
   | succ k =>
    have hk : k < C.length := by omega
    obtain ⟨h1, h2⟩ := atOf_succ C k hk
    obtain ⟨vi, vu, vg, vm, a, hB⟩ := HSC.out
    have hcut := a.cut
    rw [e5, e6] at hcut
    obtain ⟨a', c', ev, hcs⟩ := nats_read hcut
    obtain ⟨rfl, -, rfl⟩ := Value.slice.inj ev
    obtain ⟨g, rfl, hx⟩ := hcs k hk
    obtain rfl : ix = (k : Int) := by omega
    clear hix
    have hkl : (k : Int) < (C.length : Int) := by omega
    have hk0 : (0 : Int) <= (k : Int) := by omega
    have hcb : C[k] <= 100001 := by
     have := HEE.out k
     rw [HE0.out k hk] at this; omega
    generalize C[k] = ck at hx hcb h1 h2
    replace h1 := Lib.hid h1
    replace h2 := Lib.hid h2
    clear hcut hcs a hB ev HNX
    go_upto_region 13 with fail
    go_quiet (fail)
    go_wp2_with fail
    go_meet
    exact ⟨by rw [h1.out], by rw [h2.out]; go_num, _, rfl⟩
  case rest =>
  obtain ⟨rfl, rfl, nd, rfl⟩ := hcut
  have HSD := Lib.hid (HSC.out.below (Below_drewN (Below.refl _ _) nd))
  clear HSC
  generalize wr.drewN nd = wq at HSD |-
  have g3 : ((fromOf C m : Nat) : Int) <= ((endAt name C m : Nat) : Int) := by omega
  have g4 : ((endAt name C m : Nat) : Int) <= (name.length : Int) := by omega
  obtain ⟨W, hW⟩ : ∃ W, W = (name.drop (fromOf C m)).take (endAt name C m - fromOf C m) := ⟨_, rfl⟩
  have hWl : W.length <= 1000000000 := by rw [hW, List.length_take, List.length_drop]; omega
  have hWL := Lib.hid (fun h => readWord_at_last site name C r (m := m) (endAt name C m) h)
  have hWM := Lib.hid (fun h => readWord_at site name C r (m := m) (endAt name C m) h)
  rw [<- hW] at hWM hWL
  replace hW := Lib.hid hW
  obtain ⟨r', hr'⟩ : ∃ r', r' = (readWord site name C r m (endAt name C m)).1 := ⟨_, rfl⟩
  obtain ⟨n1, n2⟩ := HNX.out r' hr'
  rw [<- hr'] at hWM hWL HRW2
  have n1 := Lib.hid n1
  have n2 := Lib.hid n2
  clear HNX hr'
  clear hfe hee g1
  replace hix := Lib.hid hix
  generalize endAt name C m = en at g3 g4 hW |-
  generalize fromOf C m = fr at g3 hW |-
  go_wp2_with fail
  rw [<- hW.out]
  refine (HWR.out W hWl _).mono ?_; rintro ex w7 ⟨rfl, rfl⟩
  go_upto_region 17 with fail
  go_cut [87] from 88 to 92 (fun s87 wx => ∃ D, s87 = .bool D /\ Hid (D = decide (m = C.length)) /\ wq = wx)
  case first =>
   replace hix := hix.out
   clear HCH HEL HEE HE0 HEN HSD hfit HS hWL hWM n1 n2 HRW2 hlay HW
   go_wp2_with fail
   go_meet
   exact ⟨_, rfl, by show _ = _; rw [Bool.eq_iff_iff, beq_iff_eq, decide_eq_true_iff]; omega, rfl⟩
  case rest =>
  obtain ⟨D, rfl, hD, rfl⟩ := hcut
  cases D with
  | true =>
   have hl : m = C.length := by have := hD.out; simpa using this.symm
   replace hr' := Lib.hid (hWL.out hl)
   have HID := Lib.hid (c_identify HSD.out hfit.out W (atOf C m))
   clear hWL hWM hl HSD g3 g4 HWR hD
   generalize atOf C m = at_ at HID hr' n1 |-
   go_wp2_with fail
   refine HID.out.mono ?_; rintro ex w8 ⟨rfl, h8⟩
   obtain ⟨vi, vu, vg, vm, a, hB⟩ := h8
   have k7 := a.cell 7 (.string (B (r.identify W at_).w.ext)) rfl
   have k7f := a.free 7
   have hset := a.set 7 (.string (B W)) { r.identify W at_ with w := { (r.identify W at_).w with ext := W } } rfl rfl rfl rfl rfl
   have H9 : Hid (RScan w2 (w8.setCell ⟨b, 7, none⟩ (.string (B W))) b sw r')   := by rw [hr'.out]; exact ⟨_, _, _, _, hset.1, hB.trans hset.2⟩
   clear a hB hset hr' HID
   go_wp2_with fail
   go_roundw
   case rel =>
    have hix := hix.out
    exact ⟨m, r', at_, by omega, by congr 1; omega, rfl, H9.out, by rw [show C.length + 1 - m = C.length - m + 1 by omega]; exact HRW2.out, n1, n2⟩
   case measure =>
    have hix := hix.out
    simp [intOf]; omega
  | false =>
   have hl : m ≠ C.length := by have := hD.out; simpa using this.symm
   have hr' := hWM.out hl
   cases hk : wrapOk W with
   | true =>
    rw [readStep_wrap site r W _ hk] at hr'
    have HW2 := Lib.hid (c_wrapper HSD.out hfit.out HS.out W (wrapStr W) (atOf C m) (Nat.le_trans (wrapStr_len W) hWl))
    rw [<- hr'] at HW2
    clear hWL hWM hl HSD g3 g4 hr' HWR hD
    generalize atOf C m = at_ at HW2 n1 |-
    go_wp2_with fail
    refine HW2.out.mono ?_; rintro ex w8 ⟨rfl, h8⟩
    have H9 := Lib.hid h8
    clear h8 HW2
    go_wp2_with fail
    go_roundw
    case rel =>
     have hix := hix.out
     exact ⟨m, r', at_, by omega, by congr 1; omega, rfl, H9.out, by rw [show C.length + 1 - m = C.length - m + 1 by omega]; exact HRW2.out, n1, n2⟩
    case measure =>
     have hix := hix.out
     simp [intOf]; omega
   | false =>
    rw [readStep_plain site r W _ hk] at hr'
    have HW2 := Lib.hid (c_plain HSD.out hfit.out HS.out W (atOf C m) hWl hlay.out)
    rw [<- hr'] at HW2
    clear hWL hWM hl HSD g3 g4 hr' HWR hD
    generalize atOf C m = at_ at HW2 n1 |-
    go_wp2_with fail
    refine HW2.out.mono ?_; rintro ex w8 ⟨rfl, h8⟩
    have H9 := Lib.hid h8
    clear h8 HW2
    go_wp2_with fail
    go_roundw
    case rel =>
     have hix := hix.out
     exact ⟨m, r', at_, by omega, by congr 1; omega, rfl, H9.out, by rw [show C.length + 1 - m = C.length - m + 1 by omega]; exact HRW2.out, n1, n2⟩
    case measure =>
     have hix := hix.out
     simp [intOf]; omega

end Go.Proofs.YtjkecadfakjanaaGreatDoor
