/- A law for a statement whose order is open, whose operations but a last few only read (their callees may make memory of their own, and leave a world of a given family), and whose last operations (the stores) come in one order. Plain laws of the model; no program here. Conditions: a Bool over the statement's operations, which the kernel works out. -/
import Derived.Test.YtjkecadfakjanaaGreatDoorBase
import Derived.StillTail
import Derived.Deep.QuietTactic
import Derived.Test.YtjkecadfakjanaaGreatDoorSpecD
set_option linter.unusedVariables false
set_option linter.unusedSimpArgs false
namespace Go.Proofs.YtjkecadfakjanaaGreatDoor
open Go.RowKit
section
variable {P : Program} {ops : Array Oper} {md : Region.Mode} {C : World -> Prop}

/-- In every world of the family: the next operation is one of the first n and only reads; and so on, f times; then L. -/
def famHead (P : Program) (md : Region.Mode) (ops : Array Oper) (C : World -> Prop) (n : Nat) (L : Array Bool -> Act -> Prop) : Nat -> Array Bool -> Act -> Prop
 | 0, listed, a => L listed a
 | f + 1, listed, a => Region.ready md ops listed ≠ [] /\ ∀ i ∈ Region.ready md ops listed, i < n /\ qOp P ops C i (famHead P md ops C n L f (listed.setIfInBounds i true)) a

theorem fam_any {n g : Nat} {L : Array Bool -> Act -> Prop} {Q : Exit -> Act -> World -> Prop} (hL : ∀ listed a w, C w -> L listed a -> wpAny P md ops Q g listed a w) :
  ∀ (f : Nat) (listed : Array Bool) (a : Act) (w : World), C w -> famHead P md ops C n L f listed a -> wpAny P md ops Q (f + g) listed a w
 | 0, listed, a, w, hw, h => by rw [Nat.zero_add]; exact hL _ _ _ hw h
 | f + 1, listed, a, w, hw, h => by
  rw [show f + 1 + g = (f + g) + 1 by omega]
  exact ⟨fun h0 => absurd h0 h.1, fun i hi => wpOp_of_qOp hw (fun a' w' hw' h' => fam_any hL f _ a' w' hw' h') (h.2 i hi).2⟩

theorem fam_first {n i : Nat} {oi : Oper} {v : Value} {L : Array Bool -> Act -> Prop} (hi : ops[i]? = some oi) (hsel : ∀ (j : Nat) (o : Oper) cs b, ops[j]? = some o -> o.op ≠ .select cs b)
  (hs : Region.sinkB md ops n = true) (hc : Region.chainB md ops n = true) (hn : n < ops.size) (hin : i < n)
  (hdone : ∀ listed a, L listed a -> ∀ j ∈ Region.ready md ops listed, n <= j) :
  ∀ (f : Nat) (listed : Array Bool) (a : Act), HeadInv md ops n listed ->
   (∀ j oj, ops[j]? = some oj -> j ≠ i -> listed.getD j true = false -> (∀ e ∈ oj.after, Region.binds md e = true -> e.on ≠ i) -> oi.apart ops oj = true) ->
   i ∈ Region.ready md ops listed -> YieldsIn P ops C oi v a ->
   famHead P md ops C n L f (listed.setIfInBounds i true) (a.put oi.dst v) -> famHead P md ops C n L (f + 1) listed a := by
 intro f
 induction f with
 | zero =>
  intro listed a inv hfree hr hy H
  have hun := (mem_ready.1 hr).1
  refine ⟨List.ne_nil_of_mem hr, fun j hj => ?_⟩
  have hjn : j < n := Nat.lt_of_not_le fun h => tail_waits hs hc hn inv _ i rfl hin hun j h hj
  by_cases hji : j = i
  ·subst hji; exact ⟨hin, hy.qOp hi H⟩
  ·have := hdone _ _ H j (ready_mono hj hji)
   omega
 | succ f ih =>
  intro listed a inv hfree hr hy H
  have hun := (mem_ready.1 hr).1
  refine ⟨List.ne_nil_of_mem hr, fun j hj => ?_⟩
  have hjn : j < n := Nat.lt_of_not_le fun h => tail_waits hs hc hn inv _ i rfl hin hun j h hj
  refine ⟨hjn, ?_⟩
  by_cases hji : j = i
  ·subst hji; exact hy.qOp hi H
  obtain ⟨hjun, oj, hoj, hall⟩ := mem_ready.1 hj
  have hap : oi.apart ops oj = true := hfree j oj hoj hji hjun fun e he hb heq => by
   have h1 := hall e he hb
   rw [heq, getD_both hun] at h1
   cases h1
  refine qOp_mono (fun a' h3 => ?_) (qOp_put hoj hap (fun cs b => hsel i oi cs b hi) (fun cs b => hsel j oj cs b hoj) hy (H.2 j (ready_mono hj hji)).2)
  refine ih (listed.setIfInBounds j true) a' (inv.set hj hjn) (fun m om hm hmi hmun hno => hfree m om hm hmi ?_ hno) (ready_mono hr (Ne.symm hji)) h3.1 ?_
  ·by_cases hjm : j = m
   ·subst hjm; exact hjun
   ·rw [getD_set_ne true hjm] at hmun; exact hmun
  ·rw [Array.setIfInBounds_comm _ _ hji]
   exact h3.2

theorem fam_lex {n g : Nat} {Lq : Act -> Prop} (hsel : Region.noSelect ops = true) (hs : Region.sinkB md ops n = true) (hc : Region.chainB md ops n = true) (hn : n < ops.size) :
  ∀ (l : List Oper) (k : Nat) (listed : Array Bool) (a : Act), (∀ j, j < l.length -> l[j]? = ops[k + j]?) -> k + l.length = n -> HeadInv md ops n listed ->
  Region.lexHead md ops g l.length k listed = true -> wpQuiet P ops C Lq l a ->
  famHead P md ops C n (fun listed' a' => Region.seqB md ops g n listed' = true /\ Lq a') l.length listed a
 | [], k, listed, a, _, hk, _, hB, h => by
  have : k = n := by simpa using hk
  subst this
  exact ⟨by simpa [Region.lexHead] using hB, h⟩
 | o :: l, k, listed, a, hl, hk, inv, hB, h => by
  have h0 : ops[k]? = some o := by simpa using (hl 0 (by simp)).symm
  simp only [List.length_cons, Region.lexHead, Bool.and_eq_true] at hB
  obtain ⟨⟨hr, hf⟩, hB'⟩ := hB
  have hkn : k < n := by simp only [List.length_cons] at hk; omega
  have hr' : k ∈ Region.ready md ops listed := by simpa using hr
  have hst : qOp P ops C k (wpQuiet P ops C Lq l) a := by unfold qOp; simp only [h0]; exact h
  obtain ⟨v, hy, hK⟩ := yieldsIn_of_qOp h0 hst
  exact fam_first h0 (Region.noSelect_spec hsel) hs hc hn hkn (fun listed' a' hL => seqB_ready hL.1) l.length listed a inv (Region.free_spec h0 hf) hr' hy
   (fam_lex hsel hs hc hn l (k + 1) _ _ (fun j hj => by have := hl (j + 1) (by simp; omega); simpa [Nat.add_assoc, Nat.add_comm 1 j] using this) (by simp only [List.length_cons] at hk; omega) (inv.set hr' hkn) hB' hK)

/-- The region: the first n operations as they stand, in every world of the family; then the tail. -/
theorem wp_family {Z : Type} (F : Z -> World) (z0 : Z) {id : Nat} {Q : Exit -> Act -> World -> Prop} {a : Act} {w : World} {l : List Oper} (h0 : F z0 = w.drew) (n : Nat) (hm : P.follows .mixedOrders = true) (hB : Region.lexTailB .any l.toArray n = true)
  (h : wpQuiet P l.toArray (fun w' => ∃ z, w' = F z) (fun a' => ∀ z, wpList P l.toArray Q (l.drop n) a' (F z)) (l.take n) a) : (Code.region id l.toArray true).wp P Q a w := by
 simp only [Region.lexTailB, Bool.and_eq_true, decide_eq_true_eq] at hB
 obtain ⟨⟨⟨⟨hsel, hn⟩, hs⟩, hc⟩, hlex⟩ := hB
 have hn' : n < l.length := by simpa using hn
 have htl : (l.take n).length = n := by simp; omega
 have hdl : (l.drop n).length = l.toArray.size - n := by simp
 have inv0 : HeadInv .any l.toArray n (Array.replicate l.toArray.size false) :=
  ⟨by simp, fun j oj _ hl => (by rw [getD_replicate_false] at hl; cases hl), fun t _ ht => getD_in (by simpa using ht) (getD_replicate_false _ _)⟩
 have H := fam_lex (md := .any) (g := l.toArray.size - n) hsel hs hc hn (l.take n) 0 _ a (fun j hj => by
  have hj' : j < n := by rw [htl] at hj; exact hj
  simp [hj']) (by simpa using htl) inv0 (by rw [htl]; exact hlex) h
 refine wp_region_any hm ?_
 have := fam_any (C := fun w' => ∃ z, w' = F z) (Q := Q) (g := l.toArray.size - n) (fun listed a' w' hw hL => by
  obtain ⟨z, rfl⟩ := hw
  have := wpAny_of_seq (md := .any) (Q' := Q) (l.drop n) n listed a' (F z) (fun j => by simp [List.getElem?_drop]) (by rw [hdl]; exact hL.1) (hL.2 z)
  rwa [hdl] at this) _ _ _ _ ⟨z0, h0.symm⟩ H
 rw [htl, show n + (l.toArray.size - n) = l.toArray.size by omega] at this
 exact this
/-- The same where all operations only read. -/
theorem wp_family_all {Z : Type} (F : Z -> World) (z0 : Z) {id : Nat} {Q : Exit -> Act -> World -> Prop} {a : Act} {w : World} {l : List Oper} (h0 : F z0 = w.drew) (hm : P.follows .mixedOrders = true) (hB : Region.lexB .any l.toArray = true)
  (h : wpQuiet P l.toArray (fun w' => ∃ z, w' = F z) (fun a' => ∀ w', (∃ z, w' = F z) -> Q .normal a' w') l a) : (Code.region id l.toArray true).wp P Q a w :=
 wp_region_quiet (C := fun w' => ∃ z, w' = F z) hm hB ⟨z0, h0.symm⟩ (by simpa using h)
end
/-- The worlds behind w in which all that was there stands. -/
structure Fam (w : World) : Type where
 val : World
 bel : Below w.heap.size w val
def Fam.mk0 (w : World) : Fam w := ⟨w.drew, Below_drewN (Below.refl _ _) 1⟩
instance (w : World) : Nonempty (Fam w) := ⟨Fam.mk0 w⟩
theorem Fam.cell {w : World} {b k : Nat} {v : Value} (h : w.cell? ⟨b, k, none⟩ = some v) (hb : b < w.heap.size) (z : Fam w) : z.val.cell? ⟨b, k, none⟩ = some v := ((bcell z.bel).1 b k hb).trans h
theorem Fam.call {w : World} {f : FuncId} {args : Array Value} {v : Value} {P : Program} (h : ∀ wx, Calls P f args wx fun e w' => e = .returned v /\ Below wx.heap.size wx w') (z : Fam w) :
  Calls P f args z.val fun e w'' => e = .returned v /\ ∃ z' : Fam w, w'' = z'.val :=
 (h z.val).mono fun _ w'' ⟨he, hb⟩ => ⟨he, ⟨w'', belowThen z.bel hb (Nat.le_refl _)⟩, rfl⟩
theorem Fam.callS {w : World} {f : FuncId} {args : Array Value} {v : Value} {P : Program} (h : ∀ wx, Calls P f args wx fun e w' => e = .returned v /\ wx = w') (z : Fam w) :
  Calls P f args z.val fun e w'' => e = .returned v /\ ∃ z' : Fam w, w'' = z'.val :=
 Fam.call (fun wx => (h wx).mono fun _ _ ⟨he, hw⟩ => ⟨he, hw ▸ Below.refl _ _⟩) z
end Go.Proofs.YtjkecadfakjanaaGreatDoor

set_option maxRecDepth 100000
namespace Go.Proofs.YtjkecadfakjanaaGreatDoor
open Go.RowKit
attribute [local go_sem] B_extract B_toList B_append

theorem c_dirOf (s : Str) (w : World) (hs : s.length <= 1000000000) :
  Calls Tryz.prog 121 #[.string (B s)] w fun e w' => e = .returned (.string (B (dirOf s))) /\ w = w' := by
 have H := Lib.hid (c_slashBefore s s.length w (by omega) (Nat.le_refl _))
 obtain ⟨hb1, hb2⟩ := slashB_lt s s.length
 obtain ⟨R, hR⟩ : ∃ R, R = dirOf s := ⟨_, rfl⟩
 rw [<- hR]
 have HR : Hid (R = if slashB s s.length <= 0 then [47] else s.take (slashB s s.length).toNat) := hR
 clear hR
 generalize slashB s s.length = x at H hb1 hb2 HR
 go_enter Tryz.func121, Tryz.ntmps121
 by_cases h : x <= 0
 ·go_wp2_with fail
  refine H.out.mono ?_; rintro e w' ⟨rfl, rfl⟩
  go_wp2_with fail
  go_ret
  exact ⟨ret_str (by rw [HR.out, if_pos h]), rfl⟩
 ·obtain ⟨k, rfl⟩ : ∃ k : Nat, x = (k : Int) := ⟨x.toNat, by omega⟩
  have h2 : (k : Int) <= (s.length : Int) := by omega
  go_wp2_with fail
  refine H.out.mono ?_; rintro e w' ⟨rfl, rfl⟩
  go_wp2_with fail
  go_ret
  exact ⟨ret_str (by rw [HR.out, if_neg (by omega)]; simp), rfl⟩

theorem c_containerOf (s : Str) (w : World) (hs : s.length <= 1000000000) :
  Calls Tryz.prog 122 #[.string (B s)] w fun e w' => e = .returned (.string (B (containerOf s))) /\ w = w' := by
 have H := Lib.hid (c_slashBefore s s.length w (by omega) (Nat.le_refl _))
 obtain ⟨hb1, hb2⟩ := slashB_lt s s.length
 obtain ⟨R, hR⟩ : ∃ R, R = containerOf s := ⟨_, rfl⟩
 rw [<- hR]
 have HR : Hid (R = if slashB s s.length <= 0 then [] else lastPart (s.take (slashB s s.length).toNat)) := hR
 clear hR
 generalize slashB s s.length = x at H hb1 hb2 HR
 go_enter Tryz.func122, Tryz.ntmps122
 by_cases h : x <= 0
 ·go_wp2_with fail
  refine H.out.mono ?_; rintro e w' ⟨rfl, rfl⟩
  go_wp2_with fail
  go_ret
  exact ⟨ret_str (by rw [HR.out, if_pos h]), rfl⟩
 ·obtain ⟨k, rfl⟩ : ∃ k : Nat, x = (k : Int) := ⟨x.toNat, by omega⟩
  have h2 : (k : Int) <= (s.length : Int) := by omega
  have H2 := Lib.hid (c_lastPart (s.take k) w (by rw [List.length_take]; omega))
  go_wp2_with fail
  refine H.out.mono ?_; rintro e w' ⟨rfl, rfl⟩
  go_wp2_with fail
  refine H2.out.mono ?_; rintro e w' ⟨rfl, rfl⟩
  go_wp2_with fail
  go_ret
  exact ⟨ret_str (by rw [HR.out, if_neg (by omega)]; simp), rfl⟩

theorem c_isBundle (t : Int) (w : World) :
  Calls Tryz.prog 125 #[.int .i64 t] w fun e w' => e = .returned (.bool (isBundleT t)) /\ w = w' := by
 obtain ⟨R, hR⟩ : ∃ R, R = isBundleT t := ⟨_, rfl⟩
 rw [<- hR]
 have HR : Hid (R = (decide (3 <= t) && decide (t <= 5))) := hR
 clear hR
 go_enter Tryz.func125, Tryz.ntmps125
 by_cases h3 : 3 <= t
 ·by_cases h5 : t <= 5
  ·go_wp2_with fail
   go_ret
   exact ⟨ret_bool (by rw [HR.out]; simp [h3, h5]), rfl⟩
  ·go_wp2_with fail
   go_ret
   exact ⟨ret_bool (by rw [HR.out]; simp [h3, h5]), rfl⟩
 ·go_wp2_with fail
  go_ret
  exact ⟨ret_bool (by rw [HR.out]; simp; omega), rfl⟩

/-! ### The parts of a path -/
theorem splitL_ne (t : Str) : splitL t ≠ [] := by
 cases t with
 | nil => simp [splitL]
 | cons c t =>
  unfold splitL
  split
  ·simp
  ·split <;> simp
theorem splitL_count : ∀ t : Str, (splitL t).length <= t.length + 1
 | [] => Nat.le_refl _
 | c :: t => by
  have ih := splitL_count t
  unfold splitL
  split
  ·simp only [List.length_cons]; omega
  ·split
   ·simp
   ·rename_i h; rw [h] at ih; simp only [List.length_cons] at ih |-; omega
theorem splitL_flat : ∀ t : Str, (∀ j : Nat, t[j]? ≠ some 47) -> splitL t = [t]
 | [], _ => rfl
 | c :: t, h => by
  have hc : c ≠ 47 := fun e => h 0 (by rw [e]; rfl)
  have ih := splitL_flat t fun j => by have := h (j + 1); simpa using this
  unfold splitL
  rw [if_neg hc, ih]
theorem splitL_cut : ∀ (a b : Str), (∀ j : Nat, a[j]? ≠ some 47) -> splitL (a ++ 47 :: b) = a :: splitL b
 | [], b, _ => by show splitL (47 :: b) = _; rw [splitL, if_pos rfl]
 | c :: a, b, h => by
  have hc : c ≠ 47 := fun e => h 0 (by rw [e]; rfl)
  have ih := splitL_cut a b fun j => by have := h (j + 1); simpa using this
  show splitL (c :: (a ++ 47 :: b)) = _
  rw [splitL, if_neg hc, ih]
/-- The parts, where the reading stands at place i, the part begins at f. -/
def partsFrom (s : Str) (i f : Nat) : List Str := if i <= s.length then splitL (s.drop f) else []
theorem parts_last {s : Str} {f : Nat} (h : ∀ j, f <= j -> j < s.length -> s[j]? ≠ some 47) : splitL (s.drop f) = [(s.drop f).take (s.length - f)] := by
 rw [List.take_of_length_le (by simp)]
 refine splitL_flat _ fun j e => ?_
 rw [List.getElem?_drop] at e
 have hl : f + j < s.length := by
  rcases Nat.lt_or_ge (f + j) s.length with x | x
  ·exact x
  ·rw [List.getElem?_eq_none x] at e; cases e
 exact h _ (by omega) hl e
theorem parts_mid {s : Str} {f i : Nat} (hf : f <= i) (hi : s[i]? = some 47) (h : ∀ j, f <= j -> j < i -> s[j]? ≠ some 47) : splitL (s.drop f) = (s.drop f).take (i - f) :: splitL (s.drop (i + 1)) := by
 have hl : i < s.length := by
  rcases Nat.lt_or_ge i s.length with x | x
  ·exact x
  ·rw [List.getElem?_eq_none x] at hi; cases hi
 have e : s.drop f = (s.drop f).take (i - f) ++ 47 :: s.drop (i + 1) := by
  conv => lhs; rw [<- List.take_append_drop (i - f) (s.drop f)]
  rw [List.drop_drop, show f + (i - f) = i by omega, List.drop_eq_getElem_cons hl]
  have : s[i] = 47 := by rw [List.getElem?_eq_getElem hl] at hi; exact Option.some.inj hi
  rw [this]
 conv => lhs; rw [e]
 refine splitL_cut _ _ fun j e => ?_
 rw [List.getElem?_take] at e
 split at e
 ·rw [List.getElem?_drop] at e
  exact h _ (by omega) (by omega) e
 ·cases e

set_option maxHeartbeats 8000000 in
theorem c_partsOf (s : Str) (w : World) (hs : s.length <= 1000000000) :
  Calls Tryz.prog 149 #[.string (B s)] w fun e w' => ∃ v, e = .returned v /\ OwnS w' w.heap.size v (partsOf s) /\ Below w.heap.size w w' := by
 obtain ⟨R, hR⟩ : ∃ R, R = partsOf s := ⟨_, rfl⟩
 rw [<- hR]
 have HR : Hid (R = [] ++ partsFrom s 1 1) := by
  show _ = _
  rw [hR, List.nil_append]
  unfold partsOf partsFrom
  by_cases h : s = []
  ·subst h; rfl
  ·have : 0 < s.length := List.length_pos_iff.2 h
   rw [if_neg h, if_pos (by omega)]
 clear hR
 have hO := Lib.hid (OwnS.nil w)
 go_enter Tryz.func149, Tryz.ntmps149
 go_wp2_with fail
 go_loopw [3, 4, 5] (fun s3 s4 s5 wr => ∃ (i f : Nat) (L : List Str), 1 <= i /\ i <= s.length + 1 /\ f <= i /\ L.length <= i /\ s5 = .int .i64 i /\ s4 = .int .i64 f /\ OwnS wr w.heap.size s3 L /\ Below w.heap.size w wr /\ Hid (∀ j, f <= j -> j < i -> s[j]? ≠ some 47) /\ Hid (R = L ++ partsFrom s i f)) (fun _ _ s5 _ => s.length + 2 - (intOf s5).toNat)
 case atStart => exact ⟨1, 1, [], Nat.le_refl _, by omega, Nat.le_refl _, Nat.zero_le _, rfl, rfl, hO.out, Below.refl _ _, Lib.hid fun j h1 h2 => by omega, HR.out⟩
 case round =>
  obtain ⟨i, f, L, h1, hi, hf, hLi, rfl, rfl, hown, hbel, hno, hrest⟩ := hrel
  replace hown := Lib.hid hown
  replace hbel := Lib.hid hbel
  have hap : Hid (∀ o, OwnS (wr.alloc o) w.heap.size u3 L) := fun o => hown.out.alloc o
  have hba : Hid (∀ o, Below w.heap.size w (wr.alloc o)) := fun o => hbel.out.alloc hbel.out.size o
  have hll : L.length <= 1000000000000 := by omega
  by_cases hle : i <= s.length
  ·by_cases hend : i = s.length
   ·subst hend
    have hb : ((s.length : Int) == (s.length : Int)) = true := by rw [beq_iff_eq]
    have hN : Hid (R = (L ++ [(s.drop f).take (s.length - f)]) ++ partsFrom s (s.length + 1) (s.length + 1)) := by
     show _ = _
     rw [hrest.out]
     unfold partsFrom
     rw [if_pos hle, if_neg (by omega), List.append_nil, parts_last (fun j h1 h2 => hno.out j h1 h2)]
    have g1 : (f : Int) <= (s.length : Int) := by omega
    clear hrest hno
    go_wp2_with (at_builtin; refine wpList_appS rfl (.tmp 22) (.tmp 27) rfl _ _ _ ((s.drop f).take (s.length - f)) rfl (hap.out _) wr.heap.size rfl ?c1 hll ?_)
    case c1 => exact cell_blk (blk_new _ _) 0
    intro v' w1 hown4 hg4 hp4
    have hb4 : Hid (Below w.heap.size w w1) := grown_below (hba.out _) hg4 (by have := hbel.out.size; simp; omega) (fun g hg => by obtain ⟨_, _, h, _⟩ := ownsRow_blk hown.out.own hg; exact h)
    replace hown4 := Lib.hid hown4
    clear hg4 hp4 hap hba hown hbel
    go_wp2_with fail
    go_roundw
    case rel =>
     have RR : 1 <= s.length + 1 /\ s.length + 1 <= s.length + 1 /\ s.length + 1 <= s.length + 1 /\ (L ++ [(s.drop f).take (s.length - f)]).length <= s.length + 1 /\ Value.int .i64 ((s.length : Int) + 1) = .int .i64 ((s.length + 1 : Nat) : Int) /\ Value.int .i64 ((s.length : Int) + 1) = .int .i64 ((s.length + 1 : Nat) : Int) /\ OwnS w1 w.heap.size v' (L ++ [(s.drop f).take (s.length - f)]) /\ Below w.heap.size w w1 /\ Hid (∀ j, s.length + 1 <= j -> j < s.length + 1 -> s[j]? ≠ some 47) /\ Hid (R = (L ++ [(s.drop f).take (s.length - f)]) ++ partsFrom s (s.length + 1) (s.length + 1)) :=
      ⟨by omega, by omega, Nat.le_refl _, by rw [List.length_append, List.length_singleton]; omega, by go_num, by go_num, hown4.out, hb4.out, Lib.hid fun j h1 h2 => by omega, hN⟩
     first | exact ⟨s.length + 1, s.length + 1, _, RR⟩ | ((repeat apply Exists.intro); exact ⟨⟨s.length + 1, s.length + 1, _, RR⟩, rfl⟩)
    case measure => (simp [intOf]; try omega)
   ·have hb : ((i : Int) == (s.length : Int)) = false := by rw [beq_eq_false_iff_ne]; omega
    have hlt : i < s.length := by omega
    by_cases hd : s[i]? = some 47
    ·have b1 := byte_yes hlt 47 47 rfl hd
     have hN : Hid (R = (L ++ [(s.drop f).take (i - f)]) ++ partsFrom s (i + 1) (i + 1)) := by
      show _ = _
      rw [hrest.out]
      unfold partsFrom
      rw [if_pos hle, if_pos (by omega), parts_mid hf hd (fun j h1 h2 => hno.out j h1 h2)]
      simp
     have g1 : (f : Int) <= (i : Int) := by omega
     have g2 : (i : Int) <= (s.length : Int) := by omega
     clear hrest hno hd
     go_wp2_with (at_builtin; refine wpList_appS rfl (.tmp 22) (.tmp 27) rfl _ _ _ ((s.drop f).take (i - f)) rfl (hap.out _) wr.heap.size rfl ?c1 hll ?_)
     case c1 => exact cell_blk (blk_new _ _) 0
     intro v' w1 hown4 hg4 hp4
     have hb4 : Hid (Below w.heap.size w w1) := grown_below (hba.out _) hg4 (by have := hbel.out.size; simp; omega) (fun g hg => by obtain ⟨_, _, h, _⟩ := ownsRow_blk hown.out.own hg; exact h)
     replace hown4 := Lib.hid hown4
     clear hg4 hp4 hap hba hown hbel
     go_wp2_with fail
     go_roundw
     case rel =>
      have RR : 1 <= i + 1 /\ i + 1 <= s.length + 1 /\ i + 1 <= i + 1 /\ (L ++ [(s.drop f).take (i - f)]).length <= i + 1 /\ Value.int .i64 ((i : Int) + 1) = .int .i64 ((i + 1 : Nat) : Int) /\ Value.int .i64 ((i : Int) + 1) = .int .i64 ((i + 1 : Nat) : Int) /\ OwnS w1 w.heap.size v' (L ++ [(s.drop f).take (i - f)]) /\ Below w.heap.size w w1 /\ Hid (∀ j, i + 1 <= j -> j < i + 1 -> s[j]? ≠ some 47) /\ Hid (R = (L ++ [(s.drop f).take (i - f)]) ++ partsFrom s (i + 1) (i + 1)) :=
       ⟨by omega, by omega, Nat.le_refl _, by rw [List.length_append, List.length_singleton]; omega, by go_num, by go_num, hown4.out, hb4.out, Lib.hid fun j h1 h2 => by omega, hN⟩
      first | exact ⟨i + 1, i + 1, _, RR⟩ | ((repeat apply Exists.intro); exact ⟨⟨i + 1, i + 1, _, RR⟩, rfl⟩)
     case measure => (simp [intOf]; try omega)
    ·have b1 := byte_no hlt 47 47 rfl hd
     have hN : Hid (R = L ++ partsFrom s (i + 1) f) := by
      show _ = _
      rw [hrest.out]
      unfold partsFrom
      rw [if_pos hle, if_pos (by omega)]
     have hno2 : Hid (∀ j, f <= j -> j < i + 1 -> s[j]? ≠ some 47) := fun j h1 h2 => by
      by_cases hj : j = i
      ·rw [hj]; exact hd
      ·exact hno.out j h1 (by omega)
     clear hrest hno hd hap hba
     go_wp2_with fail
     go_roundw
     case rel =>
      have RR : 1 <= i + 1 /\ i + 1 <= s.length + 1 /\ f <= i + 1 /\ L.length <= i + 1 /\ Value.int .i64 ((i : Int) + 1) = .int .i64 ((i + 1 : Nat) : Int) /\ Value.int .i64 (f : Int) = .int .i64 (f : Nat) /\ OwnS wr w.heap.size u3 L /\ Below w.heap.size w wr /\ Hid (∀ j, f <= j -> j < i + 1 -> s[j]? ≠ some 47) /\ Hid (R = L ++ partsFrom s (i + 1) f) :=
       ⟨by omega, by omega, by omega, by omega, by go_num, rfl, hown.out, hbel.out, hno2, hN⟩
      first | exact ⟨i + 1, f, _, RR⟩ | ((repeat apply Exists.intro); exact ⟨⟨i + 1, f, _, RR⟩, rfl⟩)
     case measure => (simp [intOf]; try omega)
  ·have HF : Hid (R = L) := by show _ = _; rw [hrest.out]; unfold partsFrom; rw [if_neg hle, List.append_nil]
   clear hap hba
   go_wp2_with fail
   go_ret
   exact ⟨_, rfl, by rw [HF.out]; exact hown.out, hbel.out⟩

end Go.Proofs.YtjkecadfakjanaaGreatDoor

namespace Go.Proofs.YtjkecadfakjanaaGreatDoor
open Go.RowKit
attribute [local go_sem] B_extract B_toList B_append

theorem wc_keep {w1 w' w'' : World} {b : Nat} {x0 x1 x2 x3 x4 x5 x6 x7 x8 x9 x10 x11 x12 x13 x14 : Value} (hb : b < w1.heap.size) (h : (w'.cell? ⟨b, 0, none⟩ = some (x0) /\ w'.cell? ⟨b, 1, none⟩ = some (x1) /\ w'.cell? ⟨b, 2, none⟩ = some (x2) /\ w'.cell? ⟨b, 3, none⟩ = some (x3) /\ w'.cell? ⟨b, 4, none⟩ = some (x4) /\ w'.cell? ⟨b, 5, none⟩ = some (x5) /\ w'.cell? ⟨b, 6, none⟩ = some (x6) /\ w'.cell? ⟨b, 7, none⟩ = some (x7) /\ w'.cell? ⟨b, 8, none⟩ = some (x8) /\ w'.cell? ⟨b, 9, none⟩ = some (x9) /\ w'.cell? ⟨b, 10, none⟩ = some (x10) /\ w'.cell? ⟨b, 11, none⟩ = some (x11) /\ w'.cell? ⟨b, 12, none⟩ = some (x12) /\ w'.cell? ⟨b, 13, none⟩ = some (x13) /\ w'.cell? ⟨b, 14, none⟩ = some (x14)) /\ Below w1.heap.size w1 w') (h2 : Below w'.heap.size w' w'') :
  (w''.cell? ⟨b, 0, none⟩ = some (x0) /\ w''.cell? ⟨b, 1, none⟩ = some (x1) /\ w''.cell? ⟨b, 2, none⟩ = some (x2) /\ w''.cell? ⟨b, 3, none⟩ = some (x3) /\ w''.cell? ⟨b, 4, none⟩ = some (x4) /\ w''.cell? ⟨b, 5, none⟩ = some (x5) /\ w''.cell? ⟨b, 6, none⟩ = some (x6) /\ w''.cell? ⟨b, 7, none⟩ = some (x7) /\ w''.cell? ⟨b, 8, none⟩ = some (x8) /\ w''.cell? ⟨b, 9, none⟩ = some (x9) /\ w''.cell? ⟨b, 10, none⟩ = some (x10) /\ w''.cell? ⟨b, 11, none⟩ = some (x11) /\ w''.cell? ⟨b, 12, none⟩ = some (x12) /\ w''.cell? ⟨b, 13, none⟩ = some (x13) /\ w''.cell? ⟨b, 14, none⟩ = some (x14)) /\ Below w1.heap.size w1 w'' := by
 obtain ⟨⟨k0, k1, k2, k3, k4, k5, k6, k7, k8, k9, k10, k11, k12, k13, k14⟩, hbel⟩ := h
 have q := fun o => (bcell h2).1 b o (Nat.lt_of_lt_of_le hb hbel.size)
 exact ⟨⟨(q 0).trans k0, (q 1).trans k1, (q 2).trans k2, (q 3).trans k3, (q 4).trans k4, (q 5).trans k5, (q 6).trans k6, (q 7).trans k7, (q 8).trans k8, (q 9).trans k9, (q 10).trans k10, (q 11).trans k11, (q 12).trans k12, (q 13).trans k13, (q 14).trans k14⟩, belowThen hbel h2 (Nat.le_refl _)⟩

theorem c_headOf (W : WordsM) (a1 a2 a3 : Option Addr) (c1 c2 c3 : Nat) (w : World) (hp : W.path.length <= 1000000000) (hn : W.name.length <= W.path.length) :
  Calls Tryz.prog 150 #[.agg #[.string (B W.component), .string (B W.path), .string (B W.name), .int .i64 W.nameEnd, .slice a1 W.ids.length c1, .slice a2 W.unknown.length c2, .slice a3 W.langs.length c3, .string (B W.ext), .string (B W.format), .string (B W.kind), .string (B W.layout), .string (B W.lang), .string (B W.custom), .bool W.disabled, .int .i64 W.typ]] w fun e w' => e = .returned (.string (B (headOf W))) /\ Below w.heap.size w w' := by
 obtain ⟨R, hR⟩ : ∃ R, R = headOf W := ⟨_, rfl⟩
 rw [<- hR]
 have HR : Hid (R = W.path.take (W.path.length - W.name.length)) := hR
 clear hR
 obtain ⟨obs, hobs⟩ : ∃ o : Obj, o = .cells #[.string (B W.component), .string (B W.path), .string (B W.name), .int .i64 W.nameEnd, .slice a1 W.ids.length c1, .slice a2 W.unknown.length c2, .slice a3 W.langs.length c3, .string (B W.ext), .string (B W.format), .string (B W.kind), .string (B W.layout), .string (B W.lang), .string (B W.custom), .bool W.disabled, .int .i64 W.typ] 85 := ⟨_, rfl⟩
 have hB1 : Hid (Below w.heap.size w (w.alloc obs)) := Below_alloc w obs
 have hsb : Hid ((w.alloc obs).heap[w.heap.size]? = some (.cells #[.string (B W.component), .string (B W.path), .string (B W.name), .int .i64 W.nameEnd, .slice a1 W.ids.length c1, .slice a2 W.unknown.length c2, .slice a3 W.langs.length c3, .string (B W.ext), .string (B W.format), .string (B W.kind), .string (B W.layout), .string (B W.lang), .string (B W.custom), .bool W.disabled, .int .i64 W.typ] 85)) := by show _ = _; rw [hobs]; exact blk_new w _
 have hbl : w.heap.size < (w.alloc obs).heap.size := by simp
 have g1 : (W.path.length : Int) - (W.name.length : Int) = ((W.path.length - W.name.length : Nat) : Int) := by omega
 go_enter Tryz.func150, Tryz.ntmps150
 go_wp2_with fail
 rw [<- hobs]
 generalize w.alloc obs = w1 at hB1 hsb hbl |-
 go_ret
 exact ⟨ret_str (by rw [HR.out]; try simp), hB1.out⟩

theorem c_beforeExt (W : WordsM) (a1 a2 a3 : Option Addr) (c1 c2 c3 : Nat) (s : Str) (w : World) (hs : s.length <= 1000000000) (he : W.ids ≠ [] -> W.ext.length + 1 <= s.length) :
  Calls Tryz.prog 124 #[.agg #[.string (B W.component), .string (B W.path), .string (B W.name), .int .i64 W.nameEnd, .slice a1 W.ids.length c1, .slice a2 W.unknown.length c2, .slice a3 W.langs.length c3, .string (B W.ext), .string (B W.format), .string (B W.kind), .string (B W.layout), .string (B W.lang), .string (B W.custom), .bool W.disabled, .int .i64 W.typ], .string (B s)] w fun e w' => e = .returned (.string (B (beforeExt W s))) /\ Below w.heap.size w w' := by
 obtain ⟨R, hR⟩ : ∃ R, R = beforeExt W s := ⟨_, rfl⟩
 rw [<- hR]
 have HR : Hid (R = if W.ids = [] then s else s.take (s.length - W.ext.length - 1)) := hR
 clear hR
 obtain ⟨obs, hobs⟩ : ∃ o : Obj, o = .cells #[.string (B W.component), .string (B W.path), .string (B W.name), .int .i64 W.nameEnd, .slice a1 W.ids.length c1, .slice a2 W.unknown.length c2, .slice a3 W.langs.length c3, .string (B W.ext), .string (B W.format), .string (B W.kind), .string (B W.layout), .string (B W.lang), .string (B W.custom), .bool W.disabled, .int .i64 W.typ] 85 := ⟨_, rfl⟩
 have hB1 : Hid (Below w.heap.size w (w.alloc obs)) := Below_alloc w obs
 have hsb : Hid ((w.alloc obs).heap[w.heap.size]? = some (.cells #[.string (B W.component), .string (B W.path), .string (B W.name), .int .i64 W.nameEnd, .slice a1 W.ids.length c1, .slice a2 W.unknown.length c2, .slice a3 W.langs.length c3, .string (B W.ext), .string (B W.format), .string (B W.kind), .string (B W.layout), .string (B W.lang), .string (B W.custom), .bool W.disabled, .int .i64 W.typ] 85)) := by show _ = _; rw [hobs]; exact blk_new w _
 have hbl : w.heap.size < (w.alloc obs).heap.size := by simp
 by_cases h0 : W.ids = []
 ·have hb : ((W.ids.length : Int) == 0) = true := by rw [h0]; rfl
  replace h0 := Lib.hid h0
  go_enter Tryz.func124, Tryz.ntmps124
  go_wp2_with fail
  rw [<- hobs]
  generalize w.alloc obs = w1 at hB1 hsb hbl |-
  go_ret
  exact ⟨ret_str (by rw [HR.out, if_pos h0.out]), hB1.out⟩
 ·have hb : ((W.ids.length : Int) == 0) = false := by rw [beq_eq_false_iff_ne]; have := List.length_pos_iff.2 h0; omega
  have h2 := he h0
  have g1 : (s.length : Int) - (W.ext.length : Int) - 1 = ((s.length - W.ext.length - 1 : Nat) : Int) := by omega
  have g2 : IntKind.i64.wrap ((s.length : Int) - (W.ext.length : Int)) = (s.length : Int) - (W.ext.length : Int) := by rw [IntKind.wrap_i64]; omega
  have g3 : ((s.length - W.ext.length - 1 : Nat) : Int) <= (s.length : Int) := by omega
  go_enter Tryz.func124, Tryz.ntmps124
  go_wp2_with fail
  rw [<- hobs]
  generalize w.alloc obs = w1 at hB1 hsb hbl |-
  go_ret
  exact ⟨ret_str (by rw [HR.out, if_neg h0]; try simp), hB1.out⟩

set_option maxHeartbeats 4000000 in
theorem c_noIdentifier (W : WordsM) (a1 a2 a3 : Option Addr) (c1 c2 c3 : Nat) (w : World) (hp : W.path.length <= 1000000000) (hn : W.name.length <= W.path.length) (hne : W.nameEnd <= W.name.length) :
  Calls Tryz.prog 127 #[.agg #[.string (B W.component), .string (B W.path), .string (B W.name), .int .i64 W.nameEnd, .slice a1 W.ids.length c1, .slice a2 W.unknown.length c2, .slice a3 W.langs.length c3, .string (B W.ext), .string (B W.format), .string (B W.kind), .string (B W.layout), .string (B W.lang), .string (B W.custom), .bool W.disabled, .int .i64 W.typ]] w fun e w' => e = .returned (.string (B (noIdentifier W))) /\ Below w.heap.size w w' := by
 obtain ⟨R, hR⟩ : ∃ R, R = noIdentifier W := ⟨_, rfl⟩
 rw [<- hR]
 have HR : Hid (R = if W.ids = [] then W.path else headOf W ++ W.name.take W.nameEnd) := hR
 clear hR
 have HHO : Hid (∀ wx, Calls Tryz.prog 150 #[.agg #[.string (B W.component), .string (B W.path), .string (B W.name), .int .i64 W.nameEnd, .slice a1 W.ids.length c1, .slice a2 W.unknown.length c2, .slice a3 W.langs.length c3, .string (B W.ext), .string (B W.format), .string (B W.kind), .string (B W.layout), .string (B W.lang), .string (B W.custom), .bool W.disabled, .int .i64 W.typ]] wx fun e w' => e = .returned (.string (B (headOf W))) /\ Below wx.heap.size wx w') := fun wx => c_headOf W a1 a2 a3 c1 c2 c3 wx hp hn
 have hhl : (headOf W).length <= 1000000000 := by unfold headOf; rw [List.length_take]; omega
 have g0 : (W.nameEnd : Int) <= (W.name.length : Int) := by omega
 obtain ⟨obs, hobs⟩ : ∃ o : Obj, o = .cells #[.string (B W.component), .string (B W.path), .string (B W.name), .int .i64 W.nameEnd, .slice a1 W.ids.length c1, .slice a2 W.unknown.length c2, .slice a3 W.langs.length c3, .string (B W.ext), .string (B W.format), .string (B W.kind), .string (B W.layout), .string (B W.lang), .string (B W.custom), .bool W.disabled, .int .i64 W.typ] 85 := ⟨_, rfl⟩
 have hB1 : Hid (Below w.heap.size w (w.alloc obs)) := Below_alloc w obs
 have hsb : Hid ((w.alloc obs).heap[w.heap.size]? = some (.cells #[.string (B W.component), .string (B W.path), .string (B W.name), .int .i64 W.nameEnd, .slice a1 W.ids.length c1, .slice a2 W.unknown.length c2, .slice a3 W.langs.length c3, .string (B W.ext), .string (B W.format), .string (B W.kind), .string (B W.layout), .string (B W.lang), .string (B W.custom), .bool W.disabled, .int .i64 W.typ] 85)) := by show _ = _; rw [hobs]; exact blk_new w _
 have hbl : w.heap.size < (w.alloc obs).heap.size := by simp
 by_cases h0 : W.ids = []
 ·have hb : ((W.ids.length : Int) == 0) = true := by rw [h0]; rfl
  replace h0 := Lib.hid h0
  clear HHO
  go_enter Tryz.func127, Tryz.ntmps127
  go_wp2_with fail
  rw [<- hobs]
  generalize w.alloc obs = w1 at hB1 hsb hbl |-
  go_ret
  exact ⟨ret_str (by rw [HR.out, if_pos h0.out]), hB1.out⟩
 ·have hb : ((W.ids.length : Int) == 0) = false := by rw [beq_eq_false_iff_ne]; have := List.length_pos_iff.2 h0; omega
  generalize headOf W = HO at HHO HR hhl
  have g5 : Hid ((9223372036854775807 < HO.length + W.nameEnd) = False) := eq_false (by omega)
  go_enter Tryz.func127, Tryz.ntmps127
  go_wp2_with fail
  rw [<- hobs]
  generalize w.alloc obs = w1 at hB1 hsb hbl |-
  generalize w.heap.size = b at hsb hbl |-
  have z0 : ∀ z : Fam w1, z.val.cell? ⟨b, 0, none⟩ = some (.string (B W.component)) := fun z => Fam.cell (cell_blk hsb.out 0) hbl z
  have z1 : ∀ z : Fam w1, z.val.cell? ⟨b, 1, none⟩ = some (.string (B W.path)) := fun z => Fam.cell (cell_blk hsb.out 1) hbl z
  have z2 : ∀ z : Fam w1, z.val.cell? ⟨b, 2, none⟩ = some (.string (B W.name)) := fun z => Fam.cell (cell_blk hsb.out 2) hbl z
  have z3 : ∀ z : Fam w1, z.val.cell? ⟨b, 3, none⟩ = some (.int .i64 W.nameEnd) := fun z => Fam.cell (cell_blk hsb.out 3) hbl z
  have z4 : ∀ z : Fam w1, z.val.cell? ⟨b, 4, none⟩ = some (.slice a1 W.ids.length c1) := fun z => Fam.cell (cell_blk hsb.out 4) hbl z
  have z5 : ∀ z : Fam w1, z.val.cell? ⟨b, 5, none⟩ = some (.slice a2 W.unknown.length c2) := fun z => Fam.cell (cell_blk hsb.out 5) hbl z
  have z6 : ∀ z : Fam w1, z.val.cell? ⟨b, 6, none⟩ = some (.slice a3 W.langs.length c3) := fun z => Fam.cell (cell_blk hsb.out 6) hbl z
  have z7 : ∀ z : Fam w1, z.val.cell? ⟨b, 7, none⟩ = some (.string (B W.ext)) := fun z => Fam.cell (cell_blk hsb.out 7) hbl z
  have z8 : ∀ z : Fam w1, z.val.cell? ⟨b, 8, none⟩ = some (.string (B W.format)) := fun z => Fam.cell (cell_blk hsb.out 8) hbl z
  have z9 : ∀ z : Fam w1, z.val.cell? ⟨b, 9, none⟩ = some (.string (B W.kind)) := fun z => Fam.cell (cell_blk hsb.out 9) hbl z
  have z10 : ∀ z : Fam w1, z.val.cell? ⟨b, 10, none⟩ = some (.string (B W.layout)) := fun z => Fam.cell (cell_blk hsb.out 10) hbl z
  have z11 : ∀ z : Fam w1, z.val.cell? ⟨b, 11, none⟩ = some (.string (B W.lang)) := fun z => Fam.cell (cell_blk hsb.out 11) hbl z
  have z12 : ∀ z : Fam w1, z.val.cell? ⟨b, 12, none⟩ = some (.string (B W.custom)) := fun z => Fam.cell (cell_blk hsb.out 12) hbl z
  have z13 : ∀ z : Fam w1, z.val.cell? ⟨b, 13, none⟩ = some (.bool W.disabled) := fun z => Fam.cell (cell_blk hsb.out 13) hbl z
  have z14 : ∀ z : Fam w1, z.val.cell? ⟨b, 14, none⟩ = some (.int .i64 W.typ) := fun z => Fam.cell (cell_blk hsb.out 14) hbl z
  have q1 := Lib.hid (Fam.call (w := w1) HHO.out)
  refine wp_family_all (Z := Fam w1) Fam.val (Fam.mk0 w1) rfl (by kernel_rfl) (by kernel_rfl) ?_
  quiet_step (fail)
  quiet_step ((go_at_call 150; exact q1.out _))
  quiet_step (fail)
  quiet_step (fail)
  quiet_step (fail)
  quiet_step (fail)
  quiet_step (fail)
  have gg := g5.out
  quiet_step (fail)
  clear gg
  quiet_step (fail)
  refine wpQuiet_nil ?_
  rintro _ ⟨z, rfl⟩
  have hS := Lib.hid z.bel
  clear z0 z1 z2 z3 z4 z5 z6 z7 z8 z9 z10 z11 z12 z13 z14 q1
  generalize z.val = w' at hS |-
  go_wp2_with fail
  go_ret
  exact ⟨ret_str (by rw [HR.out, if_neg h0]; try simp), hB1.out.trans (hS.out.mono hB1.out.size)⟩

set_option maxHeartbeats 4000000 in
theorem c_noLang (W : WordsM) (a1 a2 a3 : Option Addr) (c1 c2 c3 : Nat) (w : World) (hp : W.path.length <= 1000000000) (hn : W.name.length <= W.path.length) (hne : W.nameEnd <= W.name.length) (hx : W.ext.length <= 1000000000) :
  Calls Tryz.prog 126 #[.agg #[.string (B W.component), .string (B W.path), .string (B W.name), .int .i64 W.nameEnd, .slice a1 W.ids.length c1, .slice a2 W.unknown.length c2, .slice a3 W.langs.length c3, .string (B W.ext), .string (B W.format), .string (B W.kind), .string (B W.layout), .string (B W.lang), .string (B W.custom), .bool W.disabled, .int .i64 W.typ]] w fun e w' => e = .returned (.string (B (noLang W))) /\ Below w.heap.size w w' := by
 obtain ⟨R, hR⟩ : ∃ R, R = noLang W := ⟨_, rfl⟩
 rw [<- hR]
 have HR : Hid (R = if W.lang = [] then W.path else headOf W ++ W.name.take W.nameEnd ++ [46] ++ W.ext) := hR
 clear hR
 have HHO : Hid (∀ wx, Calls Tryz.prog 150 #[.agg #[.string (B W.component), .string (B W.path), .string (B W.name), .int .i64 W.nameEnd, .slice a1 W.ids.length c1, .slice a2 W.unknown.length c2, .slice a3 W.langs.length c3, .string (B W.ext), .string (B W.format), .string (B W.kind), .string (B W.layout), .string (B W.lang), .string (B W.custom), .bool W.disabled, .int .i64 W.typ]] wx fun e w' => e = .returned (.string (B (headOf W))) /\ Below wx.heap.size wx w') := fun wx => c_headOf W a1 a2 a3 c1 c2 c3 wx hp hn
 have hhl : (headOf W).length <= 1000000000 := by unfold headOf; rw [List.length_take]; omega
 have g0 : (W.nameEnd : Int) <= (W.name.length : Int) := by omega
 obtain ⟨obs, hobs⟩ : ∃ o : Obj, o = .cells #[.string (B W.component), .string (B W.path), .string (B W.name), .int .i64 W.nameEnd, .slice a1 W.ids.length c1, .slice a2 W.unknown.length c2, .slice a3 W.langs.length c3, .string (B W.ext), .string (B W.format), .string (B W.kind), .string (B W.layout), .string (B W.lang), .string (B W.custom), .bool W.disabled, .int .i64 W.typ] 85 := ⟨_, rfl⟩
 have hB1 : Hid (Below w.heap.size w (w.alloc obs)) := Below_alloc w obs
 have hsb : Hid ((w.alloc obs).heap[w.heap.size]? = some (.cells #[.string (B W.component), .string (B W.path), .string (B W.name), .int .i64 W.nameEnd, .slice a1 W.ids.length c1, .slice a2 W.unknown.length c2, .slice a3 W.langs.length c3, .string (B W.ext), .string (B W.format), .string (B W.kind), .string (B W.layout), .string (B W.lang), .string (B W.custom), .bool W.disabled, .int .i64 W.typ] 85)) := by show _ = _; rw [hobs]; exact blk_new w _
 have hbl : w.heap.size < (w.alloc obs).heap.size := by simp
 by_cases h0 : W.lang = []
 ·have hb : (W.lang == []) = true := by rw [h0]; rfl
  replace h0 := Lib.hid h0
  clear HHO
  go_enter Tryz.func126, Tryz.ntmps126
  go_wp2_with fail
  rw [<- hobs]
  generalize w.alloc obs = w1 at hB1 hsb hbl |-
  go_ret
  exact ⟨ret_str (by rw [HR.out, if_pos h0.out]), hB1.out⟩
 ·have hb : (W.lang == []) = false := by rw [beq_eq_false_iff_ne]; exact h0
  generalize headOf W = HO at HHO HR hhl
  have g5 : Hid ((9223372036854775807 < HO.length + W.nameEnd) = False) := eq_false (by omega)
  have g6 : Hid ((9223372036854775807 < HO.length + W.nameEnd + 1) = False) := eq_false (by omega)
  have g7 : Hid ((9223372036854775807 < HO.length + (W.nameEnd + 1) + W.ext.length) = False) := eq_false (by omega)
  go_enter Tryz.func126, Tryz.ntmps126
  go_wp2_with fail
  rw [<- hobs]
  generalize w.alloc obs = w1 at hB1 hsb hbl |-
  generalize w.heap.size = b at hsb hbl |-
  have z0 : ∀ z : Fam w1, z.val.cell? ⟨b, 0, none⟩ = some (.string (B W.component)) := fun z => Fam.cell (cell_blk hsb.out 0) hbl z
  have z1 : ∀ z : Fam w1, z.val.cell? ⟨b, 1, none⟩ = some (.string (B W.path)) := fun z => Fam.cell (cell_blk hsb.out 1) hbl z
  have z2 : ∀ z : Fam w1, z.val.cell? ⟨b, 2, none⟩ = some (.string (B W.name)) := fun z => Fam.cell (cell_blk hsb.out 2) hbl z
  have z3 : ∀ z : Fam w1, z.val.cell? ⟨b, 3, none⟩ = some (.int .i64 W.nameEnd) := fun z => Fam.cell (cell_blk hsb.out 3) hbl z
  have z4 : ∀ z : Fam w1, z.val.cell? ⟨b, 4, none⟩ = some (.slice a1 W.ids.length c1) := fun z => Fam.cell (cell_blk hsb.out 4) hbl z
  have z5 : ∀ z : Fam w1, z.val.cell? ⟨b, 5, none⟩ = some (.slice a2 W.unknown.length c2) := fun z => Fam.cell (cell_blk hsb.out 5) hbl z
  have z6 : ∀ z : Fam w1, z.val.cell? ⟨b, 6, none⟩ = some (.slice a3 W.langs.length c3) := fun z => Fam.cell (cell_blk hsb.out 6) hbl z
  have z7 : ∀ z : Fam w1, z.val.cell? ⟨b, 7, none⟩ = some (.string (B W.ext)) := fun z => Fam.cell (cell_blk hsb.out 7) hbl z
  have z8 : ∀ z : Fam w1, z.val.cell? ⟨b, 8, none⟩ = some (.string (B W.format)) := fun z => Fam.cell (cell_blk hsb.out 8) hbl z
  have z9 : ∀ z : Fam w1, z.val.cell? ⟨b, 9, none⟩ = some (.string (B W.kind)) := fun z => Fam.cell (cell_blk hsb.out 9) hbl z
  have z10 : ∀ z : Fam w1, z.val.cell? ⟨b, 10, none⟩ = some (.string (B W.layout)) := fun z => Fam.cell (cell_blk hsb.out 10) hbl z
  have z11 : ∀ z : Fam w1, z.val.cell? ⟨b, 11, none⟩ = some (.string (B W.lang)) := fun z => Fam.cell (cell_blk hsb.out 11) hbl z
  have z12 : ∀ z : Fam w1, z.val.cell? ⟨b, 12, none⟩ = some (.string (B W.custom)) := fun z => Fam.cell (cell_blk hsb.out 12) hbl z
  have z13 : ∀ z : Fam w1, z.val.cell? ⟨b, 13, none⟩ = some (.bool W.disabled) := fun z => Fam.cell (cell_blk hsb.out 13) hbl z
  have z14 : ∀ z : Fam w1, z.val.cell? ⟨b, 14, none⟩ = some (.int .i64 W.typ) := fun z => Fam.cell (cell_blk hsb.out 14) hbl z
  have q1 := Lib.hid (Fam.call (w := w1) HHO.out)
  refine wp_family_all (Z := Fam w1) Fam.val (Fam.mk0 w1) rfl (by kernel_rfl) (by kernel_rfl) ?_
  quiet_step (fail)
  quiet_step ((go_at_call 150; exact q1.out _))
  quiet_step (fail)
  quiet_step (fail)
  quiet_step (fail)
  quiet_step (fail)
  quiet_step (fail)
  have gg := g5.out
  quiet_step (fail)
  clear gg
  have gg := g6.out
  quiet_step (fail)
  clear gg
  quiet_step (fail)
  quiet_step (fail)
  have gg := g7.out
  quiet_step (fail)
  clear gg
  quiet_step (fail)
  refine wpQuiet_nil ?_
  rintro _ ⟨z, rfl⟩
  have hS := Lib.hid z.bel
  clear z0 z1 z2 z3 z4 z5 z6 z7 z8 z9 z10 z11 z12 z13 z14 q1
  generalize z.val = w' at hS |-
  go_wp2_with fail
  go_ret
  exact ⟨ret_str (by rw [HR.out, if_neg h0]; try simp), hB1.out.trans (hS.out.mono hB1.out.size)⟩

set_option maxHeartbeats 4000000 in
theorem c_sectionOf (W : WordsM) (a1 a2 a3 : Option Addr) (c1 c2 c3 : Nat) (w : World) (hp : W.path.length <= 100000000) :
  Calls Tryz.prog 123 #[.agg #[.string (B W.component), .string (B W.path), .string (B W.name), .int .i64 W.nameEnd, .slice a1 W.ids.length c1, .slice a2 W.unknown.length c2, .slice a3 W.langs.length c3, .string (B W.ext), .string (B W.format), .string (B W.kind), .string (B W.layout), .string (B W.lang), .string (B W.custom), .bool W.disabled, .int .i64 W.typ]] w fun e w' => e = .returned (.string (B (sectionOf W))) /\ Below w.heap.size w w' := by
 obtain ⟨R, hR⟩ : ∃ R, R = sectionOf W := ⟨_, rfl⟩
 rw [<- hR]
 have HPA : Hid (∀ wx, Calls Tryz.prog 149 #[.string (B W.path)] wx fun e w' => ∃ v, e = .returned v /\ OwnS w' wx.heap.size v (partsOf W.path) /\ Below wx.heap.size wx w') := fun wx => c_partsOf W.path wx (by omega)
 have HR : Hid (R = if (partsOf W.path).length < 2 \/ (partsOf W.path).length = 2 /\ W.typ = 3 then [] else (partsOf W.path).headD []) := hR
 clear hR
 have hpl : (partsOf W.path).length <= 100000001 := by
  unfold partsOf
  split
  ·simp
  ·have h1 := splitL_count (W.path.drop 1)
   rw [List.length_drop] at h1; omega
 generalize partsOf W.path = L at HPA HR hpl
 obtain ⟨obs, hobs⟩ : ∃ o : Obj, o = .cells #[.string (B W.component), .string (B W.path), .string (B W.name), .int .i64 W.nameEnd, .slice a1 W.ids.length c1, .slice a2 W.unknown.length c2, .slice a3 W.langs.length c3, .string (B W.ext), .string (B W.format), .string (B W.kind), .string (B W.layout), .string (B W.lang), .string (B W.custom), .bool W.disabled, .int .i64 W.typ] 85 := ⟨_, rfl⟩
 have hB1 : Hid (Below w.heap.size w (w.alloc obs)) := Below_alloc w obs
 have hsb : Hid ((w.alloc obs).heap[w.heap.size]? = some (.cells #[.string (B W.component), .string (B W.path), .string (B W.name), .int .i64 W.nameEnd, .slice a1 W.ids.length c1, .slice a2 W.unknown.length c2, .slice a3 W.langs.length c3, .string (B W.ext), .string (B W.format), .string (B W.kind), .string (B W.layout), .string (B W.lang), .string (B W.custom), .bool W.disabled, .int .i64 W.typ] 85)) := by show _ = _; rw [hobs]; exact blk_new w _
 have hbl : w.heap.size < (w.alloc obs).heap.size := by simp
 go_enter Tryz.func123, Tryz.ntmps123
 go_wp2_with fail
 rw [<- hobs]
 generalize w.alloc obs = w1 at hB1 hsb hbl |-
 generalize w.heap.size = b at hsb hbl |-
 refine (HPA.out _).mono ?_; rintro e w2 ⟨v, rfl, hO, b2⟩
 have hB2 : Hid (Below w.heap.size w w2) := hB1.out.trans (b2.mono hB1.out.size)
 have k14 : w2.cell? ⟨b, 14, none⟩ = some (.int .i64 W.typ) := ((bcell b2).1 b 14 hbl).trans (cell_blk hsb.out 14)
 have hst := hO.strs (by omega)
 obtain ⟨h140, a, cap, rfl, hcs⟩ := hst
 clear hO b2 hB1 HPA hsb
 by_cases h2 : L.length < 2
 ·have hR2 : Hid (R = []) := by show _ = _; rw [HR.out, if_pos (.inl h2)]
  have g1 : (L.length : Int) < 2 := by omega
  clear hcs HR
  go_wp2_with fail
  go_ret
  exact ⟨ret_str hR2.out.symm, hB2.out⟩
 ·have g1 : ¬ (L.length : Int) < 2 := by omega
  obtain ⟨g, o, rfl, hc0⟩ := hcs 0 (by omega)
  have hc0' : w2.cell? ⟨g, o, none⟩ = some (.string (B L[0])) := hc0
  clear hcs hc0
  by_cases h3 : L.length = 2
  ·have g2 : ((L.length : Int) == 2) = true := by rw [beq_iff_eq]; omega
   by_cases h4 : W.typ = 3
   ·have g3 : (W.typ == 3) = true := by rw [beq_iff_eq]; exact h4
    have hR2 : Hid (R = []) := by show _ = _; rw [HR.out, if_pos (.inr ⟨h3, h4⟩)]
    clear HR h4
    go_wp2_with fail
    go_ret
    exact ⟨ret_str hR2.out.symm, hB2.out⟩
   ·have g3 : (W.typ == 3) = false := by rw [beq_eq_false_iff_ne]; exact h4
    have hR2 : Hid (R = L[0]) := by
     show _ = _
     rw [HR.out, if_neg (by rintro (x | x); exact h2 x; exact h4 x.2)]
     cases L with
     | nil => simp at h2
     | cons x r => rfl
    clear HR h4
    go_wp2_with fail
    go_ret
    exact ⟨ret_str hR2.out.symm, hB2.out⟩
  ·have g2 : ((L.length : Int) == 2) = false := by rw [beq_eq_false_iff_ne]; omega
   have hR2 : Hid (R = L[0]) := by
    show _ = _
    rw [HR.out, if_neg (by rintro (x | x); exact h2 x; exact h3 x.1)]
    cases L with
    | nil => simp at h2
    | cons x r => rfl
   clear HR
   go_wp2_with fail
   go_ret
   exact ⟨ret_str hR2.out.symm, hB2.out⟩

set_option maxHeartbeats 4000000 in
theorem c_baseOf (W : WordsM) (a1 a2 a3 : Option Addr) (c1 c2 c3 : Nat) (w : World) (hp : W.path.length <= 1000000000) (hn : W.name.length <= W.path.length) (hne : W.nameEnd <= W.name.length) (hx : W.ext.length <= 1000000000) :
  Calls Tryz.prog 128 #[.agg #[.string (B W.component), .string (B W.path), .string (B W.name), .int .i64 W.nameEnd, .slice a1 W.ids.length c1, .slice a2 W.unknown.length c2, .slice a3 W.langs.length c3, .string (B W.ext), .string (B W.format), .string (B W.kind), .string (B W.layout), .string (B W.lang), .string (B W.custom), .bool W.disabled, .int .i64 W.typ]] w fun e w' => e = .returned (.string (B (baseOf W))) /\ Below w.heap.size w w' := by
 obtain ⟨R, hR⟩ : ∃ R, R = baseOf W := ⟨_, rfl⟩
 rw [<- hR]
 have HR : Hid (R = if W.ids = [] then (if W.path = [47] /\ 2 <= W.typ /\ W.typ <= 5 then [] else W.path)
  else if isBundleT W.typ then (if dirOf W.path = [47] then [] else dirOf W.path)
  else if W.typ = 2 then noIdentifier W
  else if W.ids.length = 1 then W.path
  else noIdentifier W ++ [46] ++ W.ext) := hR
 clear hR
 have HNI : Hid (∀ wx, Calls Tryz.prog 127 #[.agg #[.string (B W.component), .string (B W.path), .string (B W.name), .int .i64 W.nameEnd, .slice a1 W.ids.length c1, .slice a2 W.unknown.length c2, .slice a3 W.langs.length c3, .string (B W.ext), .string (B W.format), .string (B W.kind), .string (B W.layout), .string (B W.lang), .string (B W.custom), .bool W.disabled, .int .i64 W.typ]] wx fun e w' => e = .returned (.string (B (noIdentifier W))) /\ Below wx.heap.size wx w') := fun wx => c_noIdentifier W a1 a2 a3 c1 c2 c3 wx hp hn hne
 have HDI : Hid (∀ wx, Calls Tryz.prog 121 #[.string (B W.path)] wx fun e w' => e = .returned (.string (B (dirOf W.path))) /\ wx = w') := fun wx => c_dirOf W.path wx hp
 have HBU : Hid (∀ wx, Calls Tryz.prog 125 #[.int .i64 W.typ] wx fun e w' => e = .returned (.bool (isBundleT W.typ)) /\ wx = w') := fun wx => c_isBundle W.typ wx
 have hhl : (noIdentifier W).length <= 2000000000 := by
  unfold noIdentifier headOf
  split
  ·omega
  ·rw [List.length_append, List.length_take, List.length_take]; omega
 generalize noIdentifier W = NI at HNI HR hhl
 generalize dirOf W.path = DI at HDI HR
 obtain ⟨obs, hobs⟩ : ∃ o : Obj, o = .cells #[.string (B W.component), .string (B W.path), .string (B W.name), .int .i64 W.nameEnd, .slice a1 W.ids.length c1, .slice a2 W.unknown.length c2, .slice a3 W.langs.length c3, .string (B W.ext), .string (B W.format), .string (B W.kind), .string (B W.layout), .string (B W.lang), .string (B W.custom), .bool W.disabled, .int .i64 W.typ] 85 := ⟨_, rfl⟩
 have hB1 : Hid (Below w.heap.size w (w.alloc obs)) := Below_alloc w obs
 have hsb : Hid ((w.alloc obs).heap[w.heap.size]? = some (.cells #[.string (B W.component), .string (B W.path), .string (B W.name), .int .i64 W.nameEnd, .slice a1 W.ids.length c1, .slice a2 W.unknown.length c2, .slice a3 W.langs.length c3, .string (B W.ext), .string (B W.format), .string (B W.kind), .string (B W.layout), .string (B W.lang), .string (B W.custom), .bool W.disabled, .int .i64 W.typ] 85)) := by show _ = _; rw [hobs]; exact blk_new w _
 have hbl : w.heap.size < (w.alloc obs).heap.size := by simp
 by_cases h0 : W.ids = []
 ·have hb : ((W.ids.length : Int) == 0) = true := by rw [h0]; rfl
  replace h0 := Lib.hid h0
  clear HNI HDI HBU
  by_cases hp1 : W.path = [47]
  ·have hb2 : (W.path == [47]) = true := by rw [hp1]; rfl
   by_cases ht : 2 <= W.typ
   ·by_cases ht5 : W.typ <= 5
    ·have hR2 : Hid (R = []) := by show _ = _; rw [HR.out, if_pos h0.out, if_pos ⟨hp1, ht, ht5⟩]
     clear HR hp1
     go_enter Tryz.func128, Tryz.ntmps128
     go_wp2_with fail
     rw [<- hobs]
     generalize w.alloc obs = w1 at hB1 hsb hbl |-
     go_ret
     exact ⟨ret_str hR2.out.symm, hB1.out⟩
    ·have hR2 : Hid (R = W.path) := by show _ = _; rw [HR.out, if_pos h0.out, if_neg (fun h => ht5 h.2.2)]
     clear HR hp1
     go_enter Tryz.func128, Tryz.ntmps128
     go_wp2_with fail
     rw [<- hobs]
     generalize w.alloc obs = w1 at hB1 hsb hbl |-
     go_ret
     exact ⟨ret_str hR2.out.symm, hB1.out⟩
   ·have hR2 : Hid (R = W.path) := by show _ = _; rw [HR.out, if_pos h0.out, if_neg (fun h => ht h.2.1)]
    clear HR hp1
    go_enter Tryz.func128, Tryz.ntmps128
    go_wp2_with fail
    rw [<- hobs]
    generalize w.alloc obs = w1 at hB1 hsb hbl |-
    go_ret
    exact ⟨ret_str hR2.out.symm, hB1.out⟩
  ·have hb2 : (W.path == [47]) = false := by rw [beq_eq_false_iff_ne]; exact hp1
   have hR2 : Hid (R = W.path) := by show _ = _; rw [HR.out, if_pos h0.out, if_neg (fun h => hp1 h.1)]
   clear HR hp1
   go_enter Tryz.func128, Tryz.ntmps128
   go_wp2_with fail
   rw [<- hobs]
   generalize w.alloc obs = w1 at hB1 hsb hbl |-
   go_ret
   exact ⟨ret_str hR2.out.symm, hB1.out⟩
 ·have hb : ((W.ids.length : Int) == 0) = false := by rw [beq_eq_false_iff_ne]; have := List.length_pos_iff.2 h0; omega
  go_enter Tryz.func128, Tryz.ntmps128
  go_wp2_with fail
  rw [<- hobs]
  generalize w.alloc obs = w1 at hB1 hsb hbl |-
  generalize w.heap.size = b at hsb hbl |-
  refine (HBU.out _).mono ?_; rintro e w' ⟨rfl, rfl⟩
  have KF : Hid ((w1.cell? ⟨b, 0, none⟩ = some (.string (B W.component)) /\ w1.cell? ⟨b, 1, none⟩ = some (.string (B W.path)) /\ w1.cell? ⟨b, 2, none⟩ = some (.string (B W.name)) /\ w1.cell? ⟨b, 3, none⟩ = some (.int .i64 W.nameEnd) /\ w1.cell? ⟨b, 4, none⟩ = some (.slice a1 W.ids.length c1) /\ w1.cell? ⟨b, 5, none⟩ = some (.slice a2 W.unknown.length c2) /\ w1.cell? ⟨b, 6, none⟩ = some (.slice a3 W.langs.length c3) /\ w1.cell? ⟨b, 7, none⟩ = some (.string (B W.ext)) /\ w1.cell? ⟨b, 8, none⟩ = some (.string (B W.format)) /\ w1.cell? ⟨b, 9, none⟩ = some (.string (B W.kind)) /\ w1.cell? ⟨b, 10, none⟩ = some (.string (B W.layout)) /\ w1.cell? ⟨b, 11, none⟩ = some (.string (B W.lang)) /\ w1.cell? ⟨b, 12, none⟩ = some (.string (B W.custom)) /\ w1.cell? ⟨b, 13, none⟩ = some (.bool W.disabled) /\ w1.cell? ⟨b, 14, none⟩ = some (.int .i64 W.typ)) /\ Below w1.heap.size w1 w1) := ⟨⟨cell_blk hsb.out 0, cell_blk hsb.out 1, cell_blk hsb.out 2, cell_blk hsb.out 3, cell_blk hsb.out 4, cell_blk hsb.out 5, cell_blk hsb.out 6, cell_blk hsb.out 7, cell_blk hsb.out 8, cell_blk hsb.out 9, cell_blk hsb.out 10, cell_blk hsb.out 11, cell_blk hsb.out 12, cell_blk hsb.out 13, cell_blk hsb.out 14⟩, Below.refl _ _⟩
  have KD : Hid ((w1.drew.cell? ⟨b, 0, none⟩ = some (.string (B W.component)) /\ w1.drew.cell? ⟨b, 1, none⟩ = some (.string (B W.path)) /\ w1.drew.cell? ⟨b, 2, none⟩ = some (.string (B W.name)) /\ w1.drew.cell? ⟨b, 3, none⟩ = some (.int .i64 W.nameEnd) /\ w1.drew.cell? ⟨b, 4, none⟩ = some (.slice a1 W.ids.length c1) /\ w1.drew.cell? ⟨b, 5, none⟩ = some (.slice a2 W.unknown.length c2) /\ w1.drew.cell? ⟨b, 6, none⟩ = some (.slice a3 W.langs.length c3) /\ w1.drew.cell? ⟨b, 7, none⟩ = some (.string (B W.ext)) /\ w1.drew.cell? ⟨b, 8, none⟩ = some (.string (B W.format)) /\ w1.drew.cell? ⟨b, 9, none⟩ = some (.string (B W.kind)) /\ w1.drew.cell? ⟨b, 10, none⟩ = some (.string (B W.layout)) /\ w1.drew.cell? ⟨b, 11, none⟩ = some (.string (B W.lang)) /\ w1.drew.cell? ⟨b, 12, none⟩ = some (.string (B W.custom)) /\ w1.drew.cell? ⟨b, 13, none⟩ = some (.bool W.disabled) /\ w1.drew.cell? ⟨b, 14, none⟩ = some (.int .i64 W.typ)) /\ Below w1.heap.size w1 w1.drew) := ⟨KF.out.1, Below_drewN (Below.refl _ _) 1⟩
  have KS : Hid (∀ w' w'', ((w'.cell? ⟨b, 0, none⟩ = some (.string (B W.component)) /\ w'.cell? ⟨b, 1, none⟩ = some (.string (B W.path)) /\ w'.cell? ⟨b, 2, none⟩ = some (.string (B W.name)) /\ w'.cell? ⟨b, 3, none⟩ = some (.int .i64 W.nameEnd) /\ w'.cell? ⟨b, 4, none⟩ = some (.slice a1 W.ids.length c1) /\ w'.cell? ⟨b, 5, none⟩ = some (.slice a2 W.unknown.length c2) /\ w'.cell? ⟨b, 6, none⟩ = some (.slice a3 W.langs.length c3) /\ w'.cell? ⟨b, 7, none⟩ = some (.string (B W.ext)) /\ w'.cell? ⟨b, 8, none⟩ = some (.string (B W.format)) /\ w'.cell? ⟨b, 9, none⟩ = some (.string (B W.kind)) /\ w'.cell? ⟨b, 10, none⟩ = some (.string (B W.layout)) /\ w'.cell? ⟨b, 11, none⟩ = some (.string (B W.lang)) /\ w'.cell? ⟨b, 12, none⟩ = some (.string (B W.custom)) /\ w'.cell? ⟨b, 13, none⟩ = some (.bool W.disabled) /\ w'.cell? ⟨b, 14, none⟩ = some (.int .i64 W.typ)) /\ Below w1.heap.size w1 w') -> Below w'.heap.size w' w'' -> ((w''.cell? ⟨b, 0, none⟩ = some (.string (B W.component)) /\ w''.cell? ⟨b, 1, none⟩ = some (.string (B W.path)) /\ w''.cell? ⟨b, 2, none⟩ = some (.string (B W.name)) /\ w''.cell? ⟨b, 3, none⟩ = some (.int .i64 W.nameEnd) /\ w''.cell? ⟨b, 4, none⟩ = some (.slice a1 W.ids.length c1) /\ w''.cell? ⟨b, 5, none⟩ = some (.slice a2 W.unknown.length c2) /\ w''.cell? ⟨b, 6, none⟩ = some (.slice a3 W.langs.length c3) /\ w''.cell? ⟨b, 7, none⟩ = some (.string (B W.ext)) /\ w''.cell? ⟨b, 8, none⟩ = some (.string (B W.format)) /\ w''.cell? ⟨b, 9, none⟩ = some (.string (B W.kind)) /\ w''.cell? ⟨b, 10, none⟩ = some (.string (B W.layout)) /\ w''.cell? ⟨b, 11, none⟩ = some (.string (B W.lang)) /\ w''.cell? ⟨b, 12, none⟩ = some (.string (B W.custom)) /\ w''.cell? ⟨b, 13, none⟩ = some (.bool W.disabled) /\ w''.cell? ⟨b, 14, none⟩ = some (.int .i64 W.typ)) /\ Below w1.heap.size w1 w'')) := fun w' w'' h h2 => wc_keep hbl h h2
  obtain ⟨⟨k0, k1, k2, k3, k4, k5, k6, k7, k8, k9, k10, k11, k12, k13, k14⟩, -⟩ := KF.out
  cases ib : isBundleT W.typ with
  | true =>
   by_cases hd : DI = [47]
   ·have hb3 : (DI == [47]) = true := by rw [hd]; rfl
    have hR2 : Hid (R = []) := by show _ = _; rw [HR.out, if_neg h0, if_pos ib, if_pos hd]
    clear HR hd
    go_wp2_with fail
    refine (HDI.out _).mono ?_; rintro e w' ⟨rfl, rfl⟩
    go_wp2_with fail
    go_ret
    exact ⟨ret_str hR2.out.symm, hB1.out⟩
   ·have hb3 : (DI == [47]) = false := by rw [beq_eq_false_iff_ne]; exact hd
    have hR2 : Hid (R = DI) := by show _ = _; rw [HR.out, if_neg h0, if_pos ib, if_neg hd]
    clear HR hd
    go_wp2_with fail
    refine (HDI.out _).mono ?_; rintro e w' ⟨rfl, rfl⟩
    go_wp2_with fail
    go_ret
    exact ⟨ret_str hR2.out.symm, hB1.out⟩
  | false =>
   have nb : ¬ isBundleT W.typ = true := by rw [ib]; decide
   by_cases ht : W.typ = 2
   ·have hb3 : (W.typ == 2) = true := by rw [beq_iff_eq]; exact ht
    have hR2 : Hid (R = NI) := by show _ = _; rw [HR.out, if_neg h0, if_neg nb, if_pos ht]
    clear HR ht
    go_wp2_with fail
    refine (HNI.out _).mono ?_; rintro e w2 ⟨rfl, b2⟩
    go_wp2_with fail
    go_ret
    exact ⟨ret_str hR2.out.symm, hB1.out.trans (b2.mono hB1.out.size)⟩
   ·have hb3 : (W.typ == 2) = false := by rw [beq_eq_false_iff_ne]; exact ht
    by_cases h1 : W.ids.length = 1
    ·have hb4 : ((W.ids.length : Int) == 1) = true := by rw [beq_iff_eq]; omega
     have hR2 : Hid (R = W.path) := by show _ = _; rw [HR.out, if_neg h0, if_neg nb, if_neg ht, if_pos h1]
     clear HR ht
     go_wp2_with fail
     go_ret
     exact ⟨ret_str hR2.out.symm, hB1.out⟩
    ·have hb4 : ((W.ids.length : Int) == 1) = false := by rw [beq_eq_false_iff_ne]; omega
     have g5 : Hid ((9223372036854775807 < NI.length + 1) = False) := eq_false (by omega)
     have g6 : Hid ((9223372036854775807 < NI.length + 1 + W.ext.length) = False) := eq_false (by omega)
     have hR2 : Hid (R = NI ++ [46] ++ W.ext) := by show _ = _; rw [HR.out, if_neg h0, if_neg nb, if_neg ht, if_neg h1]
     clear HR ht
     go_wp2_with fail
     have z0 : ∀ z : Fam w1, z.val.cell? ⟨b, 0, none⟩ = some (.string (B W.component)) := fun z => Fam.cell (cell_blk hsb.out 0) hbl z
     have z1 : ∀ z : Fam w1, z.val.cell? ⟨b, 1, none⟩ = some (.string (B W.path)) := fun z => Fam.cell (cell_blk hsb.out 1) hbl z
     have z2 : ∀ z : Fam w1, z.val.cell? ⟨b, 2, none⟩ = some (.string (B W.name)) := fun z => Fam.cell (cell_blk hsb.out 2) hbl z
     have z3 : ∀ z : Fam w1, z.val.cell? ⟨b, 3, none⟩ = some (.int .i64 W.nameEnd) := fun z => Fam.cell (cell_blk hsb.out 3) hbl z
     have z4 : ∀ z : Fam w1, z.val.cell? ⟨b, 4, none⟩ = some (.slice a1 W.ids.length c1) := fun z => Fam.cell (cell_blk hsb.out 4) hbl z
     have z5 : ∀ z : Fam w1, z.val.cell? ⟨b, 5, none⟩ = some (.slice a2 W.unknown.length c2) := fun z => Fam.cell (cell_blk hsb.out 5) hbl z
     have z6 : ∀ z : Fam w1, z.val.cell? ⟨b, 6, none⟩ = some (.slice a3 W.langs.length c3) := fun z => Fam.cell (cell_blk hsb.out 6) hbl z
     have z7 : ∀ z : Fam w1, z.val.cell? ⟨b, 7, none⟩ = some (.string (B W.ext)) := fun z => Fam.cell (cell_blk hsb.out 7) hbl z
     have z8 : ∀ z : Fam w1, z.val.cell? ⟨b, 8, none⟩ = some (.string (B W.format)) := fun z => Fam.cell (cell_blk hsb.out 8) hbl z
     have z9 : ∀ z : Fam w1, z.val.cell? ⟨b, 9, none⟩ = some (.string (B W.kind)) := fun z => Fam.cell (cell_blk hsb.out 9) hbl z
     have z10 : ∀ z : Fam w1, z.val.cell? ⟨b, 10, none⟩ = some (.string (B W.layout)) := fun z => Fam.cell (cell_blk hsb.out 10) hbl z
     have z11 : ∀ z : Fam w1, z.val.cell? ⟨b, 11, none⟩ = some (.string (B W.lang)) := fun z => Fam.cell (cell_blk hsb.out 11) hbl z
     have z12 : ∀ z : Fam w1, z.val.cell? ⟨b, 12, none⟩ = some (.string (B W.custom)) := fun z => Fam.cell (cell_blk hsb.out 12) hbl z
     have z13 : ∀ z : Fam w1, z.val.cell? ⟨b, 13, none⟩ = some (.bool W.disabled) := fun z => Fam.cell (cell_blk hsb.out 13) hbl z
     have z14 : ∀ z : Fam w1, z.val.cell? ⟨b, 14, none⟩ = some (.int .i64 W.typ) := fun z => Fam.cell (cell_blk hsb.out 14) hbl z
     have q1 := Lib.hid (Fam.call (w := w1) HNI.out)
     refine wp_family_all (Z := Fam w1) Fam.val (Fam.mk0 w1) rfl (by kernel_rfl) (by kernel_rfl) ?_
     quiet_step (fail)
     quiet_step ((go_at_call 127; exact q1.out _))
     have gg := g5.out
     quiet_step (fail)
     clear gg
     quiet_step (fail)
     quiet_step (fail)
     have gg := g6.out
     quiet_step (fail)
     clear gg
     quiet_step (fail)
     refine wpQuiet_nil ?_
     rintro _ ⟨z, rfl⟩
     have hS := Lib.hid z.bel
     clear z0 z1 z2 z3 z4 z5 z6 z7 z8 z9 z10 z11 z12 z13 z14 q1
     generalize z.val = w' at hS |-
     go_wp2_with fail
     go_ret
     exact ⟨ret_str (by rw [hR2.out]; try simp), hB1.out.trans (hS.out.mono hB1.out.size)⟩

end Go.Proofs.YtjkecadfakjanaaGreatDoor
