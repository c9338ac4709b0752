/- The reference's WordsKnown and PathKnown walked: which paths something is said of. Conditions: texts of at most 2147483647 bytes; a site in memory. -/
import Derived.Test.YtjkecadfakjanaaGreatDoorSpecB
import Derived.Test.YtjkecadfakjanaaGreatDoorSpecC
set_option maxRecDepth 100000
set_option linter.unusedVariables false
set_option linter.unusedSimpArgs false
namespace Go.Proofs.YtjkecadfakjanaaGreatDoor
open Go.RowKit
attribute [local go_sem] B_extract B_toList B_append

/-! ### A row of texts that the call has built -/
def strCells (l : List Str) : List Value := l.map fun x => .string (B x)
theorem strCells_add (l : List Str) (x : Str) : strCells (l ++ [x]) = strCells l ++ [.string (B x)] := by simp [strCells]
structure OwnS (w : World) (base : Nat) (v : Value) (l : List Str) : Prop where
 own : w.ownsRow base 9 1 v l.length (strCells l)
 le : base <= w.heap.size
theorem OwnS.nil (w : World) : OwnS w w.heap.size (.slice none 0 0) [] := ⟨World.ownsRow_nil _ _ _ _, Nat.le_refl _⟩
theorem OwnS.nil' {w : World} {base : Nat} (h : base <= w.heap.size) : OwnS w base (.slice none 0 0) [] := ⟨World.ownsRow_nil _ _ _ _, h⟩
theorem OwnS.alloc {w : World} {base : Nat} {v : Value} {l : List Str} (h : OwnS w base v l) (o : Obj) : OwnS (w.alloc o) base v l := ⟨h.own.alloc o, by have := h.le; simp; omega⟩
theorem OwnS.below {w w' : World} {base : Nat} {v : Value} {l : List Str} (h : OwnS w base v l) (hb : Below w.heap.size w w') : OwnS w' base v l :=
 ⟨ownsRow_far h.own fun g hg => by obtain ⟨cur, _, _, hl⟩ := ownsRow_blk h.own hg; exact hb.block g hl, Nat.le_trans h.le hb.size⟩
theorem OwnS.strs {w : World} {base : Nat} {v : Value} {l : List Str} (h : OwnS w base v l) (hl : l.length <= 140737488355328) : StrsAt w v l := by
 refine ⟨hl, ?_⟩
 obtain ⟨h1, h | ⟨g, cap, cur, rfl, hb, hg, hn, hm, hc, ht⟩⟩ := h.own
 ·obtain ⟨rfl, h0⟩ := h
  have : l = [] := List.length_eq_zero_iff.1 h0
  subst this
  exact ⟨none, 0, rfl, fun i hi => by simp at hi⟩
 ·refine ⟨some ⟨g, 0, none⟩, cap, rfl, fun i hi => ⟨g, 0, rfl, ?_⟩⟩
  have h1 : (strCells l)[i]? = some (.string (B l[i])) := by simp [strCells, hi]
  rw [<- ht, List.getElem?_take_of_lt (by omega), Array.getElem?_toList] at h1
  rw [Nat.zero_add, cell_blk hg, h1]
theorem OwnS.slice {w : World} {base : Nat} {v : Value} {l : List Str} (h : OwnS w base v l) : ∃ a cap, v = .slice a l.length cap := by
 obtain ⟨h1, h | ⟨g, cap, cur, rfl, hb, hg, hn, hm, hc, ht⟩⟩ := h.own
 ·obtain ⟨rfl, h0⟩ := h
  exact ⟨none, 0, by rw [h0]⟩
 ·exact ⟨_, cap, rfl⟩

/-- Where the row lies behind an append of one text: where it lay, or in a new block. -/
theorem append_place {P : Program} {w : World} {base : Nat} (t ty e : TypeId) (i : TypeInfo) (z : Value) (bytes : Nat) (ht : P.underlying t = some (.slice e)) (hi : P.info? e = some i) (hz : i.zero = some z)
  (hsize : i.size = 1) (hby : i.bytes = bytes) (v : Value) (n : Nat) (xs : List Value) (hown : w.ownsRow base e 1 v n xs)
  (a : Addr) (u : Value) (hnews : ∀ j v, [u][j]? = some v -> w.cell? (a.add j) = some v) (h1 : u.oneCell' = true)
  (h63 : n + 1 <= maxLen) (hbytes : (n + 1) * bytes <= 140737488355328) {v' : Value} {w' : World}
  (hr : (Builtin.append_ #[t, t] ty #[v, .slice (some a) 1 1]).run P w = .ok v' w') : v'.ownBlock = v.ownBlock \/ v'.ownBlock = some w.heap.size := by
 subst hby
 have hsmall : n + 1 <= 9223372036854775807 := by simp only [maxLen] at h63; omega
 rcases hown.2 with ⟨rfl, rfl⟩ | ⟨g, cap, cur, rfl, hbg, hg, hnc, hcm, hcs, htake⟩
 ·have hx := run_append_nil (P := P) w t ty e i z ht hi hz a 1 1 [u] (by rw [hsize]; rfl) hnews (by omega) (by omega) (by omega)
  rw [hx] at hr
  injection hr with h2 h3
  subst h2
  exact .inr rfl
 ·by_cases hroom : n + 1 <= cap
  ·have hx := run_append_room (P := P) w t ty e i ht hi g n cap cur hg a 1 1 [u] (by rw [hsize]; rfl) hnews (by intro y hy; simp at hy; subst hy; exact h1) hroom (by rw [hcs, hsize]; simp; omega)
   rw [hx] at hr
   injection hr with h2 h3
   subst h2
   exact .inl rfl
  ·have holds : ∀ j u, xs[j]? = some u -> w.cell? ((⟨g, 0, none⟩ : Addr).add j) = some u := hown.cells (g := g) rfl
   have hx := run_append_grow (P := P) w t ty e i z ht hi hz ⟨g, 0, none⟩ n cap xs (by rw [hown.1, hsize]) holds a 1 1 [u] (by rw [hsize]; rfl) hnews (by omega) (by omega) (growslice_fits (by omega) hbytes)
   rw [hx] at hr
   injection hr with h2 h3
   subst h2
   exact .inr rfl

theorem wpList_appS {ops : Array Oper} {rest : List Oper} {o : Oper} {a : Act} {w : World} {Q : Exit -> Act -> World -> Prop} (hgd : o.guard = none) (sl x : Operand)
  (ho : o.op = .call { callee := .builtin .append, args := #[sl, x], argTypes := #[22, 22] })
  (base : Nat) (v : Value) (l : List Str) (t : Str) (hs : a.eval sl = v) (hown : OwnS w base v l) (g : Nat) (hx : a.eval x = .slice (some ⟨g, 0, none⟩) 1 1) (hc : w.cell? ⟨g, 0, none⟩ = some (.string (B t))) (hlen : l.length <= 1000000000000)
  (h : ∀ v' w', OwnS w' base v' (l ++ [t]) -> w.grownBy w' v.ownBlock -> (v'.ownBlock = v.ownBlock \/ v'.ownBlock = some w.heap.size) -> wpList Tryz.prog ops Q rest (a.put o.dst v') w') : wpList Tryz.prog ops Q (o :: rest) a w := by
 obtain ⟨i0, hi, hz0, hz1, hz2⟩ := info_split Tryz.infoStr
 have hnews : ∀ j u, [Value.string (B t)][j]? = some u -> w.cell? ((⟨g, 0, none⟩ : Addr).add j) = some u := by
  intro j u hj
  match j, hj with
  | 0, hj => simp at hj; subst hj; simpa [Addr.add] using hc
 have h1 : ∀ u ∈ [Value.string (B t)], u.oneCell' = true := by intro u hu; simp at hu; subst hu; rfl
 have h63 : l.length + 1 <= maxLen := Nat.le_trans (show l.length + 1 <= 1000000000001 by omega) (by decide)
 obtain ⟨v', w', hr, h2, h3, h4⟩ := run_append_own (P := Tryz.prog) w base 22 o.type 9 i0 _ 1 16 Tryz.underlying22 hi hz0 hz1 hz2 rfl (by decide) v l.length _ hown.own ⟨g, 0, none⟩ 1 1 [.string (B t)] rfl hnews h1 h63 (by omega) hown.le
 have h5 := append_place (P := Tryz.prog) (w := w) (base := base) 22 o.type 9 i0 _ 16 Tryz.underlying22 hi hz0 hz1 hz2 v l.length _ hown.own ⟨g, 0, none⟩ (.string (B t)) hnews rfl h63 (by omega) hr
 refine wpList_plain hgd fun _ hK => ?_
 unfold Oper.wp execOp
 simp only [ho, resolve, invoke, builtin, Sem.run_bind, Sem.run_pure, Result.andThen_ok, List.map_toArray, List.map_cons, List.map_nil, hs, hx, hr]
 refine hK _ _ (h v' w' ⟨?_, Nat.le_trans hown.le h3.size⟩ h3 h5)
 rw [List.length_append, strCells_add]
 exact h2

/-! ### The points' order -/
theorem cutsFrom_mem (s : Str) : ∀ (n i : Nat) {x : Nat}, x ∈ cutsFrom s n i -> i <= x /\ x < s.length
 | 0, i, x, h => by simp [cutsFrom] at h
 | n + 1, i, x, h => by
  rw [cutsFrom] at h
  split at h
  ·simp at h
  ·split at h
   ·have := cutsFrom_mem s n (i + 1) h; omega
   ·split at h
    ·rcases List.mem_cons.1 h with rfl | h
     ·omega
     ·have := cutsFrom_mem s n (i + 1) h; omega
    ·split at h
     ·rename_i k hk
      have hk2 := (wrapEnd_spec _ _ hk).1
      rcases List.mem_cons.1 h with rfl | h
      ·omega
      ·have := cutsFrom_mem s n (k + 1) h; omega
     ·rcases List.mem_cons.1 h with rfl | h
      ·omega
      ·have := cutsFrom_mem s n (i + 1) h; omega
theorem cutsFrom_sorted (s : Str) : ∀ (n i : Nat), (cutsFrom s n i).Pairwise (· < ·)
 | 0, i => by simp [cutsFrom]
 | n + 1, i => by
  rw [cutsFrom]
  split
  ·exact List.Pairwise.nil
  ·split
   ·exact cutsFrom_sorted s n (i + 1)
   ·split
    ·exact List.pairwise_cons.2 ⟨fun x h => by have := cutsFrom_mem s n (i + 1) h; omega, cutsFrom_sorted s n (i + 1)⟩
    ·split
     ·rename_i k hk
      have hk2 := (wrapEnd_spec _ _ hk).1
      exact List.pairwise_cons.2 ⟨fun x h => by have := cutsFrom_mem s n (k + 1) h; omega, cutsFrom_sorted s n (k + 1)⟩
     ·exact List.pairwise_cons.2 ⟨fun x h => by have := cutsFrom_mem s n (i + 1) h; omega, cutsFrom_sorted s n (i + 1)⟩
theorem cut_lt {name : Str} {i : Nat} (h : i < (cutPoints name).length) : (cutPoints name)[i] < name.length := (cutsFrom_mem name _ _ (List.getElem_mem h)).2
theorem cut_mono {name : Str} {i j : Nat} (hij : i < j) (hj : j < (cutPoints name).length) : (cutPoints name)[i] < (cutPoints name)[j] :=
 List.pairwise_iff_getElem.1 (cutsFrom_sorted name _ _) i j (Nat.lt_trans hij hj) hj hij

/-- Where the i-th word ends. -/
def endAt (name : Str) (cuts : List Nat) (i : Nat) : Nat := if i < cuts.length then cuts.getD i 0 else name.length
theorem endAt_lt {name : Str} {i : Nat} (h : i < (cutPoints name).length) : endAt name (cutPoints name) i + 1 <= endAt name (cutPoints name) (i + 1) := by
 unfold endAt
 rw [if_pos h]
 have h1 := cut_lt h
 by_cases h2 : i + 1 < (cutPoints name).length
 ·rw [if_pos h2]
  have := cut_mono (i := i) (j := i + 1) (by omega) h2
  simp only [List.getD_eq_getElem?_getD, List.getElem?_eq_getElem h, List.getElem?_eq_getElem h2, Option.getD_some]
  omega
 ·rw [if_neg h2]
  simp only [List.getD_eq_getElem?_getD, List.getElem?_eq_getElem h, Option.getD_some]
  omega
theorem endAt_le {name : Str} (i : Nat) : endAt name (cutPoints name) i <= name.length := by
 unfold endAt
 split
 ·rename_i h
  have := cut_lt h
  simp only [List.getD_eq_getElem?_getD, List.getElem?_eq_getElem h, Option.getD_some]
  omega
 ·exact Nat.le_refl _

/-- The tags behind a word: none where nothing is said. -/
def tagsOf (word : Str) (T : List Str) : Option (List Str) := if wrapOk word then tagWord (wrapStr word) tagsList T else some T
def wordAt (name : Str) (cuts : List Nat) (i fr : Nat) : Str := (name.drop fr).take (endAt name cuts i - fr)
theorem layoutWords_at {name : Str} {cuts : List Nat} {i fr : Nat} {T : List Str} (h : i <= cuts.length) :
  layoutWords name cuts (cuts.length - i) fr T =
   if wordAt name cuts i fr = [] then false
   else match tagsOf (wordAt name cuts i fr) T with
    | none => false
    | some T' => if i < cuts.length then layoutWords name cuts (cuts.length - (i + 1)) (endAt name cuts i + 1) T' else true := by
 by_cases hi : i < cuts.length
 ·have e1 : cuts.length - i = (cuts.length - (i + 1)) + 1 := by omega
  have e2 : cuts.getD (cuts.length - (cuts.length - (i + 1) + 1)) 0 = endAt name cuts i := by
   unfold endAt
   rw [if_pos hi, show cuts.length - (cuts.length - (i + 1) + 1) = i by omega]
  rw [e1, layoutWords]
  try dsimp only
  rw [e2]
  show (if wordAt name cuts i fr = [] then false else _) = _
  by_cases hw : wordAt name cuts i fr = []
  ·rw [if_pos hw, if_pos hw]
  ·rw [if_neg hw, if_neg hw]
   unfold tagsOf wrapOk wrapStr
   show (match (match wrapped (wordAt name cuts i fr) with | some x => tagWord x tagsList T | none => some T) with | some tags' => _ | none => false) = _
   cases wrapped (wordAt name cuts i fr) with
   | none => exact (if_pos hi).symm
   | some x =>
    show (match tagWord x tagsList T with | some tags' => _ | none => false) = (match tagWord x tagsList T with | none => false | some T' => _)
    cases tagWord x tagsList T with
    | none => rfl
    | some T' => exact (if_pos hi).symm
 ·have e1 : cuts.length - i = 0 := by omega
  have e2 : endAt name cuts i = name.length := by unfold endAt; rw [if_neg hi]
  rw [e1, layoutWords]
  try dsimp only
  rw [<- e2]
  show (if wordAt name cuts i fr = [] then false else _) = _
  by_cases hw : wordAt name cuts i fr = []
  ·rw [if_pos hw, if_pos hw]
  ·rw [if_neg hw, if_neg hw]
   unfold tagsOf wrapOk wrapStr
   show (match wrapped (wordAt name cuts i fr) with | some x => (tagWord x tagsList T).isSome | none => true) = _
   cases wrapped (wordAt name cuts i fr) with
   | none => exact (if_neg hi).symm
   | some x =>
    show (tagWord x tagsList T).isSome = (match tagWord x tagsList T with | none => false | some T' => _)
    cases tagWord x tagsList T with
    | none => rfl
    | some T' => exact (if_neg hi).symm
theorem wordAt_len (name : Str) (cuts : List Nat) (i fr : Nat) : (wordAt name cuts i fr).length <= name.length := by
 unfold wordAt
 rw [List.length_take, List.length_drop]; omega

/-- The first tests of wordsKnown. -/
theorem wordsKnown_at (comp name : Str) (h : (cutPoints name) ≠ []) (k1 k2 k3 : Bool) (l : Nat) (hl : (cutPoints name).getLastD 0 = l)
  (h1 : wrapOk (name.drop (l + 1)) = k1) (h2 : ((((cutPoints name).headD 0 : Nat) : Int) == 0) = k2) (h3 : (((l : Nat) : Int) + 1 == (name.length : Int)) = k3) :
  wordsKnown comp name = if (k1 || (k2 || k3)) then false else if comp == kLayouts then layoutWords name (cutPoints name) (cutPoints name).length 0 [] else true := by
 unfold wordsKnown
 dsimp only
 rw [if_neg h, hl]
 have e2 : ((cutPoints name).headD 0 = 0) ↔ k2 = true := by rw [<- h2, beq_iff_eq]; omega
 have e3 : (l + 1 = name.length) ↔ k3 = true := by rw [<- h3, beq_iff_eq]; omega
 have e1 : (wrapped (name.drop (l + 1))).isSome = k1 := h1
 have e4 : (if comp = kLayouts then layoutWords name (cutPoints name) (cutPoints name).length 0 [] else true) = (if (comp == kLayouts) = true then layoutWords name (cutPoints name) (cutPoints name).length 0 [] else true) := by
  by_cases hc : comp = kLayouts
  ·rw [if_pos hc, if_pos (by rw [hc]; decide)]
  ·rw [if_neg hc, if_neg (by simpa using hc)]
 rw [e4, e1]
 by_cases hk : (k1 || (k2 || k3)) = true
 ·rw [if_pos hk, if_pos]
  simp only [Bool.or_eq_true] at hk
  rcases hk with a | a | a
  ·exact .inl a
  ·exact .inr (.inl (e2.2 a))
  ·exact .inr (.inr (e3.2 a))
 ·rw [if_neg hk, if_neg]
  rintro (a | a | a) <;> apply hk
  ·rw [a]; rfl
  ·rw [e2.1 a]; cases k1 <;> rfl
  ·rw [e3.1 a]; cases k1 <;> cases k2 <;> rfl

theorem cutsFrom_len (s : Str) : ∀ (n i : Nat), (cutsFrom s n i).length <= n
 | 0, i => Nat.le_refl _
 | n + 1, i => by
  rw [cutsFrom]
  split
  ·simp
  ·split
   ·have := cutsFrom_len s n (i + 1); omega
   ·split
    ·have := cutsFrom_len s n (i + 1); rw [List.length_cons]; omega
    ·split
     ·rename_i k hk
      have := cutsFrom_len s n (k + 1); rw [List.length_cons]; omega
     ·have := cutsFrom_len s n (i + 1); rw [List.length_cons]; omega

/-- The tags from the j-th on. -/
def tagsFrom (ok : Bool) (x : Str) (j : Nat) (T : List Str) : Option (List Str) := if ok then tagWord x (tagsList.drop j) T else some T
theorem tagsFrom_zero (word : Str) (T : List Str) : tagsOf word T = tagsFrom (wrapOk word) (wrapStr word) 0 T := rfl
theorem tagsFrom_end (ok : Bool) (x : Str) (T : List Str) : tagsFrom ok x 3 T = some T := by cases ok <;> rfl
theorem tagsFrom_off (x : Str) (j : Nat) (T : List Str) : tagsFrom false x j T = tagsFrom false x (j + 1) T := rfl
theorem tagsFrom_no {x t : Str} {j : Nat} {T : List Str} (hj : j < tagsList.length) (ht : t = tagsList[j]) (h : startsL (lowerL x) t = false) : tagsFrom true x j T = tagsFrom true x (j + 1) T := by
 unfold tagsFrom
 rw [if_pos rfl, if_pos rfl, drop_cons hj, <- ht, tagWord, if_neg (by rw [h]; decide)]
theorem tagsFrom_bad {x t : Str} {j : Nat} {T : List Str} (hj : j < tagsList.length) (ht : t = tagsList[j]) (h : startsL (lowerL x) t = true) (hb : amongL T t = true \/ x.length = t.length) : tagsFrom true x j T = none := by
 unfold tagsFrom
 rw [if_pos rfl, drop_cons hj, <- ht, tagWord, if_pos h, if_pos hb]
theorem tagsFrom_add {x t : Str} {j : Nat} {T : List Str} (hj : j < tagsList.length) (ht : t = tagsList[j]) (h : startsL (lowerL x) t = true) (hb : ¬ (amongL T t = true \/ x.length = t.length)) : tagsFrom true x j T = tagsFrom true x (j + 1) (T ++ [t]) := by
 unfold tagsFrom
 rw [if_pos rfl, if_pos rfl, drop_cons hj, <- ht, tagWord, if_pos h, if_neg hb]
theorem tags_short {j : Nat} (h : j < tagsList.length) : tagsList[j].length <= 20 := by
 have : ∀ t ∈ tagsList, t.length <= 20 := by decide
 exact this _ (List.getElem_mem h)
theorem wrapStr_len (s : Str) : (wrapStr s).length <= s.length := by
 unfold wrapStr wrapped
 split
 ·simp
 ·show ((s.drop 1).take (s.length - 2)).length <= _
  rw [List.length_take, List.length_drop]; omega
theorem grown_below {n : Nat} {a w w' : World} {row : Option Nat} (h : Below n a w) (hg : w.grownBy w' row) (hn : n <= w.heap.size) (hr : ∀ g, row = some g -> n <= g) : Below n a w' :=
 ⟨hg.os.trans h.os, hg.tape.trans h.tape, hg.output.trans h.output, Nat.le_trans h.size hg.size, fun k hk => (hg.block k (by omega) (fun e => by have := hr k e.symm; omega)).trans (h.block k hk)⟩

set_option maxHeartbeats 16000000 in
theorem c_WordsKnown (comp name : Str) (w : World) (hs : name.length <= 1000000000) (hcl : comp.length <= 70368744177664) :
  Calls Tryz.prog 59 #[.string (B comp), .string (B name)] w fun e w' => e = .returned (.bool (wordsKnown comp name)) /\ Below w.heap.size w w' := by
 have HCP := Lib.hid (c_cutPoints name w hs)
 have HWR := Lib.hid (fun (t : Str) (wx : World) (ht : t.length <= 1000000000) => c_wrapped t wx (Nat.le_trans ht (by decide)))
 obtain ⟨C, hC⟩ : ∃ C, C = cutPoints name := ⟨_, rfl⟩
 have hCn : C.length <= name.length := by rw [hC]; exact cutsFrom_len _ _ _
 have HCL : Hid (∀ i (h : i < C.length), C[i] < name.length) := by subst hC; exact fun i h => cut_lt h
 have HEL : Hid (∀ i, i < C.length -> endAt name C i + 1 <= endAt name C (i + 1)) := by subst hC; exact fun i h => endAt_lt h
 have HEE : Hid (∀ i, endAt name C i <= name.length) := by subst hC; exact fun i => endAt_le i
 obtain ⟨R, hR⟩ : ∃ R, R = wordsKnown comp name := ⟨_, rfl⟩
 have HWK : Hid (∀ (h : C ≠ []) (k1 k2 k3 : Bool) (l : Nat) (hl : C.getLastD 0 = l)
  (h1 : wrapOk (name.drop (l + 1)) = k1) (h2 : (((C.headD 0 : Nat) : Int) == 0) = k2) (h3 : (((l : Nat) : Int) + 1 == (name.length : Int)) = k3),
  R = if (k1 || (k2 || k3)) then false else if comp == kLayouts then layoutWords name C C.length 0 [] else true) := by
  subst hC; rw [hR]; exact wordsKnown_at comp name
 have HW0 : Hid (C.length = 0 -> R = true) := fun h => by
  have : C = [] := List.length_eq_zero_iff.1 h
  rw [hR]; unfold wordsKnown; rw [<- hC, this]; rfl
 rw [<- hC] at HCP; rw [<- hR]
 clear hC hR
 go_enter Tryz.func59, Tryz.ntmps59
 go_wp2_with fail
 refine HCP.out.mono ?_; rintro e w1 ⟨v, rfl, hown, hb1⟩
 obtain ⟨a, cap, rfl, hcells⟩ := nats_read hown.own
 replace hcells := Lib.hid hcells
 replace hb1 := Lib.hid hb1
 clear HCP hown
 by_cases h0 : C.length = 0
 ·have HR : Hid (R = true) := HW0.out h0
  have f0 : ((C.length : Int) == 0) = true := by rw [beq_iff_eq]; omega
  go_wp2_with fail
  go_ret
  exact ⟨ret_bool HR.out.symm, hb1.out⟩
 ·have hn1 : C.length - 1 < C.length := by omega
  have h0l : 0 < C.length := by omega
  obtain ⟨g, rfl, x1⟩ := hcells.out (C.length - 1) hn1
  obtain ⟨g', e', x0⟩ := hcells.out 0 h0l
  obtain rfl : g = g' := by injection e' with e'; injection e'
  clear e'
  have idx : (C.length : Int) - 1 = ((C.length - 1 : Nat) : Int) := by omega
  have hln := HCL.out (C.length - 1) hn1
  have f0 : ((C.length : Int) == 0) = false := by rw [beq_eq_false_iff_ne]; omega
  obtain ⟨l, hl⟩ : ∃ l, l = C[C.length - 1] := ⟨_, rfl⟩
  obtain ⟨c0, hc0⟩ : ∃ l, l = C[0] := ⟨_, rfl⟩
  rw [<- hl] at x1 hln
  rw [<- hc0] at x0
  obtain ⟨tl, htl⟩ : ∃ t, t = name.drop (l + 1) := ⟨_, rfl⟩
  have htl2 : List.take (name.length - (l + 1)) (List.drop (l + 1) name) = tl := by rw [htl, List.take_of_length_le (by rw [List.length_drop]; omega)]
  have htll : tl.length <= 1000000000 := by rw [htl, List.length_drop]; omega
  have HWK2 : Hid (∀ (k1 k2 k3 : Bool) (h1 : wrapOk tl = k1) (h2 : ((c0 : Int) == 0) = k2) (h3 : (((l : Nat) : Int) + 1 == (name.length : Int)) = k3),
   R = if (k1 || (k2 || k3)) then false else if comp == kLayouts then layoutWords name C C.length 0 [] else true) := fun k1 k2 k3 h1 h2 h3 => by
   refine HWK.out (fun e => h0 (by rw [e]; rfl)) k1 k2 k3 l ?_ (by rw [<- htl]; exact h1) ?_ h3
   ·rw [hl, List.getLastD_eq_getLast?, List.getLast?_eq_getElem?, List.getElem?_eq_getElem hn1]; rfl
   ·rw [<- h2, hc0, List.headD_eq_head?_getD, List.head?_eq_getElem?, List.getElem?_eq_getElem h0l]; rfl
  clear HWK htl hl hc0 HW0
  go_wp2_with fail
  refine (HWR.out _ _ htll).mono ?_; rintro e w2 ⟨rfl, rfl⟩
  have HK := HWK2.out (wrapOk tl) ((c0 : Int) == 0) ((l : Int) + 1 == (name.length : Int)) rfl rfl rfl
  replace HK := Lib.hid HK
  clear HWK2
  generalize wrapStr tl = xs
  generalize wrapOk tl = k1 at HK |-
  cases k1 with
  | true =>
   have HR : Hid (R = false) := HK.out
   go_wp2_with fail
   go_ret
   exact ⟨ret_bool HR.out.symm, hb1.out⟩
  | false =>
  cases k2 : ((c0 : Int) == 0) with
  | true =>
   have HR : Hid (R = false) := by show _ = _; rw [HK.out, k2]; rfl
   go_wp2_with fail
   go_ret
   exact ⟨ret_bool HR.out.symm, hb1.out⟩
  | false =>
  cases k3 : ((l : Int) + 1 == (name.length : Int)) with
  | true =>
   have HR : Hid (R = false) := by show _ = _; rw [HK.out, k2, k3]; rfl
   go_wp2_with fail
   go_ret
   exact ⟨ret_bool HR.out.symm, hb1.out⟩
  | false =>
  replace HK : Hid (R = if comp == kLayouts then layoutWords name C C.length 0 [] else true) := by show _ = _; rw [HK.out, k2, k3]; rfl
  cases hlay : (comp == kLayouts) with
  | false =>
   have HR : Hid (R = true) := by show _ = _; rw [HK.out, hlay]; rfl
   go_wp2_with fail
   go_loopw [8, 9, 10] (fun s8 s9 s10 wr => s10 = .int .i64 0 /\ w1 = wr) (fun _ _ _ _ => 0)
   case atStart => exact ⟨rfl, rfl⟩
   case round =>
    obtain ⟨rfl, rfl⟩ := hrel
    go_wp2_with fail
    go_ret
    exact ⟨ret_bool HR.out.symm, hb1.out⟩
  | true =>
   have HR : Hid (R = layoutWords name C C.length 0 []) := by show _ = _; rw [HK.out, hlay]; rfl
   have HLA : Hid (∀ (i fr : Nat) (T : List Str), i <= C.length -> layoutWords name C (C.length - i) fr T =
     if wordAt name C i fr = [] then false
     else match tagsOf (wordAt name C i fr) T with
      | none => false
      | some T' => if i < C.length then layoutWords name C (C.length - (i + 1)) (endAt name C i + 1) T' else true) := fun i fr T h => layoutWords_at h
   go_wp2_with fail
   clear HK k2 k3 htl2 htll x1 x0 hln idx
   go_loopw [8, 9, 10] (fun s8 s9 s10 wr => ∃ (i fr : Nat) (T : List Str), i <= C.length + 1 /\ s10 = .int .i64 i /\ s9 = .int .i64 fr /\ OwnS wr w1.heap.size s8 T /\ T.length <= 3 * i /\ Below w1.heap.size w1 wr /\ (i <= C.length -> fr <= endAt name C i) /\ Hid (R = if i <= C.length then layoutWords name C (C.length - i) fr T else true)) (fun _ _ s10 _ => C.length + 1 - (intOf s10).toNat)
   case atStart =>
    exact ⟨0, 0, [], by omega, rfl, rfl, OwnS.nil w1, by simp, Below.refl _ _, fun _ => Nat.zero_le _, by show _ = _; rw [HR.out, if_pos (Nat.zero_le _)]; rfl⟩
   case round =>
    obtain ⟨i, fr, T, hi, rfl, rfl, hown, hTl, hbel, hfr, hsk⟩ := hrel
    replace hown := Lib.hid hown
    replace hbel := Lib.hid hbel
    by_cases hin : i <= C.length
    ·have HS : Hid (R = layoutWords name C (C.length - i) fr T) := by show _ = _; rw [hsk.out, if_pos hin]
     replace HS : Hid _ := HS.out.trans (HLA.out i fr T hin)
     obtain ⟨E, hE⟩ : ∃ E, E = endAt name C i := ⟨_, rfl⟩
     have hfE : fr <= E := by rw [hE]; exact hfr hin
     have hEn : E <= name.length := by rw [hE]; exact HEE.out i
     obtain ⟨ww, hww⟩ : ∃ t, t = wordAt name C i fr := ⟨_, rfl⟩
     have hword : List.take (E - fr) (List.drop fr name) = ww := by rw [hww, hE]; rfl
     have hwl : ww.length <= 1000000000 := by rw [hww]; exact Nat.le_trans (wordAt_len name C i fr) hs
     rw [<- hww, <- hE] at HS
     have hE2 := Lib.hid hE
     clear hsk hww hE hfr
     go_upto_if 69 with fail
     go_cut [11] from 66 to 73 (fun s11 wx => s11 = .int .i64 E /\ wr = wx)
     case first =>
      by_cases hic : i < C.length
      ·obtain ⟨g', e', x2⟩ := hcells.out i hic
       obtain rfl : g = g' := by injection e' with e'; injection e'
       clear e'
       have x3 : wr.cell? ⟨g, i, none⟩ = some (.int .i64 C[i]) := (hbel.out.cell (p := ⟨g, i, none⟩) (cell_lt x2)).trans x2
       have hEC : E = C[i] := by
        rw [hE2.out]; unfold endAt
        rw [if_pos hic, List.getD_eq_getElem?_getD, List.getElem?_eq_getElem hic]; rfl
       rw [<- hEC] at x3
       clear x2 hEC
       go_wp2_with fail
       go_meet
       exact ⟨rfl, rfl⟩
      ·have hEN : E = name.length := by rw [hE2.out]; unfold endAt; rw [if_neg hic]
       go_wp2_with fail
       go_meet
       exact ⟨by rw [hEN], rfl⟩
     case rest =>
     obtain ⟨rfl, rfl⟩ := hcut
     obtain ⟨NX, hNX⟩ : ∃ NX : List Str -> Bool, NX = fun T' => if i < C.length then layoutWords name C (C.length - (i + 1)) (E + 1) T' else true := ⟨_, rfl⟩
     have HS2 : Hid (R = if ww = [] then false else match tagsFrom (wrapOk ww) (wrapStr ww) 0 T with | none => false | some T' => NX T') := by show _ = _; rw [hNX]; exact HS.out
     replace hNX := Lib.hid hNX
     clear HS HLA HR
     have hnn : Hid (i < C.length -> E + 1 <= endAt name C (i + 1)) := fun h => by rw [hE2.out]; exact HEL.out i h
     clear hE2 HEL HEE HCL hcells
     cases hw0 : (ww == []) with
     | true =>
      have HS3 : Hid (R = false) := by show _ = _; rw [HS2.out, if_pos (by simpa using hw0)]
      go_wp2_with fail
      go_ret
      exact ⟨ret_bool HS3.out.symm, hb1.out.trans (hbel.out.mono hb1.out.size)⟩
     | false =>
      have hne0 : ww ≠ [] := by simpa using hw0
      replace HS2 : Hid _ := HS2.out.trans (if_neg hne0)
      have hxl : (wrapStr ww).length <= 1000000000 := Nat.le_trans (wrapStr_len ww) hwl
      have HX := Lib.hid (HWR.out ww wr hwl)
      clear hne0 HWR
      generalize wrapStr ww = x at HS2 hxl HX
      generalize wrapOk ww = ok at HS2 HX
      go_wp2_with fail
      refine HX.out.mono ?_; rintro e w2 ⟨rfl, rfl⟩
      clear HX
      go_wp2_with fail
      have hTne : Hid (u8.ownBlock ≠ some wr.heap.size) := fun e => by
       obtain ⟨cur, _, _, h⟩ := ownsRow_blk hown.out.own e
       omega
      have hT0 : Hid (OwnS (wr.alloc (.cells #[.string (B pFormat), .string (B pKind), .string (B pLayout)] 9)) w1.heap.size u8 T) := hown.out.alloc _
      have hTB : Hid (Below w1.heap.size w1 (wr.alloc (.cells #[.string (B pFormat), .string (B pKind), .string (B pLayout)] 9))) := hbel.out.alloc hbel.out.size _
      have hTz : (wr.alloc (.cells #[.string (B pFormat), .string (B pKind), .string (B pLayout)] 9)).heap.size = wr.heap.size + 1 := by simp
      have hTC : Hid (∀ k (hk : k < tagsList.length), (wr.alloc (.cells #[.string (B pFormat), .string (B pKind), .string (B pLayout)] 9)).cell? ⟨wr.heap.size, k, none⟩ = some (.string (B tagsList[k]))) := fun k hk => by
       rw [cell_blk (blk_new wr _) k]
       match k, hk with
       | 0, _ => rfl
       | 1, _ => rfl
       | 2, _ => rfl
      rw [show (Obj.cells #[Value.string { data := #[111, 117, 116, 112, 117, 116, 102, 111, 114, 109, 97, 116, 95] }, Value.string { data := #[107, 105, 110, 100, 95] }, Value.string { data := #[108, 97, 121, 111, 117, 116, 95] }] 9) = .cells #[.string (B pFormat), .string (B pKind), .string (B pLayout)] 9 from rfl]
      generalize wr.alloc (.cells #[.string (B pFormat), .string (B pKind), .string (B pLayout)] 9) = wT at hT0 hTB hTz hTC |-
      obtain ⟨gT, hgT⟩ : ∃ g, g = wr.heap.size := ⟨_, rfl⟩
      rw [<- hgT] at hTne hTC hTz |-
      clear hgT
      go_loopw [8, 87] (fun s8 s87 wi => ∃ (j : Nat) (T2 : List Str), j <= 3 /\ s87 = .int .i64 j /\ OwnS wi w1.heap.size s8 T2 /\ T2.length <= T.length + j /\ s8.ownBlock ≠ some gT /\ wi.heap[gT]? = wT.heap[gT]? /\ gT < wi.heap.size /\ Below w1.heap.size w1 wi /\ Hid (R = match tagsFrom ok x j T2 with | none => false | some T' => NX T')) (fun _ s87 _ => 3 - (intOf s87).toNat)
      case atStart => exact ⟨0, T, by omega, rfl, hT0.out, by omega, hTne.out, rfl, by omega, hTB.out, HS2.out⟩
      case round =>
       obtain ⟨j, T2, hj, rfl, hown2, hT2, hne2, hblk2, hgl2, hbel2, hrest⟩ := hrel
       replace hown2 := Lib.hid hown2
       replace hne2 := Lib.hid hne2
       replace hblk2 := Lib.hid hblk2
       replace hbel2 := Lib.hid hbel2
       clear hown hbel HS2 hT0 hTB
       by_cases hj3 : j < 3
       ·have hj4 : j < tagsList.length := hj3
        obtain ⟨t, ht⟩ : ∃ t, t = tagsList[j] := ⟨_, rfl⟩
        have htl : t.length <= 20 := by rw [ht]; exact tags_short hj4
        have xT : wr.cell? ⟨gT, j, none⟩ = some (.string (B t)) := by
         rw [ht]; exact (World.cell?_of_block (a := ⟨gT, j, none⟩) hblk2.out).trans (hTC.out j hj4)
        replace ht := Lib.hid ht
        cases ok with
        | false =>
         have hrest2 : Hid (R = match tagsFrom false x (j + 1) T2 with | none => false | some T' => NX T') := hrest.out
         clear hrest
         go_wp2_with fail
         go_roundw
         case rel =>
          have RR : j + 1 <= 3 /\ Value.int .i64 ((j : Int) + 1) = .int .i64 ((j + 1 : Nat) : Int) /\ OwnS wr w1.heap.size u8 T2 /\ T2.length <= T.length + (j + 1) /\ u8.ownBlock ≠ some gT /\ wr.heap[gT]? = wT.heap[gT]? /\ gT < wr.heap.size /\ Below w1.heap.size w1 wr /\ Hid (R = match tagsFrom false x (j + 1) T2 with | none => false | some T' => NX T') := ⟨by omega, by go_num, hown2.out, by omega, hne2.out, hblk2.out, hgl2, hbel2.out, hrest2⟩
          first | exact ⟨j + 1, T2, RR⟩ | ((repeat apply Exists.intro); exact ⟨⟨j + 1, T2, RR⟩, rfl⟩)
         case measure => (simp [intOf]; try omega)
        | true =>
         have HLX := Lib.hid (c_lower x wr (Nat.le_trans hxl (by decide)))
         have HLL : (Lib.toLowerA x).length <= 70368744177664 := by simp [Lib.toLowerA]; omega
         cases hst : startsL (Lib.toLowerA x) t with
         | false =>
          have hrest2 : Hid (R = match tagsFrom true x (j + 1) T2 with | none => false | some T' => NX T') := by show _ = _; rw [hrest.out, tagsFrom_no hj4 ht.out hst]
          clear hrest
          go_wp2_with fail
          refine HLX.out.mono ?_; rintro e w3 ⟨rfl, b3⟩
          have hown3 := Lib.hid (hown2.out.below b3)
          have hblk3 : Hid (w3.heap[gT]? = wT.heap[gT]?) := (b3.block gT hgl2).trans hblk2.out
          have hgl3 : gT < w3.heap.size := Nat.lt_of_lt_of_le hgl2 b3.size
          have hbel3 := Lib.hid (belowThen hbel2.out b3 (Nat.le_refl _))
          clear HLX xT b3 hown2 hblk2 hbel2
          go_wp2_with fail
          refine (c_starts _ _ _ HLL (by omega)).mono ?_; rintro e w4 ⟨rfl, rfl⟩
          rw [hst]
          go_wp2_with fail
          go_roundw
          case rel =>
           have RR : j + 1 <= 3 /\ Value.int .i64 ((j : Int) + 1) = .int .i64 ((j + 1 : Nat) : Int) /\ OwnS w3 w1.heap.size u8 T2 /\ T2.length <= T.length + (j + 1) /\ u8.ownBlock ≠ some gT /\ w3.heap[gT]? = wT.heap[gT]? /\ gT < w3.heap.size /\ Below w1.heap.size w1 w3 /\ Hid (R = match tagsFrom true x (j + 1) T2 with | none => false | some T' => NX T') := ⟨by omega, by go_num, hown3.out, by omega, hne2.out, hblk3.out, hgl3, hbel3.out, hrest2⟩
           first | exact ⟨j + 1, T2, RR⟩ | ((repeat apply Exists.intro); exact ⟨⟨j + 1, T2, RR⟩, rfl⟩)
          case measure => (simp [intOf]; try omega)
         | true =>
          have HST := Lib.hid hst
          have hT2l : T2.length <= 1000000000000 := by omega
          go_wp2_with fail
          refine HLX.out.mono ?_; rintro e w3 ⟨rfl, b3⟩
          have hown3 := Lib.hid (hown2.out.below b3)
          have hblk3 : Hid (w3.heap[gT]? = wT.heap[gT]?) := (b3.block gT hgl2).trans hblk2.out
          have hgl3 : gT < w3.heap.size := Nat.lt_of_lt_of_le hgl2 b3.size
          have hbel3 := Lib.hid (belowThen hbel2.out b3 (Nat.le_refl _))
          clear HLX xT b3 hown2 hblk2 hbel2
          go_wp2_with fail
          refine (c_starts _ _ _ HLL (by omega)).mono ?_; rintro e w4 ⟨rfl, rfl⟩
          rw [hst]
          clear hst
          have HAM := Lib.hid (c_among T2 t _ _ (hown3.out.strs (by omega)))
          cases ham : amongL T2 t with
          | true =>
           have HS3 : Hid (R = false) := by show _ = _; rw [hrest.out, tagsFrom_bad hj4 ht.out HST.out (.inl ham)]
           rw [ham] at HAM
           clear hrest ham
           go_wp2_with fail
           refine HAM.out.mono ?_; rintro e w5 ⟨rfl, rfl⟩
           go_wp2_with fail
           go_ret
           exact ⟨ret_bool HS3.out.symm, hb1.out.trans (hbel3.out.mono hb1.out.size)⟩
          | false =>
           rw [ham] at HAM
           cases hln : ((x.length : Int) == (t.length : Int)) with
           | true =>
            have HS3 : Hid (R = false) := by show _ = _; rw [hrest.out, tagsFrom_bad hj4 ht.out HST.out (.inr (by rw [beq_iff_eq] at hln; omega))]
            clear hrest ham
            go_wp2_with fail
            refine HAM.out.mono ?_; rintro e w5 ⟨rfl, rfl⟩
            go_wp2_with fail
            go_ret
            exact ⟨ret_bool HS3.out.symm, hb1.out.trans (hbel3.out.mono hb1.out.size)⟩
           | false =>
            have hrest2 : Hid (R = match tagsFrom true x (j + 1) (T2 ++ [t]) with | none => false | some T' => NX T') := by
             show _ = _
             rw [hrest.out, tagsFrom_add hj4 ht.out HST.out]
             rintro (a | a)
             ·rw [ham] at a; cases a
             ·rw [beq_eq_false_iff_ne] at hln; omega
            clear hrest ham HST
            have hown4 : Hid (∀ o, OwnS (w3.alloc o) w1.heap.size u8 T2) := fun o => hown3.out.alloc o
            go_wp2_with fail
            refine HAM.out.mono ?_; rintro e w5 ⟨rfl, rfl⟩
            clear HAM
            go_wp2_with (at_builtin; refine wpList_appS rfl (.tmp 108) (.tmp 110) rfl _ _ T2 t rfl (hown4.out _) w3.heap.size rfl ?c1 hT2l ?_)
            case c1 => exact cell_blk (blk_new _ _) 0
            intro v' w6 hown6 hg6 hp6
            have hbel6 : Hid (Below w1.heap.size w1 w6) := grown_below (hbel3.out.alloc hbel3.out.size _) hg6 (by have := hbel3.out.size; simp; omega) (fun g hg => by obtain ⟨_, _, h, _⟩ := ownsRow_blk hown3.out.own hg; exact h)
            have hblk6 : Hid (w6.heap[gT]? = wT.heap[gT]?) := ((hg6.block gT (by simp; omega) (fun e => hne2.out e.symm)).trans ((Below_alloc w3 _).block gT hgl3)).trans hblk3.out
            have hne6 : Hid (v'.ownBlock ≠ some gT) := fun e => by
             rcases hp6 with h | h
             ·exact hne2.out (h.symm.trans e)
             ·have := Option.some.inj (h.symm.trans e)
              have hz := (Below_alloc w3 (.cells #[.string (B t)] 9)).size
              omega
            have hgl6 : gT < w6.heap.size := Nat.lt_of_lt_of_le (show gT < (w3.alloc _).heap.size by simp; omega) hg6.size
            replace hown6 := Lib.hid hown6
            clear hg6 hp6 hown4 hown3 hblk3 hbel3 hne2
            go_wp2_with fail
            go_roundw
            case rel =>
             have RR : j + 1 <= 3 /\ Value.int .i64 ((j : Int) + 1) = .int .i64 ((j + 1 : Nat) : Int) /\ OwnS w6 w1.heap.size v' (T2 ++ [t]) /\ (T2 ++ [t]).length <= T.length + (j + 1) /\ v'.ownBlock ≠ some gT /\ w6.heap[gT]? = wT.heap[gT]? /\ gT < w6.heap.size /\ Below w1.heap.size w1 w6 /\ Hid (R = match tagsFrom true x (j + 1) (T2 ++ [t]) with | none => false | some T' => NX T') := ⟨by omega, by go_num, hown6.out, by rw [List.length_append, List.length_singleton]; omega, hne6.out, hblk6.out, hgl6, hbel6.out, hrest2⟩
             first | exact ⟨j + 1, (T2 ++ [t]), RR⟩ | ((repeat apply Exists.intro); exact ⟨⟨j + 1, (T2 ++ [t]), RR⟩, rfl⟩)
            case measure => (simp [intOf]; try omega)
       ·obtain rfl : j = 3 := by omega
        have HS3 : Hid (R = NX T2) := by show _ = _; rw [hrest.out, tagsFrom_end]
        clear hrest
        go_wp2_with fail
        go_roundw
        case rel =>
         have RR : i + 1 <= C.length + 1 /\ Value.int .i64 ((i : Int) + 1) = .int .i64 ((i + 1 : Nat) : Int) /\ Value.int .i64 ((E : Int) + 1) = .int .i64 ((E + 1 : Nat) : Int) /\ OwnS wr w1.heap.size u8 T2 /\ T2.length <= 3 * (i + 1) /\ Below w1.heap.size w1 wr /\ (i + 1 <= C.length -> E + 1 <= endAt name C (i + 1)) /\ Hid (R = if i + 1 <= C.length then layoutWords name C (C.length - (i + 1)) (E + 1) T2 else true) := ⟨by omega, by go_num, by go_num, hown2.out, by omega, hbel2.out, fun h => hnn.out (by omega), by show _ = _; rw [HS3.out, hNX.out]; rfl⟩
         first | exact ⟨i + 1, E + 1, T2, RR⟩ | ((repeat apply Exists.intro); exact ⟨⟨i + 1, E + 1, T2, RR⟩, rfl⟩)
        case measure => (simp [intOf]; try omega)
    ·have HS : Hid (R = true) := by show _ = _; rw [hsk.out, if_neg hin]
     go_wp2_with fail
     go_ret
     exact ⟨ret_bool HS.out.symm, hb1.out.trans (hbel.out.mono hb1.out.size)⟩

/-! ### PathKnown -/
theorem pathOf_len (s : Str) (own : Bool) : (pathOf s own).length <= s.length + 1 := by
 by_cases h : ownL s own = []
 ·rw [pathOf_empty h]; simp
 ·rw [pathOf_some h]
  have h1 : (ownL s own).length = s.length := by unfold ownL; split <;> simp [normL, Lib.toLowerA]
  have h2 : (slashed (ownL s own)).length <= s.length + 1 := by unfold slashed; split <;> (try rw [List.length_cons]) <;> omega
  have h3 : ∀ t : Str, (trimEnd t).length <= t.length := fun t => by unfold trimEnd; split <;> simp
  exact Nat.le_trans (h3 _) h2
theorem lastPart_len (s : Str) : (lastPart s).length <= s.length := by
 unfold lastPart
 rw [List.length_drop]; omega

set_option maxHeartbeats 8000000 in
theorem c_PathKnownW (site : SiteM) (comp s : Str) (vl vd vf vc : Value) (w : World) (hv : SiteAt w vl vd vf vc site) (hcl : CapOK vl) (hcd : CapOK vd) (hcc : CapOK vc) (hf : siteFits site = true) (hc : comp.length <= 2147483647) (hs : s.length <= 100000000000) :
  Calls Tryz.prog 39 #[.agg #[vl, vd, vf, vc], .string (B comp), .string (B s)] w fun e w' => e = .returned (.bool (pathKnown site comp s)) /\ Below w.heap.size w w' := by
 obtain ⟨R, hR⟩ : ∃ R, R = pathKnown site comp s := ⟨_, rfl⟩
 have HR : Hid (R = (siteKnown site && !holdsL s [47, 47] && asciiL s && asciiL comp && decide (s.length <= 400) && wordsKnown comp (lastPart (pathOf s false)) && wordsKnown comp (lastPart (pathOf s true)))) := hR
 rw [<- hR]
 clear hR
 obtain ⟨obj, hobj⟩ : ∃ o : Obj, o = .cells #[vl, vd, vf, vc] 25 := ⟨_, rfl⟩
 have H1 := Lib.hid (c_SiteKnown site vl vd vf vc (w.alloc obj) (hv.alloc obj) hcl hcd hcc hf)
 have H2 : Hid (∀ wx, Calls Tryz.prog 57 #[.string (B s), .string (B [47, 47])] wx fun e w' => e = .returned (.bool (holdsL s [47, 47])) /\ wx = w') := fun wx => c_holds s [47, 47] wx (by omega) (by decide)
 have H3 : Hid (∀ wx, Calls Tryz.prog 58 #[.string (B s)] wx fun e w' => e = .returned (.bool (asciiL s)) /\ wx = w') := fun wx => c_Ascii s wx (by omega)
 have H4 : Hid (∀ wx, Calls Tryz.prog 58 #[.string (B comp)] wx fun e w' => e = .returned (.bool (asciiL comp)) /\ wx = w') := fun wx => c_Ascii comp wx (by omega)
 have hb0 := Lib.hid (Below_alloc w obj)
 have hz0 : w.heap.size <= (w.alloc obj).heap.size := hb0.out.size
 obtain ⟨n1, hn1⟩ : ∃ t, t = lastPart (pathOf s false) := ⟨_, rfl⟩
 obtain ⟨n2, hn2⟩ : ∃ t, t = lastPart (pathOf s true) := ⟨_, rfl⟩
 rw [<- hn1, <- hn2] at HR
 have H5 : Hid (∀ wx, Calls Tryz.prog 40 #[.string (B s), .bool false] wx fun e w' => e = .returned (.string (B (pathOf s false))) /\ Below wx.heap.size wx w') := fun wx => c_PathOf s false wx (by omega)
 have H8 : Hid (∀ wx, Calls Tryz.prog 40 #[.string (B s), .bool true] wx fun e w' => e = .returned (.string (B (pathOf s true))) /\ Below wx.heap.size wx w') := fun wx => c_PathOf s true wx (by omega)
 have H6 : Hid (∀ wx, Calls Tryz.prog 60 #[.string (B (pathOf s false))] wx fun e w' => e = .returned (.string (B n1)) /\ wx = w') := fun wx => hn1 ▸ c_lastPart _ wx (by have := pathOf_len s false; omega)
 have H9 : Hid (∀ wx, Calls Tryz.prog 60 #[.string (B (pathOf s true))] wx fun e w' => e = .returned (.string (B n2)) /\ wx = w') := fun wx => hn2 ▸ c_lastPart _ wx (by have := pathOf_len s true; omega)
 have H7 : Hid (s.length <= 400 -> ∀ wx, Calls Tryz.prog 59 #[.string (B comp), .string (B n1)] wx fun e w' => e = .returned (.bool (wordsKnown comp n1)) /\ Below wx.heap.size wx w') := fun h wx => c_WordsKnown comp n1 wx (by rw [hn1]; have := pathOf_len s false; have := lastPart_len (pathOf s false); omega) (by omega)
 have H10 : Hid (s.length <= 400 -> ∀ wx, Calls Tryz.prog 59 #[.string (B comp), .string (B n2)] wx fun e w' => e = .returned (.bool (wordsKnown comp n2)) /\ Below wx.heap.size wx w') := fun h wx => c_WordsKnown comp n2 wx (by rw [hn2]; have := pathOf_len s true; have := lastPart_len (pathOf s true); omega) (by omega)
 generalize pathOf s false = p1 at H5 H6
 generalize pathOf s true = p2 at H8 H9
 clear hn1 hn2 hv hf
 have hz2 : ([47, 47] : Str).length <= 2 := by decide
 cases h1 : siteKnown site with
 | false =>
  have HF : Hid (R = false) := by
   show _ = _
   rw [HR.out, h1]
   simp
  rw [h1] at H1
  clear HR
  go_enter Tryz.func39, Tryz.ntmps39
  go_wp2_with fail
  rw [<- hobj]
  refine H1.out.mono ?_; rintro e w0 ⟨rfl, b⟩
  have hb1 := Lib.hid (belowThen hb0.out b (Nat.le_refl _))
  clear b
  go_wp2_with fail
  go_ret
  exact ⟨ret_bool HF.out.symm, hb1.out⟩
 | true =>
  cases h2 : holdsL s [47, 47] with
  | true =>
   have HF : Hid (R = false) := by
    show _ = _
    rw [HR.out, h1, h2]
    simp
   rw [h1] at H1
   rw [h2] at H2
   clear HR
   go_enter Tryz.func39, Tryz.ntmps39
   go_wp2_with fail
   rw [<- hobj]
   refine H1.out.mono ?_; rintro e w0 ⟨rfl, b⟩
   have hb1 := Lib.hid (belowThen hb0.out b (Nat.le_refl _))
   clear b
   go_wp2_with fail
   refine (H2.out _).mono ?_; rintro e w1 ⟨rfl, rfl⟩
   go_wp2_with fail
   go_ret
   exact ⟨ret_bool HF.out.symm, hb1.out⟩
  | false =>
   cases h3 : asciiL s with
   | false =>
    have HF : Hid (R = false) := by
     show _ = _
     rw [HR.out, h1, h2, h3]
     simp
    rw [h1] at H1
    rw [h2] at H2
    rw [h3] at H3
    clear HR
    go_enter Tryz.func39, Tryz.ntmps39
    go_wp2_with fail
    rw [<- hobj]
    refine H1.out.mono ?_; rintro e w0 ⟨rfl, b⟩
    have hb1 := Lib.hid (belowThen hb0.out b (Nat.le_refl _))
    clear b
    go_wp2_with fail
    refine (H2.out _).mono ?_; rintro e w1 ⟨rfl, rfl⟩
    go_wp2_with fail
    refine (H3.out _).mono ?_; rintro e w2 ⟨rfl, rfl⟩
    go_wp2_with fail
    go_ret
    exact ⟨ret_bool HF.out.symm, hb1.out⟩
   | true =>
    cases h4 : asciiL comp with
    | false =>
     have HF : Hid (R = false) := by
      show _ = _
      rw [HR.out, h1, h2, h3, h4]
      simp
     rw [h1] at H1
     rw [h2] at H2
     rw [h3] at H3
     rw [h4] at H4
     clear HR
     go_enter Tryz.func39, Tryz.ntmps39
     go_wp2_with fail
     rw [<- hobj]
     refine H1.out.mono ?_; rintro e w0 ⟨rfl, b⟩
     have hb1 := Lib.hid (belowThen hb0.out b (Nat.le_refl _))
     clear b
     go_wp2_with fail
     refine (H2.out _).mono ?_; rintro e w1 ⟨rfl, rfl⟩
     go_wp2_with fail
     refine (H3.out _).mono ?_; rintro e w2 ⟨rfl, rfl⟩
     go_wp2_with fail
     refine (H4.out _).mono ?_; rintro e w3 ⟨rfl, rfl⟩
     go_wp2_with fail
     go_ret
     exact ⟨ret_bool HF.out.symm, hb1.out⟩
    | true =>
     by_cases h5 : s.length <= 400
     ·skip
      cases h6 : wordsKnown comp n1 with
      | false =>
       have HF : Hid (R = false) := by
        show _ = _
        rw [HR.out, h1, h2, h3, h4, decide_eq_true h5, h6]
        simp
       rw [h1] at H1
       rw [h2] at H2
       rw [h3] at H3
       rw [h4] at H4
       rw [h6] at H7
       clear HR
       go_enter Tryz.func39, Tryz.ntmps39
       go_wp2_with fail
       rw [<- hobj]
       refine H1.out.mono ?_; rintro e w0 ⟨rfl, b⟩
       have hb1 := Lib.hid (belowThen hb0.out b (Nat.le_refl _))
       clear b
       go_wp2_with fail
       refine (H2.out _).mono ?_; rintro e w1 ⟨rfl, rfl⟩
       go_wp2_with fail
       refine (H3.out _).mono ?_; rintro e w2 ⟨rfl, rfl⟩
       go_wp2_with fail
       refine (H4.out _).mono ?_; rintro e w3 ⟨rfl, rfl⟩
       go_wp2_with fail
       refine (H5.out _).mono ?_; rintro e w4 ⟨rfl, b⟩
       have hb5 := Lib.hid (belowThen hb1.out b (Nat.le_refl _))
       clear b
       go_wp2_with fail
       refine (H6.out _).mono ?_; rintro e w5 ⟨rfl, rfl⟩
       go_wp2_with fail
       refine (H7.out h5 _).mono ?_; rintro e w6 ⟨rfl, b⟩
       have hb7 := Lib.hid (belowThen hb5.out b (Nat.le_refl _))
       clear b
       go_wp2_with fail
       go_ret
       exact ⟨ret_bool HF.out.symm, hb7.out⟩
      | true =>
       cases h7 : wordsKnown comp n2 with
       | false =>
        have HF : Hid (R = false) := by
         show _ = _
         rw [HR.out, h1, h2, h3, h4, decide_eq_true h5, h6, h7]
         simp
        rw [h1] at H1
        rw [h2] at H2
        rw [h3] at H3
        rw [h4] at H4
        rw [h6] at H7
        rw [h7] at H10
        clear HR
        go_enter Tryz.func39, Tryz.ntmps39
        go_wp2_with fail
        rw [<- hobj]
        refine H1.out.mono ?_; rintro e w0 ⟨rfl, b⟩
        have hb1 := Lib.hid (belowThen hb0.out b (Nat.le_refl _))
        clear b
        go_wp2_with fail
        refine (H2.out _).mono ?_; rintro e w1 ⟨rfl, rfl⟩
        go_wp2_with fail
        refine (H3.out _).mono ?_; rintro e w2 ⟨rfl, rfl⟩
        go_wp2_with fail
        refine (H4.out _).mono ?_; rintro e w3 ⟨rfl, rfl⟩
        go_wp2_with fail
        refine (H5.out _).mono ?_; rintro e w4 ⟨rfl, b⟩
        have hb5 := Lib.hid (belowThen hb1.out b (Nat.le_refl _))
        clear b
        go_wp2_with fail
        refine (H6.out _).mono ?_; rintro e w5 ⟨rfl, rfl⟩
        go_wp2_with fail
        refine (H7.out h5 _).mono ?_; rintro e w6 ⟨rfl, b⟩
        have hb7 := Lib.hid (belowThen hb5.out b (Nat.le_refl _))
        clear b
        go_wp2_with fail
        refine (H8.out _).mono ?_; rintro e w7 ⟨rfl, b⟩
        have hb8 := Lib.hid (belowThen hb7.out b (Nat.le_refl _))
        clear b
        go_wp2_with fail
        refine (H9.out _).mono ?_; rintro e w8 ⟨rfl, rfl⟩
        go_wp2_with fail
        refine (H10.out h5 _).mono ?_; rintro e w9 ⟨rfl, b⟩
        have hb10 := Lib.hid (belowThen hb8.out b (Nat.le_refl _))
        clear b
        go_wp2_with fail
        go_ret
        exact ⟨ret_bool HF.out.symm, hb10.out⟩
       | true =>
        have HF : Hid (R = true) := by
         show _ = _
         rw [HR.out, h1, h2, h3, h4, decide_eq_true h5, h6, h7]
         simp
        rw [h1] at H1
        rw [h2] at H2
        rw [h3] at H3
        rw [h4] at H4
        rw [h6] at H7
        rw [h7] at H10
        clear HR
        go_enter Tryz.func39, Tryz.ntmps39
        go_wp2_with fail
        rw [<- hobj]
        refine H1.out.mono ?_; rintro e w0 ⟨rfl, b⟩
        have hb1 := Lib.hid (belowThen hb0.out b (Nat.le_refl _))
        clear b
        go_wp2_with fail
        refine (H2.out _).mono ?_; rintro e w1 ⟨rfl, rfl⟩
        go_wp2_with fail
        refine (H3.out _).mono ?_; rintro e w2 ⟨rfl, rfl⟩
        go_wp2_with fail
        refine (H4.out _).mono ?_; rintro e w3 ⟨rfl, rfl⟩
        go_wp2_with fail
        refine (H5.out _).mono ?_; rintro e w4 ⟨rfl, b⟩
        have hb5 := Lib.hid (belowThen hb1.out b (Nat.le_refl _))
        clear b
        go_wp2_with fail
        refine (H6.out _).mono ?_; rintro e w5 ⟨rfl, rfl⟩
        go_wp2_with fail
        refine (H7.out h5 _).mono ?_; rintro e w6 ⟨rfl, b⟩
        have hb7 := Lib.hid (belowThen hb5.out b (Nat.le_refl _))
        clear b
        go_wp2_with fail
        refine (H8.out _).mono ?_; rintro e w7 ⟨rfl, b⟩
        have hb8 := Lib.hid (belowThen hb7.out b (Nat.le_refl _))
        clear b
        go_wp2_with fail
        refine (H9.out _).mono ?_; rintro e w8 ⟨rfl, rfl⟩
        go_wp2_with fail
        refine (H10.out h5 _).mono ?_; rintro e w9 ⟨rfl, b⟩
        have hb10 := Lib.hid (belowThen hb8.out b (Nat.le_refl _))
        clear b
        go_wp2_with fail
        go_ret
        exact ⟨ret_bool HF.out.symm, hb10.out⟩
     ·skip
      have HF : Hid (R = false) := by
       show _ = _
       rw [HR.out, h1, h2, h3, h4, decide_eq_false h5]
       simp
      rw [h1] at H1
      rw [h2] at H2
      rw [h3] at H3
      rw [h4] at H4
      clear HR
      go_enter Tryz.func39, Tryz.ntmps39
      go_wp2_with fail
      rw [<- hobj]
      refine H1.out.mono ?_; rintro e w0 ⟨rfl, b⟩
      have hb1 := Lib.hid (belowThen hb0.out b (Nat.le_refl _))
      clear b
      go_wp2_with fail
      refine (H2.out _).mono ?_; rintro e w1 ⟨rfl, rfl⟩
      go_wp2_with fail
      refine (H3.out _).mono ?_; rintro e w2 ⟨rfl, rfl⟩
      go_wp2_with fail
      refine (H4.out _).mono ?_; rintro e w3 ⟨rfl, rfl⟩
      go_wp2_with fail
      go_ret
      exact ⟨ret_bool HF.out.symm, hb1.out⟩
theorem c_PathKnown (site : SiteM) (comp s : Str) (vl vd vf vc : Value) (w : World) (hv : SiteAt w vl vd vf vc site) (hcl : CapOK vl) (hcd : CapOK vd) (hcc : CapOK vc) (hf : siteFits site = true) (hc : comp.length <= 2147483647) (hs : s.length <= 2147483647) :
  Calls Tryz.prog 39 #[.agg #[vl, vd, vf, vc], .string (B comp), .string (B s)] w fun e w' => e = .returned (.bool (pathKnown site comp s)) /\ Below w.heap.size w w' :=
 c_PathKnownW site comp s vl vd vf vc w hv hcl hcd hcc hf hc (by omega)

end Go.Proofs.YtjkecadfakjanaaGreatDoor
