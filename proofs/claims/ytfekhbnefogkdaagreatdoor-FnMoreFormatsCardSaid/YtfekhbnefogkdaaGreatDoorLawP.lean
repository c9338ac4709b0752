/- What the laws ask of a known path's answers. Plain Lean; no program here. Conditions: those of a known path. -/
import Derived.Test.YtfekhbnefogkdaaGreatDoorEqM
import Derived.Test.YtfekhbnefogkdaaGreatDoorPlain
set_option linter.unusedVariables false
set_option linter.unusedSimpArgs false
namespace Go.Proofs.YtfekhbnefogkdaaGreatDoor

/-! ### Small letters, no blanks -/
def Low (t : Str) : Prop := ∀ x ∈ t, Lib.lowerB x = x /\ x ≠ 32
theorem Low.lower {t : Str} (h : Low t) : lowerL t = t := by
 unfold lowerL Lib.toLowerA
 exact (List.map_congr_left fun x hx => (h x hx).1).trans (List.map_id' t)
theorem Low.drop {t : Str} (h : Low t) (n : Nat) : Low (t.drop n) := fun x hx => h x (List.mem_of_mem_drop hx)
theorem Low.take {t : Str} (h : Low t) (n : Nat) : Low (t.take n) := fun x hx => h x (List.mem_of_mem_take hx)
theorem Low.dropLast {t : Str} (h : Low t) : Low t.dropLast := by rw [List.dropLast_eq_take]; exact h.take _
theorem normB_low (c : UInt8) : Lib.lowerB (normB (Lib.lowerB c)) = normB (Lib.lowerB c) /\ normB (Lib.lowerB c) ≠ 32 := by
 have h : ∀ n : Fin 256, Lib.lowerB (normB (Lib.lowerB (UInt8.ofNat n))) = normB (Lib.lowerB (UInt8.ofNat n)) /\ normB (Lib.lowerB (UInt8.ofNat n)) ≠ 32 := by decide +kernel
 have := h ⟨c.toNat, c.toNat_lt⟩
 simpa using this
theorem low_normL (s : Str) : Low (normL s) := by
 intro x hx
 unfold normL Lib.toLowerA at hx
 rw [List.map_map] at hx
 obtain ⟨c, _, rfl⟩ := List.mem_map.1 hx
 exact normB_low c
theorem low_norm {s : Str} (h : Low s) : Low (normPath s) := by
 have h47 : Lib.lowerB 47 = 47 /\ (47 : UInt8) ≠ 32 := by decide
 unfold normPath
 split
 ·intro x hx; rw [List.mem_singleton] at hx; subst hx; exact h47
 ·have h2 : Low (slashed s) := by
   unfold slashed
   split
   ·exact h
   ·intro x hx
    rcases List.mem_cons.1 hx with rfl | hx
    ·exact h47
    ·exact h x hx
  unfold trimEnd
  split
  ·exact h2.dropLast
  ·exact h2

/-! ### A reading's words -/
structure RInv (site : SiteM) (r : ReadM) (n : Nat) : Prop where
 fw : r.w.format ≠ [] -> r.layouts = true /\ formatNamed site.formats r.w.format = true
 fp : r.format ≠ [] -> r.layouts = true /\ formatNamed site.formats r.format = true
 lg : ∀ l ∈ r.w.langs, (amongL site.languages l || amongL site.disabled l) = true
 ct : r.w.ids.length + r.w.unknown.length <= n
 lay : r.layoutAt < 0 \/ ∃ k : Nat, r.layoutAt = (k : Int) /\ k < r.w.ids.length
theorem RInv.ident {site : SiteM} {r : ReadM} {n : Nat} (h : RInv site r n) (t : Str) (at_ : Int) : RInv site (r.identify t at_) (n + 1) := by
 refine ⟨h.fw, h.fp, h.lg, ?_, ?_⟩
 ·show (r.w.ids ++ [t]).length + r.w.unknown.length <= n + 1
  have := h.ct
  rw [List.length_append, List.length_singleton]; omega
 ·rcases h.lay with x | ⟨k, x, y⟩
  ·exact .inl x
  ·refine .inr ⟨k, x, ?_⟩
   show k < (r.w.ids ++ [t]).length
   rw [List.length_append]; omega
theorem tagStr_low {x p : Str} (h : Low x) : Low (tagStr x p) := by
 unfold tagStr
 split
 ·exact h.drop _
 ·intro y hy; cases hy
theorem wrapped_low {word x : Str} (h : Low word) (e : wrapped word = some x) : Low x := by
 unfold wrapped at e
 split at e
 ·cases e
 ·obtain rfl := Option.some.inj e
  exact (h.drop 1).take _
theorem readStep_rinv {site : SiteM} {r : ReadM} {n : Nat} (h : RInv site r n) (word : Str) (at_ : Int) (hw : Low word) : RInv site (readStep site r word at_) (n + 1) := by
 unfold readStep
 split
 ·rename_i x hx
  have hl := wrapped_low hw hx
  rw [wrapper_eq]
  split
  ·rename_i hh
   have a := h.ident (langV x) at_
   refine ⟨a.fw, a.fp, ?_, a.ct, a.lay⟩
   intro l hm
   have hm : l ∈ r.w.langs ++ [langV x] := hm
   rw [List.mem_append, List.mem_singleton] at hm
   rcases hm with hm | rfl
   ·exact h.lg l hm
   ·unfold langHit at hh
    rw [Bool.and_eq_true] at hh
    have e : lowerL (langV x) = langV x := (tagStr_low hl).lower
    rw [e] at hh
    exact hh.2
  ·split
   ·rename_i hlay
    split
    ·rename_i hh
     have a := h.ident (tagStr x pFormat) at_
     refine ⟨fun _ => ⟨hlay, ?_⟩, a.fp, a.lg, a.ct, a.lay⟩
     unfold fmtHit at hh
     rw [Bool.and_eq_true, (tagStr_low hl).lower] at hh
     exact hh.2
    ·split
     ·have a := h.ident (tagStr x pKind) at_
      exact ⟨a.fw, a.fp, a.lg, a.ct, a.lay⟩
     ·split
      ·have a := h.ident (tagStr x pLayout) at_
       exact ⟨a.fw, a.fp, a.lg, a.ct, a.lay⟩
      ·have a := h.ident word at_
       exact ⟨a.fw, a.fp, a.lg, a.ct, a.lay⟩
   ·have a := h.ident word at_
    exact ⟨a.fw, a.fp, a.lg, a.ct, a.lay⟩
 ·rw [plain_eq]
  have a := h.ident word at_
  split
  ·exact ⟨a.fw, a.fp, a.lg, a.ct, a.lay⟩
  ·split
   ·rename_i hh
    rw [Bool.and_eq_true] at hh
    exact ⟨a.fw, fun _ => ⟨hh.1, formatBeside_named hh.2⟩, a.lg, a.ct, a.lay⟩
   ·split
    ·exact ⟨a.fw, a.fp, a.lg, a.ct, a.lay⟩
    ·split
     ·exact ⟨a.fw, a.fp, a.lg, a.ct, a.lay⟩
     ·split
      ·split
       ·refine ⟨a.fw, a.fp, a.lg, a.ct, .inr ⟨r.w.ids.length, rfl, ?_⟩⟩
        show r.w.ids.length < (r.w.ids ++ [word]).length
        rw [List.length_append, List.length_singleton]; omega
       ·refine ⟨h.fw, h.fp, h.lg, ?_, ?_⟩
        ·show (r.w.ids.set r.layoutAt.toNat word).length + (r.w.unknown ++ [r.layout]).length <= n + 1
         have := h.ct
         rw [List.length_set, List.length_append, List.length_singleton]; omega
        ·rcases h.lay with x | ⟨k, x, y⟩
         ·exact .inl x
         ·refine .inr ⟨k, x, ?_⟩
          show k < (r.w.ids.set r.layoutAt.toNat word).length
          rw [List.length_set]; exact y
      ·refine ⟨h.fw, h.fp, h.lg, ?_, h.lay⟩
       show r.w.ids.length + (r.w.unknown ++ [word]).length <= n + 1
       have := h.ct
       rw [List.length_append, List.length_singleton]; omega
theorem readWord_rinv {site : SiteM} {name : Str} (hn : Low name) (cuts : List Nat) {r : ReadM} {n : Nat} (h : RInv site r n) (i e : Nat) : RInv site (readWord site name cuts r i e).1 (n + 1) := by
 unfold readWord
 dsimp only
 split
 ·have a := h.ident ((name.drop (if i = 0 then 0 else cuts.getD (i - 1) 0 + 1)).take (e - (if i = 0 then 0 else cuts.getD (i - 1) 0 + 1))) (if i = 0 then (-1 : Int) else (cuts.getD (i - 1) 0 : Nat))
  exact ⟨a.fw, a.fp, a.lg, a.ct, a.lay⟩
 ·exact readStep_rinv h _ _ ((hn.drop _).take _)
theorem readDown_rinv {site : SiteM} {name : Str} (hn : Low name) (cuts : List Nat) : ∀ (m : Nat) {r : ReadM} {n : Nat} (e : Nat), RInv site r n -> RInv site (readDown site name cuts m r e) (n + m + 1)
 | 0, r, n, e, h => readWord_rinv hn cuts h 0 e
 | m + 1, r, n, e, h => by
  have := readDown_rinv hn cuts m (readWord site name cuts r (m + 1) e).2 (readWord_rinv hn cuts h (m + 1) e)
  rw [show n + (m + 1) + 1 = n + 1 + m + 1 by omega]
  exact this
theorem read0_rinv (site : SiteM) (comp path name : Str) : RInv site (read0 comp path name) 0 := ⟨fun e => absurd rfl e, fun e => absurd rfl e, fun l hl => (by cases hl), Nat.le_refl _, .inl (by show (-1 : Int) < 0; decide)⟩
theorem readAll_rinv (site : SiteM) (comp path : Str) {name : Str} (hn : Low name) : RInv site (readAll site comp path name) ((cutPoints name).length + 1) := by
 unfold readAll
 split
 ·have := read0_rinv site comp path name
  exact ⟨this.fw, this.fp, this.lg, Nat.zero_le _, this.lay⟩
 ·have := readDown_rinv hn (cutPoints name) (cutPoints name).length name.length (read0_rinv site comp path name)
  rw [Nat.zero_add] at this
  exact this

/-! ### The points of a name -/
theorem cutsFrom_has (s : Str) : ∀ (n i : Nat), s.length <= i + n -> (∃ j : Nat, i <= j /\ s[j]? = some 46) -> cutsFrom s n i ≠ []
 | 0, i, hn, ⟨j, hj, hd⟩ => by rw [List.getElem?_eq_none (by omega)] at hd; cases hd
 | n + 1, i, hn, ⟨j, hj, hd⟩ => by
  unfold cutsFrom
  have hjl : j < s.length := by
   rcases Nat.lt_or_ge j s.length with x | x
   ·exact x
   ·rw [List.getElem?_eq_none x] at hd; cases hd
  rw [if_neg (by omega)]
  split
  ·rename_i h1
   refine cutsFrom_has s n (i + 1) (by omega) ⟨j, ?_, hd⟩
   rcases Nat.eq_or_lt_of_le hj with e | e
   ·subst e; exact absurd hd h1
   ·omega
  ·split
   ·simp
   ·split <;> simp
theorem cuts_ne {name : Str} : cutPoints name ≠ [] ↔ ∃ j : Nat, name[j]? = some 46 := by
 constructor
 ·intro h
  obtain ⟨c, hc⟩ := List.exists_mem_of_ne_nil _ h
  exact ⟨c, cuts_dot hc⟩
 ·rintro ⟨j, hj⟩
  exact cutsFrom_has name _ 0 (by omega) ⟨j, Nat.zero_le _, hj⟩
theorem cuts_le_dots {t name : Str} {n0 : Nat} (ht : Tail t name n0) : (cutPoints name).length <= countDots name := by
 have hl := ht.len
 have h1 := cuts_count ht name.length t.length 0 (by omega) (by omega)
 have h2 := dotsUp_count name name.length (Nat.le_refl _)
 rw [List.take_length] at h2
 rw [Nat.sub_zero, h2] at h1
 unfold countDots cutPoints
 omega

/-! ### A known path's text -/
theorem pathKnown_len {site : SiteM} {comp s : Str} (h : pathKnown site comp s = true) : siteKnown site = true /\ holdsL s [47, 47] = false /\ asciiL s = true /\ asciiL comp = true /\ s.length <= 400 := by
 unfold pathKnown at h
 simp only [Bool.and_eq_true, Bool.not_eq_true', decide_eq_true_eq] at h
 obtain ⟨⟨⟨⟨⟨⟨h1, h2⟩, h3⟩, h4⟩, h5⟩, _⟩, _⟩ := h
 exact ⟨h1, h2, h3, h4, h5⟩
theorem normL_len2 (s : Str) : (normL s).length = s.length := by simp [normL, Lib.toLowerA]
theorem noDbl_slashed {s : Str} (h : NoDbl s) : NoDbl (slashed s) := by
 unfold slashed
 split
 ·exact h
 ·rename_i hc; exact noDbl_cons h hc
theorem norm_last {s : Str} (h : NoDbl s) (h1 : 1 < (normPath s).length) : (normPath s).getLast? ≠ some 47 := by
 unfold normPath at h1 |-
 split
 ·rename_i hs; rw [if_pos hs] at h1; simp at h1
 ·rename_i hs
  rw [if_neg hs] at h1
  have hd := noDbl_slashed h
  generalize slashed s = u at h1 hd |-
  unfold trimEnd at h1 |-
  split
  ·rename_i hc
   rw [if_pos hc, List.length_dropLast] at h1
   rw [List.getLast?_eq_getElem?, List.length_dropLast, List.dropLast_eq_take, List.getElem?_take_of_lt (by omega)]
   intro e
   have e2 := hc.2
   rw [List.getLast?_eq_getElem?] at e2
   have := hd (u.length - 1 - 1) e
   rw [show u.length - 1 - 1 + 1 = u.length - 1 by omega] at this
   exact this e2
  ·rename_i hc
   rw [if_neg hc] at h1
   intro e
   exact hc ⟨h1, e⟩

/-! ### The end of a name -/
def CutMarks (name : Str) (l : List Int) : Prop := ∀ m ∈ l, m < 0 \/ ∃ c : Nat, m = (c : Int) /\ name[c]? = some 46
theorem cutMarks_snoc {name : Str} {l : List Int} {m : Int} (h : CutMarks name l) (hm : m < 0 \/ ∃ c : Nat, m = (c : Int) /\ name[c]? = some 46) : CutMarks name (l ++ [m]) := by
 intro x hx
 rw [List.mem_append, List.mem_singleton] at hx
 rcases hx with hx | rfl
 ·exact h x hx
 ·exact hm
theorem readWord_cm (site : SiteM) (name : Str) (r : ReadM) (i e : Nat) (hi : i <= (cutPoints name).length) (h : CutMarks name r.marks) : CutMarks name (readWord site name (cutPoints name) r i e).1.marks := by
 have hat : (if i = 0 then (-1 : Int) else ((cutPoints name).getD (i - 1) 0 : Nat)) < 0 \/ ∃ c : Nat, (if i = 0 then (-1 : Int) else ((cutPoints name).getD (i - 1) 0 : Nat)) = (c : Int) /\ name[c]? = some 46 := by
  by_cases hz : i = 0
  ·rw [if_pos hz]; exact .inl (by decide)
  ·rw [if_neg hz]
   have h1 : i - 1 < (cutPoints name).length := by omega
   refine .inr ⟨_, rfl, ?_⟩
   rw [List.getD_eq_getElem?_getD, List.getElem?_eq_getElem h1]
   exact cuts_dot (List.getElem_mem h1)
 unfold readWord
 dsimp only
 split
 ·exact cutMarks_snoc h hat
 ·rcases readStep_marks site r ((name.drop (if i = 0 then 0 else (cutPoints name).getD (i - 1) 0 + 1)).take (e - (if i = 0 then 0 else (cutPoints name).getD (i - 1) 0 + 1))) (if i = 0 then (-1 : Int) else ((cutPoints name).getD (i - 1) 0 : Nat)) with q | q
  ·have q2 : CutMarks name (readStep site r ((name.drop (if i = 0 then 0 else (cutPoints name).getD (i - 1) 0 + 1)).take (e - (if i = 0 then 0 else (cutPoints name).getD (i - 1) 0 + 1))) (if i = 0 then (-1 : Int) else ((cutPoints name).getD (i - 1) 0 : Nat))).marks := by rw [q]; exact h
   exact q2
  ·have q2 : CutMarks name (readStep site r ((name.drop (if i = 0 then 0 else (cutPoints name).getD (i - 1) 0 + 1)).take (e - (if i = 0 then 0 else (cutPoints name).getD (i - 1) 0 + 1))) (if i = 0 then (-1 : Int) else ((cutPoints name).getD (i - 1) 0 : Nat))).marks := by rw [q]; exact cutMarks_snoc h hat
   exact q2
theorem readDown_cm (site : SiteM) (name : Str) : ∀ (n : Nat) (r : ReadM) (e : Nat), n <= (cutPoints name).length -> CutMarks name r.marks -> CutMarks name (readDown site name (cutPoints name) n r e).marks
 | 0, r, e, hn, h => readWord_cm site name r 0 e hn h
 | n + 1, r, e, hn, h => readDown_cm site name n _ _ (by omega) (readWord_cm site name r (n + 1) e hn h)
theorem readAll_cm (site : SiteM) (comp path name : Str) : CutMarks name (readAll site comp path name).marks := by
 unfold readAll
 split
 ·intro m hm; cases hm
 ·exact readDown_cm site name _ _ _ (Nat.le_refl _) (fun m hm => by cases hm)
theorem markEnd_at {name : Str} : ∀ (l : List Int) (n : Nat), CutMarks name l -> (n = name.length \/ name[n]? = some 46) -> (markEnd l n = name.length \/ name[markEnd l n]? = some 46)
 | [], n, _, h => h
 | m :: l, n, hc, h => by
  unfold markEnd
  rw [List.foldl_cons]
  have h2 : CutMarks name l := fun x hx => hc x (List.mem_cons_of_mem _ hx)
  split
  ·rename_i hm
   rcases hc m List.mem_cons_self with x | ⟨c, x, y⟩
   ·omega
   ·exact markEnd_at l m.toNat h2 (.inr (by rw [x]; exact y))
  ·exact markEnd_at l n h2 h

/-! ### Types -/
theorem typeOf_page (site : SiteM) (r : ReadM) : (ReadM.typeOf site r = 3 -> r.w.name.take r.w.nameEnd = kIndex /\ amongL site.content r.w.ext = true) /\
  (ReadM.typeOf site r = 4 -> r.w.name.take r.w.nameEnd = kUIndex /\ amongL site.content r.w.ext = true) /\ (ReadM.typeOf site r = 2 -> amongL site.content r.w.ext = true) := by
 unfold ReadM.typeOf
 dsimp only
 split
 ·rename_i h
  simp only [Bool.and_eq_true] at h
  split
  ·rename_i hi; exact ⟨fun _ => ⟨hi, h.1.2⟩, fun e => absurd e (by decide), fun e => absurd e (by decide)⟩
  ·split
   ·rename_i hi; exact ⟨fun e => absurd e (by decide), fun _ => ⟨hi, h.1.2⟩, fun e => absurd e (by decide)⟩
   ·exact ⟨fun e => absurd e (by decide), fun e => absurd e (by decide), fun _ => h.1.2⟩
 ·repeat' split
  all_goals exact ⟨fun e => absurd e (by decide), fun e => absurd e (by decide), fun e => absurd e (by decide)⟩

/-! ### The facts of a known path -/
structure Facts (site : SiteM) (comp s : Str) (T : ToldM) : Prop where
 ne : T.path ≠ []
 hd : T.path.head? = some 47
 last : T.path = [47] \/ T.path.getLast? ≠ some 47
 low : Low T.path
 len : T.path.length <= 401
 name : ∃ k : Nat, 0 < k /\ k <= T.path.length /\ T.name = T.path.drop k
 one : ∀ j : Nat, T.name[j]? ≠ some 47
 noid : ∃ k : Nat, k <= T.name.length /\ T.nameNoId = T.name.take k /\ (k = T.name.length \/ T.name[k]? = some 46)
 nodot : (∀ j : Nat, T.name[j]? ≠ some 46) -> T.ids = [] /\ T.unknown = [] /\ T.nameNoId = T.name /\ T.nameNoExt = T.name /\ T.pathNoId = T.path /\ T.ext = [] /\ T.lang = []
 dot : (∃ j : Nat, T.name[j]? = some 46) -> T.ids ≠ []
 cnt : T.ids.length + T.unknown.length <= countDots T.name + 1
 fmt : T.format ≠ [] -> formatNamed site.formats T.format = true /\ comp = kLayouts
 idb : T.idBase = if comp = kLayouts then T.path else T.base
 lgs : ∀ l ∈ T.langs, (amongL site.languages l || amongL site.disabled l) = true
 lg1 : T.langs ≠ [] -> T.lang = T.langs.headD []
 t3 : T.typ = 3 -> T.nameNoId = kIndex /\ amongL site.content T.ext = true
 t4 : T.typ = 4 -> T.nameNoId = kUIndex /\ amongL site.content T.ext = true
 t2 : T.typ = 2 -> amongL site.content T.ext = true
 bun : T.baseName = if T.isBundle then T.container else T.nameNoId
 pl0 : T.lang = [] -> T.pathNoLang = T.path
 pl1 : T.lang ≠ [] -> (T.dir = [47] /\ T.pathNoLang = [47] ++ (T.nameNoId ++ [46] ++ T.ext)) \/ (T.dir ≠ [47] /\ T.pathNoLang = T.dir ++ [47] ++ (T.nameNoId ++ [46] ++ T.ext))
 exl : T.ext.length <= 401
 dil : T.dir.length <= 401

theorem facts {site : SiteM} {comp s : Str} (hk : pathKnown site comp s = true) : Facts site comp s (toldM (doParseM site comp (normL s))) := by
 obtain ⟨h, a, hsec⟩ := known_agree hk
 have hT := told_answers a
 have hp := (known_parsable hk).1
 obtain ⟨e1, e2, e3, e4, hs400⟩ := pathKnown_len hk
 generalize hP : doParseM site comp (normL s) = P at a hsec hT
 obtain ⟨w, hw⟩ : ∃ w, w = wordsOf site comp s false := ⟨_, rfl⟩
 rw [<- hw] at a hsec hT
 have hwe := hw.trans (wordsOf_eq site comp s false)
 have hpath : w.path = normPath (normL s) := by rw [<- a.s_, <- hP]; exact (doParse_finished site comp (normL s)).s_
 have hpo : pathOf s false = w.path := by rw [hpath]; rfl
 have hname : w.name = lastPart w.path := by
  rw [hwe]
  show (readAll site comp (pathOf s false) (lastPart (pathOf s false))).w.name = lastPart (readAll site comp (pathOf s false) (lastPart (pathOf s false))).w.path
  rw [(readAll_keep site comp _ _).1, (readAll_keep site comp _ _).2]
 rw [hpo, <- hname] at hwe
 have hlowp : Low w.path := by rw [hpath]; exact low_norm (low_normL s)
 have hlown : Low w.name := by rw [a.name]; exact hlowp.drop _
 have hri := readAll_rinv site comp w.path hlown
 have hcm := readAll_cm site comp w.path w.name
 obtain ⟨r, hr⟩ : ∃ r, r = readAll site comp w.path w.name := ⟨_, rfl⟩
 rw [<- hr] at hri hcm hwe
 have hcomp : w.component = comp := by rw [<- a.cmp, <- hP]; exact (doParse_finished site comp (normL s)).comp_
 have hend : w.nameEnd = markEnd r.marks w.name.length := (congrArg WordsM.nameEnd hwe).trans rfl
 have hlen : w.path.length <= 401 := by
  rw [hpath]
  have := normPath_len (normL s)
  rw [normL_len2] at this; omega
 have hids : w.ids = r.w.ids := (congrArg WordsM.ids hwe).trans rfl
 have hunk : w.unknown = r.w.unknown := (congrArg WordsM.unknown hwe).trans rfl
 have hlg : w.langs = r.w.langs := (congrArg WordsM.langs hwe).trans rfl
 have hext : w.ext = r.w.ext := (congrArg WordsM.ext hwe).trans rfl
 have htyp5 : ∀ W, W = wordsEnd site w.name r -> W.typ = ReadM.typeOf site { r with w := { W with typ := r.w.typ } } := by intro W e; rw [e]; rfl
 have hlay : r.layouts = (comp == kLayouts) := by
  rw [hr]
  by_cases hn : cutPoints w.name = []
  ·unfold readAll; rw [if_pos hn]; rfl
  ·obtain ⟨h', b1, b2, b3, b4, b5, b6⟩ := scan_read site comp w.path hp.words a.hd (by rw [hpath]; exact hp.known)
   have := (b6.some (by rw [<- hname]; exact hn)).1.lys
   rw [<- hname] at this
   exact this
 have hnlen := a.nlen
 have hcuts : P.known = [] ↔ cutPoints w.name = [] := by
  constructor
  ·intro e
   apply Classical.byContradiction
   intro hn
   obtain ⟨h', b1, b2, b3, b4, b5, b6⟩ := scan_read site comp w.path hp.words a.hd (by rw [hpath]; exact hp.known)
   have := (b6.some (by rw [<- hname]; exact hn)).1.idsPos
   rw [<- hname, <- hr, <- hids, a.ids0.1 e] at this
   simp at this
  ·intro hn
   rw [a.ids0, hids, hr]
   unfold readAll; rw [if_pos hn]; rfl
 have hnod : (∀ j : Nat, w.name[j]? ≠ some 46) -> cutPoints w.name = [] := fun hj => by
  apply Classical.byContradiction
  intro hn
  obtain ⟨j, e⟩ := cuts_ne.1 hn
  exact hj j e
 have hne0 : cutPoints w.name = [] -> w.nameEnd = w.name.length := fun hn => by
  rw [hend, hr]; unfold readAll; rw [if_pos hn]; rfl
 rw [hT]
 refine ⟨?_, a.hd, ?_, hlowp, hlen, ⟨h + 1, by omega, a.hlt, a.name⟩, ?_, ⟨w.nameEnd, a.ne, rfl, ?_⟩, ?_, ?_, ?_, ?_, ?_, ?_, ?_, ?_, ?_, ?_, ?_, ?_, ?_, ?_, ?_⟩
 ·intro e
  have := a.hd
  have e : w.path = [] := e
  rw [e] at this; cases this
 ·show w.path = [47] \/ w.path.getLast? ≠ some 47
  rcases Nat.eq_or_lt_of_le (show 1 <= w.path.length by have := a.hlt; omega) with e | e
  ·left
   have := a.hd
   cases hx : w.path with
   | nil => rw [hx] at this; cases this
   | cons c t =>
    rw [hx] at this e
    have ht : t = [] := by simpa using e.symm
    have hc : c = 47 := by simpa using this
    rw [ht, hc]
  ·right
   rw [hpath] at e |-
   exact norm_last (noDbl_normL (noDbl_of e2)) e
 ·show ∀ j : Nat, w.name[j]? ≠ some 47
  obtain ⟨h', c1, c2, c3, c4, c5⟩ := last_slash a.hd
  rw [hname, c5]
  exact (at_of c2 c4).one
 ·rw [hend]; exact markEnd_at _ _ hcm (.inl rfl)
 ·intro hj
  have hn := hnod hj
  have hk0 := hcuts.2 hn
  have hi0 := a.ids0.1 hk0
  have hx : w.ext = [] := by
   rcases a.kn with ⟨_, x⟩ | ⟨c, x, _⟩
   ·exact x
   ·exact absurd hk0 (kn_ne x)
  have hl0 : w.lang = [] := by
   apply Classical.byContradiction
   intro z
   have := a.two z
   rw [hk0] at this; simp at this
  refine ⟨hi0, ?_, ?_, ?_, ?_, hx, hl0⟩
  ·show w.unknown = []
   rw [hunk, hr]; unfold readAll; rw [if_pos hn]; rfl
  ·show w.name.take w.nameEnd = w.name
   rw [hne0 hn, List.take_length]
  ·show beforeExt w w.name = w.name
   unfold beforeExt; rw [if_pos hi0]
  ·show noIdentifier w = w.path
   unfold noIdentifier; rw [if_pos hi0]
 ·rintro ⟨j, hj⟩ e
  have := hcuts.1 (a.ids0.2 e)
  exact cuts_ne.2 ⟨j, hj⟩ this
 ·show w.ids.length + w.unknown.length <= countDots w.name + 1
  have := hri.ct
  obtain ⟨h', c1, c2, c3, c4, c5⟩ := last_slash a.hd
  have ht : At w.path w.name (h' + 1) := by rw [hname, c5]; exact at_of c2 c4
  have := cuts_le_dots ht.toTail
  rw [hids, hunk]; omega
 ·intro hf
  have hf : w.format ≠ [] := hf
  have hwf : w.format = if r.layouts && (chooseL r.w.format r.format == []) && !(cutPoints w.name).isEmpty && formatNamed site.formats r.w.ext then r.w.ext else chooseL r.w.format r.format := (congrArg WordsM.format hwe).trans rfl
  show formatNamed site.formats w.format = true /\ comp = kLayouts
  have key : r.layouts = true /\ formatNamed site.formats w.format = true := by
   rw [hwf] at hf |-
   split
   ·rename_i hc
    simp only [Bool.and_eq_true] at hc
    exact ⟨hc.1.1.1, hc.2⟩
   ·rename_i hc
    rw [if_neg hc] at hf
    unfold chooseL at hf |-
    by_cases z : r.w.format ≠ []
    ·rw [if_pos z] at hf |-; exact hri.fw z
    ·rw [if_neg z] at hf |-; exact hri.fp hf
  rw [hlay] at key
  exact ⟨key.2, by simpa using key.1⟩
 ·show (if w.component = kLayouts then w.path else baseOf w) = _
  rw [hcomp]; rfl
 ·intro l hl
  have hl : l ∈ w.langs := hl
  rw [hlg] at hl
  exact hri.lg l hl
 ·intro hl
  have hl : w.langs ≠ [] := hl
  show w.lang = w.langs.headD []
  have : w.lang = if r.w.langs ≠ [] then r.w.langs.headD [] else r.lang := (congrArg WordsM.lang hwe).trans rfl
  rw [this, hlg, if_pos (by rw [<- hlg]; exact hl)]
 ·have := (typeOf_page site { r with w := { w with typ := r.w.typ } }).1
  intro ht
  refine this ?_
  rw [<- ht]
  exact (htyp5 w hwe).symm
 ·have := (typeOf_page site { r with w := { w with typ := r.w.typ } }).2.1
  intro ht
  refine this ?_
  rw [<- ht]
  exact (htyp5 w hwe).symm
 ·have := (typeOf_page site { r with w := { w with typ := r.w.typ } }).2.2
  intro ht
  refine this ?_
  rw [<- ht]
  exact (htyp5 w hwe).symm
 ·rfl
 ·intro hl
  have hl : w.lang = [] := hl
  show noLang w = w.path
  unfold noLang; rw [if_pos hl]
 ·intro hl
  have hl : w.lang ≠ [] := hl
  have e : noLang w = headOf w ++ w.name.take w.nameEnd ++ [46] ++ w.ext := by unfold noLang; rw [if_neg hl]
  show dirOf w.path = [47] /\ noLang w = _ \/ dirOf w.path ≠ [47] /\ noLang w = _
  rw [e, a.head_of]
  have hlt := a.hlt
  have htake : w.path.take (h + 1) = w.path.take h ++ [47] := by
   rw [List.take_succ_eq_append_getElem hlt]
   have := a.at_
   rw [List.getElem?_eq_getElem hlt] at this
   rw [Option.some.inj this]
  unfold dirOf
  rw [a.sl]
  by_cases h0 : h = 0
  ·left
   subst h0
   rw [if_pos (show ((0 : Nat) : Int) <= 0 by omega)]
   refine ⟨rfl, ?_⟩
   rw [htake, List.take_zero]
   simp [List.append_assoc]
   rfl
  ·right
   rw [if_neg (show ¬ (h : Int) <= 0 by omega), Int.toNat_natCast]
   refine ⟨?_, ?_⟩
   ·intro e
    have hl1 := congrArg List.length e
    rw [List.length_take, List.length_singleton] at hl1
    have h1 : h = 1 := by omega
    subst h1
    have h00 : w.path[0]? = some 47 := by rw [<- List.head?_eq_getElem?]; exact a.hd
    exact a.nodbl 0 h00 a.at_
   ·have hd : (answers w).dir = w.path.take h := by show dirOf w.path = _; unfold dirOf; rw [a.sl, if_neg (show ¬ (h : Int) <= 0 by omega), Int.toNat_natCast]
    show _ = (answers w).dir ++ _ ++ _
    rw [hd, htake]; simp [List.append_assoc]
    rfl
 ·show w.ext.length <= 401
  rcases a.kn with ⟨_, x⟩ | ⟨c, _, _, x, _⟩
  ·rw [x]; simp
  ·rw [x, List.length_drop]; omega
 ·show (dirOf w.path).length <= 401
  unfold dirOf
  split
  ·simp
  ·rw [List.length_take]; omega

end Go.Proofs.YtfekhbnefogkdaaGreatDoor
