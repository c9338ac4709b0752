/- Two parses that answer alike: of a text and of its normal form, of its own path, with a slash behind, at a site with its lists turned, with a format more, without extensions of content. Plain Lean; no program here. Conditions: paths of which something is said. -/
import Derived.Test.YtfekhbnefogkdaaGreatDoorLawP
set_option linter.unusedVariables false
set_option linter.unusedSimpArgs false
namespace Go.Proofs.YtfekhbnefogkdaaGreatDoor

theorem low_norm_id {t : Str} (h : Low t) : normL t = t := by
 unfold normL
 rw [show Lib.toLowerA t = t from h.lower]
 exact map_normB_of_ne fun x hx => (h x hx).2
theorem normL_twice (s : Str) : normL (normL s) = normL s := low_norm_id (low_normL s)
theorem pathOf_false (s : Str) : pathOf s false = normPath (normL s) := rfl
theorem pathOf_true (s : Str) : pathOf s true = normPath s := rfl
theorem words_path (site : SiteM) (comp : Str) {s t : Str} {a b : Bool} (h : pathOf s a = pathOf t b) : wordsOf site comp s a = wordsOf site comp t b := by
 rw [wordsOf_eq, wordsOf_eq, h]
theorem told_same {site : SiteM} {comp s t : Str} (h1 : pathKnown site comp s = true) (h2 : pathKnown site comp t = true) (h : pathOf t false = pathOf s false) :
  toldM (doParseM site comp (normL t)) = toldM (doParseM site comp (normL s)) := by
 rw [parse_eq h1, parse_eq h2]; unfold specParse; rw [words_path site comp h]
theorem told_path (site : SiteM) (comp s : Str) : (toldM (doParseM site comp (normL s))).path = pathOf s false := (doParse_finished site comp (normL s)).path_eq
theorem path_twice {site : SiteM} {comp s : Str} (hk : pathKnown site comp s = true) : pathOf (pathOf s false) false = pathOf s false := by
 have hf := facts hk
 have e := told_path site comp s
 have low := hf.low
 have hd := hf.hd
 have last := hf.last
 have ne := hf.ne
 rw [e] at low hd last ne
 clear hf e
 generalize pathOf s false = p at low hd last ne |-
 rw [pathOf_false, low_norm_id low]
 unfold normPath
 rw [if_neg ne]
 have e1 : slashed p = p := by unfold slashed; rw [if_pos hd]
 rw [e1]; unfold trimEnd
 rcases last with rfl | h
 ·rfl
 ·rw [if_neg fun h' => h h'.2]
theorem norm_twice (s : Str) : pathOf (normL s) false = pathOf s false := by rw [pathOf_false, pathOf_false, normL_twice]
theorem slash_behind {s : Str} (h1 : s ≠ []) (h2 : s.getLast? ≠ some 47) : pathOf (s ++ [47]) false = pathOf s false := by
 have e : normL (s ++ [47]) = normL s ++ [47] := by unfold normL Lib.toLowerA; rw [List.map_append, List.map_append]; rfl
 have n0 : normL s ≠ [] := fun e => h1 (by have := congrArg List.length e; rw [normL_len2] at this; exact List.length_eq_zero_iff.1 this)
 have n1 : (normL s).getLast? ≠ some 47 := by
  rw [List.getLast?_eq_getElem?] at h2 |-
  rw [normL_len2]
  exact fun e => h2 ((normL_get s _).1 e)
 rw [pathOf_false, pathOf_false, e]
 generalize normL s = u at n0 n1
 unfold normPath
 rw [if_neg (by simp), if_neg n0]
 have a : slashed (u ++ [47]) = slashed u ++ [47] := by
  unfold slashed
  have hh : (u ++ [47]).head? = u.head? := by
   cases u with
   | nil => exact absurd rfl n0
   | cons c t => rfl
  by_cases hc : u.head? = some 47
  ·rw [if_pos hc, if_pos (hh.trans hc)]
  ·rw [if_neg hc, if_neg (fun x => hc (hh.symm.trans x))]; rfl
 have b : (slashed u).getLast? ≠ some 47 := by
  unfold slashed
  split
  ·exact n1
  ·cases u with
   | nil => exact absurd rfl n0
   | cons c t => rw [List.getLast?_cons_cons]; exact n1
 have c : slashed u ≠ [] := by
  unfold slashed
  split
  ·exact n0
  ·simp
 have d := List.length_pos_iff.2 c
 rw [a]
 unfold trimEnd
 rw [if_pos ⟨by rw [List.length_append, List.length_singleton]; omega, by simp⟩, if_neg (fun h => b h.2), List.dropLast_concat]

/-! ### Sites that read alike -/
structure SameSite (a b : SiteM) : Prop where
 l : ∀ x, amongL a.languages x = amongL b.languages x
 d : ∀ x, amongL a.disabled x = amongL b.disabled x
 n : ∀ x, formatNamed a.formats x = formatNamed b.formats x
 f : ∀ x y, formatBeside a.formats x y = formatBeside b.formats x y
theorem SameSite.wrapper {a b : SiteM} (h : SameSite a b) (r : ReadM) (word x : Str) (at_ : Int) : ReadM.wrapper a r word x at_ = ReadM.wrapper b r word x at_ := by
 unfold ReadM.wrapper; simp only [h.l, h.d, h.n]
theorem SameSite.plain {a b : SiteM} (h : SameSite a b) (r : ReadM) (word : Str) (at_ : Int) : ReadM.plain a r word at_ = ReadM.plain b r word at_ := by
 unfold ReadM.plain; simp only [h.l, h.d, h.f]
theorem SameSite.readWord {a b : SiteM} (h : SameSite a b) (name : Str) (cuts : List Nat) (r : ReadM) (i e : Nat) : readWord a name cuts r i e = readWord b name cuts r i e := by
 unfold Go.Proofs.YtfekhbnefogkdaaGreatDoor.readWord; simp only [h.wrapper, h.plain]
theorem SameSite.readDown {a b : SiteM} (h : SameSite a b) (name : Str) (cuts : List Nat) : ∀ (n : Nat) (r : ReadM) (e : Nat), readDown a name cuts n r e = readDown b name cuts n r e
 | 0, r, e => by unfold Go.Proofs.YtfekhbnefogkdaaGreatDoor.readDown; rw [h.readWord]
 | n + 1, r, e => by unfold Go.Proofs.YtfekhbnefogkdaaGreatDoor.readDown; rw [h.readWord, h.readDown name cuts n]
theorem SameSite.readAll {a b : SiteM} (h : SameSite a b) (comp path name : Str) : readAll a comp path name = readAll b comp path name := by
 unfold Go.Proofs.YtfekhbnefogkdaaGreatDoor.readAll; rw [h.readDown]
theorem typeOf_site {a b : SiteM} (h : ∀ x, amongL a.content x = amongL b.content x) (r : ReadM) : ReadM.typeOf a r = ReadM.typeOf b r := by
 unfold ReadM.typeOf; simp only [h]
theorem SameSite.words {a b : SiteM} (h : SameSite a b) (hc : ∀ x, amongL a.content x = amongL b.content x) (comp s : Str) (own : Bool) : wordsOf a comp s own = wordsOf b comp s own := by
 rw [wordsOf_eq, wordsOf_eq, h.readAll]
 unfold wordsEnd
 simp only [h.n, typeOf_site hc]

def turnedL (s : SiteM) : SiteM := ⟨s.languages.reverse, s.disabled.reverse, s.formats.reverse, s.content.reverse⟩
theorem turned_same (s : SiteM) : SameSite (turnedL s) s := ⟨fun x => List.any_reverse, fun x => List.any_reverse, fun x => List.any_reverse, fun x y => List.any_reverse⟩
theorem told_turned {site : SiteM} {comp s : Str} (h1 : pathKnown site comp s = true) (h2 : pathKnown (turnedL site) comp s = true) :
  toldM (doParseM (turnedL site) comp (normL s)) = toldM (doParseM site comp (normL s)) := by
 rw [parse_eq h1, parse_eq h2]; unfold specParse
 rw [(turned_same site).words (fun x => List.any_reverse) comp s false]

/-! ### A site without extensions of content -/
def bareL (s : SiteM) : SiteM := { s with content := [] }
theorem bare_same (s : SiteM) : SameSite (bareL s) s := ⟨fun _ => rfl, fun _ => rfl, fun _ => rfl, fun _ _ => rfl⟩
theorem typeOf_none {b : SiteM} (h : b.content = []) (r : ReadM) : ReadM.typeOf b r < 1 \/ 4 < ReadM.typeOf b r := by
 have e : amongL b.content r.w.ext = false := by rw [h]; rfl
 unfold ReadM.typeOf
 simp only [e, Bool.and_false, Bool.false_and, Bool.false_eq_true, if_false]
 repeat' split
 all_goals first | (left; decide) | (right; decide)
/-- The words of a path without extensions of content: but for the type the same. -/
theorem words_bare (site : SiteM) (comp s : Str) : ∃ t, (t < 1 \/ 4 < t) /\ wordsOf (bareL site) comp s false = { wordsOf site comp s false with typ := t } := by
 rw [wordsOf_eq, wordsOf_eq, (bare_same site).readAll]
 exact ⟨_, typeOf_none rfl _, rfl⟩

/-! ### Answers that have the same words, or are of the same sort -/
structure SameWords (a b : ToldM) : Prop where
 ext : a.ext = b.ext
 format : a.format = b.format
 kind : a.kind = b.kind
 layout : a.layout = b.layout
 lang : a.lang = b.lang
 custom : a.custom = b.custom
 disabled : a.disabled = b.disabled
structure SameSorts (a b : ToldM) : Prop where
 typ : a.typ = b.typ
 isContent : a.isContent = b.isContent
 isBundle : a.isBundle = b.isBundle
 isBranch : a.isBranch = b.isBranch
 isLeaf : a.isLeaf = b.isLeaf
 isData : a.isData = b.isData
theorem told_bare {site : SiteM} {comp s : Str} (h1 : pathKnown site comp s = true) (h2 : pathKnown (bareL site) comp s = true) :
  ∃ x, x = toldM (doParseM (bareL site) comp (normL s)) /\ (x.typ < 1 \/ 4 < x.typ) /\ x.name = (toldM (doParseM site comp (normL s))).name /\ SameWords x (toldM (doParseM site comp (normL s))) /\
   x.ids = (toldM (doParseM site comp (normL s))).ids /\ x.unknown = (toldM (doParseM site comp (normL s))).unknown := by
 obtain ⟨t, ht, e⟩ := words_bare site comp s
 refine ⟨_, rfl, ?_⟩
 rw [parse_eq h1, parse_eq h2]
 unfold specParse
 rw [e]
 exact ⟨ht, rfl, ⟨rfl, rfl, rfl, rfl, rfl, rfl, rfl⟩, rfl, rfl⟩

/-! ### A format more -/
theorem infix_holds {s u : Str} (h : u <:+: s) : holdsL s u = true := by
 unfold holdsL
 induction s with
 | nil =>
  have e : u = [] := List.infix_nil.1 h
  subst e; rfl
 | cons c t ih =>
  unfold idx?
  cases hp : List.isPrefixOf u (c :: t) with
  | true => rfl
  | false =>
   rcases List.infix_cons_iff.1 h with h | h
   ·rw [List.isPrefixOf_iff_prefix.2 h] at hp; cases hp
   ·have := ih h
    rw [if_neg (by decide)]
    cases e : idx? u t with
    | none => rw [e] at this; cases this
    | some k => rfl
theorem drop_infix (l : Str) (n : Nat) : l.drop n <:+: l := (List.drop_suffix n l).isInfix
theorem take_infix (l : Str) (n : Nat) : l.take n <:+: l := (List.take_prefix n l).isInfix
theorem tagStr_infix (x p : Str) : tagStr x p <:+: x := by
 unfold tagStr
 split
 ·exact drop_infix _ _
 ·exact List.nil_infix
theorem wrapped_infix {word x : Str} (e : wrapped word = some x) : x <:+: word := by
 unfold wrapped at e
 split at e
 ·cases e
 ·obtain rfl := Option.some.inj e
  exact (take_infix _ _).trans (drop_infix _ _)
/-- Two sites that are alike but for formats whose names do not stand in a name. -/
structure AlikeIn (a b : SiteM) (name : Str) : Prop where
 l : a.languages = b.languages
 d : a.disabled = b.disabled
 n : ∀ u, u <:+: name -> formatNamed a.formats u = formatNamed b.formats u
 f : ∀ u y, u <:+: name -> formatBeside a.formats u y = formatBeside b.formats u y
theorem AlikeIn.wrapper {a b : SiteM} {name : Str} (h : AlikeIn a b name) (hl : Low name) (r : ReadM) {word x : Str} (at_ : Int) (hx : x <:+: name) : ReadM.wrapper a r word x at_ = ReadM.wrapper b r word x at_ := by
 have lowx : Low x := fun y hy => hl y (hx.subset hy)
 rw [wrapper_eq, wrapper_eq]
 have e1 : langHit a x = langHit b x := by unfold langHit; rw [h.l, h.d]
 have e2 : fmtHit a x = fmtHit b x := by unfold fmtHit; rw [(tagStr_low lowx).lower, h.n _ ((tagStr_infix x pFormat).trans hx)]
 have e3 : readLang a r (langV x) at_ = readLang b r (langV x) at_ := by unfold readLang; rw [h.l]
 rw [e1, e2, e3]
theorem AlikeIn.plain {a b : SiteM} {name : Str} (h : AlikeIn a b name) (r : ReadM) {word : Str} (at_ : Int) (hw : word <:+: name) : ReadM.plain a r word at_ = ReadM.plain b r word at_ := by
 rw [plain_eq, plain_eq, h.l, h.d, h.f _ _ hw]
theorem AlikeIn.readWord {a b : SiteM} {name : Str} (h : AlikeIn a b name) (hl : Low name) (cuts : List Nat) (r : ReadM) (i e : Nat) : readWord a name cuts r i e = readWord b name cuts r i e := by
 unfold Go.Proofs.YtfekhbnefogkdaaGreatDoor.readWord
 dsimp only
 have hw : ((name.drop (if i = 0 then 0 else cuts.getD (i - 1) 0 + 1)).take (e - (if i = 0 then 0 else cuts.getD (i - 1) 0 + 1))) <:+: name := (take_infix _ _).trans (drop_infix _ _)
 generalize (name.drop (if i = 0 then 0 else cuts.getD (i - 1) 0 + 1)).take (e - (if i = 0 then 0 else cuts.getD (i - 1) 0 + 1)) = word at hw
 cases hx : wrapped word with
 | none => simp only [h.plain r _ hw]
 | some x => simp only [h.wrapper hl r _ ((wrapped_infix hx).trans hw)]
theorem AlikeIn.readDown {a b : SiteM} {name : Str} (h : AlikeIn a b name) (hl : Low name) (cuts : List Nat) : ∀ (n : Nat) (r : ReadM) (e : Nat), readDown a name cuts n r e = readDown b name cuts n r e
 | 0, r, e => by unfold Go.Proofs.YtfekhbnefogkdaaGreatDoor.readDown; rw [h.readWord hl]
 | n + 1, r, e => by unfold Go.Proofs.YtfekhbnefogkdaaGreatDoor.readDown; rw [h.readWord hl, h.readDown hl cuts n]
theorem AlikeIn.readAll {a b : SiteM} {name : Str} (h : AlikeIn a b name) (hl : Low name) (comp path : Str) : readAll a comp path name = readAll b comp path name := by
 unfold Go.Proofs.YtfekhbnefogkdaaGreatDoor.readAll; rw [h.readDown hl]
def moreL (s : SiteM) (f : Str × Str) : SiteM := { s with formats := s.formats ++ [f] }
theorem low_lastPart {p : Str} (h : Low p) : Low (lastPart p) := h.drop _
theorem ext_infix {site : SiteM} {comp s : Str} (hk : pathKnown site comp s = true) : (wordsOf site comp s false).ext <:+: lastPart (pathOf s false) := by
 obtain ⟨h, a, _⟩ := known_agree hk
 have hn : (wordsOf site comp s false).name = lastPart (pathOf s false) := by
  rw [wordsOf_eq]
  exact (readAll_keep site comp _ _).2
 rw [<- hn]
 rcases a.kn with ⟨_, x⟩ | ⟨c, _, _, x, _⟩
 ·rw [x]; exact List.nil_infix
 ·rw [x]; exact drop_infix _ _
theorem low_site {s : Str} (h : siteWord s = true) : Low s := by
 unfold siteWord at h
 rw [Bool.and_eq_true, Bool.and_eq_true] at h
 have h1 := List.all_eq_true.1 h.1.1
 have hb : ∀ c : UInt8, siteWordB c = true -> Lib.lowerB c = c /\ c ≠ 32 := fun c => by
  have h : ∀ n : Fin 256, siteWordB (UInt8.ofNat n) = true -> Lib.lowerB (UInt8.ofNat n) = UInt8.ofNat n /\ UInt8.ofNat n ≠ 32 := by decide +kernel
  have := h ⟨c.toNat, c.toNat_lt⟩
  simpa using this
 exact fun x hx => hb x (h1 x hx)
theorem site_noSlash {s : Str} (h : siteWord s = true) : (47 : UInt8) ∉ s := by
 unfold siteWord at h
 rw [Bool.and_eq_true, Bool.and_eq_true] at h
 have h1 := List.all_eq_true.1 h.1.1
 exact fun hx => absurd (h1 47 hx) (by decide)
/-- What stands in the last part stands in the normal form. -/
theorem name_in {s u : Str} (h0 : u ≠ []) (hs : (47 : UInt8) ∉ u) (h : u <:+: normPath s) : u <:+: s := by
 unfold normPath at h
 have key : ∀ t : Str, u <:+: (47 :: t) -> u <:+: t := fun t ht => by
  rcases List.infix_cons_iff.1 ht with ht | ht
  ·cases u with
   | nil => exact absurd rfl h0
   | cons c u =>
    have := (List.cons_prefix_cons.1 ht).1
    subst this
    exact absurd List.mem_cons_self hs
  ·exact ht
 split at h
 ·have := key [] h
  exact absurd (List.infix_nil.1 this) h0
 ·have h2 : u <:+: slashed s := by
   unfold trimEnd at h
   split at h
   ·exact h.trans (List.dropLast_prefix _).isInfix
   ·exact h
  unfold slashed at h2
  split at h2
  ·exact h2
  ·exact key s h2
theorem told_more {site : SiteM} {comp s : Str} {f : Str × Str} (h1 : pathKnown site comp s = true) (h2 : pathKnown (moreL site f) comp s = true) (hw : holdsL (normL s) f.1 = false) :
  toldM (doParseM (moreL site f) comp (normL s)) = toldM (doParseM site comp (normL s)) := by
 have hf := facts h1
 have low := hf.low
 rw [told_path] at low
 have hsk := (pathKnown_len h2).1
 have hfw : siteWord f.1 = true := by
  unfold siteKnown at hsk
  simp only [Bool.and_eq_true, List.all_eq_true] at hsk
  exact (hsk.2 f (by show f ∈ site.formats ++ [f]; simp)).1
 have hne : f.1 ≠ [] := fun e => by rw [e] at hfw; exact absurd hfw (by decide)
 have hno : ∀ u, u <:+: lastPart (pathOf s false) -> (f.1 == u) = false := fun u hu => by
  cases e : f.1 == u with
  | false => rfl
  | true =>
   have e : f.1 = u := by simpa using e
   subst e
   rw [infix_holds (name_in (s := normL s) hne (site_noSlash hfw) (hu.trans (drop_infix _ _)))] at hw
   cases hw
 have ha : AlikeIn (moreL site f) site (lastPart (pathOf s false)) := by
  refine ⟨rfl, rfl, fun u hu => ?_, fun u y hu => ?_⟩
  ·show (site.formats ++ [f]).any _ = _
   rw [List.any_append]
   simp [hno u hu, formatNamed]
  ·show (site.formats ++ [f]).any _ = _
   rw [List.any_append]
   simp [hno u hu, formatBeside]
 have hx := ext_infix h1
 rw [parse_eq h1, parse_eq h2]
 unfold specParse
 have e : wordsOf (moreL site f) comp s false = wordsOf site comp s false := by
  rw [wordsOf_eq] at hx |-
  rw [wordsOf_eq, ha.readAll (low_lastPart low)]
  have hx2 : (readAll site comp (pathOf s false) (lastPart (pathOf s false))).w.ext <:+: lastPart (pathOf s false) := hx
  unfold wordsEnd
  dsimp only
  rw [ha.n _ hx2]
  rfl
 rw [e]

/-! ### A path in its own letters, made normal -/
theorem normL_get_slash (p : Str) : ∀ k, slashB (normL p) k = slashB p k
 | 0 => rfl
 | k + 1 => by
  unfold slashB
  rw [normL_get_slash p k]
  by_cases h : p[k]? = some 47
  ·rw [if_pos h, if_pos ((normL_get p k).2 h)]
  ·rw [if_neg h, if_neg (fun e => h ((normL_get p k).1 e))]
theorem normL_drop (s : Str) (n : Nat) : normL (s.drop n) = (normL s).drop n := by unfold normL Lib.toLowerA; rw [<- List.map_drop, <- List.map_drop]
theorem normL_take (s : Str) (n : Nat) : normL (s.take n) = (normL s).take n := by unfold normL Lib.toLowerA; rw [<- List.map_take, <- List.map_take]
theorem normL_nil {s : Str} : normL s = [] ↔ s = [] := by
 constructor
 ·intro e
  have := congrArg List.length e
  rw [normL_len2] at this
  exact List.length_eq_zero_iff.1 this
 ·rintro rfl; rfl
theorem normL_cons (c : UInt8) (s : Str) : normL (c :: s) = normB (Lib.lowerB c) :: normL s := rfl
theorem normL_slashed (s : Str) : normL (slashed s) = slashed (normL s) := by
 unfold slashed
 have e : (normL s).head? = some 47 ↔ s.head? = some 47 := by rw [List.head?_eq_getElem?, List.head?_eq_getElem?]; exact normL_get s 0
 by_cases h : s.head? = some 47
 ·rw [if_pos h, if_pos (e.2 h)]
 ·rw [if_neg h, if_neg (fun x => h (e.1 x))]; rfl
theorem normL_trim (s : Str) : normL (trimEnd s) = trimEnd (normL s) := by
 unfold trimEnd
 have e : (normL s).getLast? = some 47 ↔ s.getLast? = some 47 := by rw [List.getLast?_eq_getElem?, List.getLast?_eq_getElem?, normL_len2]; exact normL_get s _
 by_cases h : 1 < s.length /\ s.getLast? = some 47
 ·rw [if_pos h, if_pos ⟨by rw [normL_len2]; exact h.1, e.2 h.2⟩, List.dropLast_eq_take, List.dropLast_eq_take, normL_len2, normL_take]
 ·rw [if_neg h, if_neg (fun x => h ⟨by have := x.1; rw [normL_len2] at this; exact this, e.1 x.2⟩)]
theorem normL_normPath (s : Str) : normL (normPath s) = normPath (normL s) := by
 unfold normPath
 by_cases h : s = []
 ·subst h; rfl
 ·rw [if_neg h, if_neg (fun e => h (normL_nil.1 e)), normL_trim, normL_slashed]
theorem normL_lastPart (p : Str) : normL (lastPart p) = lastPart (normL p) := by unfold lastPart; rw [normL_drop, normL_get_slash, normL_len2]
theorem normL_dirOf (p : Str) : normL (dirOf p) = dirOf (normL p) := by
 unfold dirOf
 rw [normL_get_slash, normL_len2]
 split
 ·rfl
 ·rw [normL_take]
theorem normL_containerOf (p : Str) : normL (containerOf p) = containerOf (normL p) := by
 unfold containerOf
 rw [normL_get_slash, normL_len2]
 split
 ·rfl
 ·rw [normL_lastPart, normL_take]
theorem ascii_norm {s : Str} (h : asciiL s = true) : asciiL (normPath s) = true := by
 have key : ∀ t : Str, asciiL t = true -> asciiL (47 :: t) = true := fun t ht => by
  unfold asciiL at ht |-
  rw [List.all_cons, ht]; rfl
 unfold normPath
 split
 ·rfl
 ·have h2 : asciiL (slashed s) = true := by
   unfold slashed
   split
   ·exact h
   ·exact key s h
  unfold trimEnd
  split
  ·unfold asciiL at h2 |-
   rw [List.all_eq_true] at h2 |-
   exact fun x hx => h2 x (List.dropLast_subset _ hx)
  ·exact h2
theorem ascii_sub {s t : Str} (h : asciiL s = true) (ht : ∀ x ∈ t, x ∈ s) : asciiL t = true := by
 unfold asciiL at h |-
 rw [List.all_eq_true] at h |-
 exact fun x hx => h x (ht x hx)
structure SmallOf (U T : ToldM) : Prop where
 ne : U.path ≠ []
 path : normL U.path = T.path
 name : normL U.name = T.name
 dir : normL U.dir = T.dir
 container : normL U.container = T.container
 ap : asciiL U.path = true
 an : asciiL U.name = true
 ad : asciiL U.dir = true
 ac : asciiL U.container = true
 lp : U.path.length <= 401
 ln : U.name.length <= 401
 ld : U.dir.length <= 401
 lc : U.container.length <= 401
theorem unn_small {site : SiteM} {comp s : Str} (hk : pathKnown site comp s = true) : SmallOf (toldM (doParseM site comp s)) (toldM (doParseM site comp (normL s))) := by
 obtain ⟨_, _, ha, _, hl⟩ := pathKnown_len hk
 rw [parse_eq hk, unnorm_eq hk]
 have hp : ∀ b, (wordsOf site comp s b).path = pathOf s b := fun b => by rw [wordsOf_eq]; exact (readAll_keep site comp _ _).1
 have hn : ∀ b, (wordsOf site comp s b).name = lastPart (pathOf s b) := fun b => by rw [wordsOf_eq]; exact (readAll_keep site comp _ _).2
 unfold specParse specUnnormalized answers
 rw [hp, hp, hn, hn]
 have ap := ascii_norm ha
 have lp : (normPath s).length <= 401 := by have := normPath_len s; omega
 rw [pathOf_true, pathOf_false]
 have hd : ∀ x ∈ dirOf (normPath s), x ∈ normPath s \/ x = 47 := fun x hx => by
  unfold dirOf at hx
  split at hx
  ·exact .inr (by simpa using hx)
  ·exact .inl (List.mem_of_mem_take hx)
 have hc : ∀ x ∈ containerOf (normPath s), x ∈ normPath s := fun x hx => by
  unfold containerOf at hx
  split at hx
  ·cases hx
  ·unfold lastPart at hx
   exact List.mem_of_mem_take (List.mem_of_mem_drop hx)
 refine ⟨normPath_ne s, normL_normPath s, by rw [normL_lastPart, normL_normPath], by rw [normL_dirOf, normL_normPath], by rw [normL_containerOf, normL_normPath], ap, ascii_sub ap (fun x hx => List.mem_of_mem_drop hx), ?_, ascii_sub ap hc, lp, ?_, ?_, ?_⟩
 ·unfold asciiL
  rw [List.all_eq_true]
  intro x hx
  rcases hd x hx with h | rfl
  ·exact List.all_eq_true.1 ap x h
  ·rfl
 ·show (lastPart (normPath s)).length <= 401
  unfold lastPart; rw [List.length_drop]; omega
 ·show (dirOf (normPath s)).length <= 401
  unfold dirOf
  split
  ·simp
  ·rw [List.length_take]; omega
 ·show (containerOf (normPath s)).length <= 401
  unfold containerOf lastPart
  split
  ·simp
  ·rw [List.length_drop, List.length_take]; omega

end Go.Proofs.YtfekhbnefogkdaaGreatDoor
