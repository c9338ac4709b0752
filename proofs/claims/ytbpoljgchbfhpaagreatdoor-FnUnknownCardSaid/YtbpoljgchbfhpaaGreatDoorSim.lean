/- One word of a path's last part: what the package makes of it and what the reference makes of it tell the same. Plain Lean; no program here. Conditions: a site whose words are not empty; a word that is no tag alone. -/
import Derived.Test.YtbpoljgchbfhpaaGreatDoorSlash
set_option linter.unusedVariables false
set_option linter.unusedSimpArgs false
namespace Go.Proofs.YtbpoljgchbfhpaaGreatDoor

/-! ### A field that points to a word -/
/-- i is no place, t nothing; or i is a place of l (not that of the layout), and t stands there. -/
def Fld (l : List Str) (lay i : Int) (t : Str) : Prop := (i = -1 ∧ t = []) ∨ ∃ k : Nat, i = (k : Int) ∧ k < l.length ∧ (k : Int) ≠ lay ∧ l[k]? = some t ∧ t ≠ []
/-- l' is l with more behind it, or with another layout word. -/
structure Grow (l l' : List Str) (lay lay' : Int) : Prop where
  len : l.length ≤ l'.length
  old : ∀ k : Nat, k < l.length → (k : Int) ≠ lay → l'[k]? = l[k]?
  lay : lay' = lay ∨ lay = -1 ∧ lay' = (l.length : Int)
theorem Fld.grow {l l' : List Str} {lay lay' i : Int} {t : Str} (h : Fld l lay i t) (g : Grow l l' lay lay') : Fld l' lay' i t := by
  rcases h with h | ⟨k, h1, h2, h3, h4, h5⟩
  · exact .inl h
  · refine .inr ⟨k, h1, Nat.lt_of_lt_of_le h2 g.len, ?_, (g.old k h2 h3).trans h4, h5⟩
    rcases g.lay with e | ⟨_, e⟩
    · rw [e]; exact h3
    · rw [e]; omega
theorem Fld.none {l : List Str} {lay : Int} : Fld l lay (-1) [] := .inl ⟨rfl, rfl⟩
theorem Fld.new {l : List Str} {lay : Int} {t : Str} (h : t ≠ []) (hl : lay < (l.length : Int)) : Fld (l ++ [t]) lay (l.length : Int) t :=
  .inr ⟨l.length, rfl, by simp, by omega, by simp, h⟩
theorem Grow.app (l : List Str) (x : Str) (lay : Int) : Grow l (l ++ [x]) lay lay := ⟨by simp, fun k h _ => List.getElem?_append_left h, .inl rfl⟩
theorem Grow.appLay (l : List Str) (x : Str) : Grow l (l ++ [x]) (-1) (l.length : Int) := ⟨by simp, fun k h _ => List.getElem?_append_left h, .inr ⟨rfl, rfl⟩⟩
theorem Grow.setLay (l : List Str) (x : Str) (k : Nat) : Grow l (l.set k x) (k : Int) (k : Int) :=
  ⟨by simp, fun j _ hj => List.getElem?_set_ne (by omega), .inl rfl⟩
/-- The word at a place. -/
theorem Fld.str {p : PathS} {lay i : Int} {t : Str} (h : Fld (p.known.map (sub p.s)) lay i t) : p.idStr i = t := by
  unfold PathS.idStr
  rcases h with ⟨rfl, rfl⟩ | ⟨k, rfl, h2, _, h4, _⟩
  · rw [if_pos (.inl (by decide))]
  · rw [List.length_map] at h2
    rw [if_neg (by omega), Int.toNat_natCast, List.getD_eq_getElem?_getD, List.getElem?_eq_getElem h2]
    rw [List.getElem?_map, List.getElem?_eq_getElem h2] at h4
    exact Option.some.inj h4
theorem Fld.iff {l : List Str} {lay i : Int} {t : Str} (h : Fld l lay i t) : i = -1 ↔ t = [] := by
  rcases h with ⟨rfl, rfl⟩ | ⟨k, rfl, _, _, _, h5⟩
  · simp
  · constructor
    · intro e; omega
    · intro e; exact absurd e h5

inductive Flds (l : List Str) (lay : Int) : List Nat → List Str → Prop
  | nil : Flds l lay [] []
  | cons {i : Nat} {t : Str} {is : List Nat} {ts : List Str} : Fld l lay (i : Int) t → Flds l lay is ts → Flds l lay (i :: is) (t :: ts)
theorem Flds.grow {l l' : List Str} {lay lay' : Int} {is : List Nat} {ts : List Str} (h : Flds l lay is ts) (g : Grow l l' lay lay') : Flds l' lay' is ts := by
  induction h with
  | nil => exact .nil
  | cons a _ ih => exact .cons (a.grow g) ih
theorem Flds.snoc {l : List Str} {lay : Int} {is : List Nat} {ts : List Str} {i : Nat} {t : Str} (h : Flds l lay is ts) (a : Fld l lay (i : Int) t) : Flds l lay (is ++ [i]) (ts ++ [t]) := by
  induction h with
  | nil => exact .cons a .nil
  | cons b _ ih => exact .cons b ih

/-! ### A path under way, and a reading -/
structure Sim (site : SiteM) (comp : Str) (p : PathS) (r : ReadM) : Prop where
  cmp : r.w.component = comp
  lys : r.layouts = (comp == kLayouts)
  sho : r.shortcode = decide (p.typ = 7)
  ids : r.w.ids = p.known.map (sub p.s)
  unk : r.w.unknown = p.unknown.map (sub p.s)
  ext : r.w.ids[0]? = some r.w.ext
  exn : r.w.ext ≠ []
  lay : r.layoutAt = p.lay ∧ (p.lay = -1 ∧ r.layout = [] ∨ ∃ k : Nat, p.lay = (k : Int) ∧ 1 ≤ k ∧ k < r.w.ids.length ∧ r.w.ids[k]? = some r.layout)
  lng : Fld r.w.ids p.lay p.lang r.lang ∧ r.hasLang = (p.lang != -1)
  lgs : Flds r.w.ids p.lay p.langs r.w.langs
  fmt : r.format = [] ∧ p.fmt = (if (comp == kLayouts) && isFormat site r.w.ext [] then 0 else -1) ∨ r.format ≠ [] ∧ Fld r.w.ids p.lay p.fmt r.format
  knd : Fld r.w.ids p.lay p.kind r.kind ∧ r.hasKind = (p.kind != -1)
  bas : r.baseof = (p.baseof != -1) ∧ -1 ≤ p.baseof
  cus : ∃ cw, Fld r.w.ids p.lay p.custom cw ∧ r.w.custom = trimSuf (trimPre cw)
  pfm : Fld r.w.ids p.lay p.pfmt r.w.format
  pkn : Fld r.w.ids p.lay p.pkind r.w.kind
  ply : Fld r.w.ids p.lay p.play r.w.layout
  dis : r.w.disabled = p.disabled

theorem Sim.layLt {site : SiteM} {comp : Str} {p : PathS} {r : ReadM} (h : Sim site comp p r) : p.lay < (r.w.ids.length : Int) := by
  rcases h.lay.2 with ⟨e, _⟩ | ⟨k, e, _, h2, _⟩
  · rw [e]; omega
  · rw [e]; omega
theorem Sim.len {site : SiteM} {comp : Str} {p : PathS} {r : ReadM} (h : Sim site comp p r) : (p.known.length : Int) = (r.w.ids.length : Int) := by rw [h.ids, List.length_map]
theorem Sim.idsPos {site : SiteM} {comp : Str} {p : PathS} {r : ReadM} (h : Sim site comp p r) : 0 < r.w.ids.length := by
  have := h.ext
  rcases Nat.eq_zero_or_pos r.w.ids.length with e | e
  · rw [List.getElem?_eq_none (by omega)] at this; cases this
  · exact e

/-- A word is added to the identifiers: what stays. p' and r' differ from p and r in the field that 'new' tells alone. -/
theorem Sim.add {site : SiteM} {comp : Str} {p : PathS} {r : ReadM} (h : Sim site comp p r) (id : Nat × Nat) (t : Str) (ht : sub p.s id = t) (at_ : Int) : Sim site comp (p.addKnown id) (r.identify t at_) := by
  have g : Grow r.w.ids (r.w.ids ++ [t]) p.lay p.lay := Grow.app _ _ _
  have hp := h.idsPos
  refine ⟨h.cmp, h.lys, h.sho, ?_, h.unk, ?_, h.exn, ⟨h.lay.1, ?_⟩, ⟨h.lng.1.grow g, h.lng.2⟩, h.lgs.grow g, ?_, ⟨h.knd.1.grow g, h.knd.2⟩, h.bas, ?_, h.pfm.grow g, h.pkn.grow g, h.ply.grow g, h.dis⟩
  · show r.w.ids ++ [t] = (p.known ++ [id]).map (sub p.s)
    rw [List.map_append, List.map_singleton, ht, h.ids]
  · show (r.w.ids ++ [t])[0]? = _
    rw [List.getElem?_append_left hp]; exact h.ext
  · rcases h.lay.2 with e | ⟨k, a, b, c, d⟩
    · exact .inl e
    · refine .inr ⟨k, a, b, ?_, ?_⟩
      · show k < (r.w.ids ++ [t]).length
        rw [List.length_append]; omega
      · show (r.w.ids ++ [t])[k]? = _
        rw [List.getElem?_append_left c]; exact d
  · rcases h.fmt with e | ⟨a, b⟩
    · exact .inl e
    · exact .inr ⟨a, b.grow g⟩
  · obtain ⟨cw, a, b⟩ := h.cus
    exact ⟨cw, a.grow g, b⟩
theorem Sim.new {site : SiteM} {comp : Str} {p : PathS} {r : ReadM} (h : Sim site comp p r) {t : Str} (hn : t ≠ []) : Fld (r.w.ids ++ [t]) p.lay (p.known.length : Int) t := by
  rw [h.len]
  exact Fld.new hn h.layLt

/-! ### Prefixes -/
theorem startsL_two {l p q : Str} (h1 : startsL l p = true) (h2 : startsL l q = true) : startsL q p = true ∨ startsL p q = true := by
  unfold startsL at *
  rw [List.isPrefixOf_iff_prefix] at *
  rw [List.isPrefixOf_iff_prefix]
  exact List.prefix_or_prefix_of_prefix h1 h2
theorem startsL_not {l p q : Str} (h1 : startsL l p = true) (h : (startsL q p || startsL p q) = false) : startsL l q = false := by
  cases h2 : startsL l q with
  | false => rfl
  | true =>
    rw [Bool.or_eq_false_iff] at h
    rcases startsL_two h1 h2 with e | e
    · rw [e] at h; exact absurd h.1 (by decide)
    · rw [e] at h; exact absurd h.2 (by decide)
theorem lowerL_drop (s : Str) (n : Nat) : lowerL (s.drop n) = (lowerL s).drop n := by simp [lowerL, Lib.toLowerA, List.map_drop]
theorem startsL_len {l p : Str} (h : startsL l p = true) : p.length ≤ l.length := by
  unfold startsL at h
  rw [List.isPrefixOf_iff_prefix] at h
  exact h.length_le

/-- The tag that a wrapped text begins with. -/
theorem parsePrefix_cases (x : Str) :
    (startsL (lowerL x) pLanguage = true ∧ parsePrefixM x = pLanguage ∧ tagged x pFormat = none ∧ tagged x pKind = none ∧ tagged x pLayout = none) ∨
    (tagged x pLanguage = none ∧ tagged x pFormat = none ∧ tagged x pKind = none ∧ tagged x pLayout = none ∧ (parsePrefixM x = pVersion ∨ parsePrefixM x = pRole ∨ parsePrefixM x = [])) ∨
    (startsL (lowerL x) pFormat = true ∧ parsePrefixM x = pFormat ∧ tagged x pLanguage = none ∧ tagged x pKind = none ∧ tagged x pLayout = none) ∨
    (startsL (lowerL x) pKind = true ∧ parsePrefixM x = pKind ∧ tagged x pLanguage = none ∧ tagged x pFormat = none ∧ tagged x pLayout = none) ∨
    (startsL (lowerL x) pLayout = true ∧ parsePrefixM x = pLayout ∧ tagged x pLanguage = none ∧ tagged x pFormat = none ∧ tagged x pKind = none) := by
  have hp : parsePrefixM x = if startsL (lowerL x) pLanguage then pLanguage else if startsL (lowerL x) pVersion then pVersion else if startsL (lowerL x) pRole then pRole else if startsL (lowerL x) pFormat then pFormat else if startsL (lowerL x) pKind then pKind else if startsL (lowerL x) pLayout then pLayout else [] := rfl
  have ht : ∀ q, tagged x q = if startsL (lowerL x) q then some (x.drop q.length) else none := fun q => rfl
  rw [hp, ht, ht, ht, ht]
  generalize lowerL x = l
  cases h1 : startsL l pLanguage with
  | true =>
    rw [startsL_not h1 (by decide : (startsL pFormat pLanguage || startsL pLanguage pFormat) = false), startsL_not h1 (by decide : (startsL pKind pLanguage || startsL pLanguage pKind) = false), startsL_not h1 (by decide : (startsL pLayout pLanguage || startsL pLanguage pLayout) = false)]
    exact .inl ⟨rfl, rfl, rfl, rfl, rfl⟩
  | false =>
  cases h2 : startsL l pVersion with
  | true =>
    rw [startsL_not h2 (by decide : (startsL pFormat pVersion || startsL pVersion pFormat) = false), startsL_not h2 (by decide : (startsL pKind pVersion || startsL pVersion pKind) = false), startsL_not h2 (by decide : (startsL pLayout pVersion || startsL pVersion pLayout) = false)]
    exact .inr (.inl ⟨rfl, rfl, rfl, rfl, .inl rfl⟩)
  | false =>
  cases h3 : startsL l pRole with
  | true =>
    rw [startsL_not h3 (by decide : (startsL pFormat pRole || startsL pRole pFormat) = false), startsL_not h3 (by decide : (startsL pKind pRole || startsL pRole pKind) = false), startsL_not h3 (by decide : (startsL pLayout pRole || startsL pRole pLayout) = false)]
    exact .inr (.inl ⟨rfl, rfl, rfl, rfl, .inr (.inl rfl)⟩)
  | false =>
  cases h4 : startsL l pFormat with
  | true =>
    rw [startsL_not h4 (by decide : (startsL pKind pFormat || startsL pFormat pKind) = false), startsL_not h4 (by decide : (startsL pLayout pFormat || startsL pFormat pLayout) = false)]
    exact .inr (.inr (.inl ⟨rfl, rfl, rfl, rfl, rfl⟩))
  | false =>
  cases h5 : startsL l pKind with
  | true =>
    rw [startsL_not h5 (by decide : (startsL pLayout pKind || startsL pKind pLayout) = false)]
    exact .inr (.inr (.inr (.inl ⟨rfl, rfl, rfl, rfl, rfl⟩)))
  | false =>
  cases h6 : startsL l pLayout with
  | true => exact .inr (.inr (.inr (.inr ⟨rfl, rfl, rfl, rfl, rfl⟩)))
  | false => exact .inr (.inl ⟨rfl, rfl, rfl, rfl, .inr (.inr rfl)⟩)

/-! ### Wrappers -/
theorem sub_len {s : Str} {id : Nat × Nat} (h2 : id.2 ≤ s.length) : (sub s id).length = id.2 - id.1 := by
  unfold sub; rw [List.length_take, List.length_drop]; omega
theorem sub_inner {s : Str} {id : Nat × Nat} (h2 : id.2 ≤ s.length) (n : Nat) (hl : 2 < (sub s id).length) : sub s (id.1 + 1 + n, id.2 - 1) = (innerOf (sub s id)).drop n := by
  have h := sub_len h2
  unfold innerOf
  rw [h]
  unfold sub
  simp only [List.drop_take, List.drop_drop, List.take_take]
  rw [show min (id.2 - id.1 - 2) (id.2 - id.1 - 1) - n = id.2 - 1 - (id.1 + 1 + n) by omega]
theorem isWrap_wrapped (w : Str) : wrapped w = if isWrap w then some (innerOf w) else none := by
  unfold wrapped isWrap innerOf
  by_cases h : w.length < 3
  · rw [if_pos (.inl h)]
    rw [show decide (2 < w.length) = false by simp; omega]
    rfl
  · have h2 : decide (2 < w.length) = true := by simp; omega
    have h0 : (List.isPrefixOf [95] w = true) ↔ w.head? = some 95 := by
      cases w with
      | nil => simp at h
      | cons c t =>
        constructor
        · intro e
          rw [List.isPrefixOf, Bool.and_eq_true] at e
          rw [← beq_iff_eq.1 e.1]; rfl
        · intro e
          have : c = 95 := Option.some.inj e
          rw [this]; rfl
    have h1 : (List.isSuffixOf [95] w = true) ↔ w.getLast? = some 95 := by
      rw [List.isSuffixOf_iff_suffix]
      constructor
      · rintro ⟨t, rfl⟩; simp
      · intro e
        obtain ⟨t, rfl⟩ := List.getLast?_eq_some_iff.1 e
        exact ⟨t, rfl⟩
    rw [h2]
    by_cases a : w.head? = some 95
    · by_cases b : w.getLast? = some 95
      · rw [if_neg (by rintro (x | x | x); exact h x; exact x a; exact x b), h0.2 a, h1.2 b]; rfl
      · rw [if_pos (.inr (.inr b))]
        cases hc : List.isSuffixOf [95] w with
        | true => exact absurd (h1.1 hc) b
        | false => simp
    · rw [if_pos (.inr (.inl a))]
      cases hc : List.isPrefixOf [95] w with
      | true => exact absurd (h0.1 hc) a
      | false => simp

theorem trim_inner {w : Str} (h : isWrap w = true) : trimSuf (trimPre w) = innerOf w := by
  unfold isWrap at h
  simp only [Bool.and_eq_true, decide_eq_true_eq] at h
  obtain ⟨⟨hl, h1⟩, h2⟩ := h
  unfold trimPre
  rw [if_pos h1]
  rw [List.isSuffixOf_iff_suffix] at h2
  obtain ⟨t, ht⟩ := h2
  have hs : List.isSuffixOf [95] (w.drop 1) = true := by
    rw [List.isSuffixOf_iff_suffix]
    refine ⟨t.drop 1, ?_⟩
    rw [← ht, List.drop_append]
    have : 1 - t.length = 0 := by
      have := congrArg List.length ht
      simp at this; omega
    rw [this]; rfl
  unfold trimSuf innerOf
  rw [if_pos hs, List.length_drop]
  rw [show w.length - 1 - 1 = w.length - 2 by omega]

/-- What is known of a site's words: none is empty. -/
structure Words (site : SiteM) : Prop where
  lang : ∀ w, amongL site.languages w = true → w ≠ []
  dis : ∀ w, amongL site.disabled w = true → w ≠ []
  fmt : ∀ w, formatNamed site.formats w = true → w ≠ []

theorem lowerL_nil {s : Str} (h : lowerL s ≠ []) : s ≠ [] := fun e => h (by rw [e]; rfl)
theorem tagged_some {x q : Str} (h : startsL (lowerL x) q = true) : tagged x q = some (x.drop q.length) := if_pos h
theorem kindOf_is (v : Str) : (kindOf v ≠ []) ↔ isKindL v = true := by
  unfold kindOf isKindL
  generalize lowerL v = l
  constructor
  · intro h
    by_cases h1 : l = [112, 97, 103, 101]
    · rw [h1]; decide
    by_cases h2 : l = [104, 111, 109, 101]
    · rw [h2]; decide
    by_cases h3 : l = [115, 101, 99, 116, 105, 111, 110]
    · rw [h3]; decide
    by_cases h4 : l = [116, 97, 120, 111, 110, 111, 109, 121]
    · rw [h4]; decide
    by_cases h5 : l = [116, 101, 114, 109]
    · rw [h5]; decide
    by_cases h6 : l = [116, 97, 120, 111, 110, 111, 109, 121, 116, 101, 114, 109]
    · rw [h6]; decide
    rw [if_neg h1, if_neg h2, if_neg h3, if_neg h4, if_neg h5, if_neg h6] at h
    exact absurd rfl h
  · intro h
    simp only [Bool.or_eq_true, beq_iff_eq] at h
    rcases h with ((((h | h) | h) | h) | h) | h <;> rw [h] <;> decide
theorem lowerL_twice (s : Str) : lowerL (lowerL s) = lowerL s := by
  unfold lowerL Lib.toLowerA
  rw [List.map_map]
  refine List.map_congr_left fun b _ => ?_
  show Lib.lowerB (Lib.lowerB b) = Lib.lowerB b
  by_cases h : Lib.isUpperB b = true
  · have e : Lib.lowerB b = b + 32 := if_pos h
    rw [e]
    refine if_neg ?_
    unfold Lib.isUpperB at h ⊢
    simp only [Bool.and_eq_true, decide_eq_true_eq, UInt8.le_iff_toNat_le] at h ⊢
    rw [UInt8.toNat_add]
    have e1 : (65 : UInt8).toNat = 65 := rfl
    have e2 : (90 : UInt8).toNat = 90 := rfl
    have e3 : (32 : UInt8).toNat = 32 := rfl
    omega
  · have e : Lib.lowerB b = b := if_neg h
    rw [e, e]
theorem kindOf_lower (v : Str) : kindOf (lowerL v) = kindOf v := by unfold kindOf; rw [lowerL_twice]
theorem isFormat_named (site : SiteM) (v : Str) : isFormat site v [] = formatNamed site.formats v := by
  unfold isFormat formatNamed
  congr 1
  funext f
  simp

/-- The word is told as it is. -/
def customR (r : ReadM) (word x : Str) (at_ : Int) : ReadM := { r.identify word at_ with w := { (r.identify word at_).w with custom := x } }
theorem custom_sim {site : SiteM} {comp : Str} {p : PathS} {r : ReadM} (h : Sim site comp p r) (id : Nat × Nat) (hw : isWrap (sub p.s id) = true) (at_ : Int) :
    Sim site comp { p.addKnown id with custom := (p.known.length : Int) } (customR r (sub p.s id) (innerOf (sub p.s id)) at_) := by
  have a := h.add id _ rfl at_
  have hne : sub p.s id ≠ [] := fun e => by rw [e] at hw; cases hw
  exact ⟨a.cmp, a.lys, a.sho, a.ids, a.unk, a.ext, a.exn, a.lay, a.lng, a.lgs, a.fmt, a.knd, a.bas, ⟨_, h.new hne, (trim_inner hw).symm⟩, a.pfm, a.pkn, a.ply, a.dis⟩

theorem wrapper_sim {site : SiteM} {comp : Str} {p : PathS} {r : ReadM} (hs : Words site) (h : Sim site comp p r) (id : Nat × Nat) (h2 : id.2 ≤ p.s.length) (hw : isWrap (sub p.s id) = true)
    (ht : comp = kLayouts → ∀ q ∈ tagsList, startsL (lowerL (innerOf (sub p.s id))) q = true → (innerOf (sub p.s id)).length ≠ q.length) (numDots : Int) (isLast : Bool) (at_ : Int) :
    ∃ q, PathS.word site comp p id numDots isLast = (q, true) ∧ Sim site comp q (ReadM.wrapper site r (sub p.s id) (innerOf (sub p.s id)) at_) ∧ q.s = p.s ∧ q.nameHigh = p.nameHigh ∧ Core p q ∧
      (ReadM.wrapper site r (sub p.s id) (innerOf (sub p.s id)) at_).marks = r.marks ++ [at_] ∧ (ReadM.wrapper site r (sub p.s id) (innerOf (sub p.s id)) at_).points = r.points := by
  have hl2 : 2 < (sub p.s id).length := by
    unfold isWrap at hw
    simp only [Bool.and_eq_true, decide_eq_true_eq] at hw
    exact hw.1.1
  have hsub : ∀ n, sub p.s (id.1 + 1 + n, id.2 - 1) = (innerOf (sub p.s id)).drop n := fun n => sub_inner h2 n hl2
  have hcu := custom_sim h id hw at_
  obtain ⟨x, hx⟩ : ∃ x, x = innerOf (sub p.s id) := ⟨_, rfl⟩
  have hword : PathS.word site comp p id numDots isLast = (match (if parsePrefixM x ≠ [] then PathS.applyPrefix site comp (parsePrefixM x) p (id.1 + 1 + (parsePrefixM x).length, id.2 - 1) else none) with
      | some p' => (p', true)
      | none => ({ p.addKnown id with custom := p.known.length }, true)) := by
    unfold PathS.word
    dsimp only
    rw [if_pos hw, hx]
    rfl
  rw [← hx] at hsub hcu ht ⊢
  generalize sub p.s id = word at hcu ⊢
  have hR : r.layouts = (comp == kLayouts) := h.lys
  have hdef : ReadM.wrapper site r word x at_ = match tagged x pLanguage with
      | some v => if amongL site.languages (lowerL v) || amongL site.disabled (lowerL v) then { r.identify v at_ with w := { (r.identify v at_).w with langs := r.w.langs ++ [v], disabled := r.w.disabled || !amongL site.languages (lowerL v) } } else
          (if r.layouts then
            match tagged x pFormat with
            | some v => if formatNamed site.formats (lowerL v) then { r.identify v at_ with w := { (r.identify v at_).w with format := v } } else
              match tagged x pKind with
              | some v => if isKindL v then { r.identify v at_ with w := { (r.identify v at_).w with kind := v } } else
                match tagged x pLayout with
                | some v => { r.identify v at_ with w := { (r.identify v at_).w with layout := v } }
                | none => customR r word x at_
              | none => match tagged x pLayout with
                | some v => { r.identify v at_ with w := { (r.identify v at_).w with layout := v } }
                | none => customR r word x at_
            | none => match tagged x pKind with
              | some v => if isKindL v then { r.identify v at_ with w := { (r.identify v at_).w with kind := v } } else
                match tagged x pLayout with
                | some v => { r.identify v at_ with w := { (r.identify v at_).w with layout := v } }
                | none => customR r word x at_
              | none => match tagged x pLayout with
                | some v => { r.identify v at_ with w := { (r.identify v at_).w with layout := v } }
                | none => customR r word x at_
          else customR r word x at_)
      | none => (if r.layouts then
            match tagged x pFormat with
            | some v => if formatNamed site.formats (lowerL v) then { r.identify v at_ with w := { (r.identify v at_).w with format := v } } else
              match tagged x pKind with
              | some v => if isKindL v then { r.identify v at_ with w := { (r.identify v at_).w with kind := v } } else
                match tagged x pLayout with
                | some v => { r.identify v at_ with w := { (r.identify v at_).w with layout := v } }
                | none => customR r word x at_
              | none => match tagged x pLayout with
                | some v => { r.identify v at_ with w := { (r.identify v at_).w with layout := v } }
                | none => customR r word x at_
            | none => match tagged x pKind with
              | some v => if isKindL v then { r.identify v at_ with w := { (r.identify v at_).w with kind := v } } else
                match tagged x pLayout with
                | some v => { r.identify v at_ with w := { (r.identify v at_).w with layout := v } }
                | none => customR r word x at_
              | none => match tagged x pLayout with
                | some v => { r.identify v at_ with w := { (r.identify v at_).w with layout := v } }
                | none => customR r word x at_
          else customR r word x at_) := rfl
  generalize ReadM.wrapper site r word x at_ = WR at hdef ⊢
  -- the word told as it is
  have asCustom : (if parsePrefixM x ≠ [] then PathS.applyPrefix site comp (parsePrefixM x) p (id.1 + 1 + (parsePrefixM x).length, id.2 - 1) else none) = none → WR = customR r word x at_ →
      ∃ q, PathS.word site comp p id numDots isLast = (q, true) ∧ Sim site comp q (WR) ∧ q.s = p.s ∧ q.nameHigh = p.nameHigh ∧ Core p q ∧
      (WR).marks = r.marks ++ [at_] ∧ (WR).points = r.points := by
    intro e1 e2
    rw [e1] at hword
    exact ⟨_, hword, by rw [e2]; exact hcu, rfl, rfl, ⟨rfl, rfl, rfl, rfl, rfl, rfl, rfl⟩, by rw [e2]; rfl, by rw [e2]; rfl⟩
  rcases parsePrefix_cases x with ⟨s1, e, t1, t2, t3⟩ | ⟨t0, t1, t2, t3, e⟩ | ⟨s1, e, t0, t2, t3⟩ | ⟨s1, e, t0, t1, t3⟩ | ⟨s1, e, t0, t1, t2⟩
  · -- a language
    rw [e] at hword asCustom
    have hv := hsub pLanguage.length
    have ht0 := tagged_some s1
    generalize hvv : x.drop pLanguage.length = v at hv ht0
    have hap : PathS.applyPrefix site comp pLanguage p (id.1 + 1 + pLanguage.length, id.2 - 1) = if amongL site.languages (lowerL v) then some { p.addKnown (id.1 + 1 + pLanguage.length, id.2 - 1) with langs := p.langs ++ [p.known.length] }
        else if amongL site.disabled (lowerL v) then some { p.addKnown (id.1 + 1 + pLanguage.length, id.2 - 1) with langs := p.langs ++ [p.known.length], disabled := true } else none := by
      unfold PathS.applyPrefix
      dsimp only
      rw [if_pos rfl, hv]
    rw [if_pos (by decide : pLanguage ≠ []), hap] at hword asCustom
    rw [ht0] at hdef
    dsimp only at hdef
    cases hL : amongL site.languages (lowerL v) with
    | true =>
      have hne : v ≠ [] := lowerL_nil (hs.lang _ hL)
      rw [hL] at hword hdef
      rw [hdef]
      have a := h.add (id.1 + 1 + pLanguage.length, id.2 - 1) v hv at_
      refine ⟨_, hword, ?_, rfl, rfl, ⟨rfl, rfl, rfl, rfl, rfl, rfl, rfl⟩, rfl, rfl⟩
      exact ⟨a.cmp, a.lys, a.sho, a.ids, a.unk, a.ext, a.exn, a.lay, a.lng, a.lgs.snoc (h.new hne), a.fmt, a.knd, a.bas, a.cus, a.pfm, a.pkn, a.ply, by show (r.w.disabled || !true) = p.disabled; rw [h.dis]; simp⟩
    | false =>
      cases hD : amongL site.disabled (lowerL v) with
      | true =>
        have hne : v ≠ [] := lowerL_nil (hs.dis _ hD)
        rw [hL, hD] at hword hdef
        rw [hdef]
        have a := h.add (id.1 + 1 + pLanguage.length, id.2 - 1) v hv at_
        refine ⟨_, hword, ?_, rfl, rfl, ⟨rfl, rfl, rfl, rfl, rfl, rfl, rfl⟩, rfl, rfl⟩
        exact ⟨a.cmp, a.lys, a.sho, a.ids, a.unk, a.ext, a.exn, a.lay, a.lng, a.lgs.snoc (h.new hne), a.fmt, a.knd, a.bas, a.cus, a.pfm, a.pkn, a.ply, by show (r.w.disabled || !false) = true; simp⟩
      | false =>
        refine asCustom ?_ ?_
        · rw [hL, hD]; rfl
        · rw [hdef, hL, hD, t1, t2, t3]
          cases r.layouts <;> rfl
  · -- none that tells
    refine asCustom ?_ ?_
    · rcases e with e | e | e <;> rw [e]
      · rfl
      · rfl
      · rfl
    · rw [hdef, t0, t1, t2, t3]
      cases r.layouts <;> rfl
  · -- an output format
    rw [e] at hword asCustom
    have hv := hsub pFormat.length
    have ht1 := tagged_some s1
    have hvne : comp = kLayouts → x.drop pFormat.length ≠ [] := fun hc e => by
      have h1 := ht hc pFormat (by decide) s1
      have h3 := startsL_len s1
      rw [lowerL_len] at h3
      have := congrArg List.length e
      rw [List.length_drop] at this
      simp only [List.length_nil] at this
      omega
    generalize hvv : x.drop pFormat.length = v at hv ht1 hvne
    have hap : PathS.applyPrefix site comp pFormat p (id.1 + 1 + pFormat.length, id.2 - 1) = if comp = kLayouts ∧ formatNamed site.formats (lowerL v) = true then some { p.addKnown (id.1 + 1 + pFormat.length, id.2 - 1) with pfmt := p.known.length } else none := by
      unfold PathS.applyPrefix
      dsimp only
      rw [if_neg (by decide), if_pos rfl, hv, isFormat_named]
    rw [if_pos (by decide : pFormat ≠ []), hap] at hword asCustom
    rw [t0, ht1] at hdef
    dsimp only at hdef
    by_cases hc : comp = kLayouts
    · have hlb : r.layouts = true := by rw [hR, hc]; decide
      rw [hlb] at hdef
      cases hF : formatNamed site.formats (lowerL v) with
      | true =>
        rw [if_pos ⟨hc, hF⟩] at hword
        rw [hF] at hdef
        rw [hdef]
        have a := h.add (id.1 + 1 + pFormat.length, id.2 - 1) v hv at_
        refine ⟨_, hword, ?_, rfl, rfl, ⟨rfl, rfl, rfl, rfl, rfl, rfl, rfl⟩, rfl, rfl⟩
        exact ⟨a.cmp, a.lys, a.sho, a.ids, a.unk, a.ext, a.exn, a.lay, a.lng, a.lgs, a.fmt, a.knd, a.bas, a.cus, h.new (hvne hc), a.pkn, a.ply, a.dis⟩
      | false =>
        refine asCustom ?_ ?_
        · rw [if_neg (fun q => by rw [hF] at q; cases q.2)]
        · rw [hdef, hF, t2, t3]; rfl
    · have hlb : r.layouts = false := by rw [hR]; simpa using hc
      rw [hlb] at hdef
      refine asCustom ?_ hdef
      rw [if_neg (fun q => hc q.1)]
  · -- a kind
    rw [e] at hword asCustom
    have hv := hsub pKind.length
    have ht1 := tagged_some s1
    have hvne : comp = kLayouts → x.drop pKind.length ≠ [] := fun hc e => by
      have h1 := ht hc pKind (by decide) s1
      have h3 := startsL_len s1
      rw [lowerL_len] at h3
      have := congrArg List.length e
      rw [List.length_drop] at this
      simp only [List.length_nil] at this
      omega
    generalize hvv : x.drop pKind.length = v at hv ht1 hvne
    have hap : PathS.applyPrefix site comp pKind p (id.1 + 1 + pKind.length, id.2 - 1) = if comp = kLayouts ∧ kindOf v ≠ [] then some { p.addKnown (id.1 + 1 + pKind.length, id.2 - 1) with pkind := p.known.length } else none := by
      unfold PathS.applyPrefix
      dsimp only
      rw [if_neg (by decide), if_neg (by decide), if_pos rfl, hv, kindOf_lower]
    rw [if_pos (by decide : pKind ≠ []), hap] at hword asCustom
    rw [t0, t1, ht1] at hdef
    dsimp only at hdef
    by_cases hc : comp = kLayouts
    · have hlb : r.layouts = true := by rw [hR, hc]; decide
      rw [hlb] at hdef
      cases hF : isKindL v with
      | true =>
        rw [if_pos ⟨hc, (kindOf_is v).2 hF⟩] at hword
        rw [hF] at hdef
        rw [hdef]
        have a := h.add (id.1 + 1 + pKind.length, id.2 - 1) v hv at_
        refine ⟨_, hword, ?_, rfl, rfl, ⟨rfl, rfl, rfl, rfl, rfl, rfl, rfl⟩, rfl, rfl⟩
        exact ⟨a.cmp, a.lys, a.sho, a.ids, a.unk, a.ext, a.exn, a.lay, a.lng, a.lgs, a.fmt, a.knd, a.bas, a.cus, a.pfm, h.new (hvne hc), a.ply, a.dis⟩
      | false =>
        refine asCustom ?_ ?_
        · rw [if_neg (fun q => by have := (kindOf_is v).1 q.2; rw [hF] at this; cases this)]
        · rw [hdef, hF, t3]; rfl
    · have hlb : r.layouts = false := by rw [hR]; simpa using hc
      rw [hlb] at hdef
      refine asCustom ?_ hdef
      rw [if_neg (fun q => hc q.1)]
  · -- a layout
    rw [e] at hword asCustom
    have hv := hsub pLayout.length
    have ht1 := tagged_some s1
    have hvne : comp = kLayouts → x.drop pLayout.length ≠ [] := fun hc e => by
      have h1 := ht hc pLayout (by decide) s1
      have h3 := startsL_len s1
      rw [lowerL_len] at h3
      have := congrArg List.length e
      rw [List.length_drop] at this
      simp only [List.length_nil] at this
      omega
    generalize hvv : x.drop pLayout.length = v at hv ht1 hvne
    have hap : PathS.applyPrefix site comp pLayout p (id.1 + 1 + pLayout.length, id.2 - 1) = if comp = kLayouts then some { p.addKnown (id.1 + 1 + pLayout.length, id.2 - 1) with play := p.known.length } else none := by
      unfold PathS.applyPrefix
      dsimp only
      rw [if_neg (by decide), if_neg (by decide), if_neg (by decide), if_pos rfl]
    rw [if_pos (by decide : pLayout ≠ []), hap] at hword asCustom
    rw [t0, t1, t2, ht1] at hdef
    dsimp only at hdef
    by_cases hc : comp = kLayouts
    · have hlb : r.layouts = true := by rw [hR, hc]; decide
      rw [hlb] at hdef
      rw [if_pos hc] at hword
      rw [hdef]
      have a := h.add (id.1 + 1 + pLayout.length, id.2 - 1) v hv at_
      refine ⟨_, hword, ?_, rfl, rfl, ⟨rfl, rfl, rfl, rfl, rfl, rfl, rfl⟩, rfl, rfl⟩
      exact ⟨a.cmp, a.lys, a.sho, a.ids, a.unk, a.ext, a.exn, a.lay, a.lng, a.lgs, a.fmt, a.knd, a.bas, a.cus, a.pfm, a.pkn, h.new (hvne hc), a.dis⟩
    · have hlb : r.layouts = false := by rw [hR]; simpa using hc
      rw [hlb] at hdef
      refine asCustom ?_ hdef
      rw [if_neg hc]

/-! ### Plain words -/
theorem formatBeside_eq (site : SiteM) (w e : Str) (h : e ≠ []) : isFormat site w e = formatBeside site.formats w e := by
  unfold isFormat formatBeside
  congr 1
  funext f
  rw [show (e == []) = false by rw [beq_eq_false_iff_ne]; exact h]
  simp
theorem formatBeside_named {l : List (Str × Str)} {w e : Str} (h : formatBeside l w e = true) : formatNamed l w = true := by
  unfold formatBeside at h
  unfold formatNamed
  rw [List.any_eq_true] at h ⊢
  obtain ⟨f, hf, h1⟩ := h
  rw [Bool.and_eq_true] at h1
  exact ⟨f, hf, h1.1⟩
theorem Sim.idStr0 {site : SiteM} {comp : Str} {p : PathS} {r : ReadM} (h : Sim site comp p r) : p.idStr 0 = r.w.ext := by
  have h1 := h.ext
  have h2 := h.idsPos
  rw [h.ids, List.length_map] at h2
  rw [h.ids, List.getElem?_map, List.getElem?_eq_getElem h2] at h1
  unfold PathS.idStr
  rw [if_neg (by omega), show (0 : Int).toNat = 0 from rfl, List.getD_eq_getElem?_getD, List.getElem?_eq_getElem h2]
  exact Option.some.inj h1

theorem plain_sim {site : SiteM} {comp : Str} {p : PathS} {r : ReadM} (hs : Words site) (h : Sim site comp p r) (id : Nat × Nat) (hw : isWrap (sub p.s id) = false)
    (numDots : Int) (isLast : Bool) (at_ : Int) (hpts : decide (1 < numDots) = decide (2 ≤ r.points)) (hlast : isLast = decide (at_ < 0)) :
    ∃ q b, PathS.word site comp p id numDots isLast = (q, b) ∧ Sim site comp q (ReadM.plain site r (sub p.s id) at_) ∧ q.s = p.s ∧ q.nameHigh = p.nameHigh ∧ Core p q ∧
      (ReadM.plain site r (sub p.s id) at_).marks = (if b then r.marks ++ [at_] else r.marks) ∧ (ReadM.plain site r (sub p.s id) at_).points = r.points := by
  have hk : p.known ≠ [] := fun e => by have := h.idsPos; rw [h.ids, e] at this; exact absurd this (by simp)
  obtain ⟨w, hwd⟩ : ∃ w, w = sub p.s id := ⟨_, rfl⟩
  obtain ⟨c1, hc1⟩ : ∃ c, c = (decide (1 < numDots) && (p.lang == -1) && (comp == kContent || (comp == kLayouts)) && (amongL site.languages w || amongL site.disabled w)) := ⟨_, rfl⟩
  obtain ⟨c2, hc2⟩ : ∃ c, c = ((comp == kLayouts) && isFormat site w (p.idStr 0)) := ⟨_, rfl⟩
  obtain ⟨c3, hc3⟩ : ∃ c, c = ((p.kind == -1) && (comp == kLayouts) && (kindOf w != [])) := ⟨_, rfl⟩
  obtain ⟨c4, hc4⟩ : ∃ c, c = (w == kBaseof) := ⟨_, rfl⟩
  obtain ⟨c5, hc5⟩ : ∃ c, c = (if p.typ = 7 then !isLast && (comp == kLayouts) else (comp == kLayouts)) := ⟨_, rfl⟩
  have hword : PathS.word site comp p id numDots isLast = if c1 then ({ p.addKnown id with lang := p.known.length, disabled := p.disabled || !amongL site.languages w }, true)
      else if c2 then ({ p.addKnown id with fmt := p.known.length }, true)
      else if c3 then ({ p.addKnown id with kind := p.known.length }, true)
      else if c4 then ({ p.addKnown id with baseof := p.known.length }, true)
      else if c5 then (if p.lay = -1 then ({ p.addKnown id with lay := p.known.length }, true)
        else ({ p with unknown := p.unknown ++ [p.known.getD p.lay.toNat (0, 0)], known := p.known.set p.lay.toNat id }, true))
      else ({ p with unknown := p.unknown ++ [id] }, false) := by
    unfold PathS.word
    dsimp only
    rw [if_neg (by rw [hw]; decide), if_neg hk, hc1, hc2, hc3, hc4, hc5, hwd]
  have hplain : ReadM.plain site r w at_ = if c1 then { r.identify w at_ with lang := w, hasLang := true, w := { (r.identify w at_).w with disabled := r.w.disabled || !amongL site.languages w } }
      else if c2 then { r.identify w at_ with format := w }
      else if c3 then { r.identify w at_ with kind := w, hasKind := true }
      else if c4 then { r.identify w at_ with baseof := true }
      else if c5 then (if r.layoutAt < 0 then { r.identify w at_ with layoutAt := r.w.ids.length, layout := w }
        else { r with w := { r.w with unknown := r.w.unknown ++ [r.layout], ids := r.w.ids.set r.layoutAt.toNat w }, marks := r.marks ++ [at_], layout := w })
      else { r with w := { r.w with unknown := r.w.unknown ++ [w] } } := by
    have e1 : ((r.w.component == kContent || r.layouts) && decide (2 ≤ r.points) && !r.hasLang && (amongL site.languages w || amongL site.disabled w)) = c1 := by
      rw [hc1, h.cmp, h.lys, h.lng.2, hpts]
      have : (!(p.lang != -1)) = (p.lang == -1) := by simp [bne]
      rw [this]
      generalize (p.lang == -1) = a1
      generalize decide (2 ≤ r.points) = a2
      generalize (comp == kContent || comp == kLayouts) = a3
      cases a1 <;> cases a2 <;> cases a3 <;> rfl
    have e2 : (r.layouts && formatBeside site.formats w r.w.ext) = c2 := by rw [hc2, h.lys, h.idStr0, formatBeside_eq _ _ _ h.exn]
    have e3 : (r.layouts && !r.hasKind && isKindL w) = c3 := by
      rw [hc3, h.lys, h.knd.2]
      have a1 : (!(p.kind != -1)) = (p.kind == -1) := by simp [bne]
      have a2 : isKindL w = (kindOf w != []) := by
        cases e : isKindL w with
        | true => have := (kindOf_is w).2 e; simpa using this
        | false =>
          cases e2 : (kindOf w != []) with
          | false => rfl
          | true =>
            have := (kindOf_is w).1 (by simpa using e2)
            rw [e] at this; cases this
      rw [a1, a2]
      generalize (p.kind == -1) = b1
      generalize (comp == kLayouts) = b2
      cases b1 <;> cases b2 <;> rfl
    have e5 : (r.layouts && !(r.shortcode && decide (at_ < 0))) = c5 := by
      rw [hc5, h.lys, h.sho, hlast]
      by_cases e : p.typ = 7
      · rw [if_pos e, decide_eq_true e]
        generalize decide (at_ < 0) = b1
        generalize (comp == kLayouts) = b2
        cases b1 <;> cases b2 <;> rfl
      · rw [if_neg e, decide_eq_false e]
        generalize (comp == kLayouts) = b2
        cases b2 <;> rfl
    unfold ReadM.plain
    dsimp only
    rw [e1, e2, e3, e5, hc4]
    rfl
  rw [← hwd]
  have hne1 : c1 = true → w ≠ [] := fun e => by
    rw [hc1] at e
    simp only [Bool.and_eq_true, Bool.or_eq_true] at e
    rcases e.2 with e | e
    · exact hs.lang _ e
    · exact hs.dis _ e
  have hne2 : c2 = true → w ≠ [] := fun e => by
    rw [hc2, Bool.and_eq_true, h.idStr0, formatBeside_eq _ _ _ h.exn] at e
    exact hs.fmt _ (formatBeside_named e.2)
  have hne3 : c3 = true → w ≠ [] := fun e e2 => by
    rw [hc3, Bool.and_eq_true, e2] at e
    exact absurd e.2 (by decide)
  have ha := h.add id w hwd.symm at_
  have hkl : ((p.known.length : Int) != -1) = true := by rw [bne_iff_ne]; omega
  rw [hword]
  clear hword hc1 hc2 hc3 hc4 hc5
  rw [hplain]
  clear hplain
  cases c1 with
  | true => exact ⟨_, _, rfl, ⟨ha.cmp, ha.lys, ha.sho, ha.ids, ha.unk, ha.ext, ha.exn, ha.lay, ⟨h.new (hne1 rfl), hkl.symm⟩, ha.lgs, ha.fmt, ha.knd, ha.bas, ha.cus, ha.pfm, ha.pkn, ha.ply, by show (r.w.disabled || _) = (p.disabled || _); rw [h.dis]⟩, rfl, rfl, ⟨rfl, rfl, rfl, rfl, rfl, rfl, rfl⟩, rfl, rfl⟩
  | false =>
  cases c2 with
  | true => exact ⟨_, _, rfl, ⟨ha.cmp, ha.lys, ha.sho, ha.ids, ha.unk, ha.ext, ha.exn, ha.lay, ha.lng, ha.lgs, .inr ⟨hne2 rfl, h.new (hne2 rfl)⟩, ha.knd, ha.bas, ha.cus, ha.pfm, ha.pkn, ha.ply, ha.dis⟩, rfl, rfl, ⟨rfl, rfl, rfl, rfl, rfl, rfl, rfl⟩, rfl, rfl⟩
  | false =>
  cases c3 with
  | true => exact ⟨_, _, rfl, ⟨ha.cmp, ha.lys, ha.sho, ha.ids, ha.unk, ha.ext, ha.exn, ha.lay, ha.lng, ha.lgs, ha.fmt, ⟨h.new (hne3 rfl), hkl.symm⟩, ha.bas, ha.cus, ha.pfm, ha.pkn, ha.ply, ha.dis⟩, rfl, rfl, ⟨rfl, rfl, rfl, rfl, rfl, rfl, rfl⟩, rfl, rfl⟩
  | false =>
  cases c4 with
  | true => exact ⟨_, _, rfl, ⟨ha.cmp, ha.lys, ha.sho, ha.ids, ha.unk, ha.ext, ha.exn, ha.lay, ha.lng, ha.lgs, ha.fmt, ha.knd, ⟨hkl.symm, by show (-1 : Int) ≤ (p.known.length : Int); omega⟩, ha.cus, ha.pfm, ha.pkn, ha.ply, ha.dis⟩, rfl, rfl, ⟨rfl, rfl, rfl, rfl, rfl, rfl, rfl⟩, rfl, rfl⟩
  | false =>
  cases c5 with
  | false =>
    refine ⟨_, _, rfl, ⟨h.cmp, h.lys, h.sho, h.ids, ?_, h.ext, h.exn, h.lay, h.lng, h.lgs, h.fmt, h.knd, h.bas, h.cus, h.pfm, h.pkn, h.ply, h.dis⟩, rfl, rfl, ⟨rfl, rfl, rfl, rfl, rfl, rfl, rfl⟩, rfl, rfl⟩
    show r.w.unknown ++ [w] = (p.unknown ++ [id]).map (sub p.s)
    rw [List.map_append, List.map_singleton, ← hwd, h.unk]
  | true =>
  rcases h.lay.2 with ⟨e1, e2⟩ | ⟨k, e1, e2, e3, e4⟩
  · have hla : r.layoutAt < 0 := by rw [h.lay.1, e1]; decide
    have g : Grow r.w.ids (r.w.ids ++ [w]) p.lay (p.known.length : Int) := ⟨by simp, fun k hk _ => List.getElem?_append_left hk, .inr ⟨e1, h.len⟩⟩
    have hp := h.idsPos
    refine ⟨{ p.addKnown id with lay := p.known.length }, true, ?_, ?_, rfl, rfl, ⟨rfl, rfl, rfl, rfl, rfl, rfl, rfl⟩, ?_, ?_⟩
    · show (if p.lay = -1 then _ else _) = _
      rw [if_pos e1]
    · show Sim site comp _ (if r.layoutAt < 0 then _ else _)
      rw [if_pos hla]
      refine ⟨h.cmp, h.lys, h.sho, ha.ids, ha.unk, ha.ext, h.exn, ⟨h.len.symm, .inr ⟨r.w.ids.length, h.len, hp, ?_, ?_⟩⟩, ⟨h.lng.1.grow g, h.lng.2⟩, h.lgs.grow g, ?_, ⟨h.knd.1.grow g, h.knd.2⟩, h.bas, ?_, h.pfm.grow g, h.pkn.grow g, h.ply.grow g, h.dis⟩
      · show r.w.ids.length < (r.w.ids ++ [w]).length
        rw [List.length_append, List.length_singleton]; omega
      · show (r.w.ids ++ [w])[r.w.ids.length]? = some w
        simp
      · rcases h.fmt with e | ⟨a, b⟩
        · exact .inl e
        · exact .inr ⟨a, b.grow g⟩
      · obtain ⟨cw, a, b⟩ := h.cus
        exact ⟨cw, a.grow g, b⟩
    · show (if r.layoutAt < 0 then _ else _ : ReadM).marks = _
      rw [if_pos hla]; rfl
    · show (if r.layoutAt < 0 then _ else _ : ReadM).points = _
      rw [if_pos hla]; rfl
  · have hla : ¬ r.layoutAt < 0 := by rw [h.lay.1, e1]; omega
    have hl1 : ¬ p.lay = -1 := by rw [e1]; omega
    have htn : r.layoutAt.toNat = k := by rw [h.lay.1, e1]; rfl
    have htp : p.lay.toNat = k := by rw [e1]; rfl
    have g : Grow r.w.ids (r.w.ids.set k w) p.lay p.lay := by rw [e1]; exact Grow.setLay _ _ _
    have hkp : k < p.known.length := by have := h.len; omega
    refine ⟨{ p with unknown := p.unknown ++ [p.known.getD p.lay.toNat (0, 0)], known := p.known.set p.lay.toNat id }, true, ?_, ?_, rfl, rfl, ⟨rfl, rfl, rfl, rfl, rfl, rfl, rfl⟩, ?_, ?_⟩
    · show (if p.lay = -1 then _ else _) = _
      rw [if_neg hl1]
    · show Sim site comp _ (if r.layoutAt < 0 then _ else _)
      rw [if_neg hla, htn, htp]
      refine ⟨h.cmp, h.lys, h.sho, ?_, ?_, ?_, h.exn, ⟨h.lay.1, .inr ⟨k, e1, e2, ?_, ?_⟩⟩, ⟨h.lng.1.grow g, h.lng.2⟩, h.lgs.grow g, ?_, ⟨h.knd.1.grow g, h.knd.2⟩, h.bas, ?_, h.pfm.grow g, h.pkn.grow g, h.ply.grow g, h.dis⟩
      · show r.w.ids.set k w = (p.known.set k id).map (sub p.s)
        rw [List.map_set, ← hwd, h.ids]
      · show r.w.unknown ++ [r.layout] = (p.unknown ++ [p.known.getD k (0, 0)]).map (sub p.s)
        rw [List.map_append, List.map_singleton, h.unk]
        congr 2
        have := e4
        rw [h.ids, List.getElem?_map, List.getElem?_eq_getElem hkp] at this
        rw [List.getD_eq_getElem?_getD, List.getElem?_eq_getElem hkp]
        exact (Option.some.inj this).symm
      · show (r.w.ids.set k w)[0]? = _
        rw [List.getElem?_set_ne (by omega)]; exact h.ext
      · show k < (r.w.ids.set k w).length
        rw [List.length_set]; exact e3
      · show (r.w.ids.set k w)[k]? = some w
        rw [List.getElem?_set_self e3]
      · rcases h.fmt with e | ⟨a, b⟩
        · exact .inl e
        · exact .inr ⟨a, b.grow g⟩
      · obtain ⟨cw, a, b⟩ := h.cus
        exact ⟨cw, a.grow g, b⟩
    · show (if r.layoutAt < 0 then _ else _ : ReadM).marks = _
      rw [if_neg hla]; rfl
    · show (if r.layoutAt < 0 then _ else _ : ReadM).points = _
      rw [if_neg hla]

end Go.Proofs.YtbpoljgchbfhpaaGreatDoor
