/- A finished path tells what the reference answers. Plain Lean; no program here. Conditions: those of a known path (a site of words, no two slashes side by side, a last part of which something is said). -/
import Derived.Test.YtbpoljgchbfhpaaGreatDoorEqB
set_option linter.unusedVariables false
set_option linter.unusedSimpArgs false
namespace Go.Proofs.YtbpoljgchbfhpaaGreatDoor

theorem fin1_form (p : PathS) : PathS.fin1 p = { p with nLow := p.cHigh.toNat, nHigh := (PathS.fin1 p).nHigh } := by
  unfold PathS.fin1; split <;> rfl
theorem fin2_form (site : SiteM) (p : PathS) (sl : Int) : PathS.fin2 site p sl = { p with typ := (PathS.fin2 site p sl).typ, sHigh := (PathS.fin2 site p sl).sHigh } := by
  unfold PathS.fin2
  repeat' split
  all_goals rfl
theorem fin3_form (comp : Str) (p : PathS) : PathS.fin3 comp p = { p with typ := (PathS.fin3 comp p).typ } := by
  unfold PathS.fin3
  repeat' split
  all_goals rfl

theorem isFormat_nil (site : SiteM) (n : Str) : isFormat site n [] = formatNamed site.formats n := by
  unfold isFormat formatNamed
  congr 1
  funext f
  simp
theorem Flds.map {p : PathS} {lay : Int} {is : List Nat} {ts : List Str} (h : Flds (p.known.map (sub p.s)) lay is ts) : is.map (fun (i : Nat) => p.idStr i) = ts := by
  induction h with
  | nil => rfl
  | cons a _ ih => rw [List.map_cons, ih, a.str]
theorem idStr_none (p : PathS) : p.idStr (-1) = [] := by unfold PathS.idStr; rw [if_pos (.inl (by decide))]
theorem idStr_at {p : PathS} {k : Nat} {t : Str} (h : (p.known.map (sub p.s))[k]? = some t) : p.idStr (k : Int) = t := by
  have hk : k < p.known.length := by
    rcases Nat.lt_or_ge k p.known.length with x | x
    · exact x
    · rw [List.getElem?_eq_none (by simpa using x)] at h; cases h
  unfold PathS.idStr
  rw [if_neg (by omega), Int.toNat_natCast, List.getD_eq_getElem?_getD, List.getElem?_eq_getElem hk]
  rw [List.getElem?_map, List.getElem?_eq_getElem hk] at h
  exact Option.some.inj h

theorem Flds.two {l : List Str} {lay : Int} {is : List Nat} {ts : List Str} (h : Flds l lay is ts) : (is = [] ∧ ts = []) ∨ ∃ i t is' ts', is = i :: is' ∧ ts = t :: ts' ∧ Fld l lay (i : Int) t := by
  cases h with
  | nil => exact .inl ⟨rfl, rfl⟩
  | cons a _ => exact .inr ⟨_, _, _, _, rfl, rfl, a⟩

/-- What the words of a finished path tell: with the reading's words. -/
structure Tells (P : PathS) (w : WordsM) : Prop where
  ids : P.known.map (sub P.s) = w.ids
  unk : P.unknown.map (sub P.s) = w.unknown
  lgs : (P.langs.map fun (i : Nat) => P.idStr i) = w.langs
  fmt : P.formatM = w.format
  knd : P.kindM = w.kind
  lay : P.layoutM = w.layout
  lng : P.langM = w.lang
  cus : P.customM = w.custom
  dis : P.disabled = w.disabled
  lg0 : w.lang = [] ↔ P.langs = [] ∧ (P.lang < 0 ∨ (P.known.length : Int) ≤ P.lang)
  two : w.lang ≠ [] → 2 ≤ P.known.length
  ext : P.ext = w.ext

theorem tells_none {site : SiteM} {comp s name : Str} {n0 : Nat} {F : PathS} (h : Read site comp s name n0 F) (hn : cutPoints name = []) : Tells F (wordsEnd site name (readAll site comp s name)) := by
  have hr : readAll site comp s name = read0 comp s name := by unfold readAll; rw [if_pos hn]
  rw [hr, h.none hn]
  have hl : (if ((comp == kLayouts) && (chooseL [] [] : Str) == [] && !(cutPoints name).isEmpty && formatNamed site.formats []) = true then ([] : Str) else chooseL [] []) = [] := by split <;> rfl
  exact ⟨rfl, rfl, rfl, by rw [show (wordsEnd site name (read0 comp s name)).format = _ from hl]; rfl, rfl, rfl, rfl, rfl, rfl, ⟨fun _ => ⟨rfl, .inl (by show (-1 : Int) < 0; decide)⟩, fun _ => rfl⟩, fun e => absurd rfl e, rfl⟩
theorem tells_some {site : SiteM} {comp s name : Str} {n0 : Nat} {F : PathS} (h : Read site comp s name n0 F) (hn : cutPoints name ≠ []) : Tells F (wordsEnd site name (readAll site comp s name)) := by
  obtain ⟨a, _, x⟩ := h.some hn
  generalize readAll site comp s name = r at a ⊢
  have hemp : (cutPoints name).isEmpty = false := by simpa using hn
  have hfm : ∀ i t, Fld r.w.ids F.lay i t → F.idStr i = t := fun i t f => by rw [a.ids] at f; exact f.str
  refine ⟨a.ids.symm, a.unk.symm, ?_, ?_, ?_, ?_, ?_, ?_, a.dis.symm, ?_, ?_, ?_⟩
  · have := a.lgs
    rw [a.ids] at this
    exact this.map
  · -- the format
    show F.formatM = (if r.layouts && (chooseL r.w.format r.format == []) && !(cutPoints name).isEmpty && formatNamed site.formats r.w.ext then r.w.ext else chooseL r.w.format r.format)
    unfold PathS.formatM
    rw [hemp]
    by_cases hf : r.w.format = []
    · have h1 := a.pfm.iff.2 hf
      rw [if_neg (by simpa using h1), hf]
      rcases a.fmt with ⟨b1, b2⟩ | ⟨b1, b2⟩
      · rw [b1, show (chooseL [] [] : Str) = [] from rfl, b2, a.lys, isFormat_nil]
        cases hc : ((comp == kLayouts) && formatNamed site.formats r.w.ext) with
        | true =>
          rw [Bool.and_eq_true] at hc
          rw [hc.1, hc.2, if_pos rfl, if_pos (show (true && (([] : Str) == []) && !false && true) = true from rfl)]
          have := a.ext
          rw [a.ids] at this
          exact idStr_at (k := 0) this
        | false =>
          rw [if_neg (by decide)]
          have : ((comp == kLayouts) && ([] == ([] : Str)) && !false && formatNamed site.formats r.w.ext) = false := by
            have e : (([] : Str) == []) = true := rfl
            rw [e, Bool.and_true, Bool.not_false, Bool.and_true]; exact hc
          rw [this, if_neg (by decide), idStr_none]
      · have e : chooseL [] r.format = r.format := rfl
        have e2 : (r.format == []) = false := by simpa using b1
        rw [e, e2, Bool.and_false, Bool.false_and, Bool.false_and, if_neg (by decide)]
        exact hfm _ _ b2
    · have h1 : F.pfmt ≠ -1 := fun e => hf (a.pfm.iff.1 e)
      have e : chooseL r.w.format r.format = r.w.format := if_pos hf
      have e2 : (r.w.format == []) = false := by simpa using hf
      rw [if_pos h1, e, e2, Bool.and_false, Bool.false_and, Bool.false_and, if_neg (by decide)]
      exact hfm _ _ a.pfm
  · show F.kindM = chooseL r.w.kind r.kind
    unfold PathS.kindM
    by_cases hf : r.w.kind = []
    · rw [if_neg (by simpa using a.pkn.iff.2 hf), hf]
      exact hfm _ _ a.knd.1
    · rw [if_pos (fun e => hf (a.pkn.iff.1 e)), show chooseL r.w.kind r.kind = r.w.kind from if_pos hf]
      exact hfm _ _ a.pkn
  · show F.layoutM = chooseL r.w.layout r.layout
    unfold PathS.layoutM
    by_cases hf : r.w.layout = []
    · rw [if_neg (by simpa using a.ply.iff.2 hf), hf]
      show F.idStr F.lay = r.layout
      rcases a.lay.2 with ⟨e1, e2⟩ | ⟨k, e1, _, _, e4⟩
      · rw [e1, e2, idStr_none]
      · rw [a.ids] at e4
        rw [e1]; exact idStr_at e4
    · rw [if_pos (fun e => hf (a.ply.iff.1 e)), show chooseL r.w.layout r.layout = r.w.layout from if_pos hf]
      exact hfm _ _ a.ply
  · show F.langM = if r.w.langs ≠ [] then r.w.langs.headD [] else r.lang
    unfold PathS.langM
    rcases a.lgs.two with ⟨z1, z2⟩ | ⟨i, t, is', ts', z1, z2, b⟩
    · rw [z1, z2, if_neg (by simp), if_neg (by simp)]
      exact hfm _ _ a.lng.1
    · rw [z1, z2, if_pos (by simp), if_pos (by simp)]
      exact hfm _ _ b
  · obtain ⟨cw, c1, c2⟩ := a.cus
    show trimSuf (trimPre (F.idStr F.custom)) = r.w.custom
    rw [hfm _ _ c1, c2]
  · show (if r.w.langs ≠ [] then r.w.langs.headD [] else r.lang) = [] ↔ _
    rcases a.lgs.two with ⟨z1, z2⟩ | ⟨i, t, is', ts', z1, z2, b⟩
    · rw [z1, z2, if_neg (by simp)]
      rcases a.lng.1 with ⟨q1, q2⟩ | ⟨k, q1, q2, _, _, q5⟩
      · rw [q1, q2]
        exact ⟨fun _ => ⟨rfl, .inl (by decide)⟩, fun _ => rfl⟩
      · have := a.len
        exact ⟨fun e => absurd e q5, fun e => by omega⟩
    · rw [z1, z2, if_pos (by simp)]
      rcases b with ⟨q1, _⟩ | ⟨k, q1, q2, _, _, q5⟩
      · omega
      · exact ⟨fun e => absurd e q5, fun e => by cases e.1⟩
  · show (if r.w.langs ≠ [] then r.w.langs.headD [] else r.lang) ≠ [] → _
    rcases a.lgs.two with ⟨z1, z2⟩ | ⟨i, t, is', ts', z1, z2, b⟩
    · rw [z2, if_neg (by simp)]
      intro e
      exact x.la (fun q => e (a.lng.1.iff.1 q))
    · intro _
      exact x.lg (by rw [z1]; simp)
  · have := a.ext
    rw [a.ids] at this
    exact idStr_at (k := 0) this

/-! ### Types -/
theorem typ_bool (pointed nonempty cont idx uidx dat lay bas sh mk pa : Bool) (h1 : lay = true → cont = false) (h2 : dat = true → nonempty = true) (h3 : pointed = false → bas = false) :
    (let t0 : Int := if sh then 7 else 0
     let t2 : Int := if !pointed then t0 else if nonempty then (if cont then (if idx then 3 else if uidx then 4 else 2) else if dat then 5 else t0) else t0
     if decide (t2 < 6) && lay then (if bas then 9 else if sh then 7 else if mk then 6 else if pa then 8 else t2) else t2) =
    (let data := pointed && dat
     if pointed && cont && nonempty then (if idx then 3 else if uidx then 4 else 2)
     else if data && !lay then 5 else if data && bas then 9 else if sh then 7 else if lay && bas then 9 else if lay && mk then 6 else if lay && pa then 8 else if data then 5 else (0 : Int)) := by
  cases pointed <;> cases nonempty <;> cases cont <;> cases dat <;> cases lay <;> cases bas <;> cases sh <;> (try (exfalso; simp at h1 h2 h3; done)) <;> cases idx <;> cases uidx <;> cases mk <;> cases pa <;> first | rfl | (exfalso; simp at h1 h2 h3; done)

/-! ### No two slashes side by side -/
theorem holds_no {s p : Str} (h : holdsL s p = false) : ∀ k, p.isPrefixOf (s.drop k) = false := by
  intro k
  unfold holdsL at h
  induction s generalizing k with
  | nil =>
    rw [List.drop_nil]
    unfold idx? at h
    cases e : p.isPrefixOf ([] : Str) with
    | false => rfl
    | true => rw [e, if_pos rfl] at h; cases h
  | cons c t ih =>
    unfold idx? at h
    cases e : p.isPrefixOf (c :: t) with
    | true => rw [e, if_pos rfl] at h; cases h
    | false =>
      rw [e, if_neg (by decide)] at h
      cases k with
      | zero => exact e
      | succ k =>
        refine ih ?_ k
        cases hx : idx? p t with
        | none => rfl
        | some i => rw [hx] at h; exact absurd h (by simp)
def NoDbl (s : Str) : Prop := ∀ i : Nat, s[i]? = some 47 → s[i + 1]? ≠ some 47
theorem noDbl_of {s : Str} (h : holdsL s [47, 47] = false) : NoDbl s := by
  intro i h1 h2
  have := holds_no h i
  have hi : i < s.length := by
    rcases Nat.lt_or_ge i s.length with x | x
    · exact x
    · rw [List.getElem?_eq_none x] at h1; cases h1
  have hi2 : i + 1 < s.length := by
    rcases Nat.lt_or_ge (i + 1) s.length with x | x
    · exact x
    · rw [List.getElem?_eq_none x] at h2; cases h2
  rw [drop_cons hi, drop_cons hi2] at this
  rw [List.getElem?_eq_getElem hi] at h1
  rw [List.getElem?_eq_getElem hi2] at h2
  rw [Option.some.inj h1, Option.some.inj h2] at this
  exact absurd this (by simp [List.isPrefixOf])
theorem noDbl_cons {t : Str} (h : NoDbl t) (h0 : t.head? ≠ some 47) : NoDbl (47 :: t) := by
  intro i h1 h2
  cases i with
  | zero => rw [List.head?_eq_getElem?] at h0; exact h0 (by simpa using h2)
  | succ i => exact h i (by simpa using h1) (by simpa using h2)
theorem noDbl_dropLast {t : Str} (h : NoDbl t) : NoDbl t.dropLast := by
  intro i h1 h2
  rw [List.dropLast_eq_take, List.getElem?_take] at h1 h2
  split at h1
  · split at h2
    · exact h i h1 h2
    · cases h2
  · cases h1
theorem noDbl_norm {s : Str} (h : NoDbl s) : NoDbl (normPath s) := by
  unfold normPath
  split
  · intro i h1 h2
    cases i with
    | zero => simp at h2
    | succ i => simp at h1
  · have h2 : NoDbl (slashed s) := by
      unfold slashed
      split
      · exact h
      · rename_i hc; exact noDbl_cons h hc
    unfold trimEnd
    split
    · exact noDbl_dropLast h2
    · exact h2

/-! ### Sections -/
theorem splitL_len : ∀ t : Str, (splitL t).length = t.countP (· == 47) + 1
  | [] => rfl
  | c :: t => by
    have ih := splitL_len t
    unfold splitL
    by_cases h : c = 47
    · rw [if_pos h, List.length_cons, ih, h, List.countP_cons]; rfl
    · rw [if_neg h, List.countP_cons, if_neg (by simpa using h)]
      cases hs : splitL t with
      | nil => rw [hs] at ih; simp at ih
      | cons x r => rw [hs] at ih; simpa using ih
theorem splitL_head : ∀ (t : Str) (g : Nat), NoSl t 0 g → g ≤ t.length → (t[g]? = some 47 ∨ g = t.length) → (splitL t).headD [] = t.take g
  | [], g, _, hg, _ => by have : g = 0 := by simpa using hg
                          subst this; rfl
  | c :: t, 0, _, _, h => by
    rcases h with h | h
    · have : c = 47 := by simpa using h
      unfold splitL
      rw [if_pos this]; rfl
    · simp at h
  | c :: t, g + 1, hn, hg, h => by
    have hc : c ≠ 47 := fun e => hn 0 (Nat.le_refl _) (by omega) (by rw [e]; rfl)
    have ih := splitL_head t g (fun j h1 h2 => by have := hn (j + 1) (by omega) (by omega); simpa using this) (by simpa using hg) (by
      rcases h with h | h
      · exact .inl (by simpa using h)
      · exact .inr (by simpa using h))
    have hl := splitL_len t
    unfold splitL
    rw [if_neg hc]
    cases hs : splitL t with
    | nil => rw [hs] at hl; simp at hl
    | cons x r => rw [hs] at ih; simp at ih ⊢; exact ih
theorem noSl_count {t : Str} (h : NoSl t 0 t.length) : t.countP (· == 47) = 0 := by
  rw [List.countP_eq_zero]
  intro x hx
  obtain ⟨j, hj, rfl⟩ := List.getElem_of_mem hx
  have := h j (Nat.zero_le _) hj
  rw [List.getElem?_eq_getElem hj] at this
  simpa using this

/-! ### A finished path -/
/-- The type that the last steps give, the type 7, the bound of the section. -/
theorem fin_typ (site : SiteM) (comp s nm ext : Str) (X : PathS) (sl : Int) (em : Bool) (hxe : X.ext = ext) (hxc : X.comp = comp) (hxn : sub X.s (X.nLow, X.nHigh) = nm) (hlow : X.nLow < X.nHigh ↔ nm ≠ [])
    (hx : X.typ = if holdsL s kShort then 7 else 0) (hk : X.known = [] ↔ em = true) (hkb : em = true → (X.baseof != -1) = false) (hp : X.path = s) :
    (PathS.fin3 comp (PathS.fin2 site X sl)).typ =
      (if (!em && (comp == kContent || comp == kArch) && amongL site.content ext && !nm.isEmpty) = true then (if nm = kIndex then 3 else if nm = kUIndex then 4 else 2)
      else if (!em && nm == kUContent && ext == kGotmpl && !(comp == kLayouts)) = true then 5 else if (!em && nm == kUContent && ext == kGotmpl && (X.baseof != -1)) = true then 9 else if holdsL s kShort = true then 7
      else if ((comp == kLayouts) && (X.baseof != -1)) = true then 9 else if ((comp == kLayouts) && holdsL s kMarkup) = true then 6 else if ((comp == kLayouts) && startsL s kPartials) = true then 8
      else if (!em && nm == kUContent && ext == kGotmpl) = true then 5 else 0) ∧
    ((PathS.fin3 comp (PathS.fin2 site X sl)).typ = 7 → holdsL s kShort = true) ∧
    (PathS.fin3 comp (PathS.fin2 site X sl)).sHigh = (if (PathS.fin3 comp (PathS.fin2 site X sl)).typ = 3 ∧ sl = 2 then 0 else X.sHigh) := by
  obtain ⟨q, hq⟩ : ∃ q, q = PathS.fin2 site X sl := ⟨_, rfl⟩
  have f2 := fin2_form site X sl
  rw [← hq] at f2 ⊢
  have f3 := fin3_form comp q
  have t2 : q.typ = if X.known = [] then X.typ else if X.nLow < X.nHigh then (if ((comp == kContent || comp == kArch) && amongL site.content ext) = true then (if nm = kIndex then 3 else if nm = kUIndex then 4 else 2) else if nm = kUContent ∧ ext = kGotmpl then 5 else X.typ) else X.typ := by
    rw [hq]
    unfold PathS.fin2
    rw [hxe, hxc, hxn]
    simp only [apply_ite PathS.typ, ite_self]
  have hx3 : ¬ X.typ = 3 := by rw [hx]; split <;> decide
  have s2 : q.sHigh = if q.typ = 3 ∧ sl = 2 then 0 else X.sHigh := by
    rw [t2, hq]
    unfold PathS.fin2
    rw [hxe, hxc, hxn]
    by_cases c1 : X.known = []
    · rw [if_pos c1, if_pos c1, if_neg (fun z => hx3 z.1)]
    · rw [if_neg c1, if_neg c1]
      by_cases c2 : X.nLow < X.nHigh
      · rw [if_pos c2, if_pos c2]
        by_cases c3 : ((comp == kContent || comp == kArch) && amongL site.content ext) = true
        · rw [if_pos c3, if_pos c3]
          by_cases c4 : nm = kIndex
          · rw [if_pos c4, if_pos c4]
            by_cases c5 : sl = 2
            · rw [if_pos c5, if_pos ⟨rfl, c5⟩]
            · rw [if_neg c5, if_neg (fun z => c5 z.2)]
          · rw [if_neg c4, if_neg c4]
            by_cases c5 : nm = kUIndex
            · rw [if_pos c5, if_pos c5, if_neg (fun z => absurd z.1 (by decide))]
            · rw [if_neg c5, if_neg c5, if_neg (fun z => absurd z.1 (by decide))]
        · rw [if_neg c3, if_neg c3]
          by_cases c4 : nm = kUContent ∧ ext = kGotmpl
          · rw [if_pos c4, if_pos c4, if_neg (fun z => absurd z.1 (by decide))]
          · rw [if_neg c4, if_neg c4, if_neg (fun z => hx3 z.1)]
      · rw [if_neg c2, if_neg c2, if_neg (fun z => hx3 z.1)]
  have q2b : q.baseof = X.baseof := by rw [f2]
  have q2p : q.path = s := by rw [f2]; exact hp
  have t3 : (PathS.fin3 comp q).typ = if q.typ < 6 ∧ comp = kLayouts then (if X.baseof ≠ -1 then 9 else if holdsL s kShort = true then 7 else if holdsL s kMarkup = true then 6 else if List.isPrefixOf kPartials s = true then 8 else q.typ) else q.typ := by
    unfold PathS.fin3
    rw [q2b, q2p]
    simp only [apply_ite PathS.typ]
  have hlayc : comp = kLayouts → (comp == kContent || comp == kArch) = false := fun e => by rw [e]; decide
  have hs3 : (PathS.fin3 comp q).sHigh = q.sHigh := by rw [f3]
  have e3 : (q.typ = 3) ↔ ((PathS.fin3 comp q).typ = 3) := by
    rw [t3]
    by_cases z : q.typ < 6 ∧ comp = kLayouts
    · rw [if_pos z]
      have hn3 : ¬ q.typ = 3 := by
        rw [t2, hlayc z.2, Bool.false_and, if_neg (show ¬ false = true by decide)]
        by_cases c1 : X.known = []
        · rw [if_pos c1]; exact hx3
        · rw [if_neg c1]
          by_cases c2 : X.nLow < X.nHigh
          · rw [if_pos c2]
            by_cases c4 : nm = kUContent ∧ ext = kGotmpl
            · rw [if_pos c4]; decide
            · rw [if_neg c4]; exact hx3
          · rw [if_neg c2]; exact hx3
      constructor
      · intro y; exact absurd y hn3
      · intro y
        exfalso
        revert y
        repeat' split
        all_goals first | decide | exact hn3
    · rw [if_neg z]
  refine ⟨?_, ?_, by rw [hs3, s2]; simp only [e3]⟩
  · have tb := typ_bool (!em) (!nm.isEmpty) ((comp == kContent || comp == kArch) && amongL site.content ext) (nm == kIndex) (nm == kUIndex) (nm == kUContent && ext == kGotmpl) (comp == kLayouts) (X.baseof != -1) (holdsL s kShort) (holdsL s kMarkup) (startsL s kPartials)
      (fun e => by rw [hlayc (by simpa using e)]; rfl)
      (fun e => by
        rw [Bool.and_eq_true, beq_iff_eq] at e
        rw [e.1]; rfl)
      (fun e => hkb (by simpa using e))
    have p1 : (X.known = []) = ((! !em) = true) := propext (hk.trans (by simp))
    have p2 : (X.nLow < X.nHigh) = ((!nm.isEmpty) = true) := propext (hlow.trans (by simp))
    have d1 : (nm = kIndex) = ((nm == kIndex) = true) := by simp
    have d2 : (nm = kUIndex) = ((nm == kUIndex) = true) := by simp
    have d3 : (nm = kUContent ∧ ext = kGotmpl) = ((nm == kUContent && ext == kGotmpl) = true) := by simp
    have d4 : (X.baseof ≠ -1) = ((X.baseof != -1) = true) := by simp
    have d5 : (q.typ < 6 ∧ comp = kLayouts) = ((decide (q.typ < 6) && (comp == kLayouts)) = true) := by simp
    have eI : (if nm = kIndex then (3 : Int) else if nm = kUIndex then 4 else 2) = (if (nm == kIndex) = true then (3 : Int) else if (nm == kUIndex) = true then 4 else 2) := ite_congr d1 (fun _ => rfl) (fun _ => ite_congr d2 (fun _ => rfl) (fun _ => rfl))
    have t2b := t2.trans (ite_congr p1 (fun _ => rfl) (fun _ => ite_congr p2 (fun _ => ite_congr rfl (fun _ => eI) (fun _ => ite_congr d3 (fun _ => rfl) (fun _ => rfl))) (fun _ => rfl)))
    have t3b := t3.trans (ite_congr d5 (fun _ => ite_congr d4 (fun _ => rfl) (fun _ => rfl)) (fun _ => rfl))
    have d6 : (List.isPrefixOf kPartials s) = startsL s kPartials := rfl
    rw [t3b, t2b, hx, eI, d6]
    clear t2 t3 t2b t3b s2 e3 p1 p2 d1 d2 d3 d4 d5 d6 eI hlow hk hkb hlayc f2 f3 q2b q2p hs3 hx hx3 hxn hxe hxc hp hq
    generalize (!em) = b1 at tb ⊢
    generalize (!nm.isEmpty) = b2 at tb ⊢
    generalize (nm == kIndex) = b4 at tb ⊢
    generalize (nm == kUIndex) = b5 at tb ⊢
    generalize (comp == kContent || comp == kArch) = b3 at tb ⊢
    generalize amongL site.content ext = b3' at tb ⊢
    generalize (nm == kUContent) = b6 at tb ⊢
    generalize (ext == kGotmpl) = b6' at tb ⊢
    generalize (comp == kLayouts) = b7 at tb ⊢
    generalize (X.baseof != -1) = b8 at tb ⊢
    generalize holdsL s kShort = b9 at tb ⊢
    generalize holdsL s kMarkup = b10 at tb ⊢
    generalize startsL s kPartials = b11 at tb ⊢
    dsimp only at tb
    rw [Bool.and_assoc b1 b6 b6', Bool.and_assoc b1 b3 b3']
    exact tb
  · intro z
    cases hsh : holdsL s kShort with
    | true => rfl
    | false =>
      exfalso
      have h2 : ¬ q.typ = 7 := by
        rw [t2, hx, hsh, if_neg (show ¬ false = true by decide)]
        by_cases c1 : X.known = []
        · rw [if_pos c1]; decide
        · rw [if_neg c1]
          by_cases c2 : X.nLow < X.nHigh
          · rw [if_pos c2]
            by_cases c3 : ((comp == kContent || comp == kArch) && amongL site.content ext) = true
            · rw [if_pos c3]
              by_cases c4 : nm = kIndex
              · rw [if_pos c4]; decide
              · rw [if_neg c4]
                by_cases c5 : nm = kUIndex
                · rw [if_pos c5]; decide
                · rw [if_neg c5]; decide
            · rw [if_neg c3]
              by_cases c4 : nm = kUContent ∧ ext = kGotmpl
              · rw [if_pos c4]; decide
              · rw [if_neg c4]; decide
          · rw [if_neg c2]; decide
      rw [t3, hsh, if_neg (show ¬ false = true by decide)] at z
      by_cases c1 : q.typ < 6 ∧ comp = kLayouts
      · rw [if_pos c1] at z
        by_cases c2 : X.baseof ≠ -1
        · rw [if_pos c2] at z; exact absurd z (by decide)
        · rw [if_neg c2] at z
          by_cases c3 : holdsL s kMarkup = true
          · rw [if_pos c3] at z; exact absurd z (by decide)
          · rw [if_neg c3] at z
            by_cases c4 : List.isPrefixOf kPartials s = true
            · rw [if_pos c4] at z; exact absurd z (by decide)
            · rw [if_neg c4] at z; exact h2 z
      · rw [if_neg c1] at z; exact h2 z

theorem finish_agree {site : SiteM} {comp s : Str} {h : Nat} {st : ScanM} (hh : s.head? = some 47) (hnd : NoDbl s) (hb : slashB s s.length = (h : Int)) (hlt : h < s.length) (hc : s[h]? = some 47) (hno : NoSl s (h + 1) s.length) (hlp : lastPart s = s.drop (h + 1))
    (hk : wordsKnown comp (lastPart s) = true) (hr : Read site comp s (lastPart s) (h + 1) st.p) (hsl : SlInv s 0 st) :
    ∃ w, w = wordsEnd site (lastPart s) (readAll site comp s (lastPart s)) ∧ Agree h (PathS.finish site comp st.p st.slashes) w ∧ (PathS.finish site comp st.p st.slashes).sectionM = sectionOf w := by
  obtain ⟨w, hw⟩ : ∃ w, w = wordsEnd site (lastPart s) (readAll site comp s (lastPart s)) := ⟨_, rfl⟩
  refine ⟨w, hw, ?_⟩
  obtain ⟨k1, k2, k3, k4⟩ := hr.core
  obtain ⟨keepP, keepN⟩ := readAll_keep site comp s (lastPart s)
  have hwp : w.path = s := by rw [hw]; exact keepP
  have hwn : w.name = lastPart s := by rw [hw]; exact keepN
  have hnl : (lastPart s).length = s.length - (h + 1) := by rw [hlp, List.length_drop]
  have hT : Tells st.p w := by
    rw [hw]
    by_cases hn : cutPoints (lastPart s) = []
    · exact tells_none hr hn
    · exact tells_some hr hn
  have hhc := hr.hc
  -- the name's end
  have hne : w.nameEnd = markEnd (readAll site comp s (lastPart s)).marks (lastPart s).length := by rw [hw]; rfl
  have hcomp : w.component = comp := by
    rw [hw]
    show (readAll site comp s (lastPart s)).w.component = comp
    by_cases hn : cutPoints (lastPart s) = []
    · unfold readAll; rw [if_pos hn]; rfl
    · exact (hr.some hn).1.cmp
  have hmk : ∀ (l : List Int) (n : Nat), markEnd l n ≤ n := by
    intro l
    unfold markEnd
    induction l with
    | nil => intro n; exact Nat.le_refl _
    | cons m l ih =>
      intro n
      rw [List.foldl_cons]
      split
      · have := ih m.toNat; omega
      · exact ih n
  have hnele : w.nameEnd ≤ (lastPart s).length := by rw [hne]; exact hmk _ _
  have hX : PathS.fin1 st.p = { st.p with nLow := h + 1, nHigh := h + 1 + w.nameEnd } := by
    have e1 : (PathS.fin1 st.p).nHigh = h + 1 + w.nameEnd := by
      unfold PathS.fin1
      by_cases hn : cutPoints (lastPart s) = []
      · have e := hr.none hn
        have e2 : st.p.nameHigh = -1 := by rw [e]; rfl
        rw [if_neg (by rw [e2, hhc]; omega)]
        show st.p.s.length = _
        rw [k1, hne]
        unfold readAll
        rw [if_pos hn]
        show s.length = h + 1 + (lastPart s).length
        omega
      · obtain ⟨_, e, _⟩ := hr.some hn
        rw [if_pos (by rw [e, hhc]; omega)]
        show st.p.nameHigh.toNat = _
        rw [e, hne]; omega
    rw [fin1_form, e1, show st.p.cHigh.toNat = h + 1 by rw [hhc, Int.toNat_natCast]]
  have e0 : PathS.finish site comp st.p st.slashes = PathS.fin4 (PathS.fin3 comp (PathS.fin2 site (PathS.fin1 st.p) st.slashes)) := rfl
  rw [e0, hX]
  obtain ⟨X, hXd⟩ : ∃ X : PathS, X = { st.p with nLow := h + 1, nHigh := h + 1 + w.nameEnd } := ⟨_, rfl⟩
  rw [← hXd]
  have x_typ : X.typ = if holdsL s kShort then 7 else 0 := by rw [hXd]; exact k4
  have x_known : X.known = st.p.known := by rw [hXd]
  -- the extension
  have hxe : X.ext = w.ext := by rw [hXd]; exact hT.ext
  have hxc : X.comp = comp := by rw [hXd]; exact k2
  have hxn : sub X.s (X.nLow, X.nHigh) = w.name.take w.nameEnd := by
    rw [hXd]
    show (st.p.s.drop (h + 1)).take (h + 1 + w.nameEnd - (h + 1)) = _
    rw [k1, hwn, ← hlp, Nat.add_sub_cancel_left]
  have hids : w.ids = [] ↔ X.known = [] := by rw [x_known, ← hT.ids, List.map_eq_nil_iff]
  have hxs : X.s = s := by rw [hXd]; exact k1
  have hxt : X.trim = false := by rw [hXd]; exact k3
  -- the types
  obtain ⟨q2, hq2⟩ : ∃ q, q = PathS.fin2 site X st.slashes := ⟨_, rfl⟩
  obtain ⟨q3, hq3⟩ : ∃ q, q = PathS.fin3 comp q2 := ⟨_, rfl⟩
  have f2 := fin2_form site X st.slashes
  rw [← hq2] at f2
  have f3 := fin3_form comp q2
  rw [← hq3] at f3
  have q2b : X.baseof = st.p.baseof := by rw [hXd]
  have hxp : X.path = s := by unfold PathS.path; rw [hxt, if_neg (by decide), hxs]
  have hlow : X.nLow < X.nHigh ↔ w.name.take w.nameEnd ≠ [] := by
    rw [hXd]
    show h + 1 < h + 1 + w.nameEnd ↔ _
    constructor
    · intro z e
      have := congrArg List.length e
      rw [List.length_take, hwn, List.length_nil] at this
      omega
    · intro z
      rcases Nat.eq_zero_or_pos w.nameEnd with y | y
      · rw [y] at z; exact absurd rfl z
      · omega
  have hbas : (readAll site comp s (lastPart s)).baseof = (X.baseof != -1) ∧ (readAll site comp s (lastPart s)).layouts = (comp == kLayouts) := by
    rw [q2b]
    by_cases hn : cutPoints (lastPart s) = []
    · have e := hr.none hn
      have e2 : st.p.baseof = -1 := by rw [e]; rfl
      rw [e2]
      unfold readAll
      rw [if_pos hn]
      exact ⟨rfl, rfl⟩
    · exact ⟨(hr.some hn).1.bas.1, (hr.some hn).1.lys⟩
  have hkb : X.known = [] → (X.baseof != -1) = false := fun e => by
    rw [q2b]
    by_cases hn : cutPoints (lastPart s) = []
    · have e := hr.none hn
      have e2 : st.p.baseof = -1 := by rw [e]; rfl
      rw [e2]; rfl
    · exact absurd (x_known ▸ e) (hr.some hn).2.2.ne
  obtain ⟨ft1, ft2, ft3⟩ := fin_typ site comp s (w.name.take w.nameEnd) w.ext X st.slashes w.ids.isEmpty hxe hxc hxn hlow x_typ (by rw [← hids]; simp) (fun z => hkb (hids.1 (by simpa using z))) hxp
  rw [← hq2, ← hq3] at ft1
  rw [← hq2, ← hq3] at ft2
  rw [← hq2, ← hq3] at ft3
  have htyp : q3.typ = w.typ := by
    have hwt : w.typ = ReadM.typeOf site { readAll site comp s (lastPart s) with w := { w with typ := (readAll site comp s (lastPart s)).w.typ } } := by rw [hw]; rfl
    rw [hwt]
    unfold ReadM.typeOf
    dsimp only
    rw [hbas.1, hbas.2, hcomp, hwp]
    exact ft1
  -- the plain layout stays
  have h4 : PathS.fin4 q3 = q3 := by
    unfold PathS.fin4
    rw [if_neg]
    rintro ⟨z1, z2, z3⟩
    have q3l : q3.lay = st.p.lay := by rw [f3, f2, hXd]
    have q3k : q3.known = st.p.known := by rw [f3, f2, hXd]
    have q3c : q3.cHigh = ((h + 1 : Nat) : Int) := by rw [f3, f2, hXd]; exact hhc
    rw [q3l] at z2 z3
    rw [q3k, q3c] at z3
    have hsh : st.p.typ = 7 := by rw [k4, if_pos (ft2 z1)]
    by_cases hn : cutPoints (lastPart s) = []
    · exact z2 (by rw [hr.none hn]; rfl)
    · have := (hr.some hn).2.2.lp hsh z2
      omega
  rw [← hq2, ← hq3, h4]
  have form : q3 = { st.p with nLow := h + 1, nHigh := h + 1 + w.nameEnd, typ := q3.typ, sHigh := q3.sHigh } := by
    have e : q3.sHigh = q2.sHigh := by rw [f3]
    rw [f3, f2, hXd]
  have q3s : q3.sHigh = if w.typ = 3 ∧ st.slashes = 2 then 0 else st.p.sHigh := by
    have e2 : X.sHigh = st.p.sHigh := by rw [hXd]
    rw [ft3, htyp, e2]
  generalize q3.typ = ty at form htyp
  generalize q3.sHigh = sg at form q3s
  rw [form]
  clear form hq3 hq2 f2 f3 q2b h4 ft1 ft2 ft3 hbas hkb hlow
  obtain ⟨hi0, hi1, hsh, hct⟩ := hsl
  obtain ⟨h', c1, c2, c3, c4, c5, c6⟩ := hi1 (by rw [hhc]; omega)
  have hh' : h' = h := by rw [hhc] at c1; omega
  subst hh'
  refine ⟨⟨by rw [hwp]; exact k1, by rw [hcomp]; exact k2, k3, htyp, by rw [hwp]; exact hh, by rw [hwp, hwn]; exact hlp, by rw [hwp]; exact hlt, ?_, by rw [hwp]; exact hb, ?_, by rw [hwp]; exact hc, by rw [hwp]; exact hnd, rfl, rfl, by rw [hwn]; exact hnele, ?_, hT.ids, hT.unk, hT.lgs, hT.fmt, hT.knd, hT.lay, hT.lng, hT.cus, hT.dis, hT.lg0, hT.two⟩, ?_⟩
  · show st.p.cHigh = _; rw [hhc]; omega
  · rw [hwp]
    by_cases hcl : st.p.cLow = -1
    · exact .inl ⟨hcl, c5 hcl⟩
    · obtain ⟨l, d1, _, d2, d3, d4⟩ := c6 hcl
      exact .inr ⟨l, d1, d2, d3, d4⟩
  · rw [hwp, hwn]
    by_cases hn : cutPoints (lastPart s) = []
    · left
      have e := hr.none hn
      refine ⟨?_, ?_⟩
      · show st.p.known = []; rw [e]; rfl
      · rw [hw]
        show (readAll site comp s (lastPart s)).w.ext = []
        unfold readAll; rw [if_pos hn]; rfl
    · right
      obtain ⟨a, _, x⟩ := hr.some hn
      have hok := name_ok hn hk
      have hpos : 0 < (cutPoints (lastPart s)).length := List.length_pos_iff.2 hn
      have hlast : (cutPoints (lastPart s)).length - 1 < (cutPoints (lastPart s)).length := by omega
      have hcut : (lastPart s)[(cutPoints (lastPart s)).getD ((cutPoints (lastPart s)).length - 1) 0]? = some 46 := by
        rw [List.getD_eq_getElem?_getD, List.getElem?_eq_getElem hlast]
        exact cuts_dot (List.getElem_mem hlast)
      have hcl := cut_lt hlast
      refine ⟨(cutPoints (lastPart s)).getD ((cutPoints (lastPart s)).length - 1) 0, x.hd, ?_, ?_, ?_, hcut⟩
      · have := hok.ext; omega
      · rw [hw]
        show (readAll site comp s (lastPart s)).w.ext = _
        have e1 := a.ext
        rw [a.ids] at e1
        have hd := x.hd
        rw [List.getElem?_map, ← List.head?_eq_getElem?, hd] at e1
        have e2 : sub st.p.s (h' + 1 + (cutPoints (lastPart s)).getD ((cutPoints (lastPart s)).length - 1) 0 + 1, s.length) = (readAll site comp s (lastPart s)).w.ext := Option.some.inj e1
        rw [← e2, k1, hlp, List.drop_drop]
        unfold sub
        rw [List.take_of_length_le (by rw [List.length_drop]; exact Nat.le_refl _)]
        rfl
      · rw [hne]
        exact mark_pos hn hok
  · -- the section
    have hs1 : ({ st.p with nLow := h' + 1, nHigh := h' + 1 + w.nameEnd, typ := ty, sHigh := sg } : PathS).sectionM = if sg ≤ 0 then [] else sub s (1, sg.toNat) := by
      unfold PathS.sectionM PathS.norm
      show (if sg ≤ 0 then [] else (if st.p.trim = true then _ else sub st.p.s (1, sg.toNat))) = _
      rw [k3, if_neg (show ¬ false = true by decide), k1]
    rw [hs1, q3s]
    unfold sectionOf partsOf
    rw [hwp]
    obtain ⟨t, rfl⟩ : ∃ t, s = 47 :: t := by
      cases s with
      | nil => cases hh
      | cons c t => simp at hh; exact ⟨t, by rw [hh]⟩
    rw [if_neg (show ¬ (47 :: t : Str) = [] by simp)]
    have ed : (47 :: t : Str).drop 1 = t := rfl
    rw [ed, splitL_len]
    have hcnt : st.slashes = ((t.countP (· == 47) + 1 : Nat) : Int) := by
      rw [hct, List.drop_zero, List.countP_cons]; rfl
    rw [hcnt]
    have shift : ∀ g, NoSl (47 :: t) (max 0 1) (g + 1) → NoSl t 0 g := fun g hg j h1 h2 => by
      have := hg (j + 1) (by omega) (by omega)
      simpa using this
    rcases hsh with ⟨d1, d2⟩ | ⟨g, d1, d2, _, d3, d4⟩
    · have hz := noSl_count (shift t.length (by simpa using d2))
      have hsg : (if w.typ = 3 ∧ ((0 + 1 : Nat) : Int) = 2 then (0 : Int) else st.p.sHigh) ≤ 0 := by rw [d1]; split <;> omega
      rw [hz, if_pos hsg, if_pos (.inl (by omega))]
    · obtain ⟨g, rfl⟩ : ∃ g', g = g' + 1 := ⟨g - 1, by omega⟩
      have d5 : t[g]? = some 47 := by simpa using d3
      have hg : g < t.length := by
        rcases Nat.lt_or_ge g t.length with z | z
        · exact z
        · rw [List.getElem?_eq_none z] at d5; cases d5
      have hpos : 0 < t.countP (· == 47) := by
        rw [List.countP_pos_iff]
        exact ⟨47, List.mem_of_getElem? d5, by decide⟩
      have hhead := splitL_head t g (shift g d4) (by omega) (.inl d5)
      by_cases h3 : w.typ = 3 ∧ ((t.countP (· == 47) + 1 : Nat) : Int) = 2
      · rw [if_pos h3, if_pos (Int.le_refl 0), if_pos (.inr ⟨by omega, h3.1⟩)]
      · rw [if_neg h3, d1, if_neg (by omega), if_neg (by rintro (z | ⟨z1, z2⟩); omega; exact h3 ⟨z2, by omega⟩), hhead]
        unfold sub
        show (t.drop 0).take (((g + 1 : Nat) : Int).toNat - 1) = _
        rw [List.drop_zero, Int.toNat_natCast, Nat.add_sub_cancel]

/-! ### The law of a parse -/
theorem siteKnown_words {site : SiteM} (h : siteKnown site = true) : Words site := by
  have sw : ∀ l, siteWords l = true → ∀ w, amongL l w = true → w ≠ [] := by
    intro l hl w hw e
    subst e
    have h1 : siteWordsFrom [] l = true := by unfold siteWords at hl; rw [Bool.and_eq_true] at hl; exact hl.1
    clear hl
    have : ∀ (l seen : List Str), siteWordsFrom seen l = true → amongL l [] = true → False := by
      intro l
      induction l with
      | nil => intro seen _ e; cases e
      | cons x r ih =>
        intro seen h1 h2
        unfold siteWordsFrom at h1
        simp only [Bool.and_eq_true] at h1
        unfold amongL at h2
        rw [List.any_cons, Bool.or_eq_true] at h2
        rcases h2 with e | e
        · have : x = [] := by simpa using e
          rw [this] at h1
          exact absurd h1.1.1 (by decide)
        · exact ih _ h1.2 e
    exact this l [] h1 hw
  rw [siteKnown_eq] at h
  simp only [Bool.and_eq_true] at h
  obtain ⟨⟨⟨⟨⟨h1, h2⟩, h3⟩, h4⟩, h5⟩, h6⟩ := h
  refine ⟨sw _ h1, sw _ h2, ?_⟩
  intro w hw e
  subst e
  unfold formatNamed at hw
  rw [List.any_eq_true] at hw
  obtain ⟨f, hf, e⟩ := hw
  rw [List.all_eq_true] at h6
  have := h6 f hf
  have e2 : f.1 = [] := by simpa using e
  rw [Bool.and_eq_true, e2] at this
  exact absurd this.1 (by decide)

/-- What is asked of a text that is parsed. -/
structure Parsable (site : SiteM) (comp s : Str) : Prop where
  words : Words site
  nodbl : NoDbl s
  known : wordsKnown comp (lastPart (normPath s)) = true
theorem parse_agree {site : SiteM} {comp s : Str} (hp : Parsable site comp s) :
    ∃ h w, w = wordsEnd site (lastPart (normPath s)) (readAll site comp (normPath s) (lastPart (normPath s))) ∧ Agree h (doParseM site comp s) w ∧ (doParseM site comp s).sectionM = sectionOf w := by
  have hh := normPath_head s
  obtain ⟨h, a1, a2, a3, a4, a5, a6⟩ := scan_read site comp (normPath s) hp.words hh hp.known
  have hsl := down_sl site comp (skipsOf (normPath s)) ((countDots (lastPart (normPath s)) : Int) - (skipsOf (normPath s)).length) hh (normPath s).length (start_inv comp (normPath s)) (start_sl comp (normPath s))
  obtain ⟨w, w1, w2, w3⟩ := finish_agree hh (noDbl_norm hp.nodbl) a1 a2 a3 a4 a5 hp.known a6 hsl
  exact ⟨h, w, w1, w2, w3⟩

theorem normL_get (s : Str) (i : Nat) : (normL s)[i]? = some 47 ↔ s[i]? = some 47 := by
  have hb : ∀ c : UInt8, normB (Lib.lowerB c) = 47 ↔ c = 47 := fun c => by
    have h : ∀ n : Fin 256, normB (Lib.lowerB (UInt8.ofNat n)) = 47 ↔ UInt8.ofNat n = 47 := by decide +kernel
    have := h ⟨c.toNat, c.toNat_lt⟩
    simpa using this
  unfold normL Lib.toLowerA
  rw [List.map_map, List.getElem?_map]
  cases s[i]? with
  | none => simp
  | some c =>
    have := hb c
    constructor
    · intro e
      have e : normB (Lib.lowerB c) = 47 := Option.some.inj e
      rw [this.1 e]
    · intro e
      have e : c = 47 := Option.some.inj e
      show some (normB (Lib.lowerB c)) = _
      rw [this.2 e]
theorem noDbl_normL {s : Str} (h : NoDbl s) : NoDbl (normL s) := fun i h1 h2 => h i ((normL_get s i).1 h1) ((normL_get s (i + 1)).1 h2)

theorem known_parsable {site : SiteM} {comp s : Str} (h : pathKnown site comp s = true) : Parsable site comp (normL s) ∧ Parsable site comp s := by
  unfold pathKnown at h
  simp only [Bool.and_eq_true, Bool.not_eq_true', decide_eq_true_eq] at h
  obtain ⟨⟨⟨⟨⟨⟨h1, h2⟩, h3⟩, h4⟩, h5⟩, h6⟩, h7⟩ := h
  have hw := siteKnown_words h1
  have hd := noDbl_of h2
  exact ⟨⟨hw, noDbl_normL hd, h6⟩, ⟨hw, hd, h7⟩⟩
/-- A known path: what it agrees with. -/
theorem known_agree {site : SiteM} {comp s : Str} (h : pathKnown site comp s = true) : ∃ k, Agree k (doParseM site comp (normL s)) (wordsOf site comp s false) ∧ (doParseM site comp (normL s)).sectionM = sectionOf (wordsOf site comp s false) := by
  obtain ⟨k, w, w1, w2, w3⟩ := parse_agree (known_parsable h).1
  have e : w = wordsOf site comp s false := by rw [w1, wordsOf_eq]; rfl
  rw [← e]
  exact ⟨k, w2, w3⟩
theorem known_agreeU {site : SiteM} {comp s : Str} (h : pathKnown site comp s = true) : ∃ k, Agree k (doParseM site comp s) (wordsOf site comp s true) ∧ (doParseM site comp s).sectionM = sectionOf (wordsOf site comp s true) := by
  obtain ⟨k, w, w1, w2, w3⟩ := parse_agree (known_parsable h).2
  have e : w = wordsOf site comp s true := by rw [w1, wordsOf_eq]; rfl
  rw [← e]
  exact ⟨k, w2, w3⟩
theorem parse_eq {site : SiteM} {comp s : Str} (h : pathKnown site comp s = true) : toldM (doParseM site comp (normL s)) = specParse site comp s := by
  obtain ⟨k, a, b⟩ := known_agree h
  rw [told_answers a, b]; rfl
theorem unnorm_eq {site : SiteM} {comp s : Str} (h : pathKnown site comp s = true) : toldM (doParseM site comp s) = specUnnormalized site comp s := by
  obtain ⟨k, a, b⟩ := known_agreeU h
  rw [told_answers a, b]; rfl

end Go.Proofs.YtbpoljgchbfhpaaGreatDoor
