/- A finished path and the words that the reference reads agree; two paths that agree tell the same. Plain Lean; no program here. Conditions: a site whose words are not empty, a last part of which something is said, no two slashes side by side. -/
import Derived.Test.YtbpoljgchbfhpaaGreatDoorEqA
set_option linter.unusedVariables false
set_option linter.unusedSimpArgs false
namespace Go.Proofs.YtbpoljgchbfhpaaGreatDoor

/-- What the reference makes of a reading. -/
def wordsEnd (site : SiteM) (name : Str) (r : ReadM) : WordsM :=
  let w1 := { r.w with nameEnd := markEnd r.marks name.length }
  let w2 := { w1 with lang := if w1.langs ≠ [] then w1.langs.headD [] else r.lang }
  let w3 := { w2 with format := chooseL w2.format r.format }
  let w4 := { w3 with format := if r.layouts && w3.format == [] && !(cutPoints name).isEmpty && formatNamed site.formats w3.ext then w3.ext else w3.format }
  let w5 := { w4 with kind := chooseL w4.kind r.kind, layout := chooseL w4.layout r.layout }
  { w5 with typ := ReadM.typeOf site { r with w := w5 } }
theorem wordsOf_eq (site : SiteM) (comp s : Str) (own : Bool) : wordsOf site comp s own = wordsEnd site (lastPart (pathOf s own)) (readAll site comp (pathOf s own) (lastPart (pathOf s own))) := rfl

/-! ### The text of a reading stays -/
theorem readStep_keep (site : SiteM) (r : ReadM) (word : Str) (at_ : Int) : (readStep site r word at_).w.path = r.w.path ∧ (readStep site r word at_).w.name = r.w.name := by
  unfold readStep
  split
  · unfold ReadM.wrapper
    dsimp only
    repeat' split
    all_goals exact ⟨rfl, rfl⟩
  · unfold ReadM.plain
    dsimp only
    repeat' split
    all_goals exact ⟨rfl, rfl⟩
theorem readWord_keep (site : SiteM) (name : Str) (cuts : List Nat) (r : ReadM) (i e : Nat) : (readWord site name cuts r i e).1.w.path = r.w.path ∧ (readWord site name cuts r i e).1.w.name = r.w.name := by
  unfold readWord
  dsimp only
  split
  · exact ⟨rfl, rfl⟩
  · exact readStep_keep site r _ _
theorem readDown_keep (site : SiteM) (name : Str) (cuts : List Nat) : ∀ (n : Nat) (r : ReadM) (e : Nat), (readDown site name cuts n r e).w.path = r.w.path ∧ (readDown site name cuts n r e).w.name = r.w.name
  | 0, r, e => readWord_keep site name cuts r 0 e
  | n + 1, r, e => by
    obtain ⟨a, b⟩ := readDown_keep site name cuts n (readWord site name cuts r (n + 1) e).1 (readWord site name cuts r (n + 1) e).2
    obtain ⟨c, d⟩ := readWord_keep site name cuts r (n + 1) e
    exact ⟨a.trans c, b.trans d⟩
theorem readAll_keep (site : SiteM) (comp path name : Str) : (readAll site comp path name).w.path = path ∧ (readAll site comp path name).w.name = name := by
  unfold readAll
  split
  · exact ⟨rfl, rfl⟩
  · exact readDown_keep site name _ _ (read0 comp path name) _

/-! ### Two that agree -/
structure Agree (h : Nat) (P : PathS) (w : WordsM) : Prop where
  s_ : P.s = w.path
  cmp : P.comp = w.component
  trim : P.trim = false
  typ : P.typ = w.typ
  hd : w.path.head? = some 47
  name : w.name = w.path.drop (h + 1)
  hlt : h < w.path.length
  hc : P.cHigh = (h : Int) + 1
  sl : slashB w.path w.path.length = (h : Int)
  cl : P.cLow = -1 ∧ NoSl w.path 0 h ∨ ∃ l : Nat, P.cLow = (l : Int) + 1 ∧ l < h ∧ w.path[l]? = some 47 ∧ NoSl w.path (l + 1) h
  at_ : w.path[h]? = some 47
  nodbl : ∀ i : Nat, w.path[i]? = some 47 → w.path[i + 1]? ≠ some 47
  nl : P.nLow = h + 1
  nh : P.nHigh = h + 1 + w.nameEnd
  ne : w.nameEnd ≤ w.name.length
  kn : P.known = [] ∧ w.ext = [] ∨ ∃ c : Nat, P.known.head? = some (h + 1 + c + 1, w.path.length) ∧ c < w.name.length ∧ w.ext = w.name.drop (c + 1) ∧ 0 < w.nameEnd ∧ w.name[c]? = some 46
  ids : P.known.map (sub P.s) = w.ids
  unk : P.unknown.map (sub P.s) = w.unknown
  lgs : (P.langs.map fun (i : Nat) => P.idStr i) = w.langs
  fmt : P.formatM = w.format
  knd : P.kindM = w.kind
  lay : P.layoutM = w.layout
  lng : P.langM = w.lang
  cus : P.customM = w.custom
  dis : P.disabled = w.disabled
  lg0 : w.lang = [] ↔ P.langs = [] ∧ (P.lang < 0 ∨ (P.known.length : Int) ≤ P.lang)
  two : w.lang ≠ [] → 2 ≤ P.known.length

section
variable {h : Nat} {P : PathS} {w : WordsM}
theorem Agree.norm (a : Agree h P w) (t : Str) : P.norm t = t := by unfold PathS.norm; rw [a.trim]; rfl
theorem Agree.f_path (a : Agree h P w) : P.path = w.path := by unfold PathS.path; rw [a.trim, a.s_]; rfl
theorem Agree.nlen (a : Agree h P w) : w.name.length = w.path.length - (h + 1) := by rw [a.name, List.length_drop]
theorem Agree.f_dir (a : Agree h P w) : P.dirM = dirOf w.path := by
  have hl := a.hlt
  unfold PathS.dirM dirOf
  dsimp only
  rw [a.norm, a.s_, a.hc, a.sl, if_pos (show (0 : Int) < (h : Int) + 1 by omega), show ((h : Int) + 1 - 1).toNat = h by omega]
  by_cases h0 : h = 0
  · subst h0
    rw [List.take_zero, if_pos rfl, if_pos (show ((0 : Nat) : Int) ≤ 0 by omega)]
  · rw [if_neg (show ¬ (h : Int) ≤ 0 by omega), Int.toNat_natCast, if_neg]
    intro e
    have := congrArg List.length e
    rw [List.length_take, List.length_nil] at this
    omega
theorem Agree.low0 (a : Agree h P w) (e : P.cLow = -1) : h = 0 := by
  rcases a.cl with ⟨_, n⟩ | ⟨l, q, _⟩
  · rcases Nat.eq_zero_or_pos h with z | z
    · exact z
    · exact absurd (by rw [← List.head?_eq_getElem?]; exact a.hd) (n 0 (Nat.le_refl _) z)
  · omega
theorem Agree.f_container (a : Agree h P w) : P.containerM = containerOf w.path := by
  have hl := a.hlt
  unfold PathS.containerM containerOf
  rw [a.norm, a.s_, a.hc, a.sl]
  by_cases e : P.cLow = -1
  · have := a.low0 e
    subst this
    rw [if_pos e, if_pos (by omega)]
  · rcases a.cl with ⟨q, _⟩ | ⟨l, q1, q2, q3, q4⟩
    · exact absurd q e
    · have hget : ∀ j, j < h → (w.path.take h)[j]? = w.path[j]? := fun j hj => List.getElem?_take_of_lt hj
      have htl : (w.path.take h).length = h := by rw [List.length_take]; omega
      have hsb : slashB (w.path.take h) (w.path.take h).length = (l : Int) := by
        rw [htl]
        exact slashB_at (by rw [hget l q2]; exact q3) h q2 (fun j j1 j2 => by rw [hget j j2]; exact q4 j (by omega) j2)
      rw [if_neg e, if_neg (by omega), q1, Int.toNat_natCast, show ((h : Int) + 1 - 1).toNat = h by omega, show ((l : Int) + 1).toNat = l + 1 by omega]
      unfold lastPart
      rw [hsb, show ((l : Int) + 1).toNat = l + 1 by omega]
      unfold sub
      rw [List.drop_take]
theorem Agree.bundle (a : Agree h P w) : P.isBundle = isBundleT w.typ := by unfold PathS.isBundle; rw [a.typ]
theorem Agree.f_containerDir (a : Agree h P w) : P.containerDirM = if isBundleT w.typ ∧ containerOf w.path ≠ [] then (dirOf w.path).take (slashB (dirOf w.path) (dirOf w.path).length).toNat else dirOf w.path := by
  have hl := a.hlt
  have hcon := a.f_container
  unfold PathS.containerDirM
  rw [a.norm, a.s_, a.f_dir, a.bundle]
  by_cases e : P.cLow = -1
  · have h0 := a.low0 e
    rw [if_pos (.inl e), if_neg]
    rintro ⟨_, b⟩
    apply b
    unfold containerOf
    rw [a.sl, if_pos (by omega)]
  · rcases a.cl with ⟨q, _⟩ | ⟨l, q1, q2, q3, q4⟩
    · exact absurd q e
    · have hlh : l + 1 ≠ h := fun x => by
        have := a.nodbl l q3
        rw [x] at this
        exact this a.at_
      have hne : containerOf w.path ≠ [] := by
        rw [← hcon]
        unfold PathS.containerM
        rw [a.norm, if_neg e, a.s_, q1, a.hc]
        intro x
        have := congrArg List.length x
        unfold sub at this
        rw [List.length_take, List.length_drop] at this
        simp at this; omega
      cases hb : isBundleT w.typ with
      | false => rw [if_pos (.inr rfl), if_neg (by rintro ⟨x, _⟩; cases x)]
      | true =>
        have hget : ∀ j, j < h → (w.path.take h)[j]? = w.path[j]? := fun j hj => List.getElem?_take_of_lt hj
        have htl : (w.path.take h).length = h := by rw [List.length_take]; omega
        have hd : dirOf w.path = w.path.take h := by
          unfold dirOf
          rw [a.sl, if_neg (by omega), Int.toNat_natCast]
        have hsb : slashB (w.path.take h) (w.path.take h).length = (l : Int) := by
          rw [htl]
          exact slashB_at (by rw [hget l q2]; exact q3) h q2 (fun j j1 j2 => by rw [hget j j2]; exact q4 j (by omega) j2)
        rw [if_neg (by rintro (x | x); exact e x; cases x), if_pos ⟨rfl, hne⟩, hd, hsb, Int.toNat_natCast, q1, show ((l : Int) + 1 - 1).toNat = l by omega, List.take_take, Nat.min_eq_left (by omega)]
theorem Agree.f_name (a : Agree h P w) : P.nameM = w.name := by
  unfold PathS.nameM
  rw [a.hc, if_pos (by omega), a.s_, a.name, show ((h : Int) + 1).toNat = h + 1 by omega]
theorem Agree.f_noId (a : Agree h P w) : P.nameNoIdM = w.name.take w.nameEnd := by
  unfold PathS.nameNoIdM sub
  rw [a.nl, a.nh, a.s_, a.name, show h + 1 + w.nameEnd - (h + 1) = w.nameEnd by omega]
theorem Agree.headD (a : Agree h P w) {c : Nat} (e : P.known.head? = some (h + 1 + c + 1, w.path.length)) : P.known.headD (0, 0) = (h + 1 + c + 1, w.path.length) := by
  rw [List.headD_eq_head?_getD, e]; rfl
theorem Agree.ids0 (a : Agree h P w) : P.known = [] ↔ w.ids = [] := by
  rw [← a.ids, List.map_eq_nil_iff]
theorem kn_ne {x : Nat × Nat} (e : P.known.head? = some x) : P.known ≠ [] := fun q => by rw [q] at e; cases e
theorem Agree.f_before (a : Agree h P w) : P.nameNoExtM = beforeExt w w.name ∧ P.pathBeforeM = beforeExt w w.path := by
  have hl := a.hlt
  have hn := a.nlen
  unfold PathS.nameNoExtM PathS.pathBeforeM beforeExt
  rcases a.kn with ⟨e, _⟩ | ⟨c, e, c1, c2, _⟩
  · rw [if_pos e, if_pos e, if_pos (a.ids0.1 e), if_pos (a.ids0.1 e), a.norm, a.s_, a.hc, a.name, show ((h : Int) + 1).toNat = h + 1 by omega]
    exact ⟨rfl, rfl⟩
  · have hk := kn_ne e
    have hi : w.ids ≠ [] := fun x => hk (a.ids0.2 x)
    rw [if_neg hk, if_neg hk, if_neg hi, if_neg hi, a.headD e, a.norm, a.s_, a.hc, c2, List.length_drop]
    refine ⟨?_, ?_⟩
    · unfold sub
      show (w.path.drop ((h : Int) + 1).toNat).take (h + 1 + c + 1 - 1 - ((h : Int) + 1).toNat) = _
      rw [show ((h : Int) + 1).toNat = h + 1 by omega, ← a.name, show h + 1 + c + 1 - 1 - (h + 1) = c by omega, show w.name.length - (w.name.length - (c + 1)) - 1 = c by omega]
    · show w.path.take (h + 1 + c + 1 - 1) = _
      rw [show h + 1 + c + 1 - 1 = h + 1 + c by omega, show w.path.length - (w.name.length - (c + 1)) - 1 = h + 1 + c by omega]
theorem Agree.head_of (a : Agree h P w) : headOf w = w.path.take (h + 1) := by
  have hl := a.hlt
  unfold headOf
  rw [a.nlen, show w.path.length - (w.path.length - (h + 1)) = h + 1 by omega]
theorem Agree.high (a : Agree h P w) : headOf w ++ w.name.take w.nameEnd = w.path.take (h + 1 + w.nameEnd) := by
  rw [a.head_of, a.name, ← List.take_add]
theorem Agree.base_ff (a : Agree h P w) (hk : P.known ≠ []) : P.baseM false false = headOf w ++ w.name.take w.nameEnd := by
  unfold PathS.baseM
  dsimp only
  rw [if_neg hk, if_neg (by simp), a.norm, if_pos rfl, a.high, a.s_, a.nh]
  have e : (if (false = true) then P.cHigh - 1 else ((h + 1 + w.nameEnd : Nat) : Int)) = ((h + 1 + w.nameEnd : Nat) : Int) := rfl
  rw [e, if_neg (by omega), Int.toNat_natCast]
theorem Agree.base_tf (a : Agree h P w) (h2 : 2 ≤ P.known.length) : P.baseM true false = headOf w ++ w.name.take w.nameEnd ++ [46] ++ w.ext := by
  have hl := a.hlt
  have hn := a.nlen
  have hk : P.known ≠ [] := fun e => by rw [e] at h2; simp at h2
  rcases a.kn with ⟨e, _⟩ | ⟨c, e, c1, c2, _, c3⟩
  · exact absurd e hk
  · unfold PathS.baseM
    dsimp only
    rw [if_neg hk, if_neg (by omega), if_neg (show ¬ true = false by decide), a.norm, a.high, a.s_, a.nh, a.headD e]
    have e1 : (if (false = true) then P.cHigh - 1 else ((h + 1 + w.nameEnd : Nat) : Int)) = ((h + 1 + w.nameEnd : Nat) : Int) := rfl
    rw [e1, if_neg (by omega), Int.toNat_natCast, List.append_assoc]
    congr 1
    show (w.path.drop (h + 1 + c + 1 - 1)).take (w.path.length - (h + 1 + c + 1 - 1)) = _
    rw [show h + 1 + c + 1 - 1 = h + 1 + c by omega, List.take_of_length_le (by rw [List.length_drop]; exact Nat.le_refl _), c2, ← List.drop_drop, ← a.name, drop_cons c1]
    have : w.name[c] = 46 := by rw [List.getElem?_eq_getElem c1] at c3; exact Option.some.inj c3
    rw [this]; rfl
theorem Agree.f_noIdentifier (a : Agree h P w) : P.baseM false false = noIdentifier w := by
  unfold noIdentifier
  by_cases hk : P.known = []
  · rw [if_pos (a.ids0.1 hk)]
    unfold PathS.baseM
    rw [if_pos hk, a.norm, a.s_]
  · rw [if_neg (fun e => hk (a.ids0.2 e))]
    exact a.base_ff hk
theorem Agree.f_noLang (a : Agree h P w) : P.pathNoLangM = noLang w := by
  unfold PathS.pathNoLangM noLang
  by_cases hl : w.lang = []
  · obtain ⟨x, y⟩ := a.lg0.1 hl
    rw [if_pos hl, if_neg (by simpa using x), if_pos y, a.f_path]
  · have h2 := a.two hl
    rw [if_neg hl, ← a.base_tf h2]
    by_cases x : P.langs = []
    · rw [if_neg (by simpa using x), if_neg (fun y => hl (a.lg0.2 ⟨x, y⟩))]
    · rw [if_pos x]
theorem Agree.f_ext (a : Agree h P w) : P.ext = w.ext := by
  have hl := a.hlt
  unfold PathS.ext PathS.idStr
  rcases a.kn with ⟨e, e2⟩ | ⟨c, e, c1, c2, _⟩
  · rw [if_pos (.inr (by rw [e]; exact Int.le_refl 0)), e2]
  · have hk := kn_ne e
    have hp : 0 < P.known.length := List.length_pos_iff.2 hk
    rw [if_neg (by omega)]
    have : P.known.getD (0 : Int).toNat (0, 0) = (h + 1 + c + 1, w.path.length) := by
      rw [List.getD_eq_getElem?_getD, show (0 : Int).toNat = 0 from rfl, ← List.head?_eq_getElem?, e]; rfl
    rw [this, a.s_, c2, a.name, List.drop_drop]
    unfold sub
    rw [List.take_of_length_le (by rw [List.length_drop]; exact Nat.le_refl _)]
    rfl
theorem Agree.f_base (a : Agree h P w) : P.base = baseOf w := by
  have hl := a.hlt
  have hty := a.typ
  have hpg : P.isPage = (decide (2 ≤ w.typ) && decide (w.typ ≤ 5)) := by unfold PathS.isPage; rw [hty]
  have hlen : P.known.length = w.ids.length := by rw [← a.ids, List.length_map]
  unfold PathS.base baseOf
  dsimp only
  rw [a.bundle]
  by_cases hk : P.known = []
  · have e : ∀ x y, P.baseM x y = w.path := fun x y => by unfold PathS.baseM; rw [if_pos hk, a.norm, a.s_]
    rw [e, if_pos (a.ids0.1 hk), hpg]
    simp only [Bool.and_eq_true, decide_eq_true_eq]
  · rw [if_neg (fun e => hk (a.ids0.2 e))]
    cases hb : isBundleT w.typ with
    | true =>
      have h35 : 3 ≤ w.typ ∧ w.typ ≤ 5 := by unfold isBundleT at hb; simpa using hb
      have hp : P.isPage = true := by rw [hpg]; simp; omega
      rw [hp, if_pos rfl]
      have e : P.baseM (!true) true = w.path.take (if h = 0 then 1 else h) := by
        unfold PathS.baseM
        dsimp only
        rw [if_neg hk, if_neg (by simp), if_pos (by rfl), a.norm, a.s_, if_pos rfl, a.hc]
        by_cases h0 : h = 0
        · rw [if_pos (by omega), if_pos h0]; subst h0; rfl
        · rw [if_neg (by omega), if_neg h0, show ((h : Int) + 1 - 1).toNat = h by omega]
      rw [e]
      unfold dirOf
      rw [a.sl]
      by_cases h0 : h = 0
      · subst h0
        rw [if_pos rfl, if_pos (show ((0 : Nat) : Int) ≤ 0 by omega), if_pos rfl]
        have hs1 : w.path.take 1 = [47] := by
          have := a.hd
          cases hx : w.path with
          | nil => rw [hx] at this; cases this
          | cons c t => rw [hx] at this; simp at this; subst this; rfl
        rw [hs1, if_pos ⟨rfl, rfl⟩]
      · rw [if_neg h0, if_neg (show ¬ (h : Int) ≤ 0 by omega), Int.toNat_natCast]
        by_cases q : w.path.take h = [47]
        · rw [if_pos ⟨q, rfl⟩, if_pos q]
        · rw [if_neg (fun z => q z.1), if_neg q]
    | false =>
      have h35 : ¬ (3 ≤ w.typ ∧ w.typ ≤ 5) := by unfold isBundleT at hb; simpa using hb
      rw [if_neg (show ¬ false = true by decide)]
      by_cases h2 : w.typ = 2
      · have hp : P.isPage = true := by rw [hpg, h2]; rfl
        rw [hp, if_pos h2]
        show (if P.baseM false false = [47] ∧ true = true then [] else P.baseM false false) = _
        rw [← a.f_noIdentifier, if_neg]
        rintro ⟨e, -⟩
        rw [a.base_ff hk, a.high] at e
        have e2 := congrArg List.length e
        rw [List.length_take] at e2
        rcases a.kn with ⟨x, _⟩ | ⟨c, _, _, _, x, _⟩
        · exact hk x
        · have := a.ne
          have := a.nlen
          simp at e2
          omega
      · have hp : P.isPage = false := by rw [hpg]; simp; omega
        rw [hp, if_neg h2]
        show (if P.baseM true false = [47] ∧ false = true then [] else P.baseM true false) = _
        rw [if_neg (by simp), ← hlen]
        by_cases h1 : P.known.length = 1
        · rw [if_pos h1]
          unfold PathS.baseM
          rw [if_neg hk, if_pos ⟨rfl, h1⟩, a.norm, a.s_]
        · rw [if_neg h1]
          have : 2 ≤ P.known.length := by have := List.length_pos_iff.2 hk; omega
          rw [a.base_tf this]
          unfold noIdentifier
          rw [if_neg (fun e => hk (a.ids0.2 e))]

theorem told_answers (a : Agree h P w) : toldM P = { answers w with section_ := P.sectionM } := by
  have e1 := a.f_path
  have e2 := a.f_dir
  have e3 := a.f_container
  have e4 := a.f_containerDir
  have e5 := a.f_name
  have e6 := a.f_noId
  obtain ⟨e7, e8⟩ := a.f_before
  have e9 := a.f_noIdentifier
  have e10 := a.f_noLang
  have e11 := a.f_ext
  have e12 := a.f_base
  have e13 : P.baseNameM = if isBundleT w.typ then containerOf w.path else w.name.take w.nameEnd := by unfold PathS.baseNameM; rw [a.bundle, e3, e6]
  unfold toldM answers
  rw [e1, e2, e3, e4, e5, e6, e7, e8, e9, e10, e11, e12, e13, a.cmp, a.bundle, a.fmt, a.knd, a.lay, a.lng, a.cus, a.lgs, a.ids, a.unk, a.dis, a.typ]
end

end Go.Proofs.YtbpoljgchbfhpaaGreatDoor
