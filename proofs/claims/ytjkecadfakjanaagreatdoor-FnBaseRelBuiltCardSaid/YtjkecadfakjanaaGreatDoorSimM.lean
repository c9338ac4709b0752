/- The scan of a path in plain Lean: what each word and each place keeps, up to a finished path (PathOK). No program walked here; no condition. -/
import Derived.Test.YtjkecadfakjanaaGreatDoorWord
set_option linter.unusedVariables false
set_option linter.unusedSimpArgs false
namespace Go.Proofs.YtjkecadfakjanaaGreatDoor

/-- What a word never turns. -/
def Core (p q : PathS) : Prop := q.s = p.s /\ q.comp = p.comp /\ q.typ = p.typ /\ q.cLow = p.cLow /\ q.cHigh = p.cHigh /\ q.sHigh = p.sHigh /\ q.trim = p.trim
/-- A path under way: at most n words so far, each behind place lo. -/
structure PInv (s : Str) (lo n : Nat) (p : PathS) : Prop where
 ps : p.s = s
 kl : p.known.length <= n
 ul : p.unknown.length <= n
 ll : p.langs.length <= n
 kw : Within s p.known
 uw : Within s p.unknown
 fm : -1 <= p.fmt
 la : -1 <= p.lang
 ly : p.lay = -1 \/ 1 <= p.lay /\ p.lay < (p.known.length : Int)
 hd : ∀ x, p.known.head? = some x -> lo + 1 <= x.1

theorem Core.refl (p : PathS) : Core p p := ⟨rfl, rfl, rfl, rfl, rfl, rfl, rfl⟩
theorem within_add {s : Str} {l : List (Nat × Nat)} {id : Nat × Nat} (h : Within s l) (h1 : id.1 <= id.2) (h2 : id.2 <= s.length) : Within s (l ++ [id]) := by
 intro x hx
 rw [List.mem_append, List.mem_singleton] at hx
 rcases hx with hx | rfl
 ·exact h x hx
 ·exact ⟨h1, h2⟩
theorem within_set {s : Str} {l : List (Nat × Nat)} {id : Nat × Nat} (i : Nat) (h : Within s l) (h1 : id.1 <= id.2) (h2 : id.2 <= s.length) : Within s (l.set i id) := by
 intro x hx
 rcases List.mem_or_eq_of_mem_set hx with hx | rfl
 ·exact h x hx
 ·exact ⟨h1, h2⟩
theorem head_add {l : List (Nat × Nat)} {id : Nat × Nat} (x : Nat × Nat) (h : (l ++ [id]).head? = some x) : l = [] /\ x = id \/ l ≠ [] /\ l.head? = some x := by
 cases l with
 | nil => exact .inl ⟨rfl, by simpa using h.symm⟩
 | cons y t => exact .inr ⟨by simp, by simpa using h⟩

/-- An identifier more. -/
theorem PInv.add {s : Str} {lo n : Nat} {p : PathS} (h : PInv s lo n p) (q : PathS) (id : Nat × Nat) (h1 : id.1 <= id.2) (h2 : id.2 <= s.length) (h3 : p.known = [] -> lo + 1 <= id.1)
  (qs : q.s = p.s) (qk : q.known = p.known ++ [id]) (qu : q.unknown = p.unknown) (ql : q.langs.length <= p.langs.length + 1) (qf : -1 <= q.fmt) (qa : -1 <= q.lang)
  (qy : q.lay = p.lay \/ p.known ≠ [] /\ q.lay = (p.known.length : Int)) : PInv s lo (n + 1) q := by
 have a1 := h.kl
 have a2 := h.ul
 have a3 := h.ll
 refine ⟨qs.trans h.ps, by rw [qk]; simp; omega, by rw [qu]; omega, by omega, by rw [qk]; exact within_add h.kw h1 h2, by rw [qu]; exact h.uw, qf, qa, ?_, ?_⟩
 ·rw [qk, List.length_append]
  rcases qy with e | ⟨e1, e2⟩
  ·rw [e]
   rcases h.ly with a | a
   ·exact .inl a
   ·exact .inr ⟨a.1, by simp; omega⟩
  ·right
   rw [e2]
   have : 0 < p.known.length := List.length_pos_iff.2 e1
   exact ⟨by omega, by simp; omega⟩
 ·intro x hx
  rw [qk] at hx
  rcases head_add x hx with ⟨e1, rfl⟩ | ⟨e1, e2⟩
  ·exact h3 e1
  ·exact h.hd x e2
theorem PInv.mono {s : Str} {lo n m : Nat} {p : PathS} (h : PInv s lo n p) (hm : n <= m) : PInv s lo m p :=
 ⟨h.ps, Nat.le_trans h.kl hm, Nat.le_trans h.ul hm, Nat.le_trans h.ll hm, h.kw, h.uw, h.fm, h.la, h.ly, h.hd⟩

/-- What a step makes. -/
def Good (s : Str) (lo n : Nat) (p : PathS) (q : PathS) : Prop := PInv s lo (n + 1) q /\ Core p q /\ q.known ≠ [] /\ q.nameHigh = p.nameHigh
theorem core_add (p : PathS) (id : Nat × Nat) : Core p (p.addKnown id) := ⟨rfl, rfl, rfl, rfl, rfl, rfl, rfl⟩

theorem good_add {s : Str} {lo n : Nat} {p : PathS} (h : PInv s lo n p) (q : PathS) (id : Nat × Nat) (h1 : id.1 <= id.2) (h2 : id.2 <= s.length) (h3 : p.known = [] -> lo + 1 <= id.1)
  (qc : Core p q) (qh : q.nameHigh = p.nameHigh) (qk : q.known = p.known ++ [id]) (qu : q.unknown = p.unknown) (ql : q.langs.length <= p.langs.length + 1) (qf : -1 <= q.fmt) (qa : -1 <= q.lang)
  (qy : q.lay = p.lay \/ p.known ≠ [] /\ q.lay = (p.known.length : Int)) : Good s lo n p q :=
 ⟨h.add q id h1 h2 h3 qc.1 qk qu ql qf qa qy, qc, by rw [qk]; simp, qh⟩

theorem apply_good (site : SiteM) (comp pre : Str) {s : Str} {lo n : Nat} {p : PathS} (h : PInv s lo n p) (id : Nat × Nat) (h1 : id.1 <= id.2) (h2 : id.2 <= s.length) (h3 : p.known = [] -> lo + 1 <= id.1) :
  ∀ q, PathS.applyPrefix site comp pre p id = some q -> Good s lo n p q := by
 intro q hq
 unfold PathS.applyPrefix at hq
 dsimp only at hq
 have hf := h.fm
 have ha := h.la
 repeat' split at hq
 all_goals first
  | (cases hq; done)
  | (obtain rfl := Option.some.inj hq
     refine good_add h _ id h1 h2 h3 ⟨rfl, rfl, rfl, rfl, rfl, rfl, rfl⟩ rfl rfl rfl ?_ ?_ ?_ (.inl rfl)
     ·simp [PathS.addKnown]
     ·exact hf
     ·exact ha)

theorem wrapStep_good (site : SiteM) (comp : Str) {s : Str} {lo n : Nat} {p : PathS} (h : PInv s lo n p) (id : Nat × Nat) (h1 : id.1 <= id.2) (h2 : id.2 <= s.length) (h3 : p.known = [] -> lo + 1 <= id.1)
  (hw : (wrapStep site comp p id).2 = true) : Good s lo n p (wrapStep site comp p id).1 := by
 unfold wrapStep at hw |-
 have hcu : Good s lo n p { p.addKnown id with custom := p.known.length } :=
  good_add h _ id h1 h2 h3 ⟨rfl, rfl, rfl, rfl, rfl, rfl, rfl⟩ rfl rfl rfl (by simp [PathS.addKnown]) h.fm h.la (.inl rfl)
 by_cases hi : isWrap (sub p.s id) = true
 ·rw [if_pos hi]
  by_cases hp : parsePrefixM (innerOf (sub p.s id)) ≠ []
  ·rw [if_pos hp]
   have hsp := (parsePrefix_spec _ hp).2
   have hl : (sub p.s id).length = id.2 - id.1 := by rw [h.ps]; simp [sub]; omega
   have h3l : 2 < (sub p.s id).length := by
    have : isWrap (sub p.s id) = (decide (2 < (sub p.s id).length) && List.isPrefixOf [95] (sub p.s id) && List.isSuffixOf [95] (sub p.s id)) := rfl
    rw [hi] at this
    by_cases h : 2 < (sub p.s id).length
    ·exact h
    ·rw [decide_eq_false h] at this; simp at this
   have hil : (innerOf (sub p.s id)).length = (sub p.s id).length - 2 := by simp [innerOf]; omega
   generalize hx : PathS.applyPrefix site comp (parsePrefixM (innerOf (sub p.s id))) p (id.1 + 1 + (parsePrefixM (innerOf (sub p.s id))).length, id.2 - 1) = x
   cases x with
   | none => exact hcu
   | some q => exact apply_good site comp _ h (id.1 + 1 + (parsePrefixM (innerOf (sub p.s id))).length, id.2 - 1) (by simp; omega) (by simp; omega) (fun e => by have := h3 e; simp; omega) q hx
  ·rw [if_neg hp]; exact hcu
 ·rw [if_neg hi] at hw
  cases hw

theorem Good.old {s : Str} {lo n : Nat} {p : PathS} (h : PInv s lo n p) (hk : p.known ≠ []) : Good s lo n p p := ⟨h.mono (Nat.le_succ n), Core.refl p, hk, rfl⟩

theorem restStep_good (site : SiteM) (comp : Str) {s : Str} {lo n : Nat} {p : PathS} (h : PInv s lo n p) (id : Nat × Nat) (h1 : id.1 <= id.2) (h2 : id.2 <= s.length) (h3 : p.known = [] -> lo + 1 <= id.1) (numDots : Int) (isLast : Bool) :
  Good s lo n p (restStep site comp p id numDots isLast).1 := by
 unfold restStep
 by_cases hk : p.known = []
 ·rw [if_pos hk]
  refine good_add h _ id h1 h2 h3 ⟨rfl, rfl, rfl, rfl, rfl, rfl, rfl⟩ rfl rfl rfl (by simp [extStep, PathS.addKnown]) ?_ h.la (.inl rfl)
  show -1 <= (if _ then (0 : Int) else p.fmt)
  have := h.fm
  split <;> omega
 ·rw [if_neg hk]
  have hn : ∀ q : PathS × Bool, (q.2 = false -> q.1 = p) -> Good s lo n p q.1 -> (∀ q', q' = langStep site (mayL comp p numDots) (sub p.s id) id p -> True) -> True := fun _ _ _ _ => trivial
  -- each step keeps: good, and not found means as it was
  have st : ∀ (q : PathS × Bool), (q.2 = false -> q.1 = p) -> Good s lo n p q.1 -> ∀ (c : Bool) (r : PathS), Good s lo n p r -> ((if (!q.2 && c) = true then (r, true) else q).2 = false -> (if (!q.2 && c) = true then (r, true) else q).1 = p) /\ Good s lo n p (if (!q.2 && c) = true then (r, true) else q).1 := by
   intro q e1 e2 c r e3
   split
   ·exact ⟨(fun e => by cases e), e3⟩
   ·exact ⟨e1, e2⟩
  have gad : ∀ (q : PathS), Core p q -> q.nameHigh = p.nameHigh -> q.known = p.known ++ [id] -> q.unknown = p.unknown -> q.langs = p.langs -> -1 <= q.fmt -> -1 <= q.lang -> (q.lay = p.lay \/ p.known ≠ [] /\ q.lay = (p.known.length : Int)) -> Good s lo n p q :=
   fun q a1 a2 a3 a4 a5 a6 a7 a8 => good_add h q id h1 h2 h3 a1 a2 a3 a4 (by rw [a5]; omega) a6 a7 a8
  have hf := h.fm
  have ha := h.la
  -- the language
  obtain ⟨q1, hq1⟩ : ∃ q, q = langStep site (mayL comp p numDots) (sub p.s id) id p := ⟨_, rfl⟩
  rw [<- hq1]
  have g1 : (q1.2 = false -> q1.1 = p) /\ Good s lo n p q1.1 := by
   rw [hq1]; unfold langStep
   split
   ·exact ⟨(fun e => by cases e), gad _ ⟨rfl, rfl, rfl, rfl, rfl, rfl, rfl⟩ rfl rfl rfl rfl hf (by show -1 <= (p.known.length : Int); omega) (.inl rfl)⟩
   ·exact ⟨fun _ => rfl, Good.old h hk⟩
  clear hq1 st hn
  obtain ⟨q2, hq2⟩ : ∃ q, q = fmtStep site (comp == kLayouts) (sub p.s id) id q1 := ⟨_, rfl⟩
  rw [<- hq2]
  have g2 : (q2.2 = false -> q2.1 = p) /\ Good s lo n p q2.1 := by
   rw [hq2]; unfold fmtStep
   split
   ·rename_i hc
    have hqf : q1.2 = false := by simp only [Bool.and_eq_true, Bool.not_eq_true'] at hc; exact hc.1.1
    have e := g1.1 hqf
    rw [e]
    exact ⟨(fun e => by cases e), gad _ ⟨rfl, rfl, rfl, rfl, rfl, rfl, rfl⟩ rfl rfl rfl rfl (by show -1 <= (p.known.length : Int); omega) ha (.inl rfl)⟩
   ·exact g1
  clear hq2 g1
  obtain ⟨q3, hq3⟩ : ∃ q, q = kindStep (mayK comp p) (sub p.s id) id q2 := ⟨_, rfl⟩
  rw [<- hq3]
  have g3 : (q3.2 = false -> q3.1 = p) /\ Good s lo n p q3.1 := by
   rw [hq3]; unfold kindStep
   split
   ·rename_i hc
    have hqf : q2.2 = false := by simp only [Bool.and_eq_true, Bool.not_eq_true'] at hc; exact hc.1.1
    have e := g2.1 hqf
    rw [e]
    exact ⟨(fun e => by cases e), gad _ ⟨rfl, rfl, rfl, rfl, rfl, rfl, rfl⟩ rfl rfl rfl rfl hf ha (.inl rfl)⟩
   ·exact g2
  clear hq3 g2
  obtain ⟨q4, hq4⟩ : ∃ q, q = baseStep (sub p.s id) id q3 := ⟨_, rfl⟩
  rw [<- hq4]
  have g4 : (q4.2 = false -> q4.1 = p) /\ Good s lo n p q4.1 := by
   rw [hq4]; unfold baseStep
   split
   ·rename_i hc
    have hqf : q3.2 = false := by simp only [Bool.and_eq_true, Bool.not_eq_true'] at hc; exact hc.1
    have e := g3.1 hqf
    rw [e]
    exact ⟨(fun e => by cases e), gad _ ⟨rfl, rfl, rfl, rfl, rfl, rfl, rfl⟩ rfl rfl rfl rfl hf ha (.inl rfl)⟩
   ·exact g3
  clear hq4 g3
  obtain ⟨q5, hq5⟩ : ∃ q, q = layStep (mayY comp p isLast) id q4 := ⟨_, rfl⟩
  rw [<- hq5]
  have g5 : (q5.2 = false -> q5.1 = p) /\ Good s lo n p q5.1 := by
   rw [hq5]; unfold layStep
   split
   ·rename_i hc
    have hqf : q4.2 = false := by simp only [Bool.and_eq_true, Bool.not_eq_true'] at hc; exact hc.1
    have e := g4.1 hqf
    rw [e]
    split
    ·exact ⟨(fun e => by cases e), gad _ ⟨rfl, rfl, rfl, rfl, rfl, rfl, rfl⟩ rfl rfl rfl rfl hf ha (.inr ⟨hk, rfl⟩)⟩
    ·rename_i hl
     have hl2 : 1 <= p.lay /\ p.lay < (p.known.length : Int) := by
      rcases h.ly with a | a
      ·exact absurd a hl
      ·exact a
     have hlt : p.lay.toNat < p.known.length := by omega
     refine ⟨(fun e => by cases e), ⟨⟨h.ps, ?_, ?_, ?_, ?_, ?_, hf, ha, .inr ⟨hl2.1, by simpa using hl2.2⟩, ?_⟩, ⟨rfl, rfl, rfl, rfl, rfl, rfl, rfl⟩, ?_, rfl⟩⟩
     ·have := h.kl; simp; omega
     ·have := h.ul; simp; omega
     ·have := h.ll; show p.langs.length <= _; omega
     ·exact within_set _ h.kw h1 h2
     ·show Within s (p.unknown ++ [p.known.getD p.lay.toNat (0, 0)])
      have hgd : p.known.getD p.lay.toNat (0, 0) = p.known[p.lay.toNat] := by simp [List.getD, hlt]
      rw [hgd]
      obtain ⟨b1, b2⟩ := h.kw _ (List.getElem_mem hlt)
      exact within_add h.uw b1 b2
     ·intro x hx
      refine h.hd x ?_
      have hx : (p.known.set p.lay.toNat id).head? = some x := hx
      rw [<- hx]
      cases hkk : p.known with
      | nil => exact absurd hkk hk
      | cons y t =>
       obtain ⟨m, hm⟩ : ∃ m, p.lay.toNat = m + 1 := ⟨p.lay.toNat - 1, by omega⟩
       rw [hm]; rfl
     ·show p.known.set p.lay.toNat id ≠ []
      intro e
      have := congrArg List.length e
      simp at this
      exact hk this
   ·exact g4
  clear hq5 g4
  unfold unkStep
  split
  ·exact g5.2
  ·rename_i hc
   have e := g5.1 (by simpa using hc)
   rw [e]
   refine ⟨⟨h.ps, ?_, ?_, ?_, h.kw, ?_, hf, ha, h.ly, h.hd⟩, ⟨rfl, rfl, rfl, rfl, rfl, rfl, rfl⟩, hk, rfl⟩
   ·have := h.kl; show p.known.length <= _; omega
   ·have := h.ul; simp; omega
   ·have := h.ll; show p.langs.length <= _; omega
   ·exact within_add h.uw h1 h2

theorem word_good (site : SiteM) (comp : Str) {s : Str} {lo n : Nat} {p : PathS} (h : PInv s lo n p) (id : Nat × Nat) (h1 : id.1 <= id.2) (h2 : id.2 <= s.length) (h3 : p.known = [] -> lo + 1 <= id.1) (numDots : Int) (isLast : Bool) :
  Good s lo n p (PathS.word site comp p id numDots isLast).1 := by
 rw [word_eq]
 split
 ·rename_i hw; exact wrapStep_good site comp h id h1 h2 h3 hw
 ·exact restStep_good site comp h id h1 h2 h3 numDots isLast

/-! ### The scan -/
theorem PInv.down {s : Str} {lo lo' n : Nat} {p : PathS} (h : PInv s lo n p) (hl : lo' <= lo) : PInv s lo' n p :=
 ⟨h.ps, h.kl, h.ul, h.ll, h.kw, h.uw, h.fm, h.la, h.ly, fun x hx => by have := h.hd x hx; omega⟩
/-- Fields that a word's facts do not speak of. -/
theorem PInv.like {s : Str} {lo n : Nat} {p q : PathS} (h : PInv s lo n p) (e1 : q.s = p.s) (e2 : q.known = p.known) (e3 : q.unknown = p.unknown) (e4 : q.langs = p.langs) (e5 : q.fmt = p.fmt) (e6 : q.lang = p.lang) (e7 : q.lay = p.lay) : PInv s lo n q := by
 refine ⟨e1.trans h.ps, ?_, ?_, ?_, ?_, ?_, ?_, ?_, ?_, ?_⟩
 ·rw [e2]; exact h.kl
 ·rw [e3]; exact h.ul
 ·rw [e4]; exact h.ll
 ·rw [e2]; exact h.kw
 ·rw [e3]; exact h.uw
 ·rw [e5]; exact h.fm
 ·rw [e6]; exact h.la
 ·rw [e7, e2]; exact h.ly
 ·rw [e2]; exact h.hd

def idOf (p : PathS) (i lastDot : Nat) : Nat × Nat := (i + 1, if p.known = [] then p.s.length else lastDot)

theorem finId_like (q : PathS × Bool) (i lastDot : Nat) (isLast : Bool) : Core q.1 (finId q i lastDot isLast) /\ (finId q i lastDot isLast).known = q.1.known /\ (finId q i lastDot isLast).unknown = q.1.unknown /\ (finId q i lastDot isLast).langs = q.1.langs /\
  (finId q i lastDot isLast).fmt = q.1.fmt /\ (finId q i lastDot isLast).lang = q.1.lang /\ (finId q i lastDot isLast).lay = q.1.lay /\
  ((finId q i lastDot isLast).nameHigh = q.1.nameHigh \/ (finId q i lastDot isLast).nameHigh = (i : Int) \/ (finId q i lastDot isLast).nameHigh = (lastDot : Int)) := by
 unfold finId
 split
 ·split
  ·split
   ·exact ⟨⟨rfl, rfl, rfl, rfl, rfl, rfl, rfl⟩, rfl, rfl, rfl, rfl, rfl, rfl, .inr (.inr rfl)⟩
   ·exact ⟨Core.refl _, rfl, rfl, rfl, rfl, rfl, rfl, .inl rfl⟩
  ·exact ⟨⟨rfl, rfl, rfl, rfl, rfl, rfl, rfl⟩, rfl, rfl, rfl, rfl, rfl, rfl, .inr (.inl rfl)⟩
 ·exact ⟨Core.refl _, rfl, rfl, rfl, rfl, rfl, rfl, .inl rfl⟩

theorem parseId_good (site : SiteM) (comp : Str) {s : Str} {lo n : Nat} {p : PathS} (h : PInv s lo n p) (hc : p.cHigh = -1) (i lastDot : Nat) (h1 : (idOf p i lastDot).1 <= (idOf p i lastDot).2) (h2 : (idOf p i lastDot).2 <= s.length) (h3 : p.known = [] -> lo <= i) (numDots : Int) (isLast : Bool) :
  PInv s lo (n + 1) (PathS.parseId site comp p i lastDot numDots isLast) /\ Core p (PathS.parseId site comp p i lastDot numDots isLast) /\ (PathS.parseId site comp p i lastDot numDots isLast).known ≠ [] /\
   ((PathS.parseId site comp p i lastDot numDots isLast).nameHigh = p.nameHigh \/ (PathS.parseId site comp p i lastDot numDots isLast).nameHigh = (i : Int) \/ (PathS.parseId site comp p i lastDot numDots isLast).nameHigh = (lastDot : Int)) := by
 rw [parseId_open site comp p i lastDot numDots isLast hc]
 have hg := word_good site comp h (idOf p i lastDot) h1 h2 (fun e => by show lo + 1 <= i + 1; have := h3 e; omega) numDots isLast
 show PInv s lo (n + 1) (finId (PathS.word site comp p (idOf p i lastDot) numDots isLast) i lastDot isLast) /\ Core p (finId (PathS.word site comp p (idOf p i lastDot) numDots isLast) i lastDot isLast) /\ (finId (PathS.word site comp p (idOf p i lastDot) numDots isLast) i lastDot isLast).known ≠ [] /\ _
 show _ /\ _ /\ _ /\ ((finId (PathS.word site comp p (idOf p i lastDot) numDots isLast) i lastDot isLast).nameHigh = _ \/ (finId (PathS.word site comp p (idOf p i lastDot) numDots isLast) i lastDot isLast).nameHigh = _ \/ (finId (PathS.word site comp p (idOf p i lastDot) numDots isLast) i lastDot isLast).nameHigh = _)
 generalize PathS.word site comp p (idOf p i lastDot) numDots isLast = q at hg |-
 obtain ⟨a1, a2, a3, a4⟩ := hg
 obtain ⟨b1, b2, b3, b4, b5, b6, b7, b8⟩ := finId_like q i lastDot isLast
 obtain ⟨c1, c2, c3, c4, c5, c6, c7⟩ := b1
 obtain ⟨d1, d2, d3, d4, d5, d6, d7⟩ := a2
 refine ⟨a1.like c1 b2 b3 b4 b5 b6 b7, ⟨c1.trans d1, c2.trans d2, c3.trans d3, c4.trans d4, c5.trans d5, c6.trans d6, c7.trans d7⟩, by rw [b2]; exact a3, ?_⟩
 rw [a4] at b8
 exact b8

/-- The places from k on have been read. -/
structure SInv (s : Str) (k : Nat) (st : ScanM) : Prop where
 kk : k <= s.length
 op : st.p.cHigh = -1 -> PInv s k (s.length - k) st.p /\ st.p.cLow = -1 /\ (st.p.known ≠ [] -> 0 < st.lastDot) /\ (0 < st.lastDot -> st.p.known ≠ [])
 sh : st.p.cHigh ≠ -1 -> PInv s st.p.cHigh.toNat (s.length - k) st.p /\ (k : Int) + 1 <= st.p.cHigh /\ st.p.cHigh <= (s.length : Int)
 cl : st.p.cLow = -1 \/ (1 <= st.p.cLow /\ st.p.cLow <= st.p.cHigh - 1)
 ld : st.lastDot = 0 \/ k <= st.lastDot /\ st.lastDot < s.length
 sc : st.p.sHigh <= (s.length : Int)
 nh : st.p.nameHigh <= (s.length : Int)

theorem SInv.ps {s : Str} {k : Nat} {st : ScanM} (h : SInv s k st) : st.p.s = s := by
 by_cases e : st.p.cHigh = -1
 ·exact (h.op e).1.ps
 ·exact (h.sh e).1.ps
/-- The bounds of the word that ends at place i. -/
theorem SInv.id {s : Str} {i : Nat} {st : ScanM} (h : SInv s (i + 1) st) (hc : st.p.cHigh = -1) : (idOf st.p i st.lastDot).1 <= (idOf st.p i st.lastDot).2 /\ (idOf st.p i st.lastDot).2 <= s.length := by
 have hk := h.kk
 obtain ⟨h1, h2, h3, h4⟩ := h.op hc
 unfold idOf
 by_cases e : st.p.known = []
 ·rw [if_pos e, h1.ps]; exact ⟨hk, Nat.le_refl _⟩
 ·rw [if_neg e]
  have h5 := h3 e
  rcases h.ld with l | l
  ·omega
  ·exact ⟨l.1, by omega⟩

theorem step_inv (site : SiteM) (comp : Str) (skips : List Nat) (numDots : Int) {s : Str} (hs : s.head? = some 47) {i : Nat} {st : ScanM} (h : SInv s (i + 1) st) :
  SInv s i (ScanM.step site comp skips numDots st i) := by
 have hk := h.kk
 have hps := h.ps
 have weak : SInv s i st := by
  refine ⟨by omega, fun e => ?_, fun e => ?_, h.cl, ?_, h.sc, h.nh⟩
  ·obtain ⟨a, b⟩ := h.op e
   exact ⟨(a.mono (by omega)).down (by omega), b⟩
  ·obtain ⟨a, b, c⟩ := h.sh e
   exact ⟨a.mono (by omega), by omega, c⟩
  ·rcases h.ld with l | l
   ·exact .inl l
   ·exact .inr ⟨by omega, l.2⟩
 unfold ScanM.step
 split
 ·rename_i hd
  split
  ·exact weak
  ·have hi0 : 0 < i := by
    rcases Nat.eq_zero_or_pos i with e | e
    ·subst e
     rw [hps] at hd
     cases hsl : s with
     | nil => rw [hsl] at hs; cases hs
     | cons c t =>
      rw [hsl] at hs hd
      have h1 : c = 47 := by simpa using hs
      have h2 : c = 46 := by simpa using hd
      rw [h1] at h2; cases h2
    ·exact e
   by_cases hc : st.p.cHigh = -1
   ·obtain ⟨a, b, c, d⟩ := h.op hc
    obtain ⟨i1, i2⟩ := h.id hc
    obtain ⟨g1, ⟨k1, k2, k3, k4, k5, k6, k7⟩, g3, g4⟩ := parseId_good site comp (a.down (Nat.le_succ i)) hc i st.lastDot i1 i2 (fun _ => Nat.le_refl i) numDots false
    refine ⟨by omega, fun _ => ⟨?_, k4.trans b, fun _ => hi0, fun _ => g3⟩, fun e => absurd (k5.trans hc) e, ?_, (.inr ⟨Nat.le_refl i, by show i < s.length; omega⟩), ?_, ?_⟩
    ·have : s.length - (i + 1) + 1 = s.length - i := by omega
     rw [this] at g1; exact g1
    ·left; exact k4.trans b
    ·show (PathS.parseId site comp st.p i st.lastDot numDots false).sHigh <= _
     rw [k6]; exact h.sc
    ·show (PathS.parseId site comp st.p i st.lastDot numDots false).nameHigh <= _
     have hl := h.ld
     have hn := h.nh
     rcases g4 with e | e | e <;> rw [e]
     ·exact hn
     ·omega
     ·omega
   ·rw [parseId_shut site comp st.p i st.lastDot numDots false hc]
    exact ⟨by omega, fun e => absurd e hc, weak.sh, weak.cl, (.inr ⟨Nat.le_refl i, by show i < s.length; omega⟩), weak.sc, weak.nh⟩
 ·split
  ·-- the slash
   have hset : ∀ q : PathS, q.cHigh ≠ -1 -> (PInv s q.cHigh.toNat (s.length - i) q /\ (i : Int) + 1 <= q.cHigh /\ q.cHigh <= (s.length : Int)) -> (q.cLow = -1 \/ (1 <= q.cLow /\ q.cLow <= q.cHigh - 1)) -> q.sHigh <= (s.length : Int) -> q.nameHigh <= (s.length : Int) ->
     SInv s i { st with slashes := st.slashes + 1, p := if 0 < i then { q with sHigh := (i : Int) } else q } := by
    intro q q1 q2 q3 q4 q5
    by_cases hi : 0 < i
    ·rw [if_pos hi]
     exact ⟨by omega, fun e => absurd e q1, fun _ => ⟨q2.1.like rfl rfl rfl rfl rfl rfl rfl, q2.2⟩, q3, weak.ld, by show (i : Int) <= _; omega, q5⟩
    ·rw [if_neg hi]
     exact ⟨by omega, fun e => absurd e q1, fun _ => q2, q3, weak.ld, q4, q5⟩
   by_cases hc : st.p.cHigh = -1
   ·simp only [if_pos hc]
    obtain ⟨a, b, c, d⟩ := h.op hc
    obtain ⟨i1, i2⟩ := h.id hc
    have hsc := h.sc
    have hnh := h.nh
    have hld := h.ld
    by_cases hl : 0 < st.lastDot
    ·rw [if_pos hl]
     have hkn := d hl
     obtain ⟨g1, ⟨k1, k2, k3, k4, k5, k6, k7⟩, g3, g4⟩ := parseId_good site comp a hc i st.lastDot i1 i2 (fun e => absurd e hkn) numDots true
     have hn : s.length - (i + 1) + 1 = s.length - i := by omega
     rw [hn] at g1
     refine hset _ (by show (i : Int) + 1 ≠ -1; omega) ⟨?_, by show (i : Int) + 1 <= (i : Int) + 1; omega, by show (i : Int) + 1 <= _; omega⟩ (.inl (k4.trans b)) ?_ ?_
     ·have e : ((i : Int) + 1).toNat = i + 1 := by omega
      show PInv s ((i : Int) + 1).toNat _ _
      rw [e]
      exact g1.like rfl rfl rfl rfl rfl rfl rfl
     ·show (PathS.parseId site comp st.p i st.lastDot numDots true).sHigh <= _
      rw [k6]; exact hsc
     ·show (PathS.parseId site comp st.p i st.lastDot numDots true).nameHigh <= _
      rcases g4 with e | e | e <;> rw [e]
      ·exact hnh
      ·omega
      ·omega
    ·rw [if_neg hl]
     refine hset _ (by show (i : Int) + 1 ≠ -1; omega) ⟨?_, by show (i : Int) + 1 <= (i : Int) + 1; omega, by show (i : Int) + 1 <= _; omega⟩ (.inl b) hsc hnh
     have e : ((i : Int) + 1).toNat = i + 1 := by omega
     show PInv s ((i : Int) + 1).toNat _ _
     rw [e]
     exact (a.mono (by omega)).like rfl rfl rfl rfl rfl rfl rfl
   ·simp only [if_neg hc]
    obtain ⟨a, b, c⟩ := h.sh hc
    have a' : PInv s st.p.cHigh.toNat (s.length - i) st.p := a.mono (by omega)
    by_cases hw : st.p.cLow = -1
    ·rw [if_pos hw]
     exact hset _ hc ⟨a'.like rfl rfl rfl rfl rfl rfl rfl, by show (i : Int) + 1 <= st.p.cHigh; omega, c⟩ (.inr ⟨by show 1 <= (i : Int) + 1; omega, by show (i : Int) + 1 <= st.p.cHigh - 1; omega⟩) h.sc h.nh
    ·rw [if_neg hw]
     exact hset _ hc ⟨a', by omega, c⟩ h.cl h.sc h.nh
  ·exact weak

theorem step_core (site : SiteM) (comp : Str) (skips : List Nat) (numDots : Int) {s : Str} {i : Nat} {st : ScanM} (h : SInv s (i + 1) st) :
  (ScanM.step site comp skips numDots st i).p.comp = st.p.comp /\ (ScanM.step site comp skips numDots st i).p.typ = st.p.typ /\ (ScanM.step site comp skips numDots st i).p.trim = st.p.trim := by
 have pid : ∀ b, (PathS.parseId site comp st.p i st.lastDot numDots b).comp = st.p.comp /\ (PathS.parseId site comp st.p i st.lastDot numDots b).typ = st.p.typ /\ (PathS.parseId site comp st.p i st.lastDot numDots b).trim = st.p.trim := by
  intro b
  by_cases hc : st.p.cHigh = -1
  ·obtain ⟨i1, i2⟩ := h.id hc
   obtain ⟨-, ⟨k1, k2, k3, k4, k5, k6, k7⟩, -, -⟩ := parseId_good site comp ((h.op hc).1.down (Nat.le_succ i)) hc i st.lastDot i1 i2 (fun _ => Nat.le_refl i) numDots b
   exact ⟨k2, k3, k7⟩
  ·rw [parseId_shut site comp st.p i st.lastDot numDots b hc]; exact ⟨rfl, rfl, rfl⟩
 unfold ScanM.step
 split
 ·split
  ·exact ⟨rfl, rfl, rfl⟩
  ·exact pid false
 ·split
  ·have hs : ∀ q : PathS, (q.comp = st.p.comp /\ q.typ = st.p.typ /\ q.trim = st.p.trim) -> ((if 0 < i then { q with sHigh := (i : Int) } else q).comp = st.p.comp /\ (if 0 < i then { q with sHigh := (i : Int) } else q).typ = st.p.typ /\ (if 0 < i then { q with sHigh := (i : Int) } else q).trim = st.p.trim) := by
    intro q hq; split <;> exact hq
   refine hs _ ?_
   split
   ·split
    ·exact pid true
    ·exact ⟨rfl, rfl, rfl⟩
   ·split <;> exact ⟨rfl, rfl, rfl⟩
  ·exact ⟨rfl, rfl, rfl⟩

theorem down_inv (site : SiteM) (comp : Str) (skips : List Nat) (numDots : Int) {s : Str} (hs : s.head? = some 47) : ∀ (k : Nat) {st : ScanM}, SInv s k st ->
  SInv s 0 (ScanM.down site comp skips numDots k st) /\ (ScanM.down site comp skips numDots k st).p.comp = st.p.comp /\ (ScanM.down site comp skips numDots k st).p.typ = st.p.typ /\ (ScanM.down site comp skips numDots k st).p.trim = st.p.trim
 | 0, st, h => ⟨h, rfl, rfl, rfl⟩
 | k + 1, st, h => by
  obtain ⟨a, b⟩ := down_inv site comp skips numDots hs k (step_inv site comp skips numDots hs h)
  obtain ⟨c, d, e⟩ := step_core site comp skips numDots h
  exact ⟨a, b.1.trans c, b.2.1.trans d, b.2.2.trans e⟩

theorem step_slash0 (site : SiteM) (comp : Str) (skips : List Nat) (numDots : Int) (st : ScanM) (h : st.p.s[0]? = some 47) : (ScanM.step site comp skips numDots st 0).p.cHigh ≠ -1 := by
 unfold ScanM.step
 rw [if_neg (by rw [h]; decide), if_pos h]
 show PathS.cHigh (if 0 < 0 then _ else _) ≠ -1
 rw [if_neg (by omega)]
 by_cases hc : st.p.cHigh = -1
 ·rw [if_pos hc]; show (((0 : Nat) : Int) + 1) ≠ -1; omega
 ·rw [if_neg hc]; split <;> exact hc
theorem down_high (site : SiteM) (comp : Str) (skips : List Nat) (numDots : Int) {s : Str} (hs : s.head? = some 47) : ∀ (k : Nat) {st : ScanM}, 0 < k -> SInv s k st -> (ScanM.down site comp skips numDots k st).p.cHigh ≠ -1
 | 0, _, h, _ => by omega
 | 1, st, _, h => by
  have : st.p.s[0]? = some 47 := by rw [h.ps, <- List.head?_eq_getElem?]; exact hs
  exact step_slash0 site comp skips numDots st this
 | k + 2, st, _, h => down_high site comp skips numDots hs (k + 1) (by omega) (step_inv site comp skips numDots hs h)

def startP (comp s : Str) : PathS := { s := s, comp := comp, typ := if holdsL s kShort then 7 else 0 }
theorem start_inv (comp s : Str) : SInv s s.length { p := startP comp s } := by
 refine ⟨Nat.le_refl _, fun _ => ⟨⟨rfl, ?_, ?_, ?_, ?_, ?_, ?_, ?_, .inl rfl, ?_⟩, rfl, ?_, ?_⟩, fun e => absurd rfl e, .inl rfl, .inl rfl, ?_, ?_⟩
 ·exact Nat.zero_le _
 ·exact Nat.zero_le _
 ·exact Nat.zero_le _
 ·intro x hx; cases hx
 ·intro x hx; cases hx
 ·show (-1 : Int) <= -1; omega
 ·show (-1 : Int) <= -1; omega
 ·intro x hx; cases hx
 ·intro e; exact absurd rfl e
 ·intro e; exact absurd e (Nat.lt_irrefl 0)
 ·show (-1 : Int) <= _; omega
 ·show (-1 : Int) <= _; omega

/-- What the scan leaves. -/
structure Scanned (s comp : Str) (p : PathS) : Prop where
 iv : PInv s p.cHigh.toNat s.length p
 hc : 1 <= p.cHigh /\ p.cHigh <= (s.length : Int)
 lc : p.cLow = -1 \/ 1 <= p.cLow /\ p.cLow <= p.cHigh - 1
 sc : p.sHigh <= (s.length : Int)
 nh : p.nameHigh <= (s.length : Int)
 cp : p.comp = comp
 tr : p.trim = false
 ty : p.typ = if holdsL s kShort then 7 else 0

theorem scan_scanned (site : SiteM) (comp s : Str) (skips : List Nat) (numDots : Int) (hs : s.head? = some 47) :
  Scanned s comp (ScanM.down site comp skips numDots s.length { p := startP comp s }).p := by
 have hp : 0 < s.length := by cases s with
  | nil => cases hs
  | cons c t => simp
 obtain ⟨a, b, c, d⟩ := down_inv site comp skips numDots hs s.length (start_inv comp s)
 have hh := down_high site comp skips numDots hs s.length hp (start_inv comp s)
 obtain ⟨e1, e2, e3⟩ := a.sh hh
 exact ⟨by simpa using e1, ⟨by simpa using e2, e3⟩, a.cl, a.sc, a.nh, b, d, c⟩

theorem normPath_head (s : Str) : (normPath s).head? = some 47 := by
 unfold normPath
 split
 ·rfl
 ·unfold trimEnd
  have h : (slashed s).head? = some 47 := by
   unfold slashed
   split
   ·assumption
   ·rfl
  split
  ·rename_i hl
   cases hx : slashed s with
   | nil => rw [hx] at h; cases h
   | cons c t =>
    rw [hx] at h hl
    cases t with
    | nil => simp at hl
    | cons d u => simpa using h
  ·exact h
theorem normPath_len (s : Str) : (normPath s).length <= s.length + 1 := by
 unfold normPath
 split
 ·simp
 ·unfold trimEnd
  have h : (slashed s).length <= s.length + 1 := by
   unfold slashed
   split <;> simp
  split
  ·simp; omega
  ·exact h

/-! ### Behind the scan: the last steps keep it -/
theorem fin1_ok (s comp : Str) (p : PathS) (h : Scanned s comp p) (hl : s.length <= 1000000) : PathOK (PathS.fin1 p) /\ ((PathS.fin1 p).nLow : Int) = (PathS.fin1 p).cHigh /\ (PathS.fin1 p).comp = comp := by
 have hpos : 0 < s.length := by have := h.hc; omega
 have hps := h.iv.ps
 have hc := h.hc
 have base : ∀ hi : Nat, p.cHigh.toNat <= hi -> hi <= s.length -> PathOK { p with nLow := p.cHigh.toNat, nHigh := hi } /\ (p.cHigh.toNat : Int) = p.cHigh /\ p.comp = comp := by
  intro hi h1 h2
  refine ⟨⟨?_, ?_, ?_, h.lc, .inr ?_, ⟨h1, ?_⟩, ?_, ?_, ?_, ?_, ?_, h.iv.fm, h.iv.la, ?_⟩, by omega, h.cp⟩
  ·show p.s.length <= _; rw [hps]; omega
  ·show 0 < p.s.length; rw [hps]; exact hpos
  ·show 1 <= p.cHigh /\ p.cHigh <= (p.s.length : Int); rw [hps]; exact h.hc
  ·show p.sHigh <= (p.s.length : Int); rw [hps]; exact h.sc
  ·show hi <= p.s.length; rw [hps]; exact h2
  ·show Within p.s p.known; rw [hps]; exact h.iv.kw
  ·show Within p.s p.unknown; rw [hps]; exact h.iv.uw
  ·exact Nat.le_trans h.iv.kl hl
  ·exact Nat.le_trans h.iv.ul hl
  ·exact Nat.le_trans h.iv.ll hl
  ·intro x hx
   have h1 := h.iv.hd x hx
   show p.cHigh + 1 <= (x.1 : Int)
   omega
 have hnh := h.nh
 unfold PathS.fin1
 split
 ·rename_i hle
  exact base p.nameHigh.toNat (by omega) (by omega)
 ·have : p.s.length = s.length := by rw [hps]
  rw [this]
  exact base s.length (by omega) (Nat.le_refl _)
theorem PathOK.typ {q : PathS} (hq : PathOK q) (t : Int) : PathOK { q with typ := t } := ⟨hq.len, hq.pos, hq.hc, hq.lc, hq.sc, hq.nm, hq.kw, hq.uw, hq.kl, hq.ul, hq.ll, hq.fm, hq.la, hq.k0⟩
theorem fin2_ok (site : SiteM) (slashes : Int) {q : PathS} (hq : PathOK q) : PathOK (PathS.fin2 site q slashes) := by
 unfold PathS.fin2
 repeat' split
 all_goals first
  | exact hq
  | exact hq.typ _
  | exact ⟨hq.len, hq.pos, hq.hc, hq.lc, .inl (Int.le_refl 0), hq.nm, hq.kw, hq.uw, hq.kl, hq.ul, hq.ll, hq.fm, hq.la, hq.k0⟩
theorem fin3_ok (comp : Str) {q : PathS} (hq : PathOK q) : PathOK (PathS.fin3 comp q) := by
 unfold PathS.fin3
 repeat' split
 all_goals first
  | exact hq
  | exact hq.typ _
theorem fin4_ok {q : PathS} (hq : PathOK q) : PathOK (PathS.fin4 q) := by
 unfold PathS.fin4
 split
 ·exact ⟨hq.len, hq.pos, hq.hc, hq.lc, hq.sc, hq.nm, hq.kw, hq.uw, hq.kl, hq.ul, hq.ll, hq.fm, hq.la, hq.k0⟩
 ·exact hq
/-- The plain layout's place, kept up to the end. -/
def LayOK (q : PathS) : Prop := q.lay = -1 \/ 1 <= q.lay /\ q.lay < (q.known.length : Int)
theorem fin1_lay {p : PathS} (h : LayOK p) : LayOK (PathS.fin1 p) := by
 unfold PathS.fin1
 split <;> exact h
theorem fin2_lay (site : SiteM) (slashes : Int) {q : PathS} (h : LayOK q) : LayOK (PathS.fin2 site q slashes) := by
 unfold PathS.fin2
 repeat' split
 all_goals exact h
theorem fin3_lay (comp : Str) {q : PathS} (h : LayOK q) : LayOK (PathS.fin3 comp q) := by
 unfold PathS.fin3
 repeat' split
 all_goals exact h
theorem finish_ok (site : SiteM) (comp s : Str) (p : PathS) (slashes : Int) (h : Scanned s comp p) (hl : s.length <= 1000000) : PathOK (PathS.finish site comp p slashes) :=
 fin4_ok (fin3_ok comp (fin2_ok site slashes (fin1_ok s comp p h hl).1))

theorem doParse_ok (site : SiteM) (comp s : Str) (hl : s.length < 1000000) : PathOK (doParseM site comp s) := by
 unfold doParseM
 have h1 := normPath_head s
 have h2 := normPath_len s
 generalize normPath s = s' at h1 h2
 exact finish_ok site comp s' _ _ (scan_scanned site comp s' _ _ h1) (by omega)

end Go.Proofs.YtjkecadfakjanaaGreatDoor

namespace Go.Proofs.YtjkecadfakjanaaGreatDoor

theorem doParse_finish (site : SiteM) (comp s : Str) : ∃ F sl, Scanned (normPath s) comp F /\ doParseM site comp s = PathS.finish site comp F sl :=
 ⟨_, _, scan_scanned site comp (normPath s) (skipsOf (normPath s)) ((countDots (lastPart (normPath s)) : Int) - (skipsOf (normPath s)).length) (normPath_head s), rfl⟩

theorem fin1_keep (p : PathS) : (PathS.fin1 p).s = p.s /\ (PathS.fin1 p).trim = p.trim /\ (PathS.fin1 p).comp = p.comp /\ (PathS.fin1 p).known = p.known /\ (PathS.fin1 p).unknown = p.unknown /\ (PathS.fin1 p).langs = p.langs /\ (PathS.fin1 p).cHigh = p.cHigh /\ (PathS.fin1 p).cLow = p.cLow /\ (PathS.fin1 p).typ = p.typ := by
 unfold PathS.fin1; split <;> exact ⟨rfl, rfl, rfl, rfl, rfl, rfl, rfl, rfl, rfl⟩
theorem fin2_keep (site : SiteM) (p : PathS) (sl : Int) : (PathS.fin2 site p sl).s = p.s /\ (PathS.fin2 site p sl).trim = p.trim /\ (PathS.fin2 site p sl).comp = p.comp /\ (PathS.fin2 site p sl).known = p.known /\ (PathS.fin2 site p sl).unknown = p.unknown /\ (PathS.fin2 site p sl).langs = p.langs /\ (PathS.fin2 site p sl).cHigh = p.cHigh /\ (PathS.fin2 site p sl).cLow = p.cLow /\ (PathS.fin2 site p sl).nLow = p.nLow /\ (PathS.fin2 site p sl).nHigh = p.nHigh := by
 unfold PathS.fin2
 repeat' split
 all_goals exact ⟨rfl, rfl, rfl, rfl, rfl, rfl, rfl, rfl, rfl, rfl⟩
theorem fin3_keep (comp : Str) (p : PathS) : (PathS.fin3 comp p).s = p.s /\ (PathS.fin3 comp p).trim = p.trim /\ (PathS.fin3 comp p).comp = p.comp /\ (PathS.fin3 comp p).known = p.known /\ (PathS.fin3 comp p).unknown = p.unknown /\ (PathS.fin3 comp p).langs = p.langs /\ (PathS.fin3 comp p).cHigh = p.cHigh /\ (PathS.fin3 comp p).cLow = p.cLow /\ (PathS.fin3 comp p).nLow = p.nLow /\ (PathS.fin3 comp p).nHigh = p.nHigh /\ (PathS.fin3 comp p).sHigh = p.sHigh := by
 unfold PathS.fin3
 repeat' split
 all_goals exact ⟨rfl, rfl, rfl, rfl, rfl, rfl, rfl, rfl, rfl, rfl, rfl⟩
theorem fin4_keep (p : PathS) : (PathS.fin4 p).s = p.s /\ (PathS.fin4 p).trim = p.trim /\ (PathS.fin4 p).comp = p.comp /\ (PathS.fin4 p).known = p.known /\ (PathS.fin4 p).unknown = p.unknown /\ (PathS.fin4 p).langs = p.langs /\ (PathS.fin4 p).cHigh = p.cHigh /\ (PathS.fin4 p).cLow = p.cLow /\ (PathS.fin4 p).nLow = p.nLow /\ (PathS.fin4 p).nHigh = p.nHigh /\ (PathS.fin4 p).sHigh = p.sHigh /\ (PathS.fin4 p).typ = p.typ := by
 unfold PathS.fin4; split <;> exact ⟨rfl, rfl, rfl, rfl, rfl, rfl, rfl, rfl, rfl, rfl, rfl, rfl⟩

theorem fin2_typ (site : SiteM) (p : PathS) (sl : Int) : (PathS.fin2 site p sl).typ = p.typ \/ ((PathS.fin2 site p sl).typ = 2 \/ (PathS.fin2 site p sl).typ = 3 \/ (PathS.fin2 site p sl).typ = 4 \/ (PathS.fin2 site p sl).typ = 5) /\ p.known ≠ [] /\ p.nLow < p.nHigh := by
 unfold PathS.fin2
 split
 ·exact .inl rfl
 ·rename_i hk
  split
  ·rename_i hn
   split
   ·split
    ·split
     ·exact .inr ⟨.inr (.inl rfl), hk, hn⟩
     ·exact .inr ⟨.inr (.inl rfl), hk, hn⟩
    ·split
     ·exact .inr ⟨.inr (.inr (.inl rfl)), hk, hn⟩
     ·exact .inr ⟨.inl rfl, hk, hn⟩
   ·split
    ·exact .inr ⟨.inr (.inr (.inr rfl)), hk, hn⟩
    ·exact .inl rfl
  ·exact .inl rfl
theorem fin3_typ (comp : Str) (p : PathS) : (PathS.fin3 comp p).typ = p.typ \/ 6 <= (PathS.fin3 comp p).typ /\ (PathS.fin3 comp p).typ <= 9 := by
 unfold PathS.fin3
 repeat' split
 all_goals first | exact .inl rfl | exact .inr ⟨by simp, by simp⟩

/-- What is known of every path that a parse gives. -/
structure Finished (comp s : Str) (p : PathS) : Prop where
 s_ : p.s = normPath s
 trim : p.trim = false
 comp_ : p.comp = comp
 typ : p.typ = 0 \/ 2 <= p.typ /\ p.typ <= 9
 page : 2 <= p.typ -> p.typ <= 5 -> p.known ≠ [] /\ p.nLow < p.nHigh
 low : p.nLow = p.cHigh.toNat
theorem doParse_finished (site : SiteM) (comp s : Str) : Finished comp s (doParseM site comp s) := by
 obtain ⟨F, sl, hF, e⟩ := doParse_finish site comp s
 obtain ⟨a1, a2, a3, a4, a5, a6, a7, a8, a9⟩ := fin1_keep F
 obtain ⟨b1, b2, b3, b4, b5, b6, b7, b8, b9, b10⟩ := fin2_keep site (PathS.fin1 F) sl
 obtain ⟨c1, c2, c3, c4, c5, c6, c7, c8, c9, c10, c11⟩ := fin3_keep comp (PathS.fin2 site (PathS.fin1 F) sl)
 obtain ⟨d1, d2, d3, d4, d5, d6, d7, d8, d9, d10, d11, d12⟩ := fin4_keep (PathS.fin3 comp (PathS.fin2 site (PathS.fin1 F) sl))
 have t2 := fin2_typ site (PathS.fin1 F) sl
 have t3 := fin3_typ comp (PathS.fin2 site (PathS.fin1 F) sl)
 have low : (PathS.fin1 F).nLow = F.cHigh.toNat := by unfold PathS.fin1; split <;> rfl
 rw [e]
 have e2 : PathS.finish site comp F sl = PathS.fin4 (PathS.fin3 comp (PathS.fin2 site (PathS.fin1 F) sl)) := rfl
 have hty := hF.ty
 refine ⟨?_, ?_, ?_, ?_, ?_, ?_⟩
 ·rw [e2, d1, c1, b1, a1]; exact hF.iv.ps
 ·rw [e2, d2, c2, b2, a2]; exact hF.tr
 ·rw [e2, d3, c3, b3, a3]; exact hF.cp
 ·rw [e2, d12]
  rcases t3 with t3 | t3
  ·rw [t3]
   rcases t2 with t2 | t2
   ·rw [t2, a9, hty]; split
    ·exact .inr ⟨by simp, by simp⟩
    ·exact .inl rfl
   ·obtain ⟨t2, _⟩ := t2; omega
  ·omega
 ·rw [e2, d12, d4, c4, b4, d9, d10, c9, c10, b9, b10]
  intro h1 h2
  rcases t3 with t3 | t3
  ·rw [t3] at h1 h2
   rcases t2 with t2 | t2
   ·rw [t2, a9, hty] at h1 h2
    split at h1
    ·split at h2
     ·exact absurd h2 (by decide)
     ·rename_i x y; exact absurd x y
    ·exact absurd h1 (by decide)
   ·exact t2.2
  ·omega
 ·rw [e2, d9, c9, b9, low, d7, c7, b7, a7]

theorem Finished.path_eq {comp s : Str} {p : PathS} (h : Finished comp s p) : p.path = normPath s := by
 unfold PathS.path; rw [h.trim, h.s_]; rfl
theorem normPath_ne (s : Str) : normPath s ≠ [] := fun e => by
 have := normPath_head s
 rw [e] at this
 cases this

end Go.Proofs.YtjkecadfakjanaaGreatDoor

namespace Go.Proofs.YtjkecadfakjanaaGreatDoor

theorem slashB_at {s : Str} {i : Nat} (h : s[i]? = some 47) : ∀ (n : Nat), i < n -> (∀ j, i < j -> j < n -> s[j]? ≠ some 47) -> slashB s n = (i : Int)
 | 0, hi, _ => by omega
 | n + 1, hi, hno => by
  unfold slashB
  by_cases e : n = i
  ·subst e; rw [if_pos h]
  ·rw [if_neg (hno n (by omega) (by omega))]
   exact slashB_at h n (by omega) (fun j h1 h2 => hno j h1 (by omega))
theorem slashB_no {s : Str} : ∀ (n : Nat), (∀ j, j < n -> s[j]? ≠ some 47) -> slashB s n = -1
 | 0, _ => rfl
 | n + 1, hno => by
  unfold slashB
  rw [if_neg (hno n (by omega))]
  exact slashB_no n (fun j h => hno j (by omega))

/-- Places k and on have no slash; from k to h but one. -/
def NoSl (s : Str) (a b : Nat) : Prop := ∀ j, a <= j -> j < b -> s[j]? ≠ some 47
/-- What the scan knows of the slashes at places k and on. -/
structure SlInv (s : Str) (k : Nat) (st : ScanM) : Prop where
 hi0 : st.p.cHigh = -1 -> NoSl s k s.length /\ st.p.cLow = -1
 hi1 : st.p.cHigh ≠ -1 -> ∃ h : Nat, st.p.cHigh = (h : Int) + 1 /\ k <= h /\ s[h]? = some 47 /\ NoSl s (h + 1) s.length /\ (st.p.cLow = -1 -> NoSl s k h) /\
  (st.p.cLow ≠ -1 -> ∃ l : Nat, st.p.cLow = (l : Int) + 1 /\ k <= l /\ l < h /\ s[l]? = some 47 /\ NoSl s (l + 1) h)
 sh : st.p.sHigh = -1 /\ NoSl s (max k 1) s.length \/ ∃ h : Nat, st.p.sHigh = (h : Int) /\ 0 < h /\ k <= h /\ s[h]? = some 47 /\ NoSl s (max k 1) h
 ct : st.slashes = ((s.drop k).countP (· == 47) : Nat)

theorem noSl_cons {s : Str} {i b : Nat} (h : s[i]? ≠ some 47) (hn : NoSl s (i + 1) b) : NoSl s i b := fun j h1 h2 => by
 by_cases e : j = i
 ·subst e; exact h
 ·exact hn j (by omega) h2
theorem noSl_mono {s : Str} {a a' b : Nat} (hn : NoSl s a b) (h : a <= a') : NoSl s a' b := fun j h1 h2 => hn j (by omega) h2
theorem count_yes {s : Str} {i : Nat} (h : s[i]? = some 47) : (s.drop i).countP (· == 47) = (s.drop (i + 1)).countP (· == 47) + 1 := by
 have hi : i < s.length := by
  rcases Nat.lt_or_ge i s.length with h' | h'
  ·exact h'
  ·rw [List.getElem?_eq_none h'] at h; cases h
 have e : s[i] = 47 := by rw [List.getElem?_eq_getElem hi] at h; exact Option.some.inj h
 rw [drop_cons hi, List.countP_cons, e]; rfl
theorem count_no {s : Str} {i : Nat} (h : s[i]? ≠ some 47) : (s.drop i).countP (· == 47) = (s.drop (i + 1)).countP (· == 47) := by
 rcases Nat.lt_or_ge i s.length with h' | h'
 ·have e : s[i] ≠ 47 := by rw [List.getElem?_eq_getElem h'] at h; simpa using h
  rw [drop_cons h', List.countP_cons, if_neg (by simpa using e)]; rfl
 ·rw [List.drop_of_length_le h', List.drop_of_length_le (by omega)]

theorem sl_quiet {s : Str} {i : Nat} {st st' : ScanM} (h : SlInv s (i + 1) st) (hn : s[i]? ≠ some 47) (e1 : st'.p.cHigh = st.p.cHigh) (e2 : st'.p.cLow = st.p.cLow) (e3 : st'.p.sHigh = st.p.sHigh) (e4 : st'.slashes = st.slashes) : SlInv s i st' := by
 refine ⟨fun e => ?_, fun e => ?_, ?_, ?_⟩
 ·rw [e1] at e
  obtain ⟨a, b⟩ := h.hi0 e
  exact ⟨noSl_cons hn a, by rw [e2]; exact b⟩
 ·rw [e1] at e
  obtain ⟨x, a, b, c, d, f, g⟩ := h.hi1 e
  refine ⟨x, by rw [e1]; exact a, by omega, c, d, fun q => noSl_cons hn (f (by rw [<- e2]; exact q)), fun q => ?_⟩
  obtain ⟨l, g1, g2, g3⟩ := g (by rw [<- e2]; exact q)
  exact ⟨l, by rw [e2]; exact g1, by omega, g3⟩
 ·have hmx : ∀ b, NoSl s (max (i + 1) 1) b -> NoSl s (max i 1) b := fun b hb j h1 h2 => by
   by_cases q : j = i
   ·subst q; exact hn
   ·exact hb j (by omega) h2
  rcases h.sh with ⟨a, b⟩ | ⟨x, a, b, c, d, f⟩
  ·exact .inl ⟨by rw [e3]; exact a, hmx _ b⟩
  ·exact .inr ⟨x, by rw [e3]; exact a, b, by omega, d, hmx _ f⟩
 ·rw [e4, h.ct, count_no hn]

theorem step_sl (site : SiteM) (comp : Str) (skips : List Nat) (numDots : Int) {s : Str} {i : Nat} {st : ScanM} (hv : SInv s (i + 1) st) (h : SlInv s (i + 1) st) : SlInv s i (ScanM.step site comp skips numDots st i) := by
 have hps := hv.ps
 have pid : ∀ b, (PathS.parseId site comp st.p i st.lastDot numDots b).cHigh = st.p.cHigh /\ (PathS.parseId site comp st.p i st.lastDot numDots b).cLow = st.p.cLow /\ (PathS.parseId site comp st.p i st.lastDot numDots b).sHigh = st.p.sHigh := by
  intro b
  by_cases hc : st.p.cHigh = -1
  ·obtain ⟨i1, i2⟩ := hv.id hc
   obtain ⟨-, ⟨k1, k2, k3, k4, k5, k6, k7⟩, -, -⟩ := parseId_good site comp ((hv.op hc).1.down (Nat.le_succ i)) hc i st.lastDot i1 i2 (fun _ => Nat.le_refl i) numDots b
   exact ⟨k5, k4, k6⟩
  ·rw [parseId_shut site comp st.p i st.lastDot numDots b hc]; exact ⟨rfl, rfl, rfl⟩
 unfold ScanM.step
 split
 ·rename_i hd
  have hn : s[i]? ≠ some 47 := by rw [<- hps, hd]; decide
  split
  ·exact sl_quiet h hn rfl rfl rfl rfl
  ·obtain ⟨a, b, c⟩ := pid false
   exact sl_quiet h hn a b c rfl
 ·split
  ·rename_i _ h47
   rw [hps] at h47
   -- the slash
   have main : ∀ p1 : PathS, p1.sHigh = st.p.sHigh -> (p1.cHigh ≠ -1 -> ∃ h : Nat, p1.cHigh = (h : Int) + 1 /\ i <= h /\ s[h]? = some 47 /\ NoSl s (h + 1) s.length /\ (p1.cLow = -1 -> NoSl s i h) /\
     (p1.cLow ≠ -1 -> ∃ l : Nat, p1.cLow = (l : Int) + 1 /\ i <= l /\ l < h /\ s[l]? = some 47 /\ NoSl s (l + 1) h)) -> p1.cHigh ≠ -1 ->
     SlInv s i { st with slashes := st.slashes + 1, p := if 0 < i then { p1 with sHigh := (i : Int) } else p1 } := by
    intro p1 hs1 h1 hc1
    have hct : st.slashes + 1 = ((s.drop i).countP (· == 47) : Nat) := by rw [h.ct, count_yes h47]; omega
    by_cases hi : 0 < i
    ·simp only [if_pos hi]
     refine ⟨fun e => absurd e hc1, fun e => h1 hc1, .inr ⟨i, rfl, hi, Nat.le_refl _, h47, fun j a b => by omega⟩, hct⟩
    ·simp only [if_neg hi]
     refine ⟨fun e => absurd e hc1, fun e => h1 hc1, ?_, hct⟩
     have e0 : i = 0 := by omega
     subst e0
     rcases h.sh with ⟨a, b⟩ | ⟨x, a, b, c, d, f⟩
     ·exact .inl ⟨by show p1.sHigh = -1; rw [hs1]; exact a, by simpa using b⟩
     ·exact .inr ⟨x, by show p1.sHigh = _; rw [hs1]; exact a, b, by omega, d, by simpa using f⟩
   by_cases hc : st.p.cHigh = -1
   ·simp only [if_pos hc]
    obtain ⟨n1, n2⟩ := h.hi0 hc
    have hp0 : ∀ q : PathS, q.cLow = st.p.cLow -> q.sHigh = st.p.sHigh -> SlInv s i { st with slashes := st.slashes + 1, p := if 0 < i then { ({ q with cHigh := (i : Int) + 1 } : PathS) with sHigh := (i : Int) } else { q with cHigh := (i : Int) + 1 } } := by
     intro q q1 q2
     refine main _ q2 (fun _ => ⟨i, rfl, Nat.le_refl _, h47, n1, fun _ j a b => by omega, fun e => absurd (show q.cLow = -1 by rw [q1]; exact n2) e⟩) ?_
     show (i : Int) + 1 ≠ -1; omega
    by_cases hl : 0 < st.lastDot
    ·simp only [if_pos hl]
     obtain ⟨a, b, c⟩ := pid true
     exact hp0 _ b c
    ·simp only [if_neg hl]
     exact hp0 _ rfl rfl
   ·simp only [if_neg hc]
    obtain ⟨x, a, b, c, d, f, g⟩ := h.hi1 hc
    by_cases hw : st.p.cLow = -1
    ·simp only [if_pos hw]
     refine main _ rfl (fun _ => ⟨x, a, by omega, c, d, fun e => absurd e (by show (i : Int) + 1 ≠ -1; omega), fun _ => ⟨i, rfl, Nat.le_refl _, by omega, h47, fun j j1 j2 => f hw j (by omega) j2⟩⟩) hc
    ·simp only [if_neg hw]
     refine main _ rfl (fun _ => ⟨x, a, by omega, c, d, fun e => absurd e hw, fun e => ?_⟩) hc
     obtain ⟨l, g1, g2, g3⟩ := g e
     exact ⟨l, g1, by omega, g3⟩
  ·rename_i _ h47
   rw [hps] at h47
   exact sl_quiet h h47 rfl rfl rfl rfl

theorem down_sl (site : SiteM) (comp : Str) (skips : List Nat) (numDots : Int) {s : Str} (hs : s.head? = some 47) : ∀ (k : Nat) {st : ScanM}, SInv s k st -> SlInv s k st -> SlInv s 0 (ScanM.down site comp skips numDots k st)
 | 0, st, _, h => h
 | k + 1, st, hv, h => down_sl site comp skips numDots hs k (step_inv site comp skips numDots hs hv) (step_sl site comp skips numDots hv h)
theorem start_sl (comp s : Str) : SlInv s s.length { p := startP comp s } := by
 refine ⟨fun _ => ⟨fun j a b => by omega, rfl⟩, fun e => absurd rfl e, .inl ⟨rfl, fun j a b => by omega⟩, ?_⟩
 show (0 : Int) = _
 rw [List.drop_of_length_le (Nat.le_refl _)]; rfl

/-- A finished path's bounds. -/
structure Bounds (s : Str) (p : PathS) : Prop where
 h : ∃ h : Nat, p.cHigh = (h : Int) + 1 /\ s[h]? = some 47 /\ NoSl s (h + 1) s.length /\ (p.cLow = -1 -> NoSl s 0 h) /\
  (p.cLow ≠ -1 -> ∃ l : Nat, p.cLow = (l : Int) + 1 /\ l < h /\ s[l]? = some 47 /\ NoSl s (l + 1) h)
theorem doParse_bounds (site : SiteM) (comp s : Str) : Bounds (normPath s) (doParseM site comp s) := by
 have hh := normPath_head s
 have hsc := scan_scanned site comp (normPath s) (skipsOf (normPath s)) ((countDots (lastPart (normPath s)) : Int) - (skipsOf (normPath s)).length) hh
 have hsl := down_sl site comp (skipsOf (normPath s)) ((countDots (lastPart (normPath s)) : Int) - (skipsOf (normPath s)).length) hh (normPath s).length (start_inv comp (normPath s)) (start_sl comp (normPath s))
 obtain ⟨a1, a2, a3, a4, a5, a6, a7, a8, a9⟩ := fin1_keep (ScanM.down site comp (skipsOf (normPath s)) ((countDots (lastPart (normPath s)) : Int) - (skipsOf (normPath s)).length) (normPath s).length { p := startP comp (normPath s) }).p
 generalize hF : ScanM.down site comp (skipsOf (normPath s)) ((countDots (lastPart (normPath s)) : Int) - (skipsOf (normPath s)).length) (normPath s).length { p := startP comp (normPath s) } = F at hsc hsl a1 a2 a3 a4 a5 a6 a7 a8 a9
 have e : doParseM site comp s = PathS.fin4 (PathS.fin3 comp (PathS.fin2 site (PathS.fin1 F.p) F.slashes)) := by rw [<- hF]; rfl
 obtain ⟨b1, b2, b3, b4, b5, b6, b7, b8, b9, b10⟩ := fin2_keep site (PathS.fin1 F.p) F.slashes
 obtain ⟨c1, c2, c3, c4, c5, c6, c7, c8, c9, c10, c11⟩ := fin3_keep comp (PathS.fin2 site (PathS.fin1 F.p) F.slashes)
 obtain ⟨d1, d2, d3, d4, d5, d6, d7, d8, d9, d10, d11, d12⟩ := fin4_keep (PathS.fin3 comp (PathS.fin2 site (PathS.fin1 F.p) F.slashes))
 rw [e]
 constructor
 rw [d7, c7, b7, a7, d8, c8, b8, a8]
 obtain ⟨x, q1, q2, q3, q4, q5, q6⟩ := hsl.hi1 (by have := hsc.hc; omega)
 refine ⟨x, q1, q3, q4, q5, fun h => ?_⟩
 obtain ⟨l, g1, g2, g3⟩ := q6 h
 exact ⟨l, g1, g3⟩

/-- The container is the last part of the folder. -/
theorem container_last {site : SiteM} {comp s : Str} {P : PathS} (hP : P = doParseM site comp s) :
  (P.dirM = [47] -> P.containerM = []) /\ (P.dirM ≠ [47] -> ∃ k : Nat, slashB P.dirM P.dirM.length + 1 = (k : Int) /\ k <= P.dirM.length /\ P.containerM = P.dirM.drop k) := by
 have hF : Finished comp s P := hP ▸ doParse_finished site comp s
 have hB : Bounds (normPath s) P := hP ▸ doParse_bounds site comp s
 obtain ⟨h, a1, a2, a3, a4, a5⟩ := hB.h
 have hn : ∀ t, P.norm t = t := fun t => by unfold PathS.norm; rw [hF.trim]; rfl
 have hd : P.dirM = if (normPath s).take h = [] then [47] else (normPath s).take h := by
  unfold PathS.dirM
  dsimp only
  rw [hn, if_pos (show 0 < P.cHigh by omega), hF.s_, a1, show ((h : Int) + 1 - 1).toNat = h by omega]
 have hlen : h < (normPath s).length := by
  rcases Nat.lt_or_ge h (normPath s).length with x | x
  ·exact x
  ·rw [List.getElem?_eq_none x] at a2; cases a2
 have hc : P.containerM = if P.cLow = -1 then [] else sub (normPath s) (P.cLow.toNat, h) := by
  unfold PathS.containerM
  rw [hn, hF.s_, a1, show ((h : Int) + 1 - 1).toNat = h by omega]
 by_cases h0 : h = 0
 ·subst h0
  rw [List.take_zero, if_pos rfl] at hd
  refine ⟨fun _ => ?_, fun e => absurd hd e⟩
  rw [hc, if_pos]
  apply Classical.byContradiction
  intro e
  obtain ⟨l, _, g2, _⟩ := a5 e
  omega
 ·have htl : ((normPath s).take h).length = h := by rw [List.length_take]; omega
  have hne : (normPath s).take h ≠ [] := fun e => by rw [e] at htl; exact h0 htl.symm
  rw [if_neg hne] at hd
  have hl : P.cLow ≠ -1 := fun e => by
   have := a4 e 0 (Nat.le_refl _) (by omega)
   rw [<- List.head?_eq_getElem?] at this
   exact this (normPath_head s)
  obtain ⟨l, g1, g2, g3, g4⟩ := a5 hl
  rw [if_neg hl, g1, show ((l : Int) + 1).toNat = l + 1 by omega] at hc
  have hget : ∀ j, j < h -> ((normPath s).take h)[j]? = (normPath s)[j]? := fun j hj => List.getElem?_take_of_lt hj
  have hsb : slashB P.dirM P.dirM.length = (l : Int) := by
   rw [hd, htl]
   exact slashB_at (by rw [hget l g2]; exact g3) h g2 (fun j j1 j2 => by rw [hget j j2]; exact g4 j (by omega) j2)
  have hcd : P.containerM = P.dirM.drop (l + 1) := by
   rw [hc, hd]
   show ((normPath s).drop (l + 1)).take (h - (l + 1)) = _
   rw [List.drop_take]
  refine ⟨fun e => ?_, fun _ => ⟨l + 1, by rw [hsb]; rfl, by rw [hd, htl]; omega, hcd⟩⟩
  rw [hcd, e]
  rw [hd] at e
  have := congrArg List.length e
  rw [htl] at this
  have : l = 0 := by simp at this; omega
  subst this; rfl

theorem dirM_len {P : PathS} (ht : P.trim = false) (ok : PathOK P) : P.dirM.length <= 35184372088832 := by
 have h1 := ok.len
 have hn : ∀ t, P.norm t = t := fun t => by unfold PathS.norm; rw [ht]; rfl
 unfold PathS.dirM
 dsimp only
 rw [hn]
 generalize hd : (if 0 < P.cHigh then P.s.take (P.cHigh - 1).toNat else []) = d
 have hdl : d.length <= P.s.length := by
  rw [<- hd]
  split
  ·rw [List.length_take]; omega
  ·simp
 by_cases he : d = []
 ·rw [if_pos he]; simp
 ·rw [if_neg he]; omega
/-- The base of pages and bundles. -/
theorem base_page {site : SiteM} {comp s : Str} {P : PathS} (hP : P = doParseM site comp s) (ok : PathOK P) :
  (P.typ = 2 -> P.base = P.baseM false false) /\ (P.isBundle = true -> P.dirM = [47] -> P.base = [] \/ P.base = [47]) /\ (P.isBundle = true -> P.dirM ≠ [47] -> P.base = P.dirM) := by
 have hF : Finished comp s P := hP ▸ doParse_finished site comp s
 have hn : ∀ t, P.norm t = t := fun t => by unfold PathS.norm; rw [hF.trim]; rfl
 have hc := ok.hc
 have hnm := ok.nm
 have hb : ∀ b, P.known ≠ [] -> P.baseM false b = P.s.take (let high : Int := if b then P.cHigh - 1 else P.nHigh; (if high = 0 then high + 1 else high)).toNat := by
  intro b hk
  unfold PathS.baseM
  rw [if_neg hk, if_neg (by simp)]
  dsimp only
  rw [if_pos rfl, hn]
 refine ⟨fun h2 => ?_, fun hbu hd => ?_, fun hbu hd => ?_⟩
 ·obtain ⟨hk, hlt⟩ := hF.page (by omega) (by omega)
  have hlow := hF.low
  have hpage : P.isPage = true := by unfold PathS.isPage; rw [h2]; decide
  have hib : P.isBundle = false := by unfold PathS.isBundle; rw [h2]; decide
  unfold PathS.base
  dsimp only
  rw [hpage, hib]
  show (if P.baseM false false = [47] /\ true = true then [] else P.baseM false false) = _
  rw [if_neg]
  rintro ⟨e, -⟩
  rw [hb false hk] at e
  have := congrArg List.length e
  rw [List.length_take] at this
  simp only [Bool.false_eq_true, if_false] at this
  rw [if_neg (by omega)] at this
  simp at this
  omega
 all_goals
  have hty : 3 <= P.typ /\ P.typ <= 5 := by
   unfold PathS.isBundle isBundleT at hbu
   simp at hbu
   omega
  obtain ⟨hk, hlt⟩ := hF.page (by omega) (by omega)
  have hpage : P.isPage = true := by unfold PathS.isPage; simp; omega
  have hbase : P.base = if P.baseM false true = [47] then [] else P.baseM false true := by
   unfold PathS.base
   dsimp only
   rw [hpage, hbu]
   show (if P.baseM false true = [47] /\ true = true then [] else P.baseM false true) = _
   simp
  have hdir : P.dirM = if P.s.take (P.cHigh - 1).toNat = [] then [47] else P.s.take (P.cHigh - 1).toNat := by
   unfold PathS.dirM
   dsimp only
   rw [hn, if_pos (show 0 < P.cHigh by omega)]
  have hbm : P.baseM false true = P.s.take (if P.cHigh - 1 = 0 then P.cHigh - 1 + 1 else P.cHigh - 1).toNat := hb true hk
  have hs1 : P.s.take 1 = [47] := by
   have := normPath_head s
   rw [hF.s_]
   cases hx : normPath s with
   | nil => rw [hx] at this; cases this
   | cons c t => rw [hx] at this; simp at this; subst this; rfl
  by_cases h1 : P.cHigh - 1 = 0
  ·rw [if_pos h1, h1] at hbm
   have : P.baseM false true = [47] := by rw [hbm]; exact hs1
   rw [hbase, if_pos this]
   first
   | exact .inl rfl
   | (exfalso; apply hd; rw [hdir, h1]; rfl)
  ·rw [if_neg h1] at hbm
   have hne : P.s.take (P.cHigh - 1).toNat ≠ [] := fun e => by
    have := congrArg List.length e
    rw [List.length_take] at this
    have h3 := ok.pos
    simp only [List.length_nil] at this
    omega
   rw [if_neg hne] at hdir
   first
   | (rw [hbase, hbm, <- hdir, if_pos hd]; exact .inl rfl)
   | (rw [hbase, hbm, <- hdir, if_neg hd])

end Go.Proofs.YtjkecadfakjanaaGreatDoor

namespace Go.Proofs.YtjkecadfakjanaaGreatDoor

/-! ### A field that points to a word -/
/-- i is no place, t nothing; or i is a place of l (not that of the layout), and t stands there. -/
def Fld (l : List Str) (lay i : Int) (t : Str) : Prop := (i = -1 /\ t = []) \/ ∃ k : Nat, i = (k : Int) /\ k < l.length /\ (k : Int) ≠ lay /\ l[k]? = some t /\ t ≠ []
/-- l' is l with more behind it, or with another layout word. -/
structure Grow (l l' : List Str) (lay lay' : Int) : Prop where
 len : l.length <= l'.length
 old : ∀ k : Nat, k < l.length -> (k : Int) ≠ lay -> l'[k]? = l[k]?
 lay : lay' = lay \/ lay = -1 /\ lay' = (l.length : Int)
theorem Fld.grow {l l' : List Str} {lay lay' i : Int} {t : Str} (h : Fld l lay i t) (g : Grow l l' lay lay') : Fld l' lay' i t := by
 rcases h with h | ⟨k, h1, h2, h3, h4, h5⟩
 ·exact .inl h
 ·refine .inr ⟨k, h1, Nat.lt_of_lt_of_le h2 g.len, ?_, (g.old k h2 h3).trans h4, h5⟩
  rcases g.lay with e | ⟨_, e⟩
  ·rw [e]; exact h3
  ·rw [e]; omega
theorem Fld.none {l : List Str} {lay : Int} : Fld l lay (-1) [] := .inl ⟨rfl, rfl⟩
theorem Fld.new {l : List Str} {lay : Int} {t : Str} (h : t ≠ []) (hl : lay < (l.length : Int)) : Fld (l ++ [t]) lay (l.length : Int) t :=
 .inr ⟨l.length, rfl, by simp, by omega, by simp, h⟩
theorem Grow.app (l : List Str) (x : Str) (lay : Int) : Grow l (l ++ [x]) lay lay := ⟨by simp, fun k h _ => List.getElem?_append_left h, .inl rfl⟩
theorem Grow.appLay (l : List Str) (x : Str) : Grow l (l ++ [x]) (-1) (l.length : Int) := ⟨by simp, fun k h _ => List.getElem?_append_left h, .inr ⟨rfl, rfl⟩⟩
theorem Grow.setLay (l : List Str) (x : Str) (k : Nat) : Grow l (l.set k x) (k : Int) (k : Int) :=
 ⟨by simp, fun j _ hj => List.getElem?_set_ne (by omega), .inl rfl⟩
/-- The word at a place. -/
theorem Fld.str {p : PathS} {lay i : Int} {t : Str} (h : Fld (p.known.map (sub p.s)) lay i t) : p.idStr i = t := by
 unfold PathS.idStr
 rcases h with ⟨rfl, rfl⟩ | ⟨k, rfl, h2, _, h4, _⟩
 ·rw [if_pos (.inl (by decide))]
 ·rw [List.length_map] at h2
  rw [if_neg (by omega), Int.toNat_natCast, List.getD_eq_getElem?_getD, List.getElem?_eq_getElem h2]
  rw [List.getElem?_map, List.getElem?_eq_getElem h2] at h4
  exact Option.some.inj h4
theorem Fld.iff {l : List Str} {lay i : Int} {t : Str} (h : Fld l lay i t) : i = -1 ↔ t = [] := by
 rcases h with ⟨rfl, rfl⟩ | ⟨k, rfl, _, _, _, h5⟩
 ·simp
 ·constructor
  ·intro e; omega
  ·intro e; exact absurd e h5

inductive Flds (l : List Str) (lay : Int) : List Nat -> List Str -> Prop
 | nil : Flds l lay [] []
 | cons {i : Nat} {t : Str} {is : List Nat} {ts : List Str} : Fld l lay (i : Int) t -> Flds l lay is ts -> Flds l lay (i :: is) (t :: ts)
theorem Flds.grow {l l' : List Str} {lay lay' : Int} {is : List Nat} {ts : List Str} (h : Flds l lay is ts) (g : Grow l l' lay lay') : Flds l' lay' is ts := by
 induction h with
 | nil => exact .nil
 | cons a _ ih => exact .cons (a.grow g) ih
theorem Flds.snoc {l : List Str} {lay : Int} {is : List Nat} {ts : List Str} {i : Nat} {t : Str} (h : Flds l lay is ts) (a : Fld l lay (i : Int) t) : Flds l lay (is ++ [i]) (ts ++ [t]) := by
 induction h with
 | nil => exact .cons a .nil
 | cons b _ ih => exact .cons b ih

/-! ### A path under way, and a reading -/
structure Sim (site : SiteM) (comp : Str) (p : PathS) (r : ReadM) : Prop where
 cmp : r.w.component = comp
 lys : r.layouts = (comp == kLayouts)
 sho : r.shortcode = decide (p.typ = 7)
 ids : r.w.ids = p.known.map (sub p.s)
 unk : r.w.unknown = p.unknown.map (sub p.s)
 ext : r.w.ids[0]? = some r.w.ext
 exn : r.w.ext ≠ []
 lay : r.layoutAt = p.lay /\ (p.lay = -1 /\ r.layout = [] \/ ∃ k : Nat, p.lay = (k : Int) /\ 1 <= k /\ k < r.w.ids.length /\ r.w.ids[k]? = some r.layout)
 lng : Fld r.w.ids p.lay p.lang r.lang /\ r.hasLang = (p.lang != -1)
 lgs : Flds r.w.ids p.lay p.langs r.w.langs
 fmt : r.format = [] /\ p.fmt = (if (comp == kLayouts) && isFormat site r.w.ext [] then 0 else -1) \/ r.format ≠ [] /\ Fld r.w.ids p.lay p.fmt r.format
 knd : Fld r.w.ids p.lay p.kind r.kind /\ r.hasKind = (p.kind != -1)
 bas : r.baseof = (p.baseof != -1) /\ -1 <= p.baseof
 cus : ∃ cw, Fld r.w.ids p.lay p.custom cw /\ r.w.custom = trimSuf (trimPre cw)
 pfm : Fld r.w.ids p.lay p.pfmt r.w.format
 pkn : Fld r.w.ids p.lay p.pkind r.w.kind
 ply : Fld r.w.ids p.lay p.play r.w.layout
 dis : r.w.disabled = p.disabled

theorem Sim.layLt {site : SiteM} {comp : Str} {p : PathS} {r : ReadM} (h : Sim site comp p r) : p.lay < (r.w.ids.length : Int) := by
 rcases h.lay.2 with ⟨e, _⟩ | ⟨k, e, _, h2, _⟩
 ·rw [e]; omega
 ·rw [e]; omega
theorem Sim.len {site : SiteM} {comp : Str} {p : PathS} {r : ReadM} (h : Sim site comp p r) : (p.known.length : Int) = (r.w.ids.length : Int) := by rw [h.ids, List.length_map]
theorem Sim.idsPos {site : SiteM} {comp : Str} {p : PathS} {r : ReadM} (h : Sim site comp p r) : 0 < r.w.ids.length := by
 have := h.ext
 rcases Nat.eq_zero_or_pos r.w.ids.length with e | e
 ·rw [List.getElem?_eq_none (by omega)] at this; cases this
 ·exact e

/-- A word is added to the identifiers: what stays. p' and r' differ from p and r in the field that 'new' tells alone. -/
theorem Sim.add {site : SiteM} {comp : Str} {p : PathS} {r : ReadM} (h : Sim site comp p r) (id : Nat × Nat) (t : Str) (ht : sub p.s id = t) (at_ : Int) : Sim site comp (p.addKnown id) (r.identify t at_) := by
 have g : Grow r.w.ids (r.w.ids ++ [t]) p.lay p.lay := Grow.app _ _ _
 have hp := h.idsPos
 refine ⟨h.cmp, h.lys, h.sho, ?_, h.unk, ?_, h.exn, ⟨h.lay.1, ?_⟩, ⟨h.lng.1.grow g, h.lng.2⟩, h.lgs.grow g, ?_, ⟨h.knd.1.grow g, h.knd.2⟩, h.bas, ?_, h.pfm.grow g, h.pkn.grow g, h.ply.grow g, h.dis⟩
 ·show r.w.ids ++ [t] = (p.known ++ [id]).map (sub p.s)
  rw [List.map_append, List.map_singleton, ht, h.ids]
 ·show (r.w.ids ++ [t])[0]? = _
  rw [List.getElem?_append_left hp]; exact h.ext
 ·rcases h.lay.2 with e | ⟨k, a, b, c, d⟩
  ·exact .inl e
  ·refine .inr ⟨k, a, b, ?_, ?_⟩
   ·show k < (r.w.ids ++ [t]).length
    rw [List.length_append]; omega
   ·show (r.w.ids ++ [t])[k]? = _
    rw [List.getElem?_append_left c]; exact d
 ·rcases h.fmt with e | ⟨a, b⟩
  ·exact .inl e
  ·exact .inr ⟨a, b.grow g⟩
 ·obtain ⟨cw, a, b⟩ := h.cus
  exact ⟨cw, a.grow g, b⟩
theorem Sim.new {site : SiteM} {comp : Str} {p : PathS} {r : ReadM} (h : Sim site comp p r) {t : Str} (hn : t ≠ []) : Fld (r.w.ids ++ [t]) p.lay (p.known.length : Int) t := by
 rw [h.len]
 exact Fld.new hn h.layLt

/-! ### Prefixes -/
theorem startsL_two {l p q : Str} (h1 : startsL l p = true) (h2 : startsL l q = true) : startsL q p = true \/ startsL p q = true := by
 unfold startsL at *
 rw [List.isPrefixOf_iff_prefix] at *
 rw [List.isPrefixOf_iff_prefix]
 exact List.prefix_or_prefix_of_prefix h1 h2
theorem startsL_not {l p q : Str} (h1 : startsL l p = true) (h : (startsL q p || startsL p q) = false) : startsL l q = false := by
 cases h2 : startsL l q with
 | false => rfl
 | true =>
  rw [Bool.or_eq_false_iff] at h
  rcases startsL_two h1 h2 with e | e
  ·rw [e] at h; exact absurd h.1 (by decide)
  ·rw [e] at h; exact absurd h.2 (by decide)
theorem lowerL_drop (s : Str) (n : Nat) : lowerL (s.drop n) = (lowerL s).drop n := by simp [lowerL, Lib.toLowerA, List.map_drop]
theorem startsL_len {l p : Str} (h : startsL l p = true) : p.length <= l.length := by
 unfold startsL at h
 rw [List.isPrefixOf_iff_prefix] at h
 exact h.length_le

/-- The tag that a wrapped text begins with. -/
theorem parsePrefix_cases (x : Str) :
  (startsL (lowerL x) pLanguage = true /\ parsePrefixM x = pLanguage /\ tagged x pFormat = none /\ tagged x pKind = none /\ tagged x pLayout = none) \/
  (tagged x pLanguage = none /\ tagged x pFormat = none /\ tagged x pKind = none /\ tagged x pLayout = none /\ (parsePrefixM x = pVersion \/ parsePrefixM x = pRole \/ parsePrefixM x = [])) \/
  (startsL (lowerL x) pFormat = true /\ parsePrefixM x = pFormat /\ tagged x pLanguage = none /\ tagged x pKind = none /\ tagged x pLayout = none) \/
  (startsL (lowerL x) pKind = true /\ parsePrefixM x = pKind /\ tagged x pLanguage = none /\ tagged x pFormat = none /\ tagged x pLayout = none) \/
  (startsL (lowerL x) pLayout = true /\ parsePrefixM x = pLayout /\ tagged x pLanguage = none /\ tagged x pFormat = none /\ tagged x pKind = none) := by
 have hp : parsePrefixM x = if startsL (lowerL x) pLanguage then pLanguage else if startsL (lowerL x) pVersion then pVersion else if startsL (lowerL x) pRole then pRole else if startsL (lowerL x) pFormat then pFormat else if startsL (lowerL x) pKind then pKind else if startsL (lowerL x) pLayout then pLayout else [] := rfl
 have ht : ∀ q, tagged x q = if startsL (lowerL x) q then some (x.drop q.length) else none := fun q => rfl
 rw [hp, ht, ht, ht, ht]
 generalize lowerL x = l
 cases h1 : startsL l pLanguage with
 | true =>
  rw [startsL_not h1 (by decide : (startsL pFormat pLanguage || startsL pLanguage pFormat) = false), startsL_not h1 (by decide : (startsL pKind pLanguage || startsL pLanguage pKind) = false), startsL_not h1 (by decide : (startsL pLayout pLanguage || startsL pLanguage pLayout) = false)]
  exact .inl ⟨rfl, rfl, rfl, rfl, rfl⟩
 | false =>
 cases h2 : startsL l pVersion with
 | true =>
  rw [startsL_not h2 (by decide : (startsL pFormat pVersion || startsL pVersion pFormat) = false), startsL_not h2 (by decide : (startsL pKind pVersion || startsL pVersion pKind) = false), startsL_not h2 (by decide : (startsL pLayout pVersion || startsL pVersion pLayout) = false)]
  exact .inr (.inl ⟨rfl, rfl, rfl, rfl, .inl rfl⟩)
 | false =>
 cases h3 : startsL l pRole with
 | true =>
  rw [startsL_not h3 (by decide : (startsL pFormat pRole || startsL pRole pFormat) = false), startsL_not h3 (by decide : (startsL pKind pRole || startsL pRole pKind) = false), startsL_not h3 (by decide : (startsL pLayout pRole || startsL pRole pLayout) = false)]
  exact .inr (.inl ⟨rfl, rfl, rfl, rfl, .inr (.inl rfl)⟩)
 | false =>
 cases h4 : startsL l pFormat with
 | true =>
  rw [startsL_not h4 (by decide : (startsL pKind pFormat || startsL pFormat pKind) = false), startsL_not h4 (by decide : (startsL pLayout pFormat || startsL pFormat pLayout) = false)]
  exact .inr (.inr (.inl ⟨rfl, rfl, rfl, rfl, rfl⟩))
 | false =>
 cases h5 : startsL l pKind with
 | true =>
  rw [startsL_not h5 (by decide : (startsL pLayout pKind || startsL pKind pLayout) = false)]
  exact .inr (.inr (.inr (.inl ⟨rfl, rfl, rfl, rfl, rfl⟩)))
 | false =>
 cases h6 : startsL l pLayout with
 | true => exact .inr (.inr (.inr (.inr ⟨rfl, rfl, rfl, rfl, rfl⟩)))
 | false => exact .inr (.inl ⟨rfl, rfl, rfl, rfl, .inr (.inr rfl)⟩)

/-! ### Wrappers -/
theorem sub_len {s : Str} {id : Nat × Nat} (h2 : id.2 <= s.length) : (sub s id).length = id.2 - id.1 := by
 unfold sub; rw [List.length_take, List.length_drop]; omega
theorem sub_inner {s : Str} {id : Nat × Nat} (h2 : id.2 <= s.length) (n : Nat) (hl : 2 < (sub s id).length) : sub s (id.1 + 1 + n, id.2 - 1) = (innerOf (sub s id)).drop n := by
 have h := sub_len h2
 unfold innerOf
 rw [h]
 unfold sub
 simp only [List.drop_take, List.drop_drop, List.take_take]
 rw [show min (id.2 - id.1 - 2) (id.2 - id.1 - 1) - n = id.2 - 1 - (id.1 + 1 + n) by omega]
theorem isWrap_wrapped (w : Str) : wrapped w = if isWrap w then some (innerOf w) else none := by
 unfold wrapped isWrap innerOf
 by_cases h : w.length < 3
 ·rw [if_pos (.inl h)]
  rw [show decide (2 < w.length) = false by simp; omega]
  rfl
 ·have h2 : decide (2 < w.length) = true := by simp; omega
  have h0 : (List.isPrefixOf [95] w = true) ↔ w.head? = some 95 := by
   cases w with
   | nil => simp at h
   | cons c t =>
    constructor
    ·intro e
     rw [List.isPrefixOf, Bool.and_eq_true] at e
     rw [<- beq_iff_eq.1 e.1]; rfl
    ·intro e
     have : c = 95 := Option.some.inj e
     rw [this]; rfl
  have h1 : (List.isSuffixOf [95] w = true) ↔ w.getLast? = some 95 := by
   rw [List.isSuffixOf_iff_suffix]
   constructor
   ·rintro ⟨t, rfl⟩; simp
   ·intro e
    obtain ⟨t, rfl⟩ := List.getLast?_eq_some_iff.1 e
    exact ⟨t, rfl⟩
  rw [h2]
  by_cases a : w.head? = some 95
  ·by_cases b : w.getLast? = some 95
   ·rw [if_neg (by rintro (x | x | x); exact h x; exact x a; exact x b), h0.2 a, h1.2 b]; rfl
   ·rw [if_pos (.inr (.inr b))]
    cases hc : List.isSuffixOf [95] w with
    | true => exact absurd (h1.1 hc) b
    | false => simp
  ·rw [if_pos (.inr (.inl a))]
   cases hc : List.isPrefixOf [95] w with
   | true => exact absurd (h0.1 hc) a
   | false => simp

theorem trim_inner {w : Str} (h : isWrap w = true) : trimSuf (trimPre w) = innerOf w := by
 unfold isWrap at h
 simp only [Bool.and_eq_true, decide_eq_true_eq] at h
 obtain ⟨⟨hl, h1⟩, h2⟩ := h
 unfold trimPre
 rw [if_pos h1]
 rw [List.isSuffixOf_iff_suffix] at h2
 obtain ⟨t, ht⟩ := h2
 have hs : List.isSuffixOf [95] (w.drop 1) = true := by
  rw [List.isSuffixOf_iff_suffix]
  refine ⟨t.drop 1, ?_⟩
  rw [<- ht, List.drop_append]
  have : 1 - t.length = 0 := by
   have := congrArg List.length ht
   simp at this; omega
  rw [this]; rfl
 unfold trimSuf innerOf
 rw [if_pos hs, List.length_drop]
 rw [show w.length - 1 - 1 = w.length - 2 by omega]

/-- What is known of a site's words: none is empty. -/
structure Words (site : SiteM) : Prop where
 lang : ∀ w, amongL site.languages w = true -> w ≠ []
 dis : ∀ w, amongL site.disabled w = true -> w ≠ []
 fmt : ∀ w, formatNamed site.formats w = true -> w ≠ []

theorem lowerL_nil {s : Str} (h : lowerL s ≠ []) : s ≠ [] := fun e => h (by rw [e]; rfl)
theorem tagged_some {x q : Str} (h : startsL (lowerL x) q = true) : tagged x q = some (x.drop q.length) := if_pos h
theorem kindOf_is (v : Str) : (kindOf v ≠ []) ↔ isKindL v = true := by
 unfold kindOf isKindL
 generalize lowerL v = l
 constructor
 ·intro h
  by_cases h1 : l = [112, 97, 103, 101]
  ·rw [h1]; decide
  by_cases h2 : l = [104, 111, 109, 101]
  ·rw [h2]; decide
  by_cases h3 : l = [115, 101, 99, 116, 105, 111, 110]
  ·rw [h3]; decide
  by_cases h4 : l = [116, 97, 120, 111, 110, 111, 109, 121]
  ·rw [h4]; decide
  by_cases h5 : l = [116, 101, 114, 109]
  ·rw [h5]; decide
  by_cases h6 : l = [116, 97, 120, 111, 110, 111, 109, 121, 116, 101, 114, 109]
  ·rw [h6]; decide
  rw [if_neg h1, if_neg h2, if_neg h3, if_neg h4, if_neg h5, if_neg h6] at h
  exact absurd rfl h
 ·intro h
  simp only [Bool.or_eq_true, beq_iff_eq] at h
  rcases h with ((((h | h) | h) | h) | h) | h <;> rw [h] <;> decide
theorem lowerL_twice (s : Str) : lowerL (lowerL s) = lowerL s := by
 unfold lowerL Lib.toLowerA
 rw [List.map_map]
 refine List.map_congr_left fun b _ => ?_
 show Lib.lowerB (Lib.lowerB b) = Lib.lowerB b
 by_cases h : Lib.isUpperB b = true
 ·have e : Lib.lowerB b = b + 32 := if_pos h
  rw [e]
  refine if_neg ?_
  unfold Lib.isUpperB at h |-
  simp only [Bool.and_eq_true, decide_eq_true_eq, UInt8.le_iff_toNat_le] at h |-
  rw [UInt8.toNat_add]
  have e1 : (65 : UInt8).toNat = 65 := rfl
  have e2 : (90 : UInt8).toNat = 90 := rfl
  have e3 : (32 : UInt8).toNat = 32 := rfl
  omega
 ·have e : Lib.lowerB b = b := if_neg h
  rw [e, e]
theorem kindOf_lower (v : Str) : kindOf (lowerL v) = kindOf v := by unfold kindOf; rw [lowerL_twice]
theorem isFormat_named (site : SiteM) (v : Str) : isFormat site v [] = formatNamed site.formats v := by
 unfold isFormat formatNamed
 congr 1
 funext f
 simp

/-- The word is told as it is. -/
def customR (r : ReadM) (word x : Str) (at_ : Int) : ReadM := { r.identify word at_ with w := { (r.identify word at_).w with custom := x } }
theorem custom_sim {site : SiteM} {comp : Str} {p : PathS} {r : ReadM} (h : Sim site comp p r) (id : Nat × Nat) (hw : isWrap (sub p.s id) = true) (at_ : Int) :
  Sim site comp { p.addKnown id with custom := (p.known.length : Int) } (customR r (sub p.s id) (innerOf (sub p.s id)) at_) := by
 have a := h.add id _ rfl at_
 have hne : sub p.s id ≠ [] := fun e => by rw [e] at hw; cases hw
 exact ⟨a.cmp, a.lys, a.sho, a.ids, a.unk, a.ext, a.exn, a.lay, a.lng, a.lgs, a.fmt, a.knd, a.bas, ⟨_, h.new hne, (trim_inner hw).symm⟩, a.pfm, a.pkn, a.ply, a.dis⟩

theorem wrapper_sim {site : SiteM} {comp : Str} {p : PathS} {r : ReadM} (hs : Words site) (h : Sim site comp p r) (id : Nat × Nat) (h2 : id.2 <= p.s.length) (hw : isWrap (sub p.s id) = true)
  (ht : comp = kLayouts -> ∀ q ∈ tagsList, startsL (lowerL (innerOf (sub p.s id))) q = true -> (innerOf (sub p.s id)).length ≠ q.length) (numDots : Int) (isLast : Bool) (at_ : Int) :
  ∃ q, PathS.word site comp p id numDots isLast = (q, true) /\ Sim site comp q (ReadM.wrapper site r (sub p.s id) (innerOf (sub p.s id)) at_) /\ q.s = p.s /\ q.nameHigh = p.nameHigh /\ Core p q /\
   (ReadM.wrapper site r (sub p.s id) (innerOf (sub p.s id)) at_).marks = r.marks ++ [at_] /\ (ReadM.wrapper site r (sub p.s id) (innerOf (sub p.s id)) at_).points = r.points := by
 have hl2 : 2 < (sub p.s id).length := by
  unfold isWrap at hw
  simp only [Bool.and_eq_true, decide_eq_true_eq] at hw
  exact hw.1.1
 have hsub : ∀ n, sub p.s (id.1 + 1 + n, id.2 - 1) = (innerOf (sub p.s id)).drop n := fun n => sub_inner h2 n hl2
 have hcu := custom_sim h id hw at_
 obtain ⟨x, hx⟩ : ∃ x, x = innerOf (sub p.s id) := ⟨_, rfl⟩
 have hword : PathS.word site comp p id numDots isLast = (match (if parsePrefixM x ≠ [] then PathS.applyPrefix site comp (parsePrefixM x) p (id.1 + 1 + (parsePrefixM x).length, id.2 - 1) else none) with
   | some p' => (p', true)
   | none => ({ p.addKnown id with custom := p.known.length }, true)) := by
  unfold PathS.word
  dsimp only
  rw [if_pos hw, hx]
  rfl
 rw [<- hx] at hsub hcu ht |-
 generalize sub p.s id = word at hcu |-
 have hR : r.layouts = (comp == kLayouts) := h.lys
 have hdef : ReadM.wrapper site r word x at_ = match tagged x pLanguage with
   | some v => if amongL site.languages (lowerL v) || amongL site.disabled (lowerL v) then { r.identify v at_ with w := { (r.identify v at_).w with langs := r.w.langs ++ [v], disabled := r.w.disabled || !amongL site.languages (lowerL v) } } else
     (if r.layouts then
      match tagged x pFormat with
      | some v => if formatNamed site.formats (lowerL v) then { r.identify v at_ with w := { (r.identify v at_).w with format := v } } else
       match tagged x pKind with
       | some v => if isKindL v then { r.identify v at_ with w := { (r.identify v at_).w with kind := v } } else
        match tagged x pLayout with
        | some v => { r.identify v at_ with w := { (r.identify v at_).w with layout := v } }
        | none => customR r word x at_
       | none => match tagged x pLayout with
        | some v => { r.identify v at_ with w := { (r.identify v at_).w with layout := v } }
        | none => customR r word x at_
      | none => match tagged x pKind with
       | some v => if isKindL v then { r.identify v at_ with w := { (r.identify v at_).w with kind := v } } else
        match tagged x pLayout with
        | some v => { r.identify v at_ with w := { (r.identify v at_).w with layout := v } }
        | none => customR r word x at_
       | none => match tagged x pLayout with
        | some v => { r.identify v at_ with w := { (r.identify v at_).w with layout := v } }
        | none => customR r word x at_
     else customR r word x at_)
   | none => (if r.layouts then
      match tagged x pFormat with
      | some v => if formatNamed site.formats (lowerL v) then { r.identify v at_ with w := { (r.identify v at_).w with format := v } } else
       match tagged x pKind with
       | some v => if isKindL v then { r.identify v at_ with w := { (r.identify v at_).w with kind := v } } else
        match tagged x pLayout with
        | some v => { r.identify v at_ with w := { (r.identify v at_).w with layout := v } }
        | none => customR r word x at_
       | none => match tagged x pLayout with
        | some v => { r.identify v at_ with w := { (r.identify v at_).w with layout := v } }
        | none => customR r word x at_
      | none => match tagged x pKind with
       | some v => if isKindL v then { r.identify v at_ with w := { (r.identify v at_).w with kind := v } } else
        match tagged x pLayout with
        | some v => { r.identify v at_ with w := { (r.identify v at_).w with layout := v } }
        | none => customR r word x at_
       | none => match tagged x pLayout with
        | some v => { r.identify v at_ with w := { (r.identify v at_).w with layout := v } }
        | none => customR r word x at_
     else customR r word x at_) := rfl
 generalize ReadM.wrapper site r word x at_ = WR at hdef |-
 -- the word told as it is
 have asCustom : (if parsePrefixM x ≠ [] then PathS.applyPrefix site comp (parsePrefixM x) p (id.1 + 1 + (parsePrefixM x).length, id.2 - 1) else none) = none -> WR = customR r word x at_ ->
   ∃ q, PathS.word site comp p id numDots isLast = (q, true) /\ Sim site comp q (WR) /\ q.s = p.s /\ q.nameHigh = p.nameHigh /\ Core p q /\
   (WR).marks = r.marks ++ [at_] /\ (WR).points = r.points := by
  intro e1 e2
  rw [e1] at hword
  exact ⟨_, hword, by rw [e2]; exact hcu, rfl, rfl, ⟨rfl, rfl, rfl, rfl, rfl, rfl, rfl⟩, by rw [e2]; rfl, by rw [e2]; rfl⟩
 rcases parsePrefix_cases x with ⟨s1, e, t1, t2, t3⟩ | ⟨t0, t1, t2, t3, e⟩ | ⟨s1, e, t0, t2, t3⟩ | ⟨s1, e, t0, t1, t3⟩ | ⟨s1, e, t0, t1, t2⟩
 ·-- a language
  rw [e] at hword asCustom
  have hv := hsub pLanguage.length
  have ht0 := tagged_some s1
  generalize hvv : x.drop pLanguage.length = v at hv ht0
  have hap : PathS.applyPrefix site comp pLanguage p (id.1 + 1 + pLanguage.length, id.2 - 1) = if amongL site.languages (lowerL v) then some { p.addKnown (id.1 + 1 + pLanguage.length, id.2 - 1) with langs := p.langs ++ [p.known.length] }
    else if amongL site.disabled (lowerL v) then some { p.addKnown (id.1 + 1 + pLanguage.length, id.2 - 1) with langs := p.langs ++ [p.known.length], disabled := true } else none := by
   unfold PathS.applyPrefix
   dsimp only
   rw [if_pos rfl, hv]
  rw [if_pos (by decide : pLanguage ≠ []), hap] at hword asCustom
  rw [ht0] at hdef
  dsimp only at hdef
  cases hL : amongL site.languages (lowerL v) with
  | true =>
   have hne : v ≠ [] := lowerL_nil (hs.lang _ hL)
   rw [hL] at hword hdef
   rw [hdef]
   have a := h.add (id.1 + 1 + pLanguage.length, id.2 - 1) v hv at_
   refine ⟨_, hword, ?_, rfl, rfl, ⟨rfl, rfl, rfl, rfl, rfl, rfl, rfl⟩, rfl, rfl⟩
   exact ⟨a.cmp, a.lys, a.sho, a.ids, a.unk, a.ext, a.exn, a.lay, a.lng, a.lgs.snoc (h.new hne), a.fmt, a.knd, a.bas, a.cus, a.pfm, a.pkn, a.ply, by show (r.w.disabled || !true) = p.disabled; rw [h.dis]; simp⟩
  | false =>
   cases hD : amongL site.disabled (lowerL v) with
   | true =>
    have hne : v ≠ [] := lowerL_nil (hs.dis _ hD)
    rw [hL, hD] at hword hdef
    rw [hdef]
    have a := h.add (id.1 + 1 + pLanguage.length, id.2 - 1) v hv at_
    refine ⟨_, hword, ?_, rfl, rfl, ⟨rfl, rfl, rfl, rfl, rfl, rfl, rfl⟩, rfl, rfl⟩
    exact ⟨a.cmp, a.lys, a.sho, a.ids, a.unk, a.ext, a.exn, a.lay, a.lng, a.lgs.snoc (h.new hne), a.fmt, a.knd, a.bas, a.cus, a.pfm, a.pkn, a.ply, by show (r.w.disabled || !false) = true; simp⟩
   | false =>
    refine asCustom ?_ ?_
    ·rw [hL, hD]; rfl
    ·rw [hdef, hL, hD, t1, t2, t3]
     cases r.layouts <;> rfl
 ·-- none that tells
  refine asCustom ?_ ?_
  ·rcases e with e | e | e <;> rw [e]
   ·rfl
   ·rfl
   ·rfl
  ·rw [hdef, t0, t1, t2, t3]
   cases r.layouts <;> rfl
 ·-- an output format
  rw [e] at hword asCustom
  have hv := hsub pFormat.length
  have ht1 := tagged_some s1
  have hvne : comp = kLayouts -> x.drop pFormat.length ≠ [] := fun hc e => by
   have h1 := ht hc pFormat (by decide) s1
   have h3 := startsL_len s1
   rw [lowerL_len] at h3
   have := congrArg List.length e
   rw [List.length_drop] at this
   simp only [List.length_nil] at this
   omega
  generalize hvv : x.drop pFormat.length = v at hv ht1 hvne
  have hap : PathS.applyPrefix site comp pFormat p (id.1 + 1 + pFormat.length, id.2 - 1) = if comp = kLayouts /\ formatNamed site.formats (lowerL v) = true then some { p.addKnown (id.1 + 1 + pFormat.length, id.2 - 1) with pfmt := p.known.length } else none := by
   unfold PathS.applyPrefix
   dsimp only
   rw [if_neg (by decide), if_pos rfl, hv, isFormat_named]
  rw [if_pos (by decide : pFormat ≠ []), hap] at hword asCustom
  rw [t0, ht1] at hdef
  dsimp only at hdef
  by_cases hc : comp = kLayouts
  ·have hlb : r.layouts = true := by rw [hR, hc]; decide
   rw [hlb] at hdef
   cases hF : formatNamed site.formats (lowerL v) with
   | true =>
    rw [if_pos ⟨hc, hF⟩] at hword
    rw [hF] at hdef
    rw [hdef]
    have a := h.add (id.1 + 1 + pFormat.length, id.2 - 1) v hv at_
    refine ⟨_, hword, ?_, rfl, rfl, ⟨rfl, rfl, rfl, rfl, rfl, rfl, rfl⟩, rfl, rfl⟩
    exact ⟨a.cmp, a.lys, a.sho, a.ids, a.unk, a.ext, a.exn, a.lay, a.lng, a.lgs, a.fmt, a.knd, a.bas, a.cus, h.new (hvne hc), a.pkn, a.ply, a.dis⟩
   | false =>
    refine asCustom ?_ ?_
    ·rw [if_neg (fun q => by rw [hF] at q; cases q.2)]
    ·rw [hdef, hF, t2, t3]; rfl
  ·have hlb : r.layouts = false := by rw [hR]; simpa using hc
   rw [hlb] at hdef
   refine asCustom ?_ hdef
   rw [if_neg (fun q => hc q.1)]
 ·-- a kind
  rw [e] at hword asCustom
  have hv := hsub pKind.length
  have ht1 := tagged_some s1
  have hvne : comp = kLayouts -> x.drop pKind.length ≠ [] := fun hc e => by
   have h1 := ht hc pKind (by decide) s1
   have h3 := startsL_len s1
   rw [lowerL_len] at h3
   have := congrArg List.length e
   rw [List.length_drop] at this
   simp only [List.length_nil] at this
   omega
  generalize hvv : x.drop pKind.length = v at hv ht1 hvne
  have hap : PathS.applyPrefix site comp pKind p (id.1 + 1 + pKind.length, id.2 - 1) = if comp = kLayouts /\ kindOf v ≠ [] then some { p.addKnown (id.1 + 1 + pKind.length, id.2 - 1) with pkind := p.known.length } else none := by
   unfold PathS.applyPrefix
   dsimp only
   rw [if_neg (by decide), if_neg (by decide), if_pos rfl, hv, kindOf_lower]
  rw [if_pos (by decide : pKind ≠ []), hap] at hword asCustom
  rw [t0, t1, ht1] at hdef
  dsimp only at hdef
  by_cases hc : comp = kLayouts
  ·have hlb : r.layouts = true := by rw [hR, hc]; decide
   rw [hlb] at hdef
   cases hF : isKindL v with
   | true =>
    rw [if_pos ⟨hc, (kindOf_is v).2 hF⟩] at hword
    rw [hF] at hdef
    rw [hdef]
    have a := h.add (id.1 + 1 + pKind.length, id.2 - 1) v hv at_
    refine ⟨_, hword, ?_, rfl, rfl, ⟨rfl, rfl, rfl, rfl, rfl, rfl, rfl⟩, rfl, rfl⟩
    exact ⟨a.cmp, a.lys, a.sho, a.ids, a.unk, a.ext, a.exn, a.lay, a.lng, a.lgs, a.fmt, a.knd, a.bas, a.cus, a.pfm, h.new (hvne hc), a.ply, a.dis⟩
   | false =>
    refine asCustom ?_ ?_
    ·rw [if_neg (fun q => by have := (kindOf_is v).1 q.2; rw [hF] at this; cases this)]
    ·rw [hdef, hF, t3]; rfl
  ·have hlb : r.layouts = false := by rw [hR]; simpa using hc
   rw [hlb] at hdef
   refine asCustom ?_ hdef
   rw [if_neg (fun q => hc q.1)]
 ·-- a layout
  rw [e] at hword asCustom
  have hv := hsub pLayout.length
  have ht1 := tagged_some s1
  have hvne : comp = kLayouts -> x.drop pLayout.length ≠ [] := fun hc e => by
   have h1 := ht hc pLayout (by decide) s1
   have h3 := startsL_len s1
   rw [lowerL_len] at h3
   have := congrArg List.length e
   rw [List.length_drop] at this
   simp only [List.length_nil] at this
   omega
  generalize hvv : x.drop pLayout.length = v at hv ht1 hvne
  have hap : PathS.applyPrefix site comp pLayout p (id.1 + 1 + pLayout.length, id.2 - 1) = if comp = kLayouts then some { p.addKnown (id.1 + 1 + pLayout.length, id.2 - 1) with play := p.known.length } else none := by
   unfold PathS.applyPrefix
   dsimp only
   rw [if_neg (by decide), if_neg (by decide), if_neg (by decide), if_pos rfl]
  rw [if_pos (by decide : pLayout ≠ []), hap] at hword asCustom
  rw [t0, t1, t2, ht1] at hdef
  dsimp only at hdef
  by_cases hc : comp = kLayouts
  ·have hlb : r.layouts = true := by rw [hR, hc]; decide
   rw [hlb] at hdef
   rw [if_pos hc] at hword
   rw [hdef]
   have a := h.add (id.1 + 1 + pLayout.length, id.2 - 1) v hv at_
   refine ⟨_, hword, ?_, rfl, rfl, ⟨rfl, rfl, rfl, rfl, rfl, rfl, rfl⟩, rfl, rfl⟩
   exact ⟨a.cmp, a.lys, a.sho, a.ids, a.unk, a.ext, a.exn, a.lay, a.lng, a.lgs, a.fmt, a.knd, a.bas, a.cus, a.pfm, a.pkn, h.new (hvne hc), a.dis⟩
  ·have hlb : r.layouts = false := by rw [hR]; simpa using hc
   rw [hlb] at hdef
   refine asCustom ?_ hdef
   rw [if_neg hc]

/-! ### Plain words -/
theorem formatBeside_eq (site : SiteM) (w e : Str) (h : e ≠ []) : isFormat site w e = formatBeside site.formats w e := by
 unfold isFormat formatBeside
 congr 1
 funext f
 rw [show (e == []) = false by rw [beq_eq_false_iff_ne]; exact h]
 simp
theorem formatBeside_named {l : List (Str × Str)} {w e : Str} (h : formatBeside l w e = true) : formatNamed l w = true := by
 unfold formatBeside at h
 unfold formatNamed
 rw [List.any_eq_true] at h |-
 obtain ⟨f, hf, h1⟩ := h
 rw [Bool.and_eq_true] at h1
 exact ⟨f, hf, h1.1⟩
theorem Sim.idStr0 {site : SiteM} {comp : Str} {p : PathS} {r : ReadM} (h : Sim site comp p r) : p.idStr 0 = r.w.ext := by
 have h1 := h.ext
 have h2 := h.idsPos
 rw [h.ids, List.length_map] at h2
 rw [h.ids, List.getElem?_map, List.getElem?_eq_getElem h2] at h1
 unfold PathS.idStr
 rw [if_neg (by omega), show (0 : Int).toNat = 0 from rfl, List.getD_eq_getElem?_getD, List.getElem?_eq_getElem h2]
 exact Option.some.inj h1

theorem plain_sim {site : SiteM} {comp : Str} {p : PathS} {r : ReadM} (hs : Words site) (h : Sim site comp p r) (id : Nat × Nat) (hw : isWrap (sub p.s id) = false)
  (numDots : Int) (isLast : Bool) (at_ : Int) (hpts : decide (1 < numDots) = decide (2 <= r.points)) (hlast : isLast = decide (at_ < 0)) :
  ∃ q b, PathS.word site comp p id numDots isLast = (q, b) /\ Sim site comp q (ReadM.plain site r (sub p.s id) at_) /\ q.s = p.s /\ q.nameHigh = p.nameHigh /\ Core p q /\
   (ReadM.plain site r (sub p.s id) at_).marks = (if b then r.marks ++ [at_] else r.marks) /\ (ReadM.plain site r (sub p.s id) at_).points = r.points := by
 have hk : p.known ≠ [] := fun e => by have := h.idsPos; rw [h.ids, e] at this; exact absurd this (by simp)
 obtain ⟨w, hwd⟩ : ∃ w, w = sub p.s id := ⟨_, rfl⟩
 obtain ⟨c1, hc1⟩ : ∃ c, c = (decide (1 < numDots) && (p.lang == -1) && (comp == kContent || (comp == kLayouts)) && (amongL site.languages w || amongL site.disabled w)) := ⟨_, rfl⟩
 obtain ⟨c2, hc2⟩ : ∃ c, c = ((comp == kLayouts) && isFormat site w (p.idStr 0)) := ⟨_, rfl⟩
 obtain ⟨c3, hc3⟩ : ∃ c, c = ((p.kind == -1) && (comp == kLayouts) && (kindOf w != [])) := ⟨_, rfl⟩
 obtain ⟨c4, hc4⟩ : ∃ c, c = (w == kBaseof) := ⟨_, rfl⟩
 obtain ⟨c5, hc5⟩ : ∃ c, c = (if p.typ = 7 then !isLast && (comp == kLayouts) else (comp == kLayouts)) := ⟨_, rfl⟩
 have hword : PathS.word site comp p id numDots isLast = if c1 then ({ p.addKnown id with lang := p.known.length, disabled := p.disabled || !amongL site.languages w }, true)
   else if c2 then ({ p.addKnown id with fmt := p.known.length }, true)
   else if c3 then ({ p.addKnown id with kind := p.known.length }, true)
   else if c4 then ({ p.addKnown id with baseof := p.known.length }, true)
   else if c5 then (if p.lay = -1 then ({ p.addKnown id with lay := p.known.length }, true)
    else ({ p with unknown := p.unknown ++ [p.known.getD p.lay.toNat (0, 0)], known := p.known.set p.lay.toNat id }, true))
   else ({ p with unknown := p.unknown ++ [id] }, false) := by
  unfold PathS.word
  dsimp only
  rw [if_neg (by rw [hw]; decide), if_neg hk, hc1, hc2, hc3, hc4, hc5, hwd]
 have hplain : ReadM.plain site r w at_ = if c1 then { r.identify w at_ with lang := w, hasLang := true, w := { (r.identify w at_).w with disabled := r.w.disabled || !amongL site.languages w } }
   else if c2 then { r.identify w at_ with format := w }
   else if c3 then { r.identify w at_ with kind := w, hasKind := true }
   else if c4 then { r.identify w at_ with baseof := true }
   else if c5 then (if r.layoutAt < 0 then { r.identify w at_ with layoutAt := r.w.ids.length, layout := w }
    else { r with w := { r.w with unknown := r.w.unknown ++ [r.layout], ids := r.w.ids.set r.layoutAt.toNat w }, marks := r.marks ++ [at_], layout := w })
   else { r with w := { r.w with unknown := r.w.unknown ++ [w] } } := by
  have e1 : ((r.w.component == kContent || r.layouts) && decide (2 <= r.points) && !r.hasLang && (amongL site.languages w || amongL site.disabled w)) = c1 := by
   rw [hc1, h.cmp, h.lys, h.lng.2, hpts]
   have : (!(p.lang != -1)) = (p.lang == -1) := by simp [bne]
   rw [this]
   generalize (p.lang == -1) = a1
   generalize decide (2 <= r.points) = a2
   generalize (comp == kContent || comp == kLayouts) = a3
   cases a1 <;> cases a2 <;> cases a3 <;> rfl
  have e2 : (r.layouts && formatBeside site.formats w r.w.ext) = c2 := by rw [hc2, h.lys, h.idStr0, formatBeside_eq _ _ _ h.exn]
  have e3 : (r.layouts && !r.hasKind && isKindL w) = c3 := by
   rw [hc3, h.lys, h.knd.2]
   have a1 : (!(p.kind != -1)) = (p.kind == -1) := by simp [bne]
   have a2 : isKindL w = (kindOf w != []) := by
    cases e : isKindL w with
    | true => have := (kindOf_is w).2 e; simpa using this
    | false =>
     cases e2 : (kindOf w != []) with
     | false => rfl
     | true =>
      have := (kindOf_is w).1 (by simpa using e2)
      rw [e] at this; cases this
   rw [a1, a2]
   generalize (p.kind == -1) = b1
   generalize (comp == kLayouts) = b2
   cases b1 <;> cases b2 <;> rfl
  have e5 : (r.layouts && !(r.shortcode && decide (at_ < 0))) = c5 := by
   rw [hc5, h.lys, h.sho, hlast]
   by_cases e : p.typ = 7
   ·rw [if_pos e, decide_eq_true e]
    generalize decide (at_ < 0) = b1
    generalize (comp == kLayouts) = b2
    cases b1 <;> cases b2 <;> rfl
   ·rw [if_neg e, decide_eq_false e]
    generalize (comp == kLayouts) = b2
    cases b2 <;> rfl
  unfold ReadM.plain
  dsimp only
  rw [e1, e2, e3, e5, hc4]
  rfl
 rw [<- hwd]
 have hne1 : c1 = true -> w ≠ [] := fun e => by
  rw [hc1] at e
  simp only [Bool.and_eq_true, Bool.or_eq_true] at e
  rcases e.2 with e | e
  ·exact hs.lang _ e
  ·exact hs.dis _ e
 have hne2 : c2 = true -> w ≠ [] := fun e => by
  rw [hc2, Bool.and_eq_true, h.idStr0, formatBeside_eq _ _ _ h.exn] at e
  exact hs.fmt _ (formatBeside_named e.2)
 have hne3 : c3 = true -> w ≠ [] := fun e e2 => by
  rw [hc3, Bool.and_eq_true, e2] at e
  exact absurd e.2 (by decide)
 have ha := h.add id w hwd.symm at_
 have hkl : ((p.known.length : Int) != -1) = true := by rw [bne_iff_ne]; omega
 rw [hword]
 clear hword hc1 hc2 hc3 hc4 hc5
 rw [hplain]
 clear hplain
 cases c1 with
 | true => exact ⟨_, _, rfl, ⟨ha.cmp, ha.lys, ha.sho, ha.ids, ha.unk, ha.ext, ha.exn, ha.lay, ⟨h.new (hne1 rfl), hkl.symm⟩, ha.lgs, ha.fmt, ha.knd, ha.bas, ha.cus, ha.pfm, ha.pkn, ha.ply, by show (r.w.disabled || _) = (p.disabled || _); rw [h.dis]⟩, rfl, rfl, ⟨rfl, rfl, rfl, rfl, rfl, rfl, rfl⟩, rfl, rfl⟩
 | false =>
 cases c2 with
 | true => exact ⟨_, _, rfl, ⟨ha.cmp, ha.lys, ha.sho, ha.ids, ha.unk, ha.ext, ha.exn, ha.lay, ha.lng, ha.lgs, .inr ⟨hne2 rfl, h.new (hne2 rfl)⟩, ha.knd, ha.bas, ha.cus, ha.pfm, ha.pkn, ha.ply, ha.dis⟩, rfl, rfl, ⟨rfl, rfl, rfl, rfl, rfl, rfl, rfl⟩, rfl, rfl⟩
 | false =>
 cases c3 with
 | true => exact ⟨_, _, rfl, ⟨ha.cmp, ha.lys, ha.sho, ha.ids, ha.unk, ha.ext, ha.exn, ha.lay, ha.lng, ha.lgs, ha.fmt, ⟨h.new (hne3 rfl), hkl.symm⟩, ha.bas, ha.cus, ha.pfm, ha.pkn, ha.ply, ha.dis⟩, rfl, rfl, ⟨rfl, rfl, rfl, rfl, rfl, rfl, rfl⟩, rfl, rfl⟩
 | false =>
 cases c4 with
 | true => exact ⟨_, _, rfl, ⟨ha.cmp, ha.lys, ha.sho, ha.ids, ha.unk, ha.ext, ha.exn, ha.lay, ha.lng, ha.lgs, ha.fmt, ha.knd, ⟨hkl.symm, by show (-1 : Int) <= (p.known.length : Int); omega⟩, ha.cus, ha.pfm, ha.pkn, ha.ply, ha.dis⟩, rfl, rfl, ⟨rfl, rfl, rfl, rfl, rfl, rfl, rfl⟩, rfl, rfl⟩
 | false =>
 cases c5 with
 | false =>
  refine ⟨_, _, rfl, ⟨h.cmp, h.lys, h.sho, h.ids, ?_, h.ext, h.exn, h.lay, h.lng, h.lgs, h.fmt, h.knd, h.bas, h.cus, h.pfm, h.pkn, h.ply, h.dis⟩, rfl, rfl, ⟨rfl, rfl, rfl, rfl, rfl, rfl, rfl⟩, rfl, rfl⟩
  show r.w.unknown ++ [w] = (p.unknown ++ [id]).map (sub p.s)
  rw [List.map_append, List.map_singleton, <- hwd, h.unk]
 | true =>
 rcases h.lay.2 with ⟨e1, e2⟩ | ⟨k, e1, e2, e3, e4⟩
 ·have hla : r.layoutAt < 0 := by rw [h.lay.1, e1]; decide
  have g : Grow r.w.ids (r.w.ids ++ [w]) p.lay (p.known.length : Int) := ⟨by simp, fun k hk _ => List.getElem?_append_left hk, .inr ⟨e1, h.len⟩⟩
  have hp := h.idsPos
  refine ⟨{ p.addKnown id with lay := p.known.length }, true, ?_, ?_, rfl, rfl, ⟨rfl, rfl, rfl, rfl, rfl, rfl, rfl⟩, ?_, ?_⟩
  ·show (if p.lay = -1 then _ else _) = _
   rw [if_pos e1]
  ·show Sim site comp _ (if r.layoutAt < 0 then _ else _)
   rw [if_pos hla]
   refine ⟨h.cmp, h.lys, h.sho, ha.ids, ha.unk, ha.ext, h.exn, ⟨h.len.symm, .inr ⟨r.w.ids.length, h.len, hp, ?_, ?_⟩⟩, ⟨h.lng.1.grow g, h.lng.2⟩, h.lgs.grow g, ?_, ⟨h.knd.1.grow g, h.knd.2⟩, h.bas, ?_, h.pfm.grow g, h.pkn.grow g, h.ply.grow g, h.dis⟩
   ·show r.w.ids.length < (r.w.ids ++ [w]).length
    rw [List.length_append, List.length_singleton]; omega
   ·show (r.w.ids ++ [w])[r.w.ids.length]? = some w
    simp
   ·rcases h.fmt with e | ⟨a, b⟩
    ·exact .inl e
    ·exact .inr ⟨a, b.grow g⟩
   ·obtain ⟨cw, a, b⟩ := h.cus
    exact ⟨cw, a.grow g, b⟩
  ·show (if r.layoutAt < 0 then _ else _ : ReadM).marks = _
   rw [if_pos hla]; rfl
  ·show (if r.layoutAt < 0 then _ else _ : ReadM).points = _
   rw [if_pos hla]; rfl
 ·have hla : ¬ r.layoutAt < 0 := by rw [h.lay.1, e1]; omega
  have hl1 : ¬ p.lay = -1 := by rw [e1]; omega
  have htn : r.layoutAt.toNat = k := by rw [h.lay.1, e1]; rfl
  have htp : p.lay.toNat = k := by rw [e1]; rfl
  have g : Grow r.w.ids (r.w.ids.set k w) p.lay p.lay := by rw [e1]; exact Grow.setLay _ _ _
  have hkp : k < p.known.length := by have := h.len; omega
  refine ⟨{ p with unknown := p.unknown ++ [p.known.getD p.lay.toNat (0, 0)], known := p.known.set p.lay.toNat id }, true, ?_, ?_, rfl, rfl, ⟨rfl, rfl, rfl, rfl, rfl, rfl, rfl⟩, ?_, ?_⟩
  ·show (if p.lay = -1 then _ else _) = _
   rw [if_neg hl1]
  ·show Sim site comp _ (if r.layoutAt < 0 then _ else _)
   rw [if_neg hla, htn, htp]
   refine ⟨h.cmp, h.lys, h.sho, ?_, ?_, ?_, h.exn, ⟨h.lay.1, .inr ⟨k, e1, e2, ?_, ?_⟩⟩, ⟨h.lng.1.grow g, h.lng.2⟩, h.lgs.grow g, ?_, ⟨h.knd.1.grow g, h.knd.2⟩, h.bas, ?_, h.pfm.grow g, h.pkn.grow g, h.ply.grow g, h.dis⟩
   ·show r.w.ids.set k w = (p.known.set k id).map (sub p.s)
    rw [List.map_set, <- hwd, h.ids]
   ·show r.w.unknown ++ [r.layout] = (p.unknown ++ [p.known.getD k (0, 0)]).map (sub p.s)
    rw [List.map_append, List.map_singleton, h.unk]
    congr 2
    have := e4
    rw [h.ids, List.getElem?_map, List.getElem?_eq_getElem hkp] at this
    rw [List.getD_eq_getElem?_getD, List.getElem?_eq_getElem hkp]
    exact (Option.some.inj this).symm
   ·show (r.w.ids.set k w)[0]? = _
    rw [List.getElem?_set_ne (by omega)]; exact h.ext
   ·show k < (r.w.ids.set k w).length
    rw [List.length_set]; exact e3
   ·show (r.w.ids.set k w)[k]? = some w
    rw [List.getElem?_set_self e3]
   ·rcases h.fmt with e | ⟨a, b⟩
    ·exact .inl e
    ·exact .inr ⟨a, b.grow g⟩
   ·obtain ⟨cw, a, b⟩ := h.cus
    exact ⟨cw, a.grow g, b⟩
  ·show (if r.layoutAt < 0 then _ else _ : ReadM).marks = _
   rw [if_neg hla]; rfl
  ·show (if r.layoutAt < 0 then _ else _ : ReadM).points = _
   rw [if_neg hla]

end Go.Proofs.YtjkecadfakjanaaGreatDoor
