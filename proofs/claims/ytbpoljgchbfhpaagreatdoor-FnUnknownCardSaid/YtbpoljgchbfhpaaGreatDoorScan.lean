/- The scan of a path in plain Lean: what each word and each place keeps, up to a finished path (PathOK). No program walked here; no condition. -/
import Derived.Test.YtbpoljgchbfhpaaGreatDoorWord
set_option linter.unusedVariables false
set_option linter.unusedSimpArgs false
namespace Go.Proofs.YtbpoljgchbfhpaaGreatDoor

/-- What a word never turns. -/
def Core (p q : PathS) : Prop := q.s = p.s ∧ q.comp = p.comp ∧ q.typ = p.typ ∧ q.cLow = p.cLow ∧ q.cHigh = p.cHigh ∧ q.sHigh = p.sHigh ∧ q.trim = p.trim
/-- A path under way: at most n words so far, each behind place lo. -/
structure PInv (s : Str) (lo n : Nat) (p : PathS) : Prop where
  ps : p.s = s
  kl : p.known.length ≤ n
  ul : p.unknown.length ≤ n
  ll : p.langs.length ≤ n
  kw : Within s p.known
  uw : Within s p.unknown
  fm : -1 ≤ p.fmt
  la : -1 ≤ p.lang
  ly : p.lay = -1 ∨ 1 ≤ p.lay ∧ p.lay < (p.known.length : Int)
  hd : ∀ x, p.known.head? = some x → lo + 1 ≤ x.1

theorem Core.refl (p : PathS) : Core p p := ⟨rfl, rfl, rfl, rfl, rfl, rfl, rfl⟩
theorem within_add {s : Str} {l : List (Nat × Nat)} {id : Nat × Nat} (h : Within s l) (h1 : id.1 ≤ id.2) (h2 : id.2 ≤ s.length) : Within s (l ++ [id]) := by
  intro x hx
  rw [List.mem_append, List.mem_singleton] at hx
  rcases hx with hx | rfl
  · exact h x hx
  · exact ⟨h1, h2⟩
theorem within_set {s : Str} {l : List (Nat × Nat)} {id : Nat × Nat} (i : Nat) (h : Within s l) (h1 : id.1 ≤ id.2) (h2 : id.2 ≤ s.length) : Within s (l.set i id) := by
  intro x hx
  rcases List.mem_or_eq_of_mem_set hx with hx | rfl
  · exact h x hx
  · exact ⟨h1, h2⟩
theorem head_add {l : List (Nat × Nat)} {id : Nat × Nat} (x : Nat × Nat) (h : (l ++ [id]).head? = some x) : l = [] ∧ x = id ∨ l ≠ [] ∧ l.head? = some x := by
  cases l with
  | nil => exact .inl ⟨rfl, by simpa using h.symm⟩
  | cons y t => exact .inr ⟨by simp, by simpa using h⟩

/-- An identifier more. -/
theorem PInv.add {s : Str} {lo n : Nat} {p : PathS} (h : PInv s lo n p) (q : PathS) (id : Nat × Nat) (h1 : id.1 ≤ id.2) (h2 : id.2 ≤ s.length) (h3 : p.known = [] → lo + 1 ≤ id.1)
    (qs : q.s = p.s) (qk : q.known = p.known ++ [id]) (qu : q.unknown = p.unknown) (ql : q.langs.length ≤ p.langs.length + 1) (qf : -1 ≤ q.fmt) (qa : -1 ≤ q.lang)
    (qy : q.lay = p.lay ∨ p.known ≠ [] ∧ q.lay = (p.known.length : Int)) : PInv s lo (n + 1) q := by
  have a1 := h.kl
  have a2 := h.ul
  have a3 := h.ll
  refine ⟨qs.trans h.ps, by rw [qk]; simp; omega, by rw [qu]; omega, by omega, by rw [qk]; exact within_add h.kw h1 h2, by rw [qu]; exact h.uw, qf, qa, ?_, ?_⟩
  · rw [qk, List.length_append]
    rcases qy with e | ⟨e1, e2⟩
    · rw [e]
      rcases h.ly with a | a
      · exact .inl a
      · exact .inr ⟨a.1, by simp; omega⟩
    · right
      rw [e2]
      have : 0 < p.known.length := List.length_pos_iff.2 e1
      exact ⟨by omega, by simp; omega⟩
  · intro x hx
    rw [qk] at hx
    rcases head_add x hx with ⟨e1, rfl⟩ | ⟨e1, e2⟩
    · exact h3 e1
    · exact h.hd x e2
theorem PInv.mono {s : Str} {lo n m : Nat} {p : PathS} (h : PInv s lo n p) (hm : n ≤ m) : PInv s lo m p :=
  ⟨h.ps, Nat.le_trans h.kl hm, Nat.le_trans h.ul hm, Nat.le_trans h.ll hm, h.kw, h.uw, h.fm, h.la, h.ly, h.hd⟩

/-- What a step makes. -/
def Good (s : Str) (lo n : Nat) (p : PathS) (q : PathS) : Prop := PInv s lo (n + 1) q ∧ Core p q ∧ q.known ≠ [] ∧ q.nameHigh = p.nameHigh
theorem core_add (p : PathS) (id : Nat × Nat) : Core p (p.addKnown id) := ⟨rfl, rfl, rfl, rfl, rfl, rfl, rfl⟩

theorem good_add {s : Str} {lo n : Nat} {p : PathS} (h : PInv s lo n p) (q : PathS) (id : Nat × Nat) (h1 : id.1 ≤ id.2) (h2 : id.2 ≤ s.length) (h3 : p.known = [] → lo + 1 ≤ id.1)
    (qc : Core p q) (qh : q.nameHigh = p.nameHigh) (qk : q.known = p.known ++ [id]) (qu : q.unknown = p.unknown) (ql : q.langs.length ≤ p.langs.length + 1) (qf : -1 ≤ q.fmt) (qa : -1 ≤ q.lang)
    (qy : q.lay = p.lay ∨ p.known ≠ [] ∧ q.lay = (p.known.length : Int)) : Good s lo n p q :=
  ⟨h.add q id h1 h2 h3 qc.1 qk qu ql qf qa qy, qc, by rw [qk]; simp, qh⟩

theorem apply_good (site : SiteM) (comp pre : Str) {s : Str} {lo n : Nat} {p : PathS} (h : PInv s lo n p) (id : Nat × Nat) (h1 : id.1 ≤ id.2) (h2 : id.2 ≤ s.length) (h3 : p.known = [] → lo + 1 ≤ id.1) :
    ∀ q, PathS.applyPrefix site comp pre p id = some q → Good s lo n p q := by
  intro q hq
  unfold PathS.applyPrefix at hq
  dsimp only at hq
  have hf := h.fm
  have ha := h.la
  repeat' split at hq
  all_goals first
    | (cases hq; done)
    | (obtain rfl := Option.some.inj hq
       refine good_add h _ id h1 h2 h3 ⟨rfl, rfl, rfl, rfl, rfl, rfl, rfl⟩ rfl rfl rfl ?_ ?_ ?_ (.inl rfl)
       · simp [PathS.addKnown]
       · exact hf
       · exact ha)

theorem wrapStep_good (site : SiteM) (comp : Str) {s : Str} {lo n : Nat} {p : PathS} (h : PInv s lo n p) (id : Nat × Nat) (h1 : id.1 ≤ id.2) (h2 : id.2 ≤ s.length) (h3 : p.known = [] → lo + 1 ≤ id.1)
    (hw : (wrapStep site comp p id).2 = true) : Good s lo n p (wrapStep site comp p id).1 := by
  unfold wrapStep at hw ⊢
  have hcu : Good s lo n p { p.addKnown id with custom := p.known.length } :=
    good_add h _ id h1 h2 h3 ⟨rfl, rfl, rfl, rfl, rfl, rfl, rfl⟩ rfl rfl rfl (by simp [PathS.addKnown]) h.fm h.la (.inl rfl)
  by_cases hi : isWrap (sub p.s id) = true
  · rw [if_pos hi]
    by_cases hp : parsePrefixM (innerOf (sub p.s id)) ≠ []
    · rw [if_pos hp]
      have hsp := (parsePrefix_spec _ hp).2
      have hl : (sub p.s id).length = id.2 - id.1 := by rw [h.ps]; simp [sub]; omega
      have h3l : 2 < (sub p.s id).length := by
        have : isWrap (sub p.s id) = (decide (2 < (sub p.s id).length) && List.isPrefixOf [95] (sub p.s id) && List.isSuffixOf [95] (sub p.s id)) := rfl
        rw [hi] at this
        by_cases h : 2 < (sub p.s id).length
        · exact h
        · rw [decide_eq_false h] at this; simp at this
      have hil : (innerOf (sub p.s id)).length = (sub p.s id).length - 2 := by simp [innerOf]; omega
      generalize hx : PathS.applyPrefix site comp (parsePrefixM (innerOf (sub p.s id))) p (id.1 + 1 + (parsePrefixM (innerOf (sub p.s id))).length, id.2 - 1) = x
      cases x with
      | none => exact hcu
      | some q => exact apply_good site comp _ h (id.1 + 1 + (parsePrefixM (innerOf (sub p.s id))).length, id.2 - 1) (by simp; omega) (by simp; omega) (fun e => by have := h3 e; simp; omega) q hx
    · rw [if_neg hp]; exact hcu
  · rw [if_neg hi] at hw
    cases hw

theorem Good.old {s : Str} {lo n : Nat} {p : PathS} (h : PInv s lo n p) (hk : p.known ≠ []) : Good s lo n p p := ⟨h.mono (Nat.le_succ n), Core.refl p, hk, rfl⟩

theorem restStep_good (site : SiteM) (comp : Str) {s : Str} {lo n : Nat} {p : PathS} (h : PInv s lo n p) (id : Nat × Nat) (h1 : id.1 ≤ id.2) (h2 : id.2 ≤ s.length) (h3 : p.known = [] → lo + 1 ≤ id.1) (numDots : Int) (isLast : Bool) :
    Good s lo n p (restStep site comp p id numDots isLast).1 := by
  unfold restStep
  by_cases hk : p.known = []
  · rw [if_pos hk]
    refine good_add h _ id h1 h2 h3 ⟨rfl, rfl, rfl, rfl, rfl, rfl, rfl⟩ rfl rfl rfl (by simp [extStep, PathS.addKnown]) ?_ h.la (.inl rfl)
    show -1 ≤ (if _ then (0 : Int) else p.fmt)
    have := h.fm
    split <;> omega
  · rw [if_neg hk]
    have hn : ∀ q : PathS × Bool, (q.2 = false → q.1 = p) → Good s lo n p q.1 → (∀ q', q' = langStep site (mayL comp p numDots) (sub p.s id) id p → True) → True := fun _ _ _ _ => trivial
    -- each step keeps: good, and not found means as it was
    have st : ∀ (q : PathS × Bool), (q.2 = false → q.1 = p) → Good s lo n p q.1 → ∀ (c : Bool) (r : PathS), Good s lo n p r → ((if (!q.2 && c) = true then (r, true) else q).2 = false → (if (!q.2 && c) = true then (r, true) else q).1 = p) ∧ Good s lo n p (if (!q.2 && c) = true then (r, true) else q).1 := by
      intro q e1 e2 c r e3
      split
      · exact ⟨(fun e => by cases e), e3⟩
      · exact ⟨e1, e2⟩
    have gad : ∀ (q : PathS), Core p q → q.nameHigh = p.nameHigh → q.known = p.known ++ [id] → q.unknown = p.unknown → q.langs = p.langs → -1 ≤ q.fmt → -1 ≤ q.lang → (q.lay = p.lay ∨ p.known ≠ [] ∧ q.lay = (p.known.length : Int)) → Good s lo n p q :=
      fun q a1 a2 a3 a4 a5 a6 a7 a8 => good_add h q id h1 h2 h3 a1 a2 a3 a4 (by rw [a5]; omega) a6 a7 a8
    have hf := h.fm
    have ha := h.la
    -- the language
    obtain ⟨q1, hq1⟩ : ∃ q, q = langStep site (mayL comp p numDots) (sub p.s id) id p := ⟨_, rfl⟩
    rw [← hq1]
    have g1 : (q1.2 = false → q1.1 = p) ∧ Good s lo n p q1.1 := by
      rw [hq1]; unfold langStep
      split
      · exact ⟨(fun e => by cases e), gad _ ⟨rfl, rfl, rfl, rfl, rfl, rfl, rfl⟩ rfl rfl rfl rfl hf (by show -1 ≤ (p.known.length : Int); omega) (.inl rfl)⟩
      · exact ⟨fun _ => rfl, Good.old h hk⟩
    clear hq1 st hn
    obtain ⟨q2, hq2⟩ : ∃ q, q = fmtStep site (comp == kLayouts) (sub p.s id) id q1 := ⟨_, rfl⟩
    rw [← hq2]
    have g2 : (q2.2 = false → q2.1 = p) ∧ Good s lo n p q2.1 := by
      rw [hq2]; unfold fmtStep
      split
      · rename_i hc
        have hqf : q1.2 = false := by simp only [Bool.and_eq_true, Bool.not_eq_true'] at hc; exact hc.1.1
        have e := g1.1 hqf
        rw [e]
        exact ⟨(fun e => by cases e), gad _ ⟨rfl, rfl, rfl, rfl, rfl, rfl, rfl⟩ rfl rfl rfl rfl (by show -1 ≤ (p.known.length : Int); omega) ha (.inl rfl)⟩
      · exact g1
    clear hq2 g1
    obtain ⟨q3, hq3⟩ : ∃ q, q = kindStep (mayK comp p) (sub p.s id) id q2 := ⟨_, rfl⟩
    rw [← hq3]
    have g3 : (q3.2 = false → q3.1 = p) ∧ Good s lo n p q3.1 := by
      rw [hq3]; unfold kindStep
      split
      · rename_i hc
        have hqf : q2.2 = false := by simp only [Bool.and_eq_true, Bool.not_eq_true'] at hc; exact hc.1.1
        have e := g2.1 hqf
        rw [e]
        exact ⟨(fun e => by cases e), gad _ ⟨rfl, rfl, rfl, rfl, rfl, rfl, rfl⟩ rfl rfl rfl rfl hf ha (.inl rfl)⟩
      · exact g2
    clear hq3 g2
    obtain ⟨q4, hq4⟩ : ∃ q, q = baseStep (sub p.s id) id q3 := ⟨_, rfl⟩
    rw [← hq4]
    have g4 : (q4.2 = false → q4.1 = p) ∧ Good s lo n p q4.1 := by
      rw [hq4]; unfold baseStep
      split
      · rename_i hc
        have hqf : q3.2 = false := by simp only [Bool.and_eq_true, Bool.not_eq_true'] at hc; exact hc.1
        have e := g3.1 hqf
        rw [e]
        exact ⟨(fun e => by cases e), gad _ ⟨rfl, rfl, rfl, rfl, rfl, rfl, rfl⟩ rfl rfl rfl rfl hf ha (.inl rfl)⟩
      · exact g3
    clear hq4 g3
    obtain ⟨q5, hq5⟩ : ∃ q, q = layStep (mayY comp p isLast) id q4 := ⟨_, rfl⟩
    rw [← hq5]
    have g5 : (q5.2 = false → q5.1 = p) ∧ Good s lo n p q5.1 := by
      rw [hq5]; unfold layStep
      split
      · rename_i hc
        have hqf : q4.2 = false := by simp only [Bool.and_eq_true, Bool.not_eq_true'] at hc; exact hc.1
        have e := g4.1 hqf
        rw [e]
        split
        · exact ⟨(fun e => by cases e), gad _ ⟨rfl, rfl, rfl, rfl, rfl, rfl, rfl⟩ rfl rfl rfl rfl hf ha (.inr ⟨hk, rfl⟩)⟩
        · rename_i hl
          have hl2 : 1 ≤ p.lay ∧ p.lay < (p.known.length : Int) := by
            rcases h.ly with a | a
            · exact absurd a hl
            · exact a
          have hlt : p.lay.toNat < p.known.length := by omega
          refine ⟨(fun e => by cases e), ⟨⟨h.ps, ?_, ?_, ?_, ?_, ?_, hf, ha, .inr ⟨hl2.1, by simpa using hl2.2⟩, ?_⟩, ⟨rfl, rfl, rfl, rfl, rfl, rfl, rfl⟩, ?_, rfl⟩⟩
          · have := h.kl; simp; omega
          · have := h.ul; simp; omega
          · have := h.ll; show p.langs.length ≤ _; omega
          · exact within_set _ h.kw h1 h2
          · show Within s (p.unknown ++ [p.known.getD p.lay.toNat (0, 0)])
            have hgd : p.known.getD p.lay.toNat (0, 0) = p.known[p.lay.toNat] := by simp [List.getD, hlt]
            rw [hgd]
            obtain ⟨b1, b2⟩ := h.kw _ (List.getElem_mem hlt)
            exact within_add h.uw b1 b2
          · intro x hx
            refine h.hd x ?_
            have hx : (p.known.set p.lay.toNat id).head? = some x := hx
            rw [← hx]
            cases hkk : p.known with
            | nil => exact absurd hkk hk
            | cons y t =>
              obtain ⟨m, hm⟩ : ∃ m, p.lay.toNat = m + 1 := ⟨p.lay.toNat - 1, by omega⟩
              rw [hm]; rfl
          · show p.known.set p.lay.toNat id ≠ []
            intro e
            have := congrArg List.length e
            simp at this
            exact hk this
      · exact g4
    clear hq5 g4
    unfold unkStep
    split
    · exact g5.2
    · rename_i hc
      have e := g5.1 (by simpa using hc)
      rw [e]
      refine ⟨⟨h.ps, ?_, ?_, ?_, h.kw, ?_, hf, ha, h.ly, h.hd⟩, ⟨rfl, rfl, rfl, rfl, rfl, rfl, rfl⟩, hk, rfl⟩
      · have := h.kl; show p.known.length ≤ _; omega
      · have := h.ul; simp; omega
      · have := h.ll; show p.langs.length ≤ _; omega
      · exact within_add h.uw h1 h2

theorem word_good (site : SiteM) (comp : Str) {s : Str} {lo n : Nat} {p : PathS} (h : PInv s lo n p) (id : Nat × Nat) (h1 : id.1 ≤ id.2) (h2 : id.2 ≤ s.length) (h3 : p.known = [] → lo + 1 ≤ id.1) (numDots : Int) (isLast : Bool) :
    Good s lo n p (PathS.word site comp p id numDots isLast).1 := by
  rw [word_eq]
  split
  · rename_i hw; exact wrapStep_good site comp h id h1 h2 h3 hw
  · exact restStep_good site comp h id h1 h2 h3 numDots isLast

/-! ### The scan -/
theorem PInv.down {s : Str} {lo lo' n : Nat} {p : PathS} (h : PInv s lo n p) (hl : lo' ≤ lo) : PInv s lo' n p :=
  ⟨h.ps, h.kl, h.ul, h.ll, h.kw, h.uw, h.fm, h.la, h.ly, fun x hx => by have := h.hd x hx; omega⟩
/-- Fields that a word's facts do not speak of. -/
theorem PInv.like {s : Str} {lo n : Nat} {p q : PathS} (h : PInv s lo n p) (e1 : q.s = p.s) (e2 : q.known = p.known) (e3 : q.unknown = p.unknown) (e4 : q.langs = p.langs) (e5 : q.fmt = p.fmt) (e6 : q.lang = p.lang) (e7 : q.lay = p.lay) : PInv s lo n q := by
  refine ⟨e1.trans h.ps, ?_, ?_, ?_, ?_, ?_, ?_, ?_, ?_, ?_⟩
  · rw [e2]; exact h.kl
  · rw [e3]; exact h.ul
  · rw [e4]; exact h.ll
  · rw [e2]; exact h.kw
  · rw [e3]; exact h.uw
  · rw [e5]; exact h.fm
  · rw [e6]; exact h.la
  · rw [e7, e2]; exact h.ly
  · rw [e2]; exact h.hd

def idOf (p : PathS) (i lastDot : Nat) : Nat × Nat := (i + 1, if p.known = [] then p.s.length else lastDot)

theorem finId_like (q : PathS × Bool) (i lastDot : Nat) (isLast : Bool) : Core q.1 (finId q i lastDot isLast) ∧ (finId q i lastDot isLast).known = q.1.known ∧ (finId q i lastDot isLast).unknown = q.1.unknown ∧ (finId q i lastDot isLast).langs = q.1.langs ∧
    (finId q i lastDot isLast).fmt = q.1.fmt ∧ (finId q i lastDot isLast).lang = q.1.lang ∧ (finId q i lastDot isLast).lay = q.1.lay ∧
    ((finId q i lastDot isLast).nameHigh = q.1.nameHigh ∨ (finId q i lastDot isLast).nameHigh = (i : Int) ∨ (finId q i lastDot isLast).nameHigh = (lastDot : Int)) := by
  unfold finId
  split
  · split
    · split
      · exact ⟨⟨rfl, rfl, rfl, rfl, rfl, rfl, rfl⟩, rfl, rfl, rfl, rfl, rfl, rfl, .inr (.inr rfl)⟩
      · exact ⟨Core.refl _, rfl, rfl, rfl, rfl, rfl, rfl, .inl rfl⟩
    · exact ⟨⟨rfl, rfl, rfl, rfl, rfl, rfl, rfl⟩, rfl, rfl, rfl, rfl, rfl, rfl, .inr (.inl rfl)⟩
  · exact ⟨Core.refl _, rfl, rfl, rfl, rfl, rfl, rfl, .inl rfl⟩

theorem parseId_good (site : SiteM) (comp : Str) {s : Str} {lo n : Nat} {p : PathS} (h : PInv s lo n p) (hc : p.cHigh = -1) (i lastDot : Nat) (h1 : (idOf p i lastDot).1 ≤ (idOf p i lastDot).2) (h2 : (idOf p i lastDot).2 ≤ s.length) (h3 : p.known = [] → lo ≤ i) (numDots : Int) (isLast : Bool) :
    PInv s lo (n + 1) (PathS.parseId site comp p i lastDot numDots isLast) ∧ Core p (PathS.parseId site comp p i lastDot numDots isLast) ∧ (PathS.parseId site comp p i lastDot numDots isLast).known ≠ [] ∧
      ((PathS.parseId site comp p i lastDot numDots isLast).nameHigh = p.nameHigh ∨ (PathS.parseId site comp p i lastDot numDots isLast).nameHigh = (i : Int) ∨ (PathS.parseId site comp p i lastDot numDots isLast).nameHigh = (lastDot : Int)) := by
  rw [parseId_open site comp p i lastDot numDots isLast hc]
  have hg := word_good site comp h (idOf p i lastDot) h1 h2 (fun e => by show lo + 1 ≤ i + 1; have := h3 e; omega) numDots isLast
  show PInv s lo (n + 1) (finId (PathS.word site comp p (idOf p i lastDot) numDots isLast) i lastDot isLast) ∧ Core p (finId (PathS.word site comp p (idOf p i lastDot) numDots isLast) i lastDot isLast) ∧ (finId (PathS.word site comp p (idOf p i lastDot) numDots isLast) i lastDot isLast).known ≠ [] ∧ _
  show _ ∧ _ ∧ _ ∧ ((finId (PathS.word site comp p (idOf p i lastDot) numDots isLast) i lastDot isLast).nameHigh = _ ∨ (finId (PathS.word site comp p (idOf p i lastDot) numDots isLast) i lastDot isLast).nameHigh = _ ∨ (finId (PathS.word site comp p (idOf p i lastDot) numDots isLast) i lastDot isLast).nameHigh = _)
  generalize PathS.word site comp p (idOf p i lastDot) numDots isLast = q at hg ⊢
  obtain ⟨a1, a2, a3, a4⟩ := hg
  obtain ⟨b1, b2, b3, b4, b5, b6, b7, b8⟩ := finId_like q i lastDot isLast
  obtain ⟨c1, c2, c3, c4, c5, c6, c7⟩ := b1
  obtain ⟨d1, d2, d3, d4, d5, d6, d7⟩ := a2
  refine ⟨a1.like c1 b2 b3 b4 b5 b6 b7, ⟨c1.trans d1, c2.trans d2, c3.trans d3, c4.trans d4, c5.trans d5, c6.trans d6, c7.trans d7⟩, by rw [b2]; exact a3, ?_⟩
  rw [a4] at b8
  exact b8

/-- The places from k on have been read. -/
structure SInv (s : Str) (k : Nat) (st : ScanM) : Prop where
  kk : k ≤ s.length
  op : st.p.cHigh = -1 → PInv s k (s.length - k) st.p ∧ st.p.cLow = -1 ∧ (st.p.known ≠ [] → 0 < st.lastDot) ∧ (0 < st.lastDot → st.p.known ≠ [])
  sh : st.p.cHigh ≠ -1 → PInv s st.p.cHigh.toNat (s.length - k) st.p ∧ (k : Int) + 1 ≤ st.p.cHigh ∧ st.p.cHigh ≤ (s.length : Int)
  cl : st.p.cLow = -1 ∨ (1 ≤ st.p.cLow ∧ st.p.cLow ≤ st.p.cHigh - 1)
  ld : st.lastDot = 0 ∨ k ≤ st.lastDot ∧ st.lastDot < s.length
  sc : st.p.sHigh ≤ (s.length : Int)
  nh : st.p.nameHigh ≤ (s.length : Int)

theorem SInv.ps {s : Str} {k : Nat} {st : ScanM} (h : SInv s k st) : st.p.s = s := by
  by_cases e : st.p.cHigh = -1
  · exact (h.op e).1.ps
  · exact (h.sh e).1.ps
/-- The bounds of the word that ends at place i. -/
theorem SInv.id {s : Str} {i : Nat} {st : ScanM} (h : SInv s (i + 1) st) (hc : st.p.cHigh = -1) : (idOf st.p i st.lastDot).1 ≤ (idOf st.p i st.lastDot).2 ∧ (idOf st.p i st.lastDot).2 ≤ s.length := by
  have hk := h.kk
  obtain ⟨h1, h2, h3, h4⟩ := h.op hc
  unfold idOf
  by_cases e : st.p.known = []
  · rw [if_pos e, h1.ps]; exact ⟨hk, Nat.le_refl _⟩
  · rw [if_neg e]
    have h5 := h3 e
    rcases h.ld with l | l
    · omega
    · exact ⟨l.1, by omega⟩

theorem step_inv (site : SiteM) (comp : Str) (skips : List Nat) (numDots : Int) {s : Str} (hs : s.head? = some 47) {i : Nat} {st : ScanM} (h : SInv s (i + 1) st) :
    SInv s i (ScanM.step site comp skips numDots st i) := by
  have hk := h.kk
  have hps := h.ps
  have weak : SInv s i st := by
    refine ⟨by omega, fun e => ?_, fun e => ?_, h.cl, ?_, h.sc, h.nh⟩
    · obtain ⟨a, b⟩ := h.op e
      exact ⟨(a.mono (by omega)).down (by omega), b⟩
    · obtain ⟨a, b, c⟩ := h.sh e
      exact ⟨a.mono (by omega), by omega, c⟩
    · rcases h.ld with l | l
      · exact .inl l
      · exact .inr ⟨by omega, l.2⟩
  unfold ScanM.step
  split
  · rename_i hd
    split
    · exact weak
    · have hi0 : 0 < i := by
        rcases Nat.eq_zero_or_pos i with e | e
        · subst e
          rw [hps] at hd
          cases hsl : s with
          | nil => rw [hsl] at hs; cases hs
          | cons c t =>
            rw [hsl] at hs hd
            have h1 : c = 47 := by simpa using hs
            have h2 : c = 46 := by simpa using hd
            rw [h1] at h2; cases h2
        · exact e
      by_cases hc : st.p.cHigh = -1
      · obtain ⟨a, b, c, d⟩ := h.op hc
        obtain ⟨i1, i2⟩ := h.id hc
        obtain ⟨g1, ⟨k1, k2, k3, k4, k5, k6, k7⟩, g3, g4⟩ := parseId_good site comp (a.down (Nat.le_succ i)) hc i st.lastDot i1 i2 (fun _ => Nat.le_refl i) numDots false
        refine ⟨by omega, fun _ => ⟨?_, k4.trans b, fun _ => hi0, fun _ => g3⟩, fun e => absurd (k5.trans hc) e, ?_, (.inr ⟨Nat.le_refl i, by show i < s.length; omega⟩), ?_, ?_⟩
        · have : s.length - (i + 1) + 1 = s.length - i := by omega
          rw [this] at g1; exact g1
        · left; exact k4.trans b
        · show (PathS.parseId site comp st.p i st.lastDot numDots false).sHigh ≤ _
          rw [k6]; exact h.sc
        · show (PathS.parseId site comp st.p i st.lastDot numDots false).nameHigh ≤ _
          have hl := h.ld
          have hn := h.nh
          rcases g4 with e | e | e <;> rw [e]
          · exact hn
          · omega
          · omega
      · rw [parseId_shut site comp st.p i st.lastDot numDots false hc]
        exact ⟨by omega, fun e => absurd e hc, weak.sh, weak.cl, (.inr ⟨Nat.le_refl i, by show i < s.length; omega⟩), weak.sc, weak.nh⟩
  · split
    · -- the slash
      have hset : ∀ q : PathS, q.cHigh ≠ -1 → (PInv s q.cHigh.toNat (s.length - i) q ∧ (i : Int) + 1 ≤ q.cHigh ∧ q.cHigh ≤ (s.length : Int)) → (q.cLow = -1 ∨ (1 ≤ q.cLow ∧ q.cLow ≤ q.cHigh - 1)) → q.sHigh ≤ (s.length : Int) → q.nameHigh ≤ (s.length : Int) →
          SInv s i { st with slashes := st.slashes + 1, p := if 0 < i then { q with sHigh := (i : Int) } else q } := by
        intro q q1 q2 q3 q4 q5
        by_cases hi : 0 < i
        · rw [if_pos hi]
          exact ⟨by omega, fun e => absurd e q1, fun _ => ⟨q2.1.like rfl rfl rfl rfl rfl rfl rfl, q2.2⟩, q3, weak.ld, by show (i : Int) ≤ _; omega, q5⟩
        · rw [if_neg hi]
          exact ⟨by omega, fun e => absurd e q1, fun _ => q2, q3, weak.ld, q4, q5⟩
      by_cases hc : st.p.cHigh = -1
      · simp only [if_pos hc]
        obtain ⟨a, b, c, d⟩ := h.op hc
        obtain ⟨i1, i2⟩ := h.id hc
        have hsc := h.sc
        have hnh := h.nh
        have hld := h.ld
        by_cases hl : 0 < st.lastDot
        · rw [if_pos hl]
          have hkn := d hl
          obtain ⟨g1, ⟨k1, k2, k3, k4, k5, k6, k7⟩, g3, g4⟩ := parseId_good site comp a hc i st.lastDot i1 i2 (fun e => absurd e hkn) numDots true
          have hn : s.length - (i + 1) + 1 = s.length - i := by omega
          rw [hn] at g1
          refine hset _ (by show (i : Int) + 1 ≠ -1; omega) ⟨?_, by show (i : Int) + 1 ≤ (i : Int) + 1; omega, by show (i : Int) + 1 ≤ _; omega⟩ (.inl (k4.trans b)) ?_ ?_
          · have e : ((i : Int) + 1).toNat = i + 1 := by omega
            show PInv s ((i : Int) + 1).toNat _ _
            rw [e]
            exact g1.like rfl rfl rfl rfl rfl rfl rfl
          · show (PathS.parseId site comp st.p i st.lastDot numDots true).sHigh ≤ _
            rw [k6]; exact hsc
          · show (PathS.parseId site comp st.p i st.lastDot numDots true).nameHigh ≤ _
            rcases g4 with e | e | e <;> rw [e]
            · exact hnh
            · omega
            · omega
        · rw [if_neg hl]
          refine hset _ (by show (i : Int) + 1 ≠ -1; omega) ⟨?_, by show (i : Int) + 1 ≤ (i : Int) + 1; omega, by show (i : Int) + 1 ≤ _; omega⟩ (.inl b) hsc hnh
          have e : ((i : Int) + 1).toNat = i + 1 := by omega
          show PInv s ((i : Int) + 1).toNat _ _
          rw [e]
          exact (a.mono (by omega)).like rfl rfl rfl rfl rfl rfl rfl
      · simp only [if_neg hc]
        obtain ⟨a, b, c⟩ := h.sh hc
        have a' : PInv s st.p.cHigh.toNat (s.length - i) st.p := a.mono (by omega)
        by_cases hw : st.p.cLow = -1
        · rw [if_pos hw]
          exact hset _ hc ⟨a'.like rfl rfl rfl rfl rfl rfl rfl, by show (i : Int) + 1 ≤ st.p.cHigh; omega, c⟩ (.inr ⟨by show 1 ≤ (i : Int) + 1; omega, by show (i : Int) + 1 ≤ st.p.cHigh - 1; omega⟩) h.sc h.nh
        · rw [if_neg hw]
          exact hset _ hc ⟨a', by omega, c⟩ h.cl h.sc h.nh
    · exact weak

theorem step_core (site : SiteM) (comp : Str) (skips : List Nat) (numDots : Int) {s : Str} {i : Nat} {st : ScanM} (h : SInv s (i + 1) st) :
    (ScanM.step site comp skips numDots st i).p.comp = st.p.comp ∧ (ScanM.step site comp skips numDots st i).p.typ = st.p.typ ∧ (ScanM.step site comp skips numDots st i).p.trim = st.p.trim := by
  have pid : ∀ b, (PathS.parseId site comp st.p i st.lastDot numDots b).comp = st.p.comp ∧ (PathS.parseId site comp st.p i st.lastDot numDots b).typ = st.p.typ ∧ (PathS.parseId site comp st.p i st.lastDot numDots b).trim = st.p.trim := by
    intro b
    by_cases hc : st.p.cHigh = -1
    · obtain ⟨i1, i2⟩ := h.id hc
      obtain ⟨-, ⟨k1, k2, k3, k4, k5, k6, k7⟩, -, -⟩ := parseId_good site comp ((h.op hc).1.down (Nat.le_succ i)) hc i st.lastDot i1 i2 (fun _ => Nat.le_refl i) numDots b
      exact ⟨k2, k3, k7⟩
    · rw [parseId_shut site comp st.p i st.lastDot numDots b hc]; exact ⟨rfl, rfl, rfl⟩
  unfold ScanM.step
  split
  · split
    · exact ⟨rfl, rfl, rfl⟩
    · exact pid false
  · split
    · have hs : ∀ q : PathS, (q.comp = st.p.comp ∧ q.typ = st.p.typ ∧ q.trim = st.p.trim) → ((if 0 < i then { q with sHigh := (i : Int) } else q).comp = st.p.comp ∧ (if 0 < i then { q with sHigh := (i : Int) } else q).typ = st.p.typ ∧ (if 0 < i then { q with sHigh := (i : Int) } else q).trim = st.p.trim) := by
        intro q hq; split <;> exact hq
      refine hs _ ?_
      split
      · split
        · exact pid true
        · exact ⟨rfl, rfl, rfl⟩
      · split <;> exact ⟨rfl, rfl, rfl⟩
    · exact ⟨rfl, rfl, rfl⟩

theorem down_inv (site : SiteM) (comp : Str) (skips : List Nat) (numDots : Int) {s : Str} (hs : s.head? = some 47) : ∀ (k : Nat) {st : ScanM}, SInv s k st →
    SInv s 0 (ScanM.down site comp skips numDots k st) ∧ (ScanM.down site comp skips numDots k st).p.comp = st.p.comp ∧ (ScanM.down site comp skips numDots k st).p.typ = st.p.typ ∧ (ScanM.down site comp skips numDots k st).p.trim = st.p.trim
  | 0, st, h => ⟨h, rfl, rfl, rfl⟩
  | k + 1, st, h => by
    obtain ⟨a, b⟩ := down_inv site comp skips numDots hs k (step_inv site comp skips numDots hs h)
    obtain ⟨c, d, e⟩ := step_core site comp skips numDots h
    exact ⟨a, b.1.trans c, b.2.1.trans d, b.2.2.trans e⟩

theorem step_slash0 (site : SiteM) (comp : Str) (skips : List Nat) (numDots : Int) (st : ScanM) (h : st.p.s[0]? = some 47) : (ScanM.step site comp skips numDots st 0).p.cHigh ≠ -1 := by
  unfold ScanM.step
  rw [if_neg (by rw [h]; decide), if_pos h]
  show PathS.cHigh (if 0 < 0 then _ else _) ≠ -1
  rw [if_neg (by omega)]
  by_cases hc : st.p.cHigh = -1
  · rw [if_pos hc]; show (((0 : Nat) : Int) + 1) ≠ -1; omega
  · rw [if_neg hc]; split <;> exact hc
theorem down_high (site : SiteM) (comp : Str) (skips : List Nat) (numDots : Int) {s : Str} (hs : s.head? = some 47) : ∀ (k : Nat) {st : ScanM}, 0 < k → SInv s k st → (ScanM.down site comp skips numDots k st).p.cHigh ≠ -1
  | 0, _, h, _ => by omega
  | 1, st, _, h => by
    have : st.p.s[0]? = some 47 := by rw [h.ps, ← List.head?_eq_getElem?]; exact hs
    exact step_slash0 site comp skips numDots st this
  | k + 2, st, _, h => down_high site comp skips numDots hs (k + 1) (by omega) (step_inv site comp skips numDots hs h)

def startP (comp s : Str) : PathS := { s := s, comp := comp, typ := if holdsL s kShort then 7 else 0 }
theorem start_inv (comp s : Str) : SInv s s.length { p := startP comp s } := by
  refine ⟨Nat.le_refl _, fun _ => ⟨⟨rfl, ?_, ?_, ?_, ?_, ?_, ?_, ?_, .inl rfl, ?_⟩, rfl, ?_, ?_⟩, fun e => absurd rfl e, .inl rfl, .inl rfl, ?_, ?_⟩
  · exact Nat.zero_le _
  · exact Nat.zero_le _
  · exact Nat.zero_le _
  · intro x hx; cases hx
  · intro x hx; cases hx
  · show (-1 : Int) ≤ -1; omega
  · show (-1 : Int) ≤ -1; omega
  · intro x hx; cases hx
  · intro e; exact absurd rfl e
  · intro e; exact absurd e (Nat.lt_irrefl 0)
  · show (-1 : Int) ≤ _; omega
  · show (-1 : Int) ≤ _; omega

/-- What the scan leaves. -/
structure Scanned (s comp : Str) (p : PathS) : Prop where
  iv : PInv s p.cHigh.toNat s.length p
  hc : 1 ≤ p.cHigh ∧ p.cHigh ≤ (s.length : Int)
  lc : p.cLow = -1 ∨ 1 ≤ p.cLow ∧ p.cLow ≤ p.cHigh - 1
  sc : p.sHigh ≤ (s.length : Int)
  nh : p.nameHigh ≤ (s.length : Int)
  cp : p.comp = comp
  tr : p.trim = false
  ty : p.typ = if holdsL s kShort then 7 else 0

theorem scan_scanned (site : SiteM) (comp s : Str) (skips : List Nat) (numDots : Int) (hs : s.head? = some 47) :
    Scanned s comp (ScanM.down site comp skips numDots s.length { p := startP comp s }).p := by
  have hp : 0 < s.length := by cases s with
    | nil => cases hs
    | cons c t => simp
  obtain ⟨a, b, c, d⟩ := down_inv site comp skips numDots hs s.length (start_inv comp s)
  have hh := down_high site comp skips numDots hs s.length hp (start_inv comp s)
  obtain ⟨e1, e2, e3⟩ := a.sh hh
  exact ⟨by simpa using e1, ⟨by simpa using e2, e3⟩, a.cl, a.sc, a.nh, b, d, c⟩

theorem normPath_head (s : Str) : (normPath s).head? = some 47 := by
  unfold normPath
  split
  · rfl
  · unfold trimEnd
    have h : (slashed s).head? = some 47 := by
      unfold slashed
      split
      · assumption
      · rfl
    split
    · rename_i hl
      cases hx : slashed s with
      | nil => rw [hx] at h; cases h
      | cons c t =>
        rw [hx] at h hl
        cases t with
        | nil => simp at hl
        | cons d u => simpa using h
    · exact h
theorem normPath_len (s : Str) : (normPath s).length ≤ s.length + 1 := by
  unfold normPath
  split
  · simp
  · unfold trimEnd
    have h : (slashed s).length ≤ s.length + 1 := by
      unfold slashed
      split <;> simp
    split
    · simp; omega
    · exact h

/-! ### Behind the scan: the last steps keep it -/
theorem fin1_ok (s comp : Str) (p : PathS) (h : Scanned s comp p) (hl : s.length ≤ 1000000) : PathOK (PathS.fin1 p) ∧ ((PathS.fin1 p).nLow : Int) = (PathS.fin1 p).cHigh ∧ (PathS.fin1 p).comp = comp := by
  have hpos : 0 < s.length := by have := h.hc; omega
  have hps := h.iv.ps
  have hc := h.hc
  have base : ∀ hi : Nat, p.cHigh.toNat ≤ hi → hi ≤ s.length → PathOK { p with nLow := p.cHigh.toNat, nHigh := hi } ∧ (p.cHigh.toNat : Int) = p.cHigh ∧ p.comp = comp := by
    intro hi h1 h2
    refine ⟨⟨?_, ?_, ?_, h.lc, .inr ?_, ⟨h1, ?_⟩, ?_, ?_, ?_, ?_, ?_, h.iv.fm, h.iv.la, ?_⟩, by omega, h.cp⟩
    · show p.s.length ≤ _; rw [hps]; omega
    · show 0 < p.s.length; rw [hps]; exact hpos
    · show 1 ≤ p.cHigh ∧ p.cHigh ≤ (p.s.length : Int); rw [hps]; exact h.hc
    · show p.sHigh ≤ (p.s.length : Int); rw [hps]; exact h.sc
    · show hi ≤ p.s.length; rw [hps]; exact h2
    · show Within p.s p.known; rw [hps]; exact h.iv.kw
    · show Within p.s p.unknown; rw [hps]; exact h.iv.uw
    · exact Nat.le_trans h.iv.kl hl
    · exact Nat.le_trans h.iv.ul hl
    · exact Nat.le_trans h.iv.ll hl
    · intro x hx
      have h1 := h.iv.hd x hx
      show p.cHigh + 1 ≤ (x.1 : Int)
      omega
  have hnh := h.nh
  unfold PathS.fin1
  split
  · rename_i hle
    exact base p.nameHigh.toNat (by omega) (by omega)
  · have : p.s.length = s.length := by rw [hps]
    rw [this]
    exact base s.length (by omega) (Nat.le_refl _)
theorem PathOK.typ {q : PathS} (hq : PathOK q) (t : Int) : PathOK { q with typ := t } := ⟨hq.len, hq.pos, hq.hc, hq.lc, hq.sc, hq.nm, hq.kw, hq.uw, hq.kl, hq.ul, hq.ll, hq.fm, hq.la, hq.k0⟩
theorem fin2_ok (site : SiteM) (slashes : Int) {q : PathS} (hq : PathOK q) : PathOK (PathS.fin2 site q slashes) := by
  unfold PathS.fin2
  repeat' split
  all_goals first
    | exact hq
    | exact hq.typ _
    | exact ⟨hq.len, hq.pos, hq.hc, hq.lc, .inl (Int.le_refl 0), hq.nm, hq.kw, hq.uw, hq.kl, hq.ul, hq.ll, hq.fm, hq.la, hq.k0⟩
theorem fin3_ok (comp : Str) {q : PathS} (hq : PathOK q) : PathOK (PathS.fin3 comp q) := by
  unfold PathS.fin3
  repeat' split
  all_goals first
    | exact hq
    | exact hq.typ _
theorem fin4_ok {q : PathS} (hq : PathOK q) : PathOK (PathS.fin4 q) := by
  unfold PathS.fin4
  split
  · exact ⟨hq.len, hq.pos, hq.hc, hq.lc, hq.sc, hq.nm, hq.kw, hq.uw, hq.kl, hq.ul, hq.ll, hq.fm, hq.la, hq.k0⟩
  · exact hq
/-- The plain layout's place, kept up to the end. -/
def LayOK (q : PathS) : Prop := q.lay = -1 ∨ 1 ≤ q.lay ∧ q.lay < (q.known.length : Int)
theorem fin1_lay {p : PathS} (h : LayOK p) : LayOK (PathS.fin1 p) := by
  unfold PathS.fin1
  split <;> exact h
theorem fin2_lay (site : SiteM) (slashes : Int) {q : PathS} (h : LayOK q) : LayOK (PathS.fin2 site q slashes) := by
  unfold PathS.fin2
  repeat' split
  all_goals exact h
theorem fin3_lay (comp : Str) {q : PathS} (h : LayOK q) : LayOK (PathS.fin3 comp q) := by
  unfold PathS.fin3
  repeat' split
  all_goals exact h
theorem finish_ok (site : SiteM) (comp s : Str) (p : PathS) (slashes : Int) (h : Scanned s comp p) (hl : s.length ≤ 1000000) : PathOK (PathS.finish site comp p slashes) :=
  fin4_ok (fin3_ok comp (fin2_ok site slashes (fin1_ok s comp p h hl).1))

theorem doParse_ok (site : SiteM) (comp s : Str) (hl : s.length < 1000000) : PathOK (doParseM site comp s) := by
  unfold doParseM
  have h1 := normPath_head s
  have h2 := normPath_len s
  generalize normPath s = s' at h1 h2
  exact finish_ok site comp s' _ _ (scan_scanned site comp s' _ _ h1) (by omega)

end Go.Proofs.YtbpoljgchbfhpaaGreatDoor
