/- The scan of a whole path: what it makes of the words of the last part is what the reference reads of them. Plain Lean; no program here. Conditions: a site whose words are not empty; a last part of which something is said. -/
import Derived.Test.YtbpoljgchbfhpaaGreatDoorChain
set_option linter.unusedVariables false
set_option linter.unusedSimpArgs false
namespace Go.Proofs.YtbpoljgchbfhpaaGreatDoor

theorem Core.trans {p q r : PathS} (h1 : Core p q) (h2 : Core q r) : Core p r := by
  obtain ⟨b1, b2, b3, b4, b5, b6, b7⟩ := h1
  obtain ⟨c1, c2, c3, c4, c5, c6, c7⟩ := h2
  exact ⟨c1.trans b1, c2.trans b2, c3.trans b3, c4.trans b4, c5.trans b5, c6.trans b6, c7.trans b7⟩

/-- What an applied prefix turns: one identifier more; of the rest nothing that is asked for below. -/
theorem apply_known (site : SiteM) (comp pre : Str) (p : PathS) (id : Nat × Nat) : ∀ q, PathS.applyPrefix site comp pre p id = some q → q.known = p.known ++ [id] ∧ q.typ = p.typ ∧ q.lay = p.lay ∧ Core p q := by
  intro q hq
  unfold PathS.applyPrefix at hq
  dsimp only at hq
  repeat' split at hq
  all_goals first
    | (cases hq; done)
    | (obtain rfl := Option.some.inj hq; exact ⟨rfl, rfl, rfl, rfl, rfl, rfl, rfl, rfl, rfl, rfl⟩)

theorem word_core (site : SiteM) (comp : Str) (p : PathS) (id : Nat × Nat) (numDots : Int) (isLast : Bool) : Core p (PathS.word site comp p id numDots isLast).1 := by
  unfold PathS.word
  dsimp only
  split
  · split
    · rename_i q hq
      split at hq
      · exact (apply_known site comp _ p _ q hq).2.2.2
      · cases hq
    · exact ⟨rfl, rfl, rfl, rfl, rfl, rfl, rfl⟩
  · repeat' split
    all_goals exact ⟨rfl, rfl, rfl, rfl, rfl, rfl, rfl⟩
theorem finId_core (q : PathS × Bool) (i lastDot : Nat) (isLast : Bool) : Core q.1 (finId q i lastDot isLast) := (finId_like q i lastDot isLast).1
theorem parseId_core (site : SiteM) (comp : Str) (p : PathS) (i lastDot : Nat) (numDots : Int) (isLast : Bool) : Core p (PathS.parseId site comp p i lastDot numDots isLast) := by
  by_cases h : p.cHigh = -1
  · rw [parseId_open site comp p i lastDot numDots isLast h]
    exact (word_core site comp p _ numDots isLast).trans (finId_core _ i lastDot isLast)
  · rw [parseId_shut site comp p i lastDot numDots isLast h]
    exact Core.refl p

/-! ### What a path keeps besides its words -/
structure Extra (n0 : Nat) (x0 : Nat × Nat) (p : PathS) : Prop where
  hd : p.known.head? = some x0
  lp : p.typ = 7 → p.lay ≠ -1 → n0 < (p.known.getD p.lay.toNat (0, 0)).1
  ly : p.lay = -1 ∨ 1 ≤ p.lay ∧ p.lay < (p.known.length : Int)
  la : p.lang ≠ -1 → 2 ≤ p.known.length
  lg : p.langs ≠ [] → 2 ≤ p.known.length

theorem Extra.pos {n0 : Nat} {x0 : Nat × Nat} {p : PathS} (h : Extra n0 x0 p) : 1 ≤ p.known.length := by
  have := h.hd
  cases hk : p.known with
  | nil => rw [hk] at this; cases this
  | cons a t => simp
theorem Extra.ne {n0 : Nat} {x0 : Nat × Nat} {p : PathS} (h : Extra n0 x0 p) : p.known ≠ [] := fun e => by have := h.pos; rw [e] at this; simp at this
theorem Extra.add {n0 : Nat} {x0 : Nat × Nat} {p q : PathS} {id : Nat × Nat} (h : Extra n0 x0 p) (e1 : q.known = p.known ++ [id]) (e2 : q.typ = p.typ) (e3 : q.lay = p.lay ∨ q.lay = (p.known.length : Int) ∧ (p.typ = 7 → n0 < id.1)) : Extra n0 x0 q := by
  have hp := h.pos
  have hlen : q.known.length = p.known.length + 1 := by rw [e1]; simp
  refine ⟨?_, ?_, ?_, fun _ => by omega, fun _ => by omega⟩
  · rw [e1]
    cases hk : p.known with
    | nil => exact absurd hk h.ne
    | cons a t => have := h.hd; rw [hk] at this; exact this
  · intro h7 hl
    rw [e2] at h7
    rcases e3 with e3 | ⟨e3, e4⟩
    · rw [e3] at hl ⊢
      have := h.lp h7 hl
      rcases h.ly with a | a
      · exact absurd a hl
      · rw [e1, List.getD_eq_getElem?_getD, List.getElem?_append_left (by omega), ← List.getD_eq_getElem?_getD]; exact this
    · rw [e3, e1, Int.toNat_natCast, List.getD_eq_getElem?_getD]
      simp
      exact e4 h7
  · rcases e3 with e3 | ⟨e3, _⟩
    · rw [e3, hlen]
      rcases h.ly with a | a
      · exact .inl a
      · exact .inr ⟨a.1, by omega⟩
    · rw [e3, hlen]; exact .inr ⟨by omega, by omega⟩

theorem word_extra (site : SiteM) (comp : Str) {n0 : Nat} {x0 : Nat × Nat} {p : PathS} (h : Extra n0 x0 p) (id : Nat × Nat) (numDots : Int) (isLast : Bool) (hid : isLast = false → n0 < id.1) : Extra n0 x0 (PathS.word site comp p id numDots isLast).1 := by
  have hk := h.ne
  unfold PathS.word
  dsimp only
  split
  · split
    · rename_i q hq
      split at hq
      · obtain ⟨a, b, c, _⟩ := apply_known site comp _ p _ q hq
        exact h.add a b (.inl c)
      · cases hq
    · exact h.add (id := id) rfl rfl (.inl rfl)
  · split
    · exact h.add (id := id) rfl rfl (.inl rfl)
    · split
      · exact h.add (id := id) rfl rfl (.inl rfl)
      · split
        · exact h.add (id := id) rfl rfl (.inl rfl)
        · split
          · exact h.add (id := id) rfl rfl (.inl rfl)
          · obtain ⟨m, hm⟩ : ∃ m, m = (if p.typ = 7 then !isLast && (comp == kLayouts) else comp == kLayouts) := ⟨_, rfl⟩
            rw [← hm]
            cases m with
            | true =>
              have h7 : p.typ = 7 → n0 < id.1 := fun e => by
                rw [if_pos e] at hm
                have hm := hm.symm
                rw [Bool.and_eq_true, Bool.not_eq_true'] at hm
                exact hid hm.1
              rw [if_pos rfl]
              by_cases hl : p.lay = -1
              · rw [if_pos hl]
                exact h.add (id := id) rfl rfl (.inr ⟨rfl, h7⟩)
              · rw [if_neg hl]
                have hl2 : 1 ≤ p.lay ∧ p.lay < (p.known.length : Int) := by
                  rcases h.ly with a | a
                  · exact absurd a hl
                  · exact a
                refine ⟨?_, ?_, .inr ⟨hl2.1, by simpa using hl2.2⟩, fun e => by simpa using h.la e, fun e => by simpa using h.lg e⟩
                · have := h.hd
                  rw [← this]
                  cases hkk : p.known with
                  | nil => exact absurd hkk hk
                  | cons y t =>
                    obtain ⟨m, hm⟩ : ∃ m, p.lay.toNat = m + 1 := ⟨p.lay.toNat - 1, by omega⟩
                    show ((y :: t).set p.lay.toNat id).head? = _
                    rw [hm]; rfl
                · intro e _
                  show n0 < ((p.known.set p.lay.toNat id).getD p.lay.toNat (0, 0)).1
                  rw [List.getD_eq_getElem?_getD, List.getElem?_set_self (by omega)]
                  exact h7 e
            | false =>
              rw [if_neg (by decide)]
              exact ⟨h.hd, h.lp, h.ly, h.la, h.lg⟩
theorem parseId_extra (site : SiteM) (comp : Str) {n0 : Nat} {x0 : Nat × Nat} {p : PathS} (h : Extra n0 x0 p) (hc : p.cHigh = -1) (i lastDot : Nat) (numDots : Int) (isLast : Bool) (hid : isLast = false → n0 ≤ i) : Extra n0 x0 (PathS.parseId site comp p i lastDot numDots isLast) := by
  rw [parseId_open site comp p i lastDot numDots isLast hc]
  have hw := word_extra site comp h (i + 1, if p.known = [] then p.s.length else lastDot) numDots isLast (fun e => by have := hid e; show n0 < i + 1; omega)
  generalize PathS.word site comp p (i + 1, if p.known = [] then p.s.length else lastDot) numDots isLast = q at hw ⊢
  obtain ⟨⟨c1, c2, c3, c4, c5, c6, c7⟩, b2, b3, b4, b5, b6, b7, b8⟩ := finId_like q i lastDot isLast
  refine ⟨by rw [b2]; exact hw.hd, ?_, by rw [b7, b2]; exact hw.ly, by rw [b6, b2]; exact hw.la, by rw [b4, b2]; exact hw.lg⟩
  rw [c3, b7, b2]; exact hw.lp
theorem procDots_core (site : SiteM) (comp : Str) (numDots : Int) (n0 : Nat) : ∀ (L : List Nat) (p : PathS) (ld : Nat), Core p (procDots site comp numDots n0 p ld L).1
  | [], p, ld => Core.refl p
  | c :: L, p, ld => (parseId_core site comp p (n0 + c) ld numDots false).trans (procDots_core site comp numDots n0 L _ _)
theorem procDots_extra (site : SiteM) (comp : Str) (numDots : Int) {n0 : Nat} {x0 : Nat × Nat} : ∀ (L : List Nat) {p : PathS} (ld : Nat), Extra n0 x0 p → p.cHigh = -1 → Extra n0 x0 (procDots site comp numDots n0 p ld L).1
  | [], p, ld, h, _ => h
  | c :: L, p, ld, h, hc => by
    have hco := parseId_core site comp p (n0 + c) ld numDots false
    exact procDots_extra site comp numDots L _ (parseId_extra site comp h hc (n0 + c) ld numDots false (fun _ => Nat.le_add_right _ _)) (hco.2.2.2.2.1.trans hc)

/-! ### The places of the last part -/
theorem range0_succ (k : Nat) : List.range' 0 (k + 1) = List.range' 0 k ++ [k] := by rw [List.range'_concat]; simp
theorem scan_name (site : SiteM) (comp : Str) {s name : Str} {n0 : Nat} (numDots : Int) (skips : List Nat) (ht : Tail s name n0) : ∀ (k : Nat) (st : ScanM), st.p.s = s →
    ScanM.down site comp skips numDots (n0 + k) st = ScanM.down site comp skips numDots n0 { st with p := (procDots site comp numDots n0 st.p st.lastDot ((List.range' 0 k).filter (isCut name n0 skips)).reverse).1, lastDot := (procDots site comp numDots n0 st.p st.lastDot ((List.range' 0 k).filter (isCut name n0 skips)).reverse).2 }
  | 0, st, _ => rfl
  | k + 1, st, hs => by
    show ScanM.down site comp skips numDots (n0 + k) (ScanM.step site comp skips numDots st (n0 + k)) = _
    have hg : st.p.s[n0 + k]? = name[k]? := by rw [hs]; exact ht.get k
    rw [range0_succ, List.filter_append]
    by_cases hd : name[k]? = some 46
    · by_cases hk : skips.contains (n0 + k) = true
      · have e1 : ScanM.step site comp skips numDots st (n0 + k) = st := by unfold ScanM.step; rw [hg, if_pos hd, if_pos hk]
        have e2 : [k].filter (isCut name n0 skips) = [] := by
          rw [List.filter_cons_of_neg]
          · rfl
          · unfold isCut; rw [hk]; simp
        rw [e1, e2, List.append_nil]
        exact scan_name site comp numDots skips ht k st hs
      · have e1 : ScanM.step site comp skips numDots st (n0 + k) = { st with p := PathS.parseId site comp st.p (n0 + k) st.lastDot numDots false, lastDot := n0 + k } := by unfold ScanM.step; rw [hg, if_pos hd, if_neg hk]
        have e2 : [k].filter (isCut name n0 skips) = [k] := by
          rw [List.filter_cons_of_pos]
          · rfl
          · unfold isCut; rw [hd]; simp at hk ⊢; exact hk
        rw [e1, e2, List.reverse_append]
        exact scan_name site comp numDots skips ht k _ ((parseId_core site comp st.p (n0 + k) st.lastDot numDots false).1.trans hs)
    · have e1 : ScanM.step site comp skips numDots st (n0 + k) = st := by unfold ScanM.step; rw [hg, if_neg hd, if_neg (ht.one k)]
      have e2 : [k].filter (isCut name n0 skips) = [] := by
        rw [List.filter_cons_of_neg]
        · rfl
        · unfold isCut
          have : (name[k]? == some 46) = false := by simpa using hd
          rw [this]; simp
      rw [e1, e2, List.append_nil]
      exact scan_name site comp numDots skips ht k st hs

/-- Two paths alike but for the bounds of folders. -/
def BoundsOnly (p q : PathS) : Prop := q = { p with cLow := q.cLow, sHigh := q.sHigh }
theorem step_shut (site : SiteM) (comp : Str) (skips : List Nat) (numDots : Int) (st : ScanM) (i : Nat) (h : st.p.cHigh ≠ -1) : BoundsOnly st.p (ScanM.step site comp skips numDots st i).p ∧ (ScanM.step site comp skips numDots st i).p.cHigh ≠ -1 := by
  unfold ScanM.step
  split
  · split
    · exact ⟨rfl, h⟩
    · rw [parseId_shut site comp st.p i st.lastDot numDots false h]; exact ⟨rfl, h⟩
  · split
    · dsimp only
      repeat' split
      all_goals exact ⟨rfl, h⟩
    · exact ⟨rfl, h⟩
theorem BoundsOnly.trans {p q r : PathS} (h1 : BoundsOnly p q) (h2 : BoundsOnly q r) : BoundsOnly p r := by
  unfold BoundsOnly at *
  rw [h2, h1]
theorem down_shut (site : SiteM) (comp : Str) (skips : List Nat) (numDots : Int) : ∀ (k : Nat) (st : ScanM), st.p.cHigh ≠ -1 → BoundsOnly st.p (ScanM.down site comp skips numDots k st).p
  | 0, st, _ => rfl
  | k + 1, st, h => by
    obtain ⟨a, b⟩ := step_shut site comp skips numDots st k h
    exact a.trans (down_shut site comp skips numDots k _ b)

/-- The last part of a text that begins with a slash. -/
theorem slashB_find (s : Str) : ∀ n, n ≤ s.length → (slashB s n = -1 ∧ NoSl s 0 n) ∨ ∃ h : Nat, slashB s n = (h : Int) ∧ h < n ∧ s[h]? = some 47 ∧ NoSl s (h + 1) n
  | 0, _ => .inl ⟨rfl, fun j a b => by omega⟩
  | n + 1, hn => by
    unfold slashB
    by_cases e : s[n]? = some 47
    · rw [if_pos e]
      exact .inr ⟨n, rfl, by omega, e, fun j a b => by omega⟩
    · rw [if_neg e]
      have ext : ∀ a, NoSl s a n → NoSl s a (n + 1) := fun a h j h1 h2 => by
        by_cases q : j = n
        · subst q; exact e
        · exact h j h1 (by omega)
      rcases slashB_find s n (by omega) with ⟨a, b⟩ | ⟨h, a, b, c, d⟩
      · exact .inl ⟨a, ext _ b⟩
      · exact .inr ⟨h, a, by omega, c, ext _ d⟩
theorem last_slash {s : Str} (hs : s.head? = some 47) : ∃ h : Nat, slashB s s.length = (h : Int) ∧ h < s.length ∧ s[h]? = some 47 ∧ NoSl s (h + 1) s.length ∧ lastPart s = s.drop (h + 1) := by
  rcases slashB_find s s.length (Nat.le_refl _) with ⟨a, b⟩ | ⟨h, a, b, c, d⟩
  · exfalso
    have hp : 0 < s.length := by cases s with
      | nil => cases hs
      | cons c t => simp
    exact b 0 (Nat.le_refl _) hp (by rw [← List.head?_eq_getElem?]; exact hs)
  · refine ⟨h, a, b, c, d, ?_⟩
    unfold lastPart
    rw [a]; rfl
theorem at_of {s : Str} {h : Nat} (hl : h < s.length) (hn : NoSl s (h + 1) s.length) : At s (s.drop (h + 1)) (h + 1) := by
  refine ⟨⟨?_, ?_, ?_⟩, by omega⟩
  · rw [List.length_drop]; omega
  · intro j; rw [List.getElem?_drop]
  · intro j
    rw [List.getElem?_drop]
    by_cases hj : h + 1 + j < s.length
    · exact hn _ (by omega) hj
    · rw [List.getElem?_eq_none (by omega)]; simp

/-- The points that the scan stops at are the reference's, and as many. -/
theorem scan_cuts {s name : Str} {h : Nat} (ha : At s name (h + 1)) (hb : slashB s s.length = (h : Int)) (hc : s[h]? = some 47) :
    (List.range' 0 name.length).filter (isCut name (h + 1) (skipsOf s)) = cutPoints name ∧ ((countDots name : Int) - (skipsOf s).length) = ((cutPoints name).length : Int) := by
  have hl := ha.len
  have hsk : skipsOf s = skipsFrom s (s.length - 1) (h + 1) := by
    unfold skipsOf
    rw [hb, if_neg (by omega), Int.toNat_natCast]
    obtain ⟨m, hm⟩ : ∃ m, s.length = m + 1 := ⟨s.length - 1, by omega⟩
    rw [hm, Nat.add_sub_cancel]
    show (if s.length ≤ h then _ else _) = _
    rw [if_neg (by omega), if_neg (fun e => by rw [hc] at e; exact absurd e.2.1 (by decide))]
  rw [hsk]
  constructor
  · have := cuts_filter ha.toTail name.length (s.length - 1) 0 (by omega) (by omega) [] (fun x hx => by simp at hx)
    rw [List.nil_append, Nat.sub_zero, Nat.add_zero] at this
    exact this.symm
  · have h1 := cuts_count ha.toTail name.length (s.length - 1) 0 (by omega) (by omega)
    have h2 := dotsUp_count name name.length (Nat.le_refl _)
    rw [List.take_length] at h2
    rw [Nat.add_zero, Nat.sub_zero, h2] at h1
    unfold countDots cutPoints
    omega

/-! ### The last word: the extension -/
theorem tagWord_none {x : Str} : ∀ (l : List Str) (T : List Str), (tagWord x l T).isSome = true → ∀ q ∈ l, startsL (lowerL x) q = true → x.length ≠ q.length
  | [], _, _, q, hq, _ => by simp at hq
  | t :: r, T, h, q, hq, hs => by
    unfold tagWord at h
    rcases List.mem_cons.1 hq with rfl | hq
    · rw [if_pos hs] at h
      intro e
      rw [if_pos (.inr e)] at h
      cases h
    · split at h
      · split at h
        · cases h
        · exact tagWord_none r _ h q hq hs
      · exact tagWord_none r _ h q hq hs
theorem layout_tags {name : Str} (T0 : List Str) : ∀ (m i : Nat) (T : List Str), i + m = (cutPoints name).length → layoutWords name (cutPoints name) m (fromAt (cutPoints name) i) T = true →
    ∀ j, i ≤ j → j ≤ (cutPoints name).length → TagOK kLayouts (wordAt name (cutPoints name) j (fromAt (cutPoints name) j)) ∧ wordAt name (cutPoints name) j (fromAt (cutPoints name) j) ≠ []
  | m, i, T, hm, h, j, hij, hj => by
    have hi : i ≤ (cutPoints name).length := by omega
    have e : m = (cutPoints name).length - i := by omega
    rw [e, layoutWords_at hi] at h
    by_cases hw : wordAt name (cutPoints name) i (fromAt (cutPoints name) i) = []
    · rw [if_pos hw] at h; cases h
    · rw [if_neg hw] at h
      cases ht : tagsOf (wordAt name (cutPoints name) i (fromAt (cutPoints name) i)) T with
      | none => rw [ht] at h; cases h
      | some T' =>
        rw [ht] at h
        by_cases hji : j = i
        · subst hji
          refine ⟨fun _ hwr q hq hs => ?_, hw⟩
          unfold tagsOf wrapOk wrapStr at ht
          rw [isWrap_wrapped, hwr] at ht
          have ht : tagWord (innerOf (wordAt name (cutPoints name) j (fromAt (cutPoints name) j))) tagsList T = some T' := ht
          exact tagWord_none tagsList T (by rw [ht]; rfl) q hq hs
        · have hlt : i < (cutPoints name).length := by omega
          have h : (if i < (cutPoints name).length then layoutWords name (cutPoints name) ((cutPoints name).length - (i + 1)) (endAt name (cutPoints name) i + 1) T' else true) = true := h
          rw [if_pos hlt] at h
          have h : layoutWords name (cutPoints name) ((cutPoints name).length - (i + 1)) (endAt name (cutPoints name) i + 1) T' = true := h
          have e2 : endAt name (cutPoints name) i + 1 = fromAt (cutPoints name) (i + 1) := by
            unfold endAt fromAt
            rw [if_pos hlt, if_neg (by omega), Nat.add_sub_cancel]
          rw [e2] at h
          exact layout_tags T0 ((cutPoints name).length - (i + 1)) (i + 1) T' (by omega) h j (by omega) hj
  termination_by m => m
  decreasing_by omega

/-- What wordsKnown says of a last part with a point. -/
structure NameOK (comp name : Str) : Prop where
  last : isWrap (name.drop ((cutPoints name).getD ((cutPoints name).length - 1) 0 + 1)) = false
  first : 0 < (cutPoints name).getD 0 0
  ext : (cutPoints name).getD ((cutPoints name).length - 1) 0 + 1 < name.length
  tag : ∀ i, i ≤ (cutPoints name).length → TagOK comp (wordAt name (cutPoints name) i (fromAt (cutPoints name) i))
theorem name_ok {comp name : Str} (hc : cutPoints name ≠ []) (h : wordsKnown comp name = true) : NameOK comp name := by
  have hl : 0 < (cutPoints name).length := List.length_pos_iff.2 hc
  have eL : (cutPoints name).getLastD 0 = (cutPoints name).getD ((cutPoints name).length - 1) 0 := by
    rw [List.getLastD_eq_getLast?, List.getLast?_eq_getElem?, List.getD_eq_getElem?_getD]
  have eH : (cutPoints name).headD 0 = (cutPoints name).getD 0 0 := by
    rw [List.headD_eq_head?_getD, List.head?_eq_getElem?, List.getD_eq_getElem?_getD]
  have hlt : (cutPoints name).getD ((cutPoints name).length - 1) 0 < name.length := by
    have hx : (cutPoints name).length - 1 < (cutPoints name).length := by omega
    have := cut_lt hx
    rw [List.getD_eq_getElem?_getD, List.getElem?_eq_getElem hx]
    exact this
  unfold wordsKnown at h
  dsimp only at h
  rw [if_neg hc, eL, eH] at h
  split at h
  · cases h
  · rename_i hn
    have n1 : ¬ (wrapped (name.drop ((cutPoints name).getD ((cutPoints name).length - 1) 0 + 1))).isSome = true := fun e => hn (.inl e)
    have n2 : (cutPoints name).getD 0 0 ≠ 0 := fun e => hn (.inr (.inl e))
    have n3 : (cutPoints name).getD ((cutPoints name).length - 1) 0 + 1 ≠ name.length := fun e => hn (.inr (.inr e))
    refine ⟨?_, by omega, by omega, ?_⟩
    · rw [isWrap_wrapped] at n1
      cases hw : isWrap (name.drop ((cutPoints name).getD ((cutPoints name).length - 1) 0 + 1)) with
      | false => rfl
      | true => rw [hw] at n1; exact absurd rfl n1
    · intro i hi hcomp
      split at h
      · have := layout_tags (name := name) [] (cutPoints name).length 0 [] (by omega) h i (by omega) hi
        exact this.1 rfl
      · rename_i hne; exact absurd hcomp hne

theorem cutsFrom_dot (s : Str) : ∀ (n i : Nat) {x : Nat}, x ∈ cutsFrom s n i → s[x]? = some 46
  | 0, i, x, h => by simp [cutsFrom] at h
  | n + 1, i, x, h => by
    unfold cutsFrom at h
    split at h
    · simp at h
    · split at h
      · exact cutsFrom_dot s n (i + 1) h
      · rename_i hd
        have hd : s[i]? = some 46 := by simpa using hd
        split at h
        · rcases List.mem_cons.1 h with rfl | h
          · exact hd
          · exact cutsFrom_dot s n (i + 1) h
        · split at h
          · rename_i k _
            rcases List.mem_cons.1 h with rfl | h
            · exact hd
            · exact cutsFrom_dot s n (k + 1) h
          · rcases List.mem_cons.1 h with rfl | h
            · exact hd
            · exact cutsFrom_dot s n (i + 1) h
theorem cuts_dot {name : Str} {x : Nat} (h : x ∈ cutPoints name) : name[x]? = some 46 := cutsFrom_dot name _ _ h

/-! ### The marks -/
def PosMarks (l : List Int) : Prop := ∀ m ∈ l, m < 0 ∨ 0 < m
theorem posMarks_snoc {l : List Int} {m : Int} (h : PosMarks l) (hm : m < 0 ∨ 0 < m) : PosMarks (l ++ [m]) := by
  intro x hx
  rw [List.mem_append, List.mem_singleton] at hx
  rcases hx with hx | rfl
  · exact h x hx
  · exact hm
theorem markEnd_pos : ∀ (l : List Int) (n : Nat), PosMarks l → 0 < n → 0 < markEnd l n
  | [], n, _, hn => hn
  | m :: l, n, h, hn => by
    unfold markEnd
    rw [List.foldl_cons]
    have h2 : PosMarks l := fun x hx => h x (List.mem_cons_of_mem _ hx)
    have hm := h m List.mem_cons_self
    split
    · exact markEnd_pos l m.toNat h2 (by omega)
    · exact markEnd_pos l n h2 hn
theorem readStep_marks (site : SiteM) (r : ReadM) (word : Str) (at_ : Int) : (readStep site r word at_).marks = r.marks ∨ (readStep site r word at_).marks = r.marks ++ [at_] := by
  unfold readStep
  split
  · unfold ReadM.wrapper
    dsimp only
    repeat' split
    all_goals exact .inr rfl
  · unfold ReadM.plain
    dsimp only
    repeat' split
    all_goals first | exact .inr rfl | exact .inl rfl
theorem readWord_marks (site : SiteM) (name : Str) (r : ReadM) (i e : Nat) (hi : i ≤ (cutPoints name).length) (h0 : 0 < (cutPoints name).getD 0 0) (h : PosMarks r.marks) : PosMarks (readWord site name (cutPoints name) r i e).1.marks := by
  have hat : (if i = 0 then (-1 : Int) else ((cutPoints name).getD (i - 1) 0 : Nat)) < 0 ∨ 0 < (if i = 0 then (-1 : Int) else ((cutPoints name).getD (i - 1) 0 : Nat)) := by
    by_cases hz : i = 0
    · rw [if_pos hz]; exact .inl (by decide)
    · rw [if_neg hz]
      right
      have h1 : i - 1 < (cutPoints name).length := by omega
      by_cases hz2 : i - 1 = 0
      · rw [hz2]; omega
      · have := cut_mono (name := name) (i := 0) (j := i - 1) (by omega) h1
        rw [List.getD_eq_getElem?_getD, List.getElem?_eq_getElem h1]
        show (0 : Int) < ((cutPoints name)[i - 1] : Nat)
        omega
  unfold readWord
  dsimp only
  split
  · exact posMarks_snoc h hat
  · rcases readStep_marks site r ((name.drop (if i = 0 then 0 else (cutPoints name).getD (i - 1) 0 + 1)).take (e - (if i = 0 then 0 else (cutPoints name).getD (i - 1) 0 + 1))) (if i = 0 then (-1 : Int) else ((cutPoints name).getD (i - 1) 0 : Nat)) with q | q
    · have q2 : PosMarks (readStep site r ((name.drop (if i = 0 then 0 else (cutPoints name).getD (i - 1) 0 + 1)).take (e - (if i = 0 then 0 else (cutPoints name).getD (i - 1) 0 + 1))) (if i = 0 then (-1 : Int) else ((cutPoints name).getD (i - 1) 0 : Nat))).marks := by rw [q]; exact h
      exact q2
    · have q2 : PosMarks (readStep site r ((name.drop (if i = 0 then 0 else (cutPoints name).getD (i - 1) 0 + 1)).take (e - (if i = 0 then 0 else (cutPoints name).getD (i - 1) 0 + 1))) (if i = 0 then (-1 : Int) else ((cutPoints name).getD (i - 1) 0 : Nat))).marks := by rw [q]; exact posMarks_snoc h hat
      exact q2
theorem readDown_marks (site : SiteM) (name : Str) (h0 : 0 < (cutPoints name).getD 0 0) : ∀ (n : Nat) (r : ReadM) (e : Nat), n ≤ (cutPoints name).length → PosMarks r.marks → PosMarks (readDown site name (cutPoints name) n r e).marks
  | 0, r, e, hn, h => readWord_marks site name r 0 e hn h0 h
  | n + 1, r, e, hn, h => readDown_marks site name h0 n _ _ (by omega) (readWord_marks site name r (n + 1) e hn h0 h)

/-- The reading at its beginning. -/
def read0 (comp path name : Str) : ReadM := { w := { component := comp, path := path, name := name, nameEnd := name.length }, layouts := comp == kLayouts, shortcode := holdsL path kShort, points := (cutPoints name).length }
def readAll (site : SiteM) (comp path name : Str) : ReadM :=
  if cutPoints name = [] then read0 comp path name else readDown site name (cutPoints name) (cutPoints name).length (read0 comp path name) name.length

theorem mark_pos {site : SiteM} {comp path name : Str} (h : cutPoints name ≠ []) (ok : NameOK comp name) : 0 < markEnd (readAll site comp path name).marks name.length := by
  unfold readAll
  rw [if_neg h]
  refine markEnd_pos _ _ (readDown_marks site name ok.first _ _ _ (Nat.le_refl _) (fun m hm => ?_)) (by have := ok.ext; omega)
  cases hm
theorem readDown_ext (site : SiteM) (comp path name : Str) (h : cutPoints name ≠ []) :
    readDown site name (cutPoints name) (cutPoints name).length (read0 comp path name) name.length =
      (let c := (cutPoints name).getD ((cutPoints name).length - 1) 0
       let r1 := (read0 comp path name).identify (name.drop (c + 1)) (c : Nat)
       readDown site name (cutPoints name) ((cutPoints name).length - 1) { r1 with w := { r1.w with ext := name.drop (c + 1) } } c) := by
  obtain ⟨m, hm⟩ : ∃ m, (cutPoints name).length = m + 1 := ⟨(cutPoints name).length - 1, by have := List.length_pos_iff.2 h; omega⟩
  have e : (name.drop ((cutPoints name).getD m 0 + 1)).take (name.length - ((cutPoints name).getD m 0 + 1)) = name.drop ((cutPoints name).getD m 0 + 1) := by
    rw [List.take_of_length_le]
    rw [List.length_drop]; exact Nat.le_refl _
  rw [hm, Nat.add_sub_cancel]
  show readDown site name (cutPoints name) m (readWord site name (cutPoints name) (read0 comp path name) (m + 1) name.length).1 (readWord site name (cutPoints name) (read0 comp path name) (m + 1) name.length).2 = _
  have hr : readWord site name (cutPoints name) (read0 comp path name) (m + 1) name.length = (let r1 := (read0 comp path name).identify (name.drop ((cutPoints name).getD m 0 + 1)) ((cutPoints name).getD m 0 : Nat); ({ r1 with w := { r1.w with ext := name.drop ((cutPoints name).getD m 0 + 1) } }, (cutPoints name).getD m 0)) := by
    unfold readWord
    dsimp only
    have z : (m + 1 = 0) = False := by simp
    simp only [z, if_false, Nat.add_sub_cancel]
    rw [if_pos hm.symm, e]
  rw [hr]

/-! ### The whole scan -/
structure Read (site : SiteM) (comp s name : Str) (n0 : Nat) (p : PathS) : Prop where
  none : cutPoints name = [] → p = { startP comp s with cHigh := p.cHigh, cLow := p.cLow, sHigh := p.sHigh }
  some : cutPoints name ≠ [] → Sim site comp p (readAll site comp s name) ∧ p.nameHigh = (n0 : Int) + markEnd (readAll site comp s name).marks name.length ∧
    Extra n0 (n0 + (cutPoints name).getD ((cutPoints name).length - 1) 0 + 1, s.length) p
  hc : p.cHigh = (n0 : Int)
  core : p.s = s ∧ p.comp = comp ∧ p.trim = false ∧ p.typ = (if holdsL s kShort then 7 else 0)

theorem Read.bounds {site : SiteM} {comp s name : Str} {n0 : Nat} {p q : PathS} (h : Read site comp s name n0 p) (hb : BoundsOnly p q) : Read site comp s name n0 q := by
  unfold BoundsOnly at hb
  have e : q = { p with cHigh := p.cHigh, cLow := q.cLow, sHigh := q.sHigh } := hb
  refine ⟨fun hn => ?_, fun hn => ?_, ?_, ?_⟩
  · have := h.none hn
    rw [hb, this]
  · obtain ⟨a, b, c⟩ := h.some hn
    refine ⟨?_, ?_, ?_⟩
    · rw [e]; exact a.bounds _ _ _
    · rw [e]; exact b
    · rw [e]; exact ⟨c.hd, c.lp, c.ly, c.la, c.lg⟩
  · rw [e]; exact h.hc
  · rw [e]; exact h.core

theorem scan_read (site : SiteM) (comp s : Str) (hs : Words site) (hh : s.head? = Option.some 47) (hk : wordsKnown comp (lastPart s) = true) :
    ∃ h : Nat, slashB s s.length = (h : Int) ∧ h < s.length ∧ s[h]? = Option.some 47 ∧ NoSl s (h + 1) s.length ∧ lastPart s = s.drop (h + 1) ∧
      Read site comp s (lastPart s) (h + 1) (ScanM.down site comp (skipsOf s) ((countDots (lastPart s) : Int) - (skipsOf s).length) s.length { p := startP comp s }).p := by
  obtain ⟨h, hb, hlt, hc, hn, hlp⟩ := last_slash hh
  refine ⟨h, hb, hlt, hc, hn, hlp, ?_⟩
  have ha : At s (lastPart s) (h + 1) := by rw [hlp]; exact at_of hlt hn
  obtain ⟨hcut, hnum⟩ := scan_cuts ha hb hc
  generalize lastPart s = name at *
  rw [hnum]
  have hlen := ha.len
  have e1 := scan_name site comp ((cutPoints name).length : Int) (skipsOf s) ha.toTail name.length { p := startP comp s } rfl
  rw [← hlen, hcut] at e1
  rw [e1]
  show Read site comp s name (h + 1) (ScanM.down site comp (skipsOf s) ((cutPoints name).length : Int) (h + 1) _).p
  -- the slash ahead of the last part
  have slash : ∀ (st : ScanM), st.p.s = s → st.p.cHigh = -1 → Read site comp s name (h + 1) ({ (if 0 < st.lastDot then PathS.parseId site comp st.p h st.lastDot ((cutPoints name).length : Int) true else st.p) with cHigh := ((h : Nat) : Int) + 1 } : PathS) →
      Read site comp s name (h + 1) (ScanM.down site comp (skipsOf s) ((cutPoints name).length : Int) (h + 1) st).p := by
    intro st h1 h2 h3
    show Read site comp s name (h + 1) (ScanM.down site comp (skipsOf s) ((cutPoints name).length : Int) h (ScanM.step site comp (skipsOf s) ((cutPoints name).length : Int) st h)).p
    have e2 : ScanM.step site comp (skipsOf s) ((cutPoints name).length : Int) st h = { st with slashes := st.slashes + 1, p := (if 0 < h then { ({ (if 0 < st.lastDot then PathS.parseId site comp st.p h st.lastDot ((cutPoints name).length : Int) true else st.p) with cHigh := ((h : Nat) : Int) + 1 } : PathS) with sHigh := ((h : Nat) : Int) } else { (if 0 < st.lastDot then PathS.parseId site comp st.p h st.lastDot ((cutPoints name).length : Int) true else st.p) with cHigh := ((h : Nat) : Int) + 1 }) } := by
      unfold ScanM.step
      rw [h1, if_neg (by rw [hc]; decide), if_pos hc, if_pos h2]
    rw [e2]
    have h4 : Read site comp s name (h + 1) (if 0 < h then { ({ (if 0 < st.lastDot then PathS.parseId site comp st.p h st.lastDot ((cutPoints name).length : Int) true else st.p) with cHigh := ((h : Nat) : Int) + 1 } : PathS) with sHigh := ((h : Nat) : Int) } else { (if 0 < st.lastDot then PathS.parseId site comp st.p h st.lastDot ((cutPoints name).length : Int) true else st.p) with cHigh := ((h : Nat) : Int) + 1 }) := by
      split
      · exact h3.bounds rfl
      · exact h3
    exact h4.bounds (down_shut site comp (skipsOf s) ((cutPoints name).length : Int) h _ (by rw [h4.hc]; omega))
  by_cases hnil : cutPoints name = []
  · -- no point
    rw [hnil]
    rw [hnil] at slash
    refine slash _ rfl rfl ?_
    rw [if_neg (by show ¬ 0 < 0; omega)]
    exact ⟨fun _ => rfl, fun e => absurd hnil e, by show ((h : Nat) : Int) + 1 = ((h + 1 : Nat) : Int); omega, rfl, rfl, rfl, rfl⟩
  · have hok := name_ok hnil hk
    have hpos : 0 < (cutPoints name).length := List.length_pos_iff.2 hnil
    obtain ⟨c, hcc⟩ : ∃ c, c = (cutPoints name).getD ((cutPoints name).length - 1) 0 := ⟨_, rfl⟩
    have hx : (cutPoints name).length - 1 < (cutPoints name).length := by omega
    have hrev : (cutPoints name).reverse = c :: ((cutPoints name).take ((cutPoints name).length - 1)).reverse := by
      have : cutPoints name = (cutPoints name).take ((cutPoints name).length - 1) ++ [c] := by
        rw [hcc, List.getD_eq_getElem?_getD, List.getElem?_eq_getElem hx, Option.getD_some, ← List.take_succ_eq_append_getElem hx, show (cutPoints name).length - 1 + 1 = (cutPoints name).length by omega, List.take_length]
      have h2 := congrArg List.reverse this
      rw [List.reverse_append] at h2
      exact h2
    rw [hrev]
    -- the extension
    have hw : sub s (h + 1 + c + 1, s.length) = name.drop (c + 1) := by
      have := ha.sub (c + 1) name.length
      rw [List.take_of_length_le (by rw [List.length_drop]; exact Nat.le_refl _)] at this
      rw [hlen]; exact this
    have hl := hok.last
    have he := hok.ext
    rw [← hcc] at hl he
    obtain ⟨P0, hP0⟩ : ∃ q, q = PathS.parseId site comp (startP comp s) (h + 1 + c) 0 ((cutPoints name).length : Int) false := ⟨_, rfl⟩
    have hP : P0 = { startP comp s with known := [(h + 1 + c + 1, s.length)], fmt := (if (comp == kLayouts) && isFormat site (name.drop (c + 1)) [] then 0 else -1), nameHigh := ((h + 1 + c : Nat) : Int) } := by
      rw [hP0, parseId_open site comp _ _ _ _ _ rfl, if_pos (show (startP comp s).known = [] from rfl)]
      have hword : PathS.word site comp (startP comp s) (h + 1 + c + 1, (startP comp s).s.length) ((cutPoints name).length : Int) false = ({ startP comp s with known := [(h + 1 + c + 1, s.length)], fmt := (if (comp == kLayouts) && isFormat site (name.drop (c + 1)) [] then 0 else -1) }, true) := by
        unfold PathS.word
        dsimp only
        rw [show sub (startP comp s).s (h + 1 + c + 1, (startP comp s).s.length) = name.drop (c + 1) from hw]
        rw [hl]
        rw [if_neg (by decide), if_pos (show (startP comp s).known = [] from rfl)]
        rfl
      rw [hword]
      exact finId_mid _ _ _
    obtain ⟨r1, hr1⟩ : ∃ r : ReadM, r = (let r1 := (read0 comp s name).identify (name.drop (c + 1)) (c : Nat); { r1 with w := { r1.w with ext := name.drop (c + 1) } }) := ⟨_, rfl⟩
    have hall : readAll site comp s name = readDown site name (cutPoints name) ((cutPoints name).length - 1) r1 ((cutPoints name).getD ((cutPoints name).length - 1) 0) := by
      unfold readAll
      rw [if_neg hnil, readDown_ext site comp s name hnil]
      dsimp only
      rw [← hcc, hr1]
    have hext : name.drop (c + 1) ≠ [] := fun e => by
      have := congrArg List.length e
      rw [List.length_drop] at this
      simp at this; omega
    have hsub : ([(h + 1 + c + 1, s.length)] : List (Nat × Nat)).map (sub s) = [name.drop (c + 1)] := by rw [List.map_singleton, hw]
    have hsim : Sim site comp P0 r1 := by
      rw [hP, hr1]
      refine ⟨rfl, rfl, ?_, hsub.symm, rfl, rfl, hext, ⟨rfl, .inl ⟨rfl, rfl⟩⟩, ⟨Fld.none, rfl⟩, .nil, .inl ⟨rfl, rfl⟩, ⟨Fld.none, rfl⟩, ⟨rfl, by show (-1 : Int) ≤ -1; omega⟩, ⟨[], Fld.none, rfl⟩, Fld.none, Fld.none, Fld.none, rfl⟩
      show holdsL s kShort = decide ((if holdsL s kShort then (7 : Int) else 0) = 7)
      cases holdsL s kShort <;> rfl
    have hex : Extra (h + 1) (h + 1 + c + 1, s.length) P0 := by
      rw [hP]
      exact ⟨rfl, fun _ e => absurd rfl e, .inl rfl, fun e => absurd rfl e, fun e => absurd rfl e⟩
    have hcn : c < name.length := by omega
    have hmark : markEnd [((c : Nat) : Int)] name.length = c := by
      show (if 0 ≤ ((c : Nat) : Int) ∧ ((c : Nat) : Int) < ((name.length : Nat) : Int) then ((c : Nat) : Int).toNat else name.length) = c
      rw [if_pos ⟨by omega, by omega⟩]; rfl
    have hmid : Mid site comp s name (h + 1) ((cutPoints name).length : Int) P0 (h + 1 + c) r1 ((cutPoints name).getD ((cutPoints name).length - 1) 0) := by
      rw [← hcc]
      refine ⟨hsim, by rw [hP]; rfl, by rw [hP]; rfl, rfl, by omega, ?_, ?_, ?_⟩
      · rw [hr1]
        show decide ((1 : Int) < ((cutPoints name).length : Int)) = decide (2 ≤ (cutPoints name).length)
        rw [decide_eq_decide]; omega
      · rw [hP, hr1]
        show ((h + 1 + c : Nat) : Int) = ((h + 1 : Nat) : Int) + (markEnd [((c : Nat) : Int)] name.length : Nat)
        rw [hmark]; omega
      · rw [hr1]
        show c ≤ markEnd [((c : Nat) : Int)] name.length
        rw [hmark]; exact Nat.le_refl _
    obtain ⟨s1, s2, s3, s4, s5⟩ := chain_sim hs ha (fun i hi => hok.tag i (by omega)) ((cutPoints name).length - 1) P0 (h + 1 + c) r1 hx hmid
    have hex2 := procDots_extra site comp ((cutPoints name).length : Int) (n0 := h + 1) ((cutPoints name).take ((cutPoints name).length - 1)).reverse (h + 1 + c) hex (by rw [hP]; rfl)
    have hco2 := procDots_core site comp ((cutPoints name).length : Int) (h + 1) ((cutPoints name).take ((cutPoints name).length - 1)).reverse P0 (h + 1 + c)
    have hst : procDots site comp ((cutPoints name).length : Int) (h + 1) (startP comp s) 0 (c :: ((cutPoints name).take ((cutPoints name).length - 1)).reverse) = procDots site comp ((cutPoints name).length : Int) (h + 1) P0 (h + 1 + c) ((cutPoints name).take ((cutPoints name).length - 1)).reverse := by
      rw [hP0]; rfl
    rw [show (({ p := startP comp s } : ScanM).p) = startP comp s from rfl, show (({ p := startP comp s } : ScanM).lastDot) = 0 from rfl, hst]
    generalize procDots site comp ((cutPoints name).length : Int) (h + 1) P0 (h + 1 + c) ((cutPoints name).take ((cutPoints name).length - 1)).reverse = PP at s1 s2 s3 s4 s5 hex2 hco2 ⊢
    have hPs : P0.s = s := by rw [hP]; rfl
    refine slash _ (hco2.1.trans hPs) s5 ?_
    rw [if_pos s4]
    have hex3 := parseId_extra site comp hex2 s5 (h + 1 - 1) PP.2 ((cutPoints name).length : Int) true (fun e => by cases e)
    rw [show h + 1 - 1 = h by omega] at s1 s2 s3 hex3
    show Read site comp s name (h + 1) { PathS.parseId site comp PP.1 h PP.2 ((cutPoints name).length : Int) true with cHigh := ((h : Nat) : Int) + 1 }
    rw [← hall] at s1 s3
    generalize PathS.parseId site comp PP.1 h PP.2 ((cutPoints name).length : Int) true = Q at s1 s2 s3 hex3 ⊢
    obtain ⟨d1, d2, d3, d4, d5, d6, d7⟩ := s2
    refine ⟨fun e => absurd e hnil, fun _ => ⟨s1.bounds _ _ _, s3, by rw [← hcc]; exact ⟨hex3.hd, hex3.lp, hex3.ly, hex3.la, hex3.lg⟩⟩, by show ((h : Nat) : Int) + 1 = ((h + 1 : Nat) : Int); omega, ?_, ?_, ?_, ?_⟩
    · show Q.s = s; rw [d1]; exact hPs
    · show Q.comp = comp; rw [d2, hP]; rfl
    · show Q.trim = false; rw [d7, hP]; rfl
    · show Q.typ = _; rw [d3, hP]; rfl

end Go.Proofs.YtbpoljgchbfhpaaGreatDoor
