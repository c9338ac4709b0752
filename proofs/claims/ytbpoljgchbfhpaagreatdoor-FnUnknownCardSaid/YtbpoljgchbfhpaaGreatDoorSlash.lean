/- Where a finished path's bounds of folders lie: at the slashes of its text. No program here; no condition. -/
import Derived.Test.YtbpoljgchbfhpaaGreatDoorFacts
set_option linter.unusedVariables false
set_option linter.unusedSimpArgs false
namespace Go.Proofs.YtbpoljgchbfhpaaGreatDoor

theorem slashB_at {s : Str} {i : Nat} (h : s[i]? = some 47) : ∀ (n : Nat), i < n → (∀ j, i < j → j < n → s[j]? ≠ some 47) → slashB s n = (i : Int)
  | 0, hi, _ => by omega
  | n + 1, hi, hno => by
    unfold slashB
    by_cases e : n = i
    · subst e; rw [if_pos h]
    · rw [if_neg (hno n (by omega) (by omega))]
      exact slashB_at h n (by omega) (fun j h1 h2 => hno j h1 (by omega))
theorem slashB_no {s : Str} : ∀ (n : Nat), (∀ j, j < n → s[j]? ≠ some 47) → slashB s n = -1
  | 0, _ => rfl
  | n + 1, hno => by
    unfold slashB
    rw [if_neg (hno n (by omega))]
    exact slashB_no n (fun j h => hno j (by omega))

/-- Places k and on have no slash; from k to h but one. -/
def NoSl (s : Str) (a b : Nat) : Prop := ∀ j, a ≤ j → j < b → s[j]? ≠ some 47
/-- What the scan knows of the slashes at places k and on. -/
structure SlInv (s : Str) (k : Nat) (st : ScanM) : Prop where
  hi0 : st.p.cHigh = -1 → NoSl s k s.length ∧ st.p.cLow = -1
  hi1 : st.p.cHigh ≠ -1 → ∃ h : Nat, st.p.cHigh = (h : Int) + 1 ∧ k ≤ h ∧ s[h]? = some 47 ∧ NoSl s (h + 1) s.length ∧ (st.p.cLow = -1 → NoSl s k h) ∧
    (st.p.cLow ≠ -1 → ∃ l : Nat, st.p.cLow = (l : Int) + 1 ∧ k ≤ l ∧ l < h ∧ s[l]? = some 47 ∧ NoSl s (l + 1) h)
  sh : st.p.sHigh = -1 ∧ NoSl s (max k 1) s.length ∨ ∃ h : Nat, st.p.sHigh = (h : Int) ∧ 0 < h ∧ k ≤ h ∧ s[h]? = some 47 ∧ NoSl s (max k 1) h
  ct : st.slashes = ((s.drop k).countP (· == 47) : Nat)

theorem noSl_cons {s : Str} {i b : Nat} (h : s[i]? ≠ some 47) (hn : NoSl s (i + 1) b) : NoSl s i b := fun j h1 h2 => by
  by_cases e : j = i
  · subst e; exact h
  · exact hn j (by omega) h2
theorem noSl_mono {s : Str} {a a' b : Nat} (hn : NoSl s a b) (h : a ≤ a') : NoSl s a' b := fun j h1 h2 => hn j (by omega) h2
theorem count_yes {s : Str} {i : Nat} (h : s[i]? = some 47) : (s.drop i).countP (· == 47) = (s.drop (i + 1)).countP (· == 47) + 1 := by
  have hi : i < s.length := by
    rcases Nat.lt_or_ge i s.length with h' | h'
    · exact h'
    · rw [List.getElem?_eq_none h'] at h; cases h
  have e : s[i] = 47 := by rw [List.getElem?_eq_getElem hi] at h; exact Option.some.inj h
  rw [drop_cons hi, List.countP_cons, e]; rfl
theorem count_no {s : Str} {i : Nat} (h : s[i]? ≠ some 47) : (s.drop i).countP (· == 47) = (s.drop (i + 1)).countP (· == 47) := by
  rcases Nat.lt_or_ge i s.length with h' | h'
  · have e : s[i] ≠ 47 := by rw [List.getElem?_eq_getElem h'] at h; simpa using h
    rw [drop_cons h', List.countP_cons, if_neg (by simpa using e)]; rfl
  · rw [List.drop_of_length_le h', List.drop_of_length_le (by omega)]

theorem sl_quiet {s : Str} {i : Nat} {st st' : ScanM} (h : SlInv s (i + 1) st) (hn : s[i]? ≠ some 47) (e1 : st'.p.cHigh = st.p.cHigh) (e2 : st'.p.cLow = st.p.cLow) (e3 : st'.p.sHigh = st.p.sHigh) (e4 : st'.slashes = st.slashes) : SlInv s i st' := by
  refine ⟨fun e => ?_, fun e => ?_, ?_, ?_⟩
  · rw [e1] at e
    obtain ⟨a, b⟩ := h.hi0 e
    exact ⟨noSl_cons hn a, by rw [e2]; exact b⟩
  · rw [e1] at e
    obtain ⟨x, a, b, c, d, f, g⟩ := h.hi1 e
    refine ⟨x, by rw [e1]; exact a, by omega, c, d, fun q => noSl_cons hn (f (by rw [← e2]; exact q)), fun q => ?_⟩
    obtain ⟨l, g1, g2, g3⟩ := g (by rw [← e2]; exact q)
    exact ⟨l, by rw [e2]; exact g1, by omega, g3⟩
  · have hmx : ∀ b, NoSl s (max (i + 1) 1) b → NoSl s (max i 1) b := fun b hb j h1 h2 => by
      by_cases q : j = i
      · subst q; exact hn
      · exact hb j (by omega) h2
    rcases h.sh with ⟨a, b⟩ | ⟨x, a, b, c, d, f⟩
    · exact .inl ⟨by rw [e3]; exact a, hmx _ b⟩
    · exact .inr ⟨x, by rw [e3]; exact a, b, by omega, d, hmx _ f⟩
  · rw [e4, h.ct, count_no hn]

theorem step_sl (site : SiteM) (comp : Str) (skips : List Nat) (numDots : Int) {s : Str} {i : Nat} {st : ScanM} (hv : SInv s (i + 1) st) (h : SlInv s (i + 1) st) : SlInv s i (ScanM.step site comp skips numDots st i) := by
  have hps := hv.ps
  have pid : ∀ b, (PathS.parseId site comp st.p i st.lastDot numDots b).cHigh = st.p.cHigh ∧ (PathS.parseId site comp st.p i st.lastDot numDots b).cLow = st.p.cLow ∧ (PathS.parseId site comp st.p i st.lastDot numDots b).sHigh = st.p.sHigh := by
    intro b
    by_cases hc : st.p.cHigh = -1
    · obtain ⟨i1, i2⟩ := hv.id hc
      obtain ⟨-, ⟨k1, k2, k3, k4, k5, k6, k7⟩, -, -⟩ := parseId_good site comp ((hv.op hc).1.down (Nat.le_succ i)) hc i st.lastDot i1 i2 (fun _ => Nat.le_refl i) numDots b
      exact ⟨k5, k4, k6⟩
    · rw [parseId_shut site comp st.p i st.lastDot numDots b hc]; exact ⟨rfl, rfl, rfl⟩
  unfold ScanM.step
  split
  · rename_i hd
    have hn : s[i]? ≠ some 47 := by rw [← hps, hd]; decide
    split
    · exact sl_quiet h hn rfl rfl rfl rfl
    · obtain ⟨a, b, c⟩ := pid false
      exact sl_quiet h hn a b c rfl
  · split
    · rename_i _ h47
      rw [hps] at h47
      -- the slash
      have main : ∀ p1 : PathS, p1.sHigh = st.p.sHigh → (p1.cHigh ≠ -1 → ∃ h : Nat, p1.cHigh = (h : Int) + 1 ∧ i ≤ h ∧ s[h]? = some 47 ∧ NoSl s (h + 1) s.length ∧ (p1.cLow = -1 → NoSl s i h) ∧
          (p1.cLow ≠ -1 → ∃ l : Nat, p1.cLow = (l : Int) + 1 ∧ i ≤ l ∧ l < h ∧ s[l]? = some 47 ∧ NoSl s (l + 1) h)) → p1.cHigh ≠ -1 →
          SlInv s i { st with slashes := st.slashes + 1, p := if 0 < i then { p1 with sHigh := (i : Int) } else p1 } := by
        intro p1 hs1 h1 hc1
        have hct : st.slashes + 1 = ((s.drop i).countP (· == 47) : Nat) := by rw [h.ct, count_yes h47]; omega
        by_cases hi : 0 < i
        · simp only [if_pos hi]
          refine ⟨fun e => absurd e hc1, fun e => h1 hc1, .inr ⟨i, rfl, hi, Nat.le_refl _, h47, fun j a b => by omega⟩, hct⟩
        · simp only [if_neg hi]
          refine ⟨fun e => absurd e hc1, fun e => h1 hc1, ?_, hct⟩
          have e0 : i = 0 := by omega
          subst e0
          rcases h.sh with ⟨a, b⟩ | ⟨x, a, b, c, d, f⟩
          · exact .inl ⟨by show p1.sHigh = -1; rw [hs1]; exact a, by simpa using b⟩
          · exact .inr ⟨x, by show p1.sHigh = _; rw [hs1]; exact a, b, by omega, d, by simpa using f⟩
      by_cases hc : st.p.cHigh = -1
      · simp only [if_pos hc]
        obtain ⟨n1, n2⟩ := h.hi0 hc
        have hp0 : ∀ q : PathS, q.cLow = st.p.cLow → q.sHigh = st.p.sHigh → SlInv s i { st with slashes := st.slashes + 1, p := if 0 < i then { ({ q with cHigh := (i : Int) + 1 } : PathS) with sHigh := (i : Int) } else { q with cHigh := (i : Int) + 1 } } := by
          intro q q1 q2
          refine main _ q2 (fun _ => ⟨i, rfl, Nat.le_refl _, h47, n1, fun _ j a b => by omega, fun e => absurd (show q.cLow = -1 by rw [q1]; exact n2) e⟩) ?_
          show (i : Int) + 1 ≠ -1; omega
        by_cases hl : 0 < st.lastDot
        · simp only [if_pos hl]
          obtain ⟨a, b, c⟩ := pid true
          exact hp0 _ b c
        · simp only [if_neg hl]
          exact hp0 _ rfl rfl
      · simp only [if_neg hc]
        obtain ⟨x, a, b, c, d, f, g⟩ := h.hi1 hc
        by_cases hw : st.p.cLow = -1
        · simp only [if_pos hw]
          refine main _ rfl (fun _ => ⟨x, a, by omega, c, d, fun e => absurd e (by show (i : Int) + 1 ≠ -1; omega), fun _ => ⟨i, rfl, Nat.le_refl _, by omega, h47, fun j j1 j2 => f hw j (by omega) j2⟩⟩) hc
        · simp only [if_neg hw]
          refine main _ rfl (fun _ => ⟨x, a, by omega, c, d, fun e => absurd e hw, fun e => ?_⟩) hc
          obtain ⟨l, g1, g2, g3⟩ := g e
          exact ⟨l, g1, by omega, g3⟩
    · rename_i _ h47
      rw [hps] at h47
      exact sl_quiet h h47 rfl rfl rfl rfl

theorem down_sl (site : SiteM) (comp : Str) (skips : List Nat) (numDots : Int) {s : Str} (hs : s.head? = some 47) : ∀ (k : Nat) {st : ScanM}, SInv s k st → SlInv s k st → SlInv s 0 (ScanM.down site comp skips numDots k st)
  | 0, st, _, h => h
  | k + 1, st, hv, h => down_sl site comp skips numDots hs k (step_inv site comp skips numDots hs hv) (step_sl site comp skips numDots hv h)
theorem start_sl (comp s : Str) : SlInv s s.length { p := startP comp s } := by
  refine ⟨fun _ => ⟨fun j a b => by omega, rfl⟩, fun e => absurd rfl e, .inl ⟨rfl, fun j a b => by omega⟩, ?_⟩
  show (0 : Int) = _
  rw [List.drop_of_length_le (Nat.le_refl _)]; rfl

/-- A finished path's bounds. -/
structure Bounds (s : Str) (p : PathS) : Prop where
  h : ∃ h : Nat, p.cHigh = (h : Int) + 1 ∧ s[h]? = some 47 ∧ NoSl s (h + 1) s.length ∧ (p.cLow = -1 → NoSl s 0 h) ∧
    (p.cLow ≠ -1 → ∃ l : Nat, p.cLow = (l : Int) + 1 ∧ l < h ∧ s[l]? = some 47 ∧ NoSl s (l + 1) h)
theorem doParse_bounds (site : SiteM) (comp s : Str) : Bounds (normPath s) (doParseM site comp s) := by
  have hh := normPath_head s
  have hsc := scan_scanned site comp (normPath s) (skipsOf (normPath s)) ((countDots (lastPart (normPath s)) : Int) - (skipsOf (normPath s)).length) hh
  have hsl := down_sl site comp (skipsOf (normPath s)) ((countDots (lastPart (normPath s)) : Int) - (skipsOf (normPath s)).length) hh (normPath s).length (start_inv comp (normPath s)) (start_sl comp (normPath s))
  obtain ⟨a1, a2, a3, a4, a5, a6, a7, a8, a9⟩ := fin1_keep (ScanM.down site comp (skipsOf (normPath s)) ((countDots (lastPart (normPath s)) : Int) - (skipsOf (normPath s)).length) (normPath s).length { p := startP comp (normPath s) }).p
  generalize hF : ScanM.down site comp (skipsOf (normPath s)) ((countDots (lastPart (normPath s)) : Int) - (skipsOf (normPath s)).length) (normPath s).length { p := startP comp (normPath s) } = F at hsc hsl a1 a2 a3 a4 a5 a6 a7 a8 a9
  have e : doParseM site comp s = PathS.fin4 (PathS.fin3 comp (PathS.fin2 site (PathS.fin1 F.p) F.slashes)) := by rw [← hF]; rfl
  obtain ⟨b1, b2, b3, b4, b5, b6, b7, b8, b9, b10⟩ := fin2_keep site (PathS.fin1 F.p) F.slashes
  obtain ⟨c1, c2, c3, c4, c5, c6, c7, c8, c9, c10, c11⟩ := fin3_keep comp (PathS.fin2 site (PathS.fin1 F.p) F.slashes)
  obtain ⟨d1, d2, d3, d4, d5, d6, d7, d8, d9, d10, d11, d12⟩ := fin4_keep (PathS.fin3 comp (PathS.fin2 site (PathS.fin1 F.p) F.slashes))
  rw [e]
  constructor
  rw [d7, c7, b7, a7, d8, c8, b8, a8]
  obtain ⟨x, q1, q2, q3, q4, q5, q6⟩ := hsl.hi1 (by have := hsc.hc; omega)
  refine ⟨x, q1, q3, q4, q5, fun h => ?_⟩
  obtain ⟨l, g1, g2, g3⟩ := q6 h
  exact ⟨l, g1, g3⟩

/-- The container is the last part of the folder. -/
theorem container_last {site : SiteM} {comp s : Str} {P : PathS} (hP : P = doParseM site comp s) :
    (P.dirM = [47] → P.containerM = []) ∧ (P.dirM ≠ [47] → ∃ k : Nat, slashB P.dirM P.dirM.length + 1 = (k : Int) ∧ k ≤ P.dirM.length ∧ P.containerM = P.dirM.drop k) := by
  have hF : Finished comp s P := hP ▸ doParse_finished site comp s
  have hB : Bounds (normPath s) P := hP ▸ doParse_bounds site comp s
  obtain ⟨h, a1, a2, a3, a4, a5⟩ := hB.h
  have hn : ∀ t, P.norm t = t := fun t => by unfold PathS.norm; rw [hF.trim]; rfl
  have hd : P.dirM = if (normPath s).take h = [] then [47] else (normPath s).take h := by
    unfold PathS.dirM
    dsimp only
    rw [hn, if_pos (show 0 < P.cHigh by omega), hF.s_, a1, show ((h : Int) + 1 - 1).toNat = h by omega]
  have hlen : h < (normPath s).length := by
    rcases Nat.lt_or_ge h (normPath s).length with x | x
    · exact x
    · rw [List.getElem?_eq_none x] at a2; cases a2
  have hc : P.containerM = if P.cLow = -1 then [] else sub (normPath s) (P.cLow.toNat, h) := by
    unfold PathS.containerM
    rw [hn, hF.s_, a1, show ((h : Int) + 1 - 1).toNat = h by omega]
  by_cases h0 : h = 0
  · subst h0
    rw [List.take_zero, if_pos rfl] at hd
    refine ⟨fun _ => ?_, fun e => absurd hd e⟩
    rw [hc, if_pos]
    apply Classical.byContradiction
    intro e
    obtain ⟨l, _, g2, _⟩ := a5 e
    omega
  · have htl : ((normPath s).take h).length = h := by rw [List.length_take]; omega
    have hne : (normPath s).take h ≠ [] := fun e => by rw [e] at htl; exact h0 htl.symm
    rw [if_neg hne] at hd
    have hl : P.cLow ≠ -1 := fun e => by
      have := a4 e 0 (Nat.le_refl _) (by omega)
      rw [← List.head?_eq_getElem?] at this
      exact this (normPath_head s)
    obtain ⟨l, g1, g2, g3, g4⟩ := a5 hl
    rw [if_neg hl, g1, show ((l : Int) + 1).toNat = l + 1 by omega] at hc
    have hget : ∀ j, j < h → ((normPath s).take h)[j]? = (normPath s)[j]? := fun j hj => List.getElem?_take_of_lt hj
    have hsb : slashB P.dirM P.dirM.length = (l : Int) := by
      rw [hd, htl]
      exact slashB_at (by rw [hget l g2]; exact g3) h g2 (fun j j1 j2 => by rw [hget j j2]; exact g4 j (by omega) j2)
    have hcd : P.containerM = P.dirM.drop (l + 1) := by
      rw [hc, hd]
      show ((normPath s).drop (l + 1)).take (h - (l + 1)) = _
      rw [List.drop_take]
    refine ⟨fun e => ?_, fun _ => ⟨l + 1, by rw [hsb]; rfl, by rw [hd, htl]; omega, hcd⟩⟩
    rw [hcd, e]
    rw [hd] at e
    have := congrArg List.length e
    rw [htl] at this
    have : l = 0 := by simp at this; omega
    subst this; rfl

theorem dirM_len {P : PathS} (ht : P.trim = false) (ok : PathOK P) : P.dirM.length ≤ 35184372088832 := by
  have h1 := ok.len
  have hn : ∀ t, P.norm t = t := fun t => by unfold PathS.norm; rw [ht]; rfl
  unfold PathS.dirM
  dsimp only
  rw [hn]
  generalize hd : (if 0 < P.cHigh then P.s.take (P.cHigh - 1).toNat else []) = d
  have hdl : d.length ≤ P.s.length := by
    rw [← hd]
    split
    · rw [List.length_take]; omega
    · simp
  by_cases he : d = []
  · rw [if_pos he]; simp
  · rw [if_neg he]; omega
/-- The base of pages and bundles. -/
theorem base_page {site : SiteM} {comp s : Str} {P : PathS} (hP : P = doParseM site comp s) (ok : PathOK P) :
    (P.typ = 2 → P.base = P.baseM false false) ∧ (P.isBundle = true → P.dirM = [47] → P.base = [] ∨ P.base = [47]) ∧ (P.isBundle = true → P.dirM ≠ [47] → P.base = P.dirM) := by
  have hF : Finished comp s P := hP ▸ doParse_finished site comp s
  have hn : ∀ t, P.norm t = t := fun t => by unfold PathS.norm; rw [hF.trim]; rfl
  have hc := ok.hc
  have hnm := ok.nm
  have hb : ∀ b, P.known ≠ [] → P.baseM false b = P.s.take (let high : Int := if b then P.cHigh - 1 else P.nHigh; (if high = 0 then high + 1 else high)).toNat := by
    intro b hk
    unfold PathS.baseM
    rw [if_neg hk, if_neg (by simp)]
    dsimp only
    rw [if_pos rfl, hn]
  refine ⟨fun h2 => ?_, fun hbu hd => ?_, fun hbu hd => ?_⟩
  · obtain ⟨hk, hlt⟩ := hF.page (by omega) (by omega)
    have hlow := hF.low
    have hpage : P.isPage = true := by unfold PathS.isPage; rw [h2]; decide
    have hib : P.isBundle = false := by unfold PathS.isBundle; rw [h2]; decide
    unfold PathS.base
    dsimp only
    rw [hpage, hib]
    show (if P.baseM false false = [47] ∧ true = true then [] else P.baseM false false) = _
    rw [if_neg]
    rintro ⟨e, -⟩
    rw [hb false hk] at e
    have := congrArg List.length e
    rw [List.length_take] at this
    simp only [Bool.false_eq_true, if_false] at this
    rw [if_neg (by omega)] at this
    simp at this
    omega
  all_goals
    have hty : 3 ≤ P.typ ∧ P.typ ≤ 5 := by
      unfold PathS.isBundle isBundleT at hbu
      simp at hbu
      omega
    obtain ⟨hk, hlt⟩ := hF.page (by omega) (by omega)
    have hpage : P.isPage = true := by unfold PathS.isPage; simp; omega
    have hbase : P.base = if P.baseM false true = [47] then [] else P.baseM false true := by
      unfold PathS.base
      dsimp only
      rw [hpage, hbu]
      show (if P.baseM false true = [47] ∧ true = true then [] else P.baseM false true) = _
      simp
    have hdir : P.dirM = if P.s.take (P.cHigh - 1).toNat = [] then [47] else P.s.take (P.cHigh - 1).toNat := by
      unfold PathS.dirM
      dsimp only
      rw [hn, if_pos (show 0 < P.cHigh by omega)]
    have hbm : P.baseM false true = P.s.take (if P.cHigh - 1 = 0 then P.cHigh - 1 + 1 else P.cHigh - 1).toNat := hb true hk
    have hs1 : P.s.take 1 = [47] := by
      have := normPath_head s
      rw [hF.s_]
      cases hx : normPath s with
      | nil => rw [hx] at this; cases this
      | cons c t => rw [hx] at this; simp at this; subst this; rfl
    by_cases h1 : P.cHigh - 1 = 0
    · rw [if_pos h1, h1] at hbm
      have : P.baseM false true = [47] := by rw [hbm]; exact hs1
      rw [hbase, if_pos this]
      first
      | exact .inl rfl
      | (exfalso; apply hd; rw [hdir, h1]; rfl)
    · rw [if_neg h1] at hbm
      have hne : P.s.take (P.cHigh - 1).toNat ≠ [] := fun e => by
        have := congrArg List.length e
        rw [List.length_take] at this
        have h3 := ok.pos
        simp only [List.length_nil] at this
        omega
      rw [if_neg hne] at hdir
      first
      | (rw [hbase, hbm, ← hdir, if_pos hd]; exact .inl rfl)
      | (rw [hbase, hbm, ← hdir, if_neg hd])

end Go.Proofs.YtbpoljgchbfhpaaGreatDoor
