/- What every finished path is: its type, its text, its bounds. No program here; no condition. -/
import Derived.Test.YtbpoljgchbfhpaaGreatDoorScan
set_option linter.unusedVariables false
set_option linter.unusedSimpArgs false
namespace Go.Proofs.YtbpoljgchbfhpaaGreatDoor

theorem doParse_finish (site : SiteM) (comp s : Str) : ∃ F sl, Scanned (normPath s) comp F ∧ doParseM site comp s = PathS.finish site comp F sl :=
  ⟨_, _, scan_scanned site comp (normPath s) (skipsOf (normPath s)) ((countDots (lastPart (normPath s)) : Int) - (skipsOf (normPath s)).length) (normPath_head s), rfl⟩

theorem fin1_keep (p : PathS) : (PathS.fin1 p).s = p.s ∧ (PathS.fin1 p).trim = p.trim ∧ (PathS.fin1 p).comp = p.comp ∧ (PathS.fin1 p).known = p.known ∧ (PathS.fin1 p).unknown = p.unknown ∧ (PathS.fin1 p).langs = p.langs ∧ (PathS.fin1 p).cHigh = p.cHigh ∧ (PathS.fin1 p).cLow = p.cLow ∧ (PathS.fin1 p).typ = p.typ := by
  unfold PathS.fin1; split <;> exact ⟨rfl, rfl, rfl, rfl, rfl, rfl, rfl, rfl, rfl⟩
theorem fin2_keep (site : SiteM) (p : PathS) (sl : Int) : (PathS.fin2 site p sl).s = p.s ∧ (PathS.fin2 site p sl).trim = p.trim ∧ (PathS.fin2 site p sl).comp = p.comp ∧ (PathS.fin2 site p sl).known = p.known ∧ (PathS.fin2 site p sl).unknown = p.unknown ∧ (PathS.fin2 site p sl).langs = p.langs ∧ (PathS.fin2 site p sl).cHigh = p.cHigh ∧ (PathS.fin2 site p sl).cLow = p.cLow ∧ (PathS.fin2 site p sl).nLow = p.nLow ∧ (PathS.fin2 site p sl).nHigh = p.nHigh := by
  unfold PathS.fin2
  repeat' split
  all_goals exact ⟨rfl, rfl, rfl, rfl, rfl, rfl, rfl, rfl, rfl, rfl⟩
theorem fin3_keep (comp : Str) (p : PathS) : (PathS.fin3 comp p).s = p.s ∧ (PathS.fin3 comp p).trim = p.trim ∧ (PathS.fin3 comp p).comp = p.comp ∧ (PathS.fin3 comp p).known = p.known ∧ (PathS.fin3 comp p).unknown = p.unknown ∧ (PathS.fin3 comp p).langs = p.langs ∧ (PathS.fin3 comp p).cHigh = p.cHigh ∧ (PathS.fin3 comp p).cLow = p.cLow ∧ (PathS.fin3 comp p).nLow = p.nLow ∧ (PathS.fin3 comp p).nHigh = p.nHigh ∧ (PathS.fin3 comp p).sHigh = p.sHigh := by
  unfold PathS.fin3
  repeat' split
  all_goals exact ⟨rfl, rfl, rfl, rfl, rfl, rfl, rfl, rfl, rfl, rfl, rfl⟩
theorem fin4_keep (p : PathS) : (PathS.fin4 p).s = p.s ∧ (PathS.fin4 p).trim = p.trim ∧ (PathS.fin4 p).comp = p.comp ∧ (PathS.fin4 p).known = p.known ∧ (PathS.fin4 p).unknown = p.unknown ∧ (PathS.fin4 p).langs = p.langs ∧ (PathS.fin4 p).cHigh = p.cHigh ∧ (PathS.fin4 p).cLow = p.cLow ∧ (PathS.fin4 p).nLow = p.nLow ∧ (PathS.fin4 p).nHigh = p.nHigh ∧ (PathS.fin4 p).sHigh = p.sHigh ∧ (PathS.fin4 p).typ = p.typ := by
  unfold PathS.fin4; split <;> exact ⟨rfl, rfl, rfl, rfl, rfl, rfl, rfl, rfl, rfl, rfl, rfl, rfl⟩

theorem fin2_typ (site : SiteM) (p : PathS) (sl : Int) : (PathS.fin2 site p sl).typ = p.typ ∨ ((PathS.fin2 site p sl).typ = 2 ∨ (PathS.fin2 site p sl).typ = 3 ∨ (PathS.fin2 site p sl).typ = 4 ∨ (PathS.fin2 site p sl).typ = 5) ∧ p.known ≠ [] ∧ p.nLow < p.nHigh := by
  unfold PathS.fin2
  split
  · exact .inl rfl
  · rename_i hk
    split
    · rename_i hn
      split
      · split
        · split
          · exact .inr ⟨.inr (.inl rfl), hk, hn⟩
          · exact .inr ⟨.inr (.inl rfl), hk, hn⟩
        · split
          · exact .inr ⟨.inr (.inr (.inl rfl)), hk, hn⟩
          · exact .inr ⟨.inl rfl, hk, hn⟩
      · split
        · exact .inr ⟨.inr (.inr (.inr rfl)), hk, hn⟩
        · exact .inl rfl
    · exact .inl rfl
theorem fin3_typ (comp : Str) (p : PathS) : (PathS.fin3 comp p).typ = p.typ ∨ 6 ≤ (PathS.fin3 comp p).typ ∧ (PathS.fin3 comp p).typ ≤ 9 := by
  unfold PathS.fin3
  repeat' split
  all_goals first | exact .inl rfl | exact .inr ⟨by simp, by simp⟩

/-- What is known of every path that a parse gives. -/
structure Finished (comp s : Str) (p : PathS) : Prop where
  s_ : p.s = normPath s
  trim : p.trim = false
  comp_ : p.comp = comp
  typ : p.typ = 0 ∨ 2 ≤ p.typ ∧ p.typ ≤ 9
  page : 2 ≤ p.typ → p.typ ≤ 5 → p.known ≠ [] ∧ p.nLow < p.nHigh
  low : p.nLow = p.cHigh.toNat
theorem doParse_finished (site : SiteM) (comp s : Str) : Finished comp s (doParseM site comp s) := by
  obtain ⟨F, sl, hF, e⟩ := doParse_finish site comp s
  obtain ⟨a1, a2, a3, a4, a5, a6, a7, a8, a9⟩ := fin1_keep F
  obtain ⟨b1, b2, b3, b4, b5, b6, b7, b8, b9, b10⟩ := fin2_keep site (PathS.fin1 F) sl
  obtain ⟨c1, c2, c3, c4, c5, c6, c7, c8, c9, c10, c11⟩ := fin3_keep comp (PathS.fin2 site (PathS.fin1 F) sl)
  obtain ⟨d1, d2, d3, d4, d5, d6, d7, d8, d9, d10, d11, d12⟩ := fin4_keep (PathS.fin3 comp (PathS.fin2 site (PathS.fin1 F) sl))
  have t2 := fin2_typ site (PathS.fin1 F) sl
  have t3 := fin3_typ comp (PathS.fin2 site (PathS.fin1 F) sl)
  have low : (PathS.fin1 F).nLow = F.cHigh.toNat := by unfold PathS.fin1; split <;> rfl
  rw [e]
  have e2 : PathS.finish site comp F sl = PathS.fin4 (PathS.fin3 comp (PathS.fin2 site (PathS.fin1 F) sl)) := rfl
  have hty := hF.ty
  refine ⟨?_, ?_, ?_, ?_, ?_, ?_⟩
  · rw [e2, d1, c1, b1, a1]; exact hF.iv.ps
  · rw [e2, d2, c2, b2, a2]; exact hF.tr
  · rw [e2, d3, c3, b3, a3]; exact hF.cp
  · rw [e2, d12]
    rcases t3 with t3 | t3
    · rw [t3]
      rcases t2 with t2 | t2
      · rw [t2, a9, hty]; split
        · exact .inr ⟨by simp, by simp⟩
        · exact .inl rfl
      · obtain ⟨t2, _⟩ := t2; omega
    · omega
  · rw [e2, d12, d4, c4, b4, d9, d10, c9, c10, b9, b10]
    intro h1 h2
    rcases t3 with t3 | t3
    · rw [t3] at h1 h2
      rcases t2 with t2 | t2
      · rw [t2, a9, hty] at h1 h2
        split at h1
        · split at h2
          · exact absurd h2 (by decide)
          · rename_i x y; exact absurd x y
        · exact absurd h1 (by decide)
      · exact t2.2
    · omega
  · rw [e2, d9, c9, b9, low, d7, c7, b7, a7]

theorem Finished.path_eq {comp s : Str} {p : PathS} (h : Finished comp s p) : p.path = normPath s := by
  unfold PathS.path; rw [h.trim, h.s_]; rfl
theorem normPath_ne (s : Str) : normPath s ≠ [] := fun e => by
  have := normPath_head s
  rw [e] at this
  cases this

end Go.Proofs.YtbpoljgchbfhpaaGreatDoor
