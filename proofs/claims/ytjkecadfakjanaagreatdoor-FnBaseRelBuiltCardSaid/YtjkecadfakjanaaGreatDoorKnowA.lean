/- What is said of a site whose paths are known; the told path of nothing. Conditions: none. -/
import Derived.Test.YtjkecadfakjanaaGreatDoorParse
import Derived.Test.YtjkecadfakjanaaGreatDoorSpecD
set_option maxRecDepth 100000
set_option linter.unusedVariables false
set_option linter.unusedSimpArgs false
namespace Go.Proofs.YtjkecadfakjanaaGreatDoor
open Go.RowKit
attribute [local go_sem] B_extract B_toList B_append

theorem results_cell_tmp {P : Program} {fn : Func} {tmps : Array Value} {w : World} {a b : Nat} {t : TypeId} {v u : Value} (g : Nat) (hr : fn.results = #[.cell a t, .tmp b]) (ht : tmps.getD a undef = .pointer (some ⟨g, 0, none⟩)) (hu : tmps.getD b undef = u)
  (hl : (loadVar t ⟨g, 0, none⟩).run P w = .ok v w) : (results fn tmps).run P w = .ok (.tuple #[v, u]) w := by
 rw [Array.getD_eq_getD_getElem?] at ht hu
 simp [results, hr, ht, hu, hl, asAddr]

theorem siteWords_once {l : List Str} (h : siteWords l = true) : Once l := by
 have h1 : siteWordsFrom [] l = true := by unfold siteWords at h; rw [Bool.and_eq_true] at h; exact h.1
 have h2 : ∀ k, k <= l.length -> siteWordsFrom (l.take k) (l.drop k) = true := by
  intro k
  induction k with
  | zero => intro _; exact h1
  | succ k ih =>
   intro hk
   have := ih (by omega)
   rw [siteWordsFrom_step (by omega)] at this
   simp only [Bool.and_eq_true] at this
   exact this.2
 intro k hk
 have := h2 k (by omega)
 rw [siteWordsFrom_step hk] at this
 simp only [Bool.and_eq_true, Bool.not_eq_true'] at this
 exact this.1.2
theorem pathKnown_site {site : SiteM} {comp s : Str} (h : pathKnown site comp s = true) : siteKnown site = true /\ holdsL s [47, 47] = false /\ asciiL s = true /\ asciiL comp = true /\ s.length <= 400 := by
 unfold pathKnown at h
 simp only [Bool.and_eq_true, Bool.not_eq_true', decide_eq_true_eq] at h
 obtain ⟨⟨⟨⟨⟨⟨h1, h2⟩, h3⟩, h4⟩, h5⟩, _⟩, _⟩ := h
 exact ⟨h1, h2, h3, h4, h5⟩
theorem siteKnown_once {site : SiteM} (h : siteKnown site = true) : Once site.languages := by
 rw [siteKnown_eq] at h
 simp only [Bool.and_eq_true] at h
 exact siteWords_once h.1.1.1.1.1

/-- Whether the laws say something of a path. -/
def knownL (site : SiteM) (comp s : Str) : Bool := shortL site comp s && pathKnown site comp s
theorem zeroTold (n : Nat) (w : World) : ToldAtN n w (toldVal {} (.slice none 0 0) (.slice none 0 0) (.slice none 0 0)) {} :=
 ⟨_, _, _, rfl, ⟨StrsAt.nil w, NewRow.nil⟩, ⟨StrsAt.nil w, NewRow.nil⟩, ⟨StrsAt.nil w, NewRow.nil⟩⟩

end Go.Proofs.YtjkecadfakjanaaGreatDoor
