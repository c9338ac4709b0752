/- Which step of a word finds it: the steps behind that one leave the path. Plain Lean; no program here; no condition. -/
import Derived.Test.YtjkecadfakjanaaGreatDoorWord
set_option linter.unusedVariables false
set_option linter.unusedSimpArgs false
namespace Go.Proofs.YtjkecadfakjanaaGreatDoor

theorem wrap_true {site : SiteM} {comp : Str} {p : PathS} {id : Nat × Nat} (h : isWrap (sub p.s id) = true) : (wrapStep site comp p id).2 = true := by
 unfold wrapStep
 rw [if_pos h]
 generalize (if parsePrefixM (innerOf (sub p.s id)) ≠ [] then PathS.applyPrefix site comp (parsePrefixM (innerOf (sub p.s id))) p (id.1 + 1 + (parsePrefixM (innerOf (sub p.s id))).length, id.2 - 1) else none) = x
 cases x <;> rfl
theorem lang_old {site : SiteM} {m : Bool} {sid : Str} {id : Nat × Nat} {p : PathS} (h : (langStep site m sid id p).2 = false) : langStep site m sid id p = (p, false) := by
 unfold langStep at h |-
 split at h
 ·cases h
 ·rename_i hc; rw [if_neg hc]
theorem fmt_old {site : SiteM} {l : Bool} {sid : Str} {id : Nat × Nat} {p : PathS} (h : (fmtStep site l sid id (p, false)).2 = false) : fmtStep site l sid id (p, false) = (p, false) := by
 unfold fmtStep at h |-
 split at h
 ·cases h
 ·rename_i hc; rw [if_neg hc]
theorem kind_old {k : Bool} {sid : Str} {id : Nat × Nat} {p : PathS} (h : (kindStep k sid id (p, false)).2 = false) : kindStep k sid id (p, false) = (p, false) := by
 unfold kindStep at h |-
 split at h
 ·cases h
 ·rename_i hc; rw [if_neg hc]
theorem base_old {sid : Str} {id : Nat × Nat} {p : PathS} (h : (baseStep sid id (p, false)).2 = false) : baseStep sid id (p, false) = (p, false) := by
 unfold baseStep at h |-
 split at h
 ·cases h
 ·rename_i hc; rw [if_neg hc]
theorem chain_true {site : SiteM} {l k y : Bool} {sid : Str} {id : Nat × Nat} {q : PathS × Bool} (h : q.2 = true) : unkStep id (layStep y id (baseStep sid id (kindStep k sid id (fmtStep site l sid id q)))) = q := by
 obtain ⟨v, b⟩ := q
 obtain rfl : b = true := h
 rfl
theorem chain_base {y : Bool} {id : Nat × Nat} {q : PathS × Bool} (h : q.2 = true) : unkStep id (layStep y id q) = q := by
 obtain ⟨v, b⟩ := q
 obtain rfl : b = true := h
 rfl
theorem kind_of_base {k : Bool} {sid : Str} {id : Nat × Nat} {q : PathS × Bool} (h : (baseStep sid id (kindStep k sid id q)).2 = false) : (kindStep k sid id q).2 = false := by
 generalize kindStep k sid id q = r at h |-
 obtain ⟨v, b⟩ := r
 cases b
 ·rfl
 ·cases h
theorem fmt_of_kind {site : SiteM} {l k : Bool} {sid : Str} {id : Nat × Nat} {q : PathS × Bool} (h : (kindStep k sid id (fmtStep site l sid id q)).2 = false) : (fmtStep site l sid id q).2 = false := by
 generalize fmtStep site l sid id q = r at h |-
 obtain ⟨v, b⟩ := r
 cases b
 ·rfl
 ·cases h

end Go.Proofs.YtjkecadfakjanaaGreatDoor
