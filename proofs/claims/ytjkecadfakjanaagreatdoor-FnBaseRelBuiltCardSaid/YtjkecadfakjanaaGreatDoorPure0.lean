/- Plain functions on lists of bytes and their laws: no program here. No condition beyond those that each lemma names. -/
import Derived.Lib.Case
set_option linter.unusedVariables false
set_option linter.unusedSimpArgs false
namespace Go.Proofs.YtjkecadfakjanaaGreatDoor

abbrev Str := List UInt8

def asciiL (l : Str) : Bool := l.all fun c => decide (c.toNat <= 127)

/-- The place of the first 'sub' in 's'. -/
def idx? (sub : Str) : Str -> Option Nat
 | [] => if sub.isPrefixOf [] then some 0 else none
 | c :: t => if sub.isPrefixOf (c :: t) then some 0 else (idx? sub t).map (· + 1)
def indexL (s sub : Str) : Int := match idx? sub s with | some i => i | none => -1
def holdsL (s sub : Str) : Bool := (idx? sub s).isSome

def normB (c : UInt8) : UInt8 := if c = 32 then 45 else c
def normL (s : Str) : Str := (Lib.toLowerA s).map normB

theorem asciiL_get {l : Str} (h : asciiL l = true) (j : Nat) (b : UInt8) (hj : l[j]? = some b) : b.toNat < 128 := by
 have := List.all_eq_true.1 h b (List.mem_of_getElem? hj)
 simp at this; omega
theorem asciiL_intro {l : Str} (h : ∀ j (hj : j < l.length), l[j].toNat <= 127) : asciiL l = true := by
 apply List.all_eq_true.2
 intro c hc
 obtain ⟨j, hj, rfl⟩ := List.getElem_of_mem hc
 simpa using h j hj
theorem asciiL_not {l : Str} {j : Nat} (hj : j < l.length) (h : 127 < l[j].toNat) : asciiL l = false := by
 cases e : asciiL l with
 | false => rfl
 | true =>
  have := asciiL_get e j l[j] (by simp)
  omega

theorem drop_cons {α} {l : List α} {k : Nat} (h : k < l.length) : l.drop k = l[k] :: l.drop (k + 1) := List.drop_eq_getElem_cons h

theorem isPrefixOf_take {s sub : Str} (h : sub.length <= s.length) : sub.isPrefixOf s = decide (s.take sub.length = sub) := by
 rw [Bool.eq_iff_iff, List.isPrefixOf_iff_prefix, decide_eq_true_iff, List.prefix_iff_eq_take]
 exact ⟨fun h => h.symm, fun h => h.symm⟩
theorem isPrefixOf_short {s sub : Str} (h : s.length < sub.length) : sub.isPrefixOf s = false := by
 cases e : sub.isPrefixOf s with
 | false => rfl
 | true => have := (List.isPrefixOf_iff_prefix.1 e).length_le; omega
theorem idx?_hit {s sub : Str} (h : sub.isPrefixOf s = true) : idx? sub s = some 0 := by
 cases s <;> simp [idx?, h]
theorem idx?_miss {s sub : Str} {k : Nat} (hk : k < s.length) (h : sub.isPrefixOf (s.drop k) = false) : idx? sub (s.drop k) = (idx? sub (s.drop (k + 1))).map (· + 1) := by
 rw [drop_cons hk] at h |-
 rw [idx?, h]
 rfl
theorem idx?_short : ∀ {s sub : Str}, s.length < sub.length -> idx? sub s = none
 | [], sub, h => by simp [idx?, isPrefixOf_short h]
 | c :: t, sub, h => by
  have ih := idx?_short (s := t) (sub := sub) (by simp at h; omega)
  simp [idx?, isPrefixOf_short h, ih]

/-- The first blank of a text. -/
theorem idx?_one (c : UInt8) : ∀ {s : Str} {i : Nat}, idx? [c] s = some i -> i < s.length /\ (∀ x ∈ s.take i, x ≠ c) /\ s.drop i = c :: s.drop (i + 1)
 | [], i, h => by simp [idx?] at h
 | d :: t, i, h => by
  by_cases e : c = d
  ·subst e
   simp [idx?] at h
   subst h
   simp
  ·have e' : (c == d) = false := by simpa using e
   simp [idx?, e] at h
   obtain ⟨j, hj, rfl⟩ := h
   obtain ⟨h1, h2, h3⟩ := idx?_one c hj
   refine ⟨by simp; omega, ?_, by simpa using h3⟩
   intro x hx
   simp at hx
   rcases hx with rfl | hx
   ·exact fun h => e h.symm
   ·exact h2 x hx
theorem idx?_none_one (c : UInt8) : ∀ {s : Str}, idx? [c] s = none -> ∀ x ∈ s, x ≠ c
 | [], _ => by simp
 | d :: t, h => by
  by_cases e : c = d
  ·subst e
   simp [idx?] at h
  ·have e' : (c == d) = false := by simpa using e
   simp [idx?, e] at h
   have := idx?_none_one c h
   intro x hx
   simp at hx
   rcases hx with rfl | hx
   ·exact fun h => e h.symm
   ·exact this x hx
theorem map_normB_of_ne {s : Str} (h : ∀ x ∈ s, x ≠ 32) : s.map normB = s := by
 induction s with
 | nil => rfl
 | cons a t ih => simp at h |-; exact ⟨by simp [normB, h.1], by simpa using ih (by simpa using h.2)⟩

end Go.Proofs.YtjkecadfakjanaaGreatDoor
