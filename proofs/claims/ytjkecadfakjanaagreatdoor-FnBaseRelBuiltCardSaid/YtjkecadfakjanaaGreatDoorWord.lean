/- What one identifier makes of a path. Conditions: a path in memory that is being parsed (Scan), small enough (Fits), the identifier's bounds. -/
import Derived.Test.YtjkecadfakjanaaGreatDoorApply
set_option maxRecDepth 100000
set_option linter.unusedVariables false
set_option linter.unusedSimpArgs false
namespace Go.Proofs.YtjkecadfakjanaaGreatDoor
open Go.RowKit
attribute [local go_sem] B_extract B_toList B_append

/-! ### The steps of a word, in plain Lean -/
def wrapFin (p : PathS) (id : Nat × Nat) : Option PathS -> PathS × Bool
 | some p' => (p', true)
 | none => ({ p.addKnown id with custom := p.known.length }, true)
def wrapStep (site : SiteM) (comp : Str) (p : PathS) (id : Nat × Nat) : PathS × Bool :=
 if isWrap (sub p.s id) then
  wrapFin p id (if parsePrefixM (innerOf (sub p.s id)) ≠ [] then PathS.applyPrefix site comp (parsePrefixM (innerOf (sub p.s id))) p (id.1 + 1 + (parsePrefixM (innerOf (sub p.s id))).length, id.2 - 1) else none)
 else (p, false)
def extStep (site : SiteM) (layouts : Bool) (sid : Str) (id : Nat × Nat) (p : PathS) : PathS × Bool :=
 ({ p.addKnown id with fmt := if layouts && isFormat site sid [] then 0 else p.fmt }, true)
def langStep (site : SiteM) (mL : Bool) (sid : Str) (id : Nat × Nat) (p : PathS) : PathS × Bool :=
 if mL && (amongL site.languages sid || amongL site.disabled sid) then ({ p.addKnown id with lang := p.known.length, disabled := p.disabled || !amongL site.languages sid }, true) else (p, false)
def fmtStep (site : SiteM) (layouts : Bool) (sid : Str) (id : Nat × Nat) (q : PathS × Bool) : PathS × Bool :=
 if (!q.2 && layouts) && isFormat site sid (q.1.idStr 0) then ({ q.1.addKnown id with fmt := q.1.known.length }, true) else q
def kindStep (mK : Bool) (sid : Str) (id : Nat × Nat) (q : PathS × Bool) : PathS × Bool :=
 if (!q.2 && mK) && !(kindOf sid).isEmpty then ({ q.1.addKnown id with kind := q.1.known.length }, true) else q
def baseStep (sid : Str) (id : Nat × Nat) (q : PathS × Bool) : PathS × Bool :=
 if !q.2 && (sid == kBaseof) then ({ q.1.addKnown id with baseof := q.1.known.length }, true) else q
def layStep (mY : Bool) (id : Nat × Nat) (q : PathS × Bool) : PathS × Bool :=
 if !q.2 && mY then
  (if q.1.lay = -1 then ({ q.1.addKnown id with lay := q.1.known.length }, true)
  else ({ q.1 with unknown := q.1.unknown ++ [q.1.known.getD q.1.lay.toNat (0, 0)], known := q.1.known.set q.1.lay.toNat id }, true))
 else q
def unkStep (id : Nat × Nat) (q : PathS × Bool) : PathS × Bool := if q.2 then q else ({ q.1 with unknown := q.1.unknown ++ [id] }, false)
/-- mayHaveLang, mayHaveKind, mayHaveLayout. -/
def mayL (comp : Str) (p : PathS) (numDots : Int) : Bool := decide (1 < numDots) && (p.lang == -1) && (comp == kContent || comp == kLayouts)
def mayK (comp : Str) (p : PathS) : Bool := (p.kind == -1) && (comp == kLayouts)
def mayY (comp : Str) (p : PathS) (isLast : Bool) : Bool := if p.typ = 7 then !isLast && (comp == kLayouts) else comp == kLayouts
def restStep (site : SiteM) (comp : Str) (p : PathS) (id : Nat × Nat) (numDots : Int) (isLast : Bool) : PathS × Bool :=
 if p.known = [] then extStep site (comp == kLayouts) (sub p.s id) id p
 else unkStep id (layStep (mayY comp p isLast) id (baseStep (sub p.s id) id (kindStep (mayK comp p) (sub p.s id) id (fmtStep site (comp == kLayouts) (sub p.s id) id (langStep site (mayL comp p numDots) (sub p.s id) id p)))))

theorem word_eq (site : SiteM) (comp : Str) (p : PathS) (id : Nat × Nat) (numDots : Int) (isLast : Bool) :
  PathS.word site comp p id numDots isLast = if (wrapStep site comp p id).2 then wrapStep site comp p id else restStep site comp p id numDots isLast := by
 unfold PathS.word wrapStep
 dsimp only
 by_cases hw : isWrap (sub p.s id) = true
 ·rw [if_pos hw, if_pos hw]
  generalize (if parsePrefixM (innerOf (sub p.s id)) ≠ [] then PathS.applyPrefix site comp (parsePrefixM (innerOf (sub p.s id))) p (id.1 + 1 + (parsePrefixM (innerOf (sub p.s id))).length, id.2 - 1) else none) = x
  cases x <;> rfl
 ·rw [if_neg hw, if_neg hw]
  show _ = restStep site comp p id numDots isLast
  unfold restStep
  by_cases hk : p.known = []
  ·rw [if_pos hk, if_pos hk]; rfl
  ·rw [if_neg hk, if_neg hk]
   have hq : (kindOf (sub p.s id) != []) = !(kindOf (sub p.s id)).isEmpty := by cases kindOf (sub p.s id) <;> rfl
   rw [hq]
   unfold mayL mayK mayY
   unfold langStep
   generalize (if p.typ = 7 then !isLast && (comp == kLayouts) else comp == kLayouts) = e
   generalize (decide (1 < numDots) && (p.lang == -1) && (comp == kContent || comp == kLayouts) && (amongL site.languages (sub p.s id) || amongL site.disabled (sub p.s id))) = a
   generalize (comp == kLayouts) = lay
   cases a
   ·unfold fmtStep
    show _ = unkStep id (layStep e id (baseStep (sub p.s id) id (kindStep ((p.kind == -1) && lay) (sub p.s id) id (if (lay && isFormat site (sub p.s id) (p.idStr 0)) = true then ({ p.addKnown id with fmt := p.known.length }, true) else (p, false)))))
    generalize (lay && isFormat site (sub p.s id) (p.idStr 0)) = f
    cases f
    ·unfold kindStep
     show _ = unkStep id (layStep e id (baseStep (sub p.s id) id (if (((p.kind == -1) && lay) && !(kindOf (sub p.s id)).isEmpty) = true then ({ p.addKnown id with kind := p.known.length }, true) else (p, false))))
     generalize (((p.kind == -1) && lay) && !(kindOf (sub p.s id)).isEmpty) = g
     cases g
     ·unfold baseStep
      show _ = unkStep id (layStep e id (if (sub p.s id == kBaseof) = true then ({ p.addKnown id with baseof := p.known.length }, true) else (p, false)))
      generalize (sub p.s id == kBaseof) = d
      cases d
      ·cases e
       ·rfl
       ·unfold layStep
        show (if p.lay = -1 then _ else _) = unkStep id (if p.lay = -1 then _ else _)
        by_cases hl : p.lay = -1
        ·rw [if_pos hl, if_pos hl]; rfl
        ·rw [if_neg hl, if_neg hl]; rfl
      ·rfl
     ·rfl
    ·rfl
   ·rfl

/-- What stands behind the word: the name's end. -/
def finId (q : PathS × Bool) (i lastDot : Nat) (isLast : Bool) : PathS :=
 if q.2 then (if isLast then (if q.1.nameHigh <= 0 then { q.1 with nameHigh := (lastDot : Int) } else q.1) else { q.1 with nameHigh := (i : Int) }) else q.1
theorem parseId_open (site : SiteM) (comp : Str) (p : PathS) (i lastDot : Nat) (numDots : Int) (isLast : Bool) (h : p.cHigh = -1) :
  PathS.parseId site comp p i lastDot numDots isLast = finId (PathS.word site comp p (i + 1, if p.known = [] then p.s.length else lastDot) numDots isLast) i lastDot isLast := by
 unfold PathS.parseId
 rw [if_neg (by rw [h]; simp)]
 rfl
theorem parseId_shut (site : SiteM) (comp : Str) (p : PathS) (i lastDot : Nat) (numDots : Int) (isLast : Bool) (h : p.cHigh ≠ -1) : PathS.parseId site comp p i lastDot numDots isLast = p := by
 unfold PathS.parseId
 rw [if_pos h]
theorem finId_no (q : PathS) (i lastDot : Nat) (isLast : Bool) : finId (q, false) i lastDot isLast = q := rfl
theorem finId_mid (q : PathS) (i lastDot : Nat) : finId (q, true) i lastDot false = { q with nameHigh := (i : Int) } := rfl
theorem finId_last (q : PathS) (i lastDot : Nat) (h : q.nameHigh <= 0) : finId (q, true) i lastDot true = { q with nameHigh := (lastDot : Int) } := by
 show (if q.nameHigh <= 0 then _ else _) = _
 rw [if_pos h]
theorem finId_old (q : PathS) (i lastDot : Nat) (h : ¬ q.nameHigh <= 0) : finId (q, true) i lastDot true = q := by
 show (if q.nameHigh <= 0 then _ else _) = _
 rw [if_neg h]

theorem firstPrefix_spec (l : Str) : ∀ ps : List Str, firstPrefix l ps = [] \/ firstPrefix l ps ∈ ps /\ List.isPrefixOf (firstPrefix l ps) l = true
 | [] => .inl rfl
 | q :: r => by
  unfold firstPrefix
  by_cases h : q.isPrefixOf l = true
  ·rw [if_pos h]; exact .inr ⟨by simp, h⟩
  ·rw [if_neg h]
   rcases firstPrefix_spec l r with h1 | ⟨h1, h2⟩
   ·exact .inl h1
   ·exact .inr ⟨by simp [h1], h2⟩
theorem parsePrefix_spec (s : Str) (h : parsePrefixM s ≠ []) : parsePrefixM s ∈ prefixList /\ (parsePrefixM s).length <= s.length := by
 rcases firstPrefix_spec (lowerL s) prefixList with h1 | ⟨h1, h2⟩
 ·exact absurd h1 h
 ·refine ⟨h1, ?_⟩
  have := (List.isPrefixOf_iff_prefix.1 h2).length_le
  rwa [lowerL_len] at this

end Go.Proofs.YtjkecadfakjanaaGreatDoor
