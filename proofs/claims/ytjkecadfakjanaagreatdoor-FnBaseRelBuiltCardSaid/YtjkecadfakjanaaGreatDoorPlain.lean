/- The reference's reading of a word in steps: wrappers and plain words as chains of tests. Plain Lean; no program here; no condition. -/
import Derived.Test.YtjkecadfakjanaaGreatDoorPathM
set_option linter.unusedVariables false
set_option linter.unusedSimpArgs false
namespace Go.Proofs.YtjkecadfakjanaaGreatDoor

def tagOk (x p : Str) : Bool := startsL (lowerL x) p
def tagStr (x p : Str) : Str := if tagOk x p then x.drop p.length else []
theorem tagged_eq (x p : Str) : tagged x p = if tagOk x p then some (tagStr x p) else none := by
 unfold tagged tagStr tagOk
 cases h : startsL (lowerL x) p <;> rfl
theorem tagStr_len (x p : Str) : (tagStr x p).length <= x.length := by
 unfold tagStr
 split
 ·rw [List.length_drop]; omega
 ·simp

/-! ### A wrapper in steps -/
def langV (x : Str) : Str := tagStr x pLanguage
def langHit (site : SiteM) (x : Str) : Bool := tagOk x pLanguage && (amongL site.languages (lowerL (langV x)) || amongL site.disabled (lowerL (langV x)))
def fmtHit (site : SiteM) (x : Str) : Bool := tagOk x pFormat && formatNamed site.formats (lowerL (tagStr x pFormat))
def kindHit (x : Str) : Bool := tagOk x pKind && isKindL (tagStr x pKind)
def readLang (site : SiteM) (r : ReadM) (v : Str) (at_ : Int) : ReadM :=
 { r.identify v at_ with w := { (r.identify v at_).w with langs := (r.identify v at_).w.langs ++ [v], disabled := (r.identify v at_).w.disabled || !amongL site.languages (lowerL v) } }
def readFmt (r : ReadM) (v : Str) (at_ : Int) : ReadM := { r.identify v at_ with w := { (r.identify v at_).w with format := v } }
def readKind (r : ReadM) (v : Str) (at_ : Int) : ReadM := { r.identify v at_ with w := { (r.identify v at_).w with kind := v } }
def readLay (r : ReadM) (v : Str) (at_ : Int) : ReadM := { r.identify v at_ with w := { (r.identify v at_).w with layout := v } }
def readCus (r : ReadM) (word x : Str) (at_ : Int) : ReadM := { r.identify word at_ with w := { (r.identify word at_).w with custom := x } }
theorem wrapper_eq (site : SiteM) (r : ReadM) (word x : Str) (at_ : Int) :
  ReadM.wrapper site r word x at_ = if langHit site x then readLang site r (langV x) at_ else if r.layouts then (if fmtHit site x then readFmt r (tagStr x pFormat) at_ else if kindHit x then readKind r (tagStr x pKind) at_ else if tagOk x pLayout then readLay r (tagStr x pLayout) at_ else readCus r word x at_) else readCus r word x at_ := by
 unfold ReadM.wrapper langHit fmtHit kindHit langV
 rw [tagged_eq, tagged_eq, tagged_eq, tagged_eq]
 dsimp only
 have rest : ∀ (a2 a3 a4 : Bool) (v2 v3 v4 : Str),
   (if r.layouts = true then
    match (if a2 = true then some v2 else none) with
    | some v => if formatNamed site.formats (lowerL v) = true then readFmt r v at_ else
      match (if a3 = true then some v3 else none) with
      | some v => if isKindL v = true then readKind r v at_ else match (if a4 = true then some v4 else none) with | some v => readLay r v at_ | none => readCus r word x at_
      | none => match (if a4 = true then some v4 else none) with | some v => readLay r v at_ | none => readCus r word x at_
    | none =>
      match (if a3 = true then some v3 else none) with
      | some v => if isKindL v = true then readKind r v at_ else match (if a4 = true then some v4 else none) with | some v => readLay r v at_ | none => readCus r word x at_
      | none => match (if a4 = true then some v4 else none) with | some v => readLay r v at_ | none => readCus r word x at_
   else readCus r word x at_) =
   if r.layouts = true then (if (a2 && formatNamed site.formats (lowerL v2)) = true then readFmt r v2 at_ else if (a3 && isKindL v3) = true then readKind r v3 at_ else if a4 = true then readLay r v4 at_ else readCus r word x at_) else readCus r word x at_ := by
  intro a2 a3 a4 v2 v3 v4
  cases r.layouts <;> cases a2 <;> cases a3 <;> cases a4 <;> simp
 have := rest (tagOk x pFormat) (tagOk x pKind) (tagOk x pLayout) (tagStr x pFormat) (tagStr x pKind) (tagStr x pLayout)
 rw [<- this]
 clear this rest
 cases tagOk x pLanguage with
 | false => rfl
 | true =>
  show (if (amongL site.languages (lowerL (tagStr x pLanguage)) || amongL site.disabled (lowerL (tagStr x pLanguage))) = true then _ else _) = if (true && (amongL site.languages (lowerL (tagStr x pLanguage)) || amongL site.disabled (lowerL (tagStr x pLanguage)))) = true then _ else _
  rw [Bool.true_and]
  rfl

def plainLang (r : ReadM) : Bool := (r.w.component == kContent || r.layouts) && decide (2 <= r.points) && !r.hasLang
theorem plain_eq (site : SiteM) (r : ReadM) (word : Str) (at_ : Int) : ReadM.plain site r word at_ =
  if (plainLang r && (amongL site.languages word || amongL site.disabled word)) = true then { r.identify word at_ with lang := word, hasLang := true, w := { (r.identify word at_).w with disabled := (r.identify word at_).w.disabled || !amongL site.languages word } }
  else if (r.layouts && formatBeside site.formats word r.w.ext) = true then { r.identify word at_ with format := word }
  else if (r.layouts && !r.hasKind && isKindL word) = true then { r.identify word at_ with kind := word, hasKind := true }
  else if (word == kBaseof) = true then { r.identify word at_ with baseof := true }
  else if (r.layouts && !(r.shortcode && decide (at_ < 0))) = true then
   (if r.layoutAt < 0 then { r.identify word at_ with layoutAt := r.w.ids.length, layout := word }
   else { r with w := { r.w with unknown := r.w.unknown ++ [r.layout], ids := r.w.ids.set r.layoutAt.toNat word }, marks := r.marks ++ [at_], layout := word })
  else { r with w := { r.w with unknown := r.w.unknown ++ [word] } } := rfl

end Go.Proofs.YtjkecadfakjanaaGreatDoor
