/- The plain model of the package's path: its fields, and what each method computes. No program here; no condition. -/
import Derived.Test.YtjkecadfakjanaaGreatDoorModel
set_option linter.unusedVariables false
set_option linter.unusedSimpArgs false
namespace Go.Proofs.YtjkecadfakjanaaGreatDoor

/-- The fields of a path. -/
structure PathS where
 s : Str := []
 cLow : Int := -1
 cHigh : Int := -1
 sHigh : Int := -1
 comp : Str := []
 typ : Int := 0
 known : List (Nat × Nat) := []
 unknown : List (Nat × Nat) := []
 lang : Int := -1
 fmt : Int := -1
 kind : Int := -1
 lay : Int := -1
 baseof : Int := -1
 custom : Int := -1
 langs : List Nat := []
 pfmt : Int := -1
 pkind : Int := -1
 play : Int := -1
 nLow : Nat := 0
 nHigh : Nat := 0
 nameHigh : Int := -1
 disabled : Bool := false
 trim : Bool := false

def sub (s : Str) (lh : Nat × Nat) : Str := (s.drop lh.1).take (lh.2 - lh.1)

def isWrap (s : Str) : Bool := decide (2 < s.length) && List.isPrefixOf [95] s && List.isSuffixOf [95] s
def innerOf (s : Str) : Str := (s.drop 1).take (s.length - 2)
def firstPrefix (l : Str) : List Str -> Str
 | [] => []
 | p :: r => if p.isPrefixOf l then p else firstPrefix l r
def prefixList : List Str := [pLanguage, pVersion, pRole, pFormat, pKind, pLayout]
def parsePrefixM (inner : Str) : Str := firstPrefix (lowerL inner) prefixList

/-- IsOutputFormat of a site. -/
def isFormat (site : SiteM) (name ext : Str) : Bool := site.formats.any fun f => f.1 == name && (ext == [] || f.2 == ext)
/-- GetKindMain is not empty. -/
def kindOf (s : Str) : Str :=
 if lowerL s = [112, 97, 103, 101] then [112, 97, 103, 101] else if lowerL s = [104, 111, 109, 101] then [104, 111, 109, 101] else if lowerL s = [115, 101, 99, 116, 105, 111, 110] then [115, 101, 99, 116, 105, 111, 110]
 else if lowerL s = [116, 97, 120, 111, 110, 111, 109, 121] then [116, 97, 120, 111, 110, 111, 109, 121] else if lowerL s = [116, 101, 114, 109] then [116, 101, 114, 109] else if lowerL s = [116, 97, 120, 111, 110, 111, 109, 121, 116, 101, 114, 109] then [116, 97, 120, 111, 110, 111, 109, 121] else []

def PathS.addKnown (p : PathS) (id : Nat × Nat) : PathS := { p with known := p.known ++ [id] }

/-- identifierAsString. -/
def PathS.idStr (p : PathS) (i : Int) : Str := if i < 0 \/ (p.known.length : Int) <= i then [] else sub p.s (p.known.getD i.toNat (0, 0))

def PathS.applyPrefix (site : SiteM) (comp pre : Str) (p : PathS) (id : Nat × Nat) : Option PathS :=
 let value := lowerL (sub p.s id)
 if pre = pLanguage then
  if amongL site.languages value then some { p.addKnown id with langs := p.langs ++ [p.known.length] }
  else if amongL site.disabled value then some { p.addKnown id with langs := p.langs ++ [p.known.length], disabled := true }
  else none
 else if pre = pFormat then
  if comp = kLayouts /\ isFormat site value [] = true then some { p.addKnown id with pfmt := p.known.length } else none
 else if pre = pKind then
  if comp = kLayouts /\ kindOf value ≠ [] then some { p.addKnown id with pkind := p.known.length } else none
 else if pre = pLayout then
  if comp = kLayouts then some { p.addKnown id with play := p.known.length } else none
 else none

/-- What one identifier makes of a path: found, and the path. -/
def PathS.word (site : SiteM) (comp : Str) (p : PathS) (id : Nat × Nat) (numDots : Int) (isLast : Bool) : PathS × Bool :=
 let sid := sub p.s id
 let layouts := comp == kLayouts
 let mayLang := decide (1 < numDots) && (p.lang == -1) && (comp == kContent || layouts)
 let mayLayout := if p.typ = 7 then !isLast && layouts else layouts
 if isWrap sid then
  let inner := innerOf sid
  let pre := parsePrefixM inner
  match (if pre ≠ [] then PathS.applyPrefix site comp pre p (id.1 + 1 + pre.length, id.2 - 1) else none) with
  | some p' => (p', true)
  | none => ({ p.addKnown id with custom := p.known.length }, true)
 else if p.known = [] then
  ({ p.addKnown id with fmt := if layouts && isFormat site sid [] then 0 else p.fmt }, true)
 else if mayLang && (amongL site.languages sid || amongL site.disabled sid) then
  ({ p.addKnown id with lang := p.known.length, disabled := p.disabled || !amongL site.languages sid }, true)
 else if layouts && isFormat site sid (p.idStr 0) then ({ p.addKnown id with fmt := p.known.length }, true)
 else if (p.kind == -1) && layouts && (kindOf sid != []) then ({ p.addKnown id with kind := p.known.length }, true)
 else if sid == kBaseof then ({ p.addKnown id with baseof := p.known.length }, true)
 else if mayLayout then
  if p.lay = -1 then ({ p.addKnown id with lay := p.known.length }, true)
  else ({ p with unknown := p.unknown ++ [p.known.getD p.lay.toNat (0, 0)], known := p.known.set p.lay.toNat id }, true)
 else ({ p with unknown := p.unknown ++ [id] }, false)

def PathS.parseId (site : SiteM) (comp : Str) (p : PathS) (i lastDot : Nat) (numDots : Int) (isLast : Bool) : PathS :=
 if p.cHigh ≠ -1 then p else
 let r := PathS.word site comp p (i + 1, if p.known = [] then p.s.length else lastDot) numDots isLast
 if r.2 then
  if isLast then (if r.1.nameHigh <= 0 then { r.1 with nameHigh := (lastDot : Int) } else r.1)
  else { r.1 with nameHigh := (i : Int) }
 else r.1

/-- The scan's state. -/
structure ScanM where
 p : PathS
 slashes : Int := 0
 lastDot : Nat := 0

def ScanM.step (site : SiteM) (comp : Str) (skips : List Nat) (numDots : Int) (st : ScanM) (i : Nat) : ScanM :=
 if st.p.s[i]? = some 46 then
  if skips.contains i then st else { st with p := PathS.parseId site comp st.p i st.lastDot numDots false, lastDot := i }
 else if st.p.s[i]? = some 47 then
  let p1 :=
   if st.p.cHigh = -1 then
    let p0 := if 0 < st.lastDot then PathS.parseId site comp st.p i st.lastDot numDots true else st.p
    { p0 with cHigh := (i : Int) + 1 }
   else if st.p.cLow = -1 then { st.p with cLow := (i : Int) + 1 } else st.p
  { st with slashes := st.slashes + 1, p := if 0 < i then { p1 with sHigh := (i : Int) } else p1 }
 else st
def ScanM.down (site : SiteM) (comp : Str) (skips : List Nat) (numDots : Int) : Nat -> ScanM -> ScanM
 | 0, st => st
 | k + 1, st => ScanM.down site comp skips numDots k (ScanM.step site comp skips numDots st k)

/-- The wrapper's end as the package looks for it: no slash ahead of it. -/
def wrapEndI (s : Str) : Nat -> Nat -> Option Nat
 | 0, _ => none
 | n + 1, j => if s[j]? = some 47 then none
  else if s[j]? = some 95 /\ (s.length <= j + 1 \/ s[j + 1]? = some 46) then some j else wrapEndI s n (j + 1)
/-- The points among places from..to-1. -/
def dotsIn (s : Str) : Nat -> Nat -> List Nat
 | 0, _ => []
 | n + 1, j => if s[j]? = some 46 then j :: dotsIn s n (j + 1) else dotsIn s n (j + 1)
def skipsFrom (s : Str) : Nat -> Nat -> List Nat
 | 0, _ => []
 | n + 1, i =>
  if s.length <= i then []
  else if i + 2 < s.length /\ s[i]? = some 46 /\ s[i + 1]? = some 95 then
   match wrapEndI s (s.length - (i + 2)) (i + 2) with
   | some e => dotsIn s (e - (i + 2)) (i + 2) ++ skipsFrom s n (e + 1)
   | none => skipsFrom s n (i + 1)
  else skipsFrom s n (i + 1)
def skipsOf (s : Str) : List Nat := if slashB s s.length = -1 then [] else skipsFrom s s.length (slashB s s.length).toNat

def countDots (s : Str) : Nat := s.countP (· == 46)

def PathS.ext (p : PathS) : Str := p.idStr 0
def PathS.path (p : PathS) : Str := if p.trim then (if List.isPrefixOf [47] p.s then p.s.drop 1 else p.s) else p.s

/-- doParse behind the scan. -/
def PathS.fin1 (p : PathS) : PathS :=
 if p.cHigh <= p.nameHigh then { p with nLow := p.cHigh.toNat, nHigh := p.nameHigh.toNat } else { p with nLow := p.cHigh.toNat, nHigh := p.s.length }
def PathS.fin2 (site : SiteM) (p : PathS) (slashes : Int) : PathS :=
 if p.known = [] then p
 else if p.nLow < p.nHigh then
  if (p.comp == kContent || p.comp == kArch) && amongL site.content p.ext then
   if sub p.s (p.nLow, p.nHigh) = kIndex then (if slashes = 2 then { p with typ := 3, sHigh := 0 } else { p with typ := 3 })
   else if sub p.s (p.nLow, p.nHigh) = kUIndex then { p with typ := 4 } else { p with typ := 2 }
  else if sub p.s (p.nLow, p.nHigh) = kUContent /\ p.ext = kGotmpl then { p with typ := 5 } else p
 else p
def PathS.fin3 (comp : Str) (p : PathS) : PathS :=
 if p.typ < 6 /\ comp = kLayouts then
  if p.baseof ≠ -1 then { p with typ := 9 }
  else if holdsL p.path kShort then { p with typ := 7 }
  else if holdsL p.path kMarkup then { p with typ := 6 }
  else if List.isPrefixOf kPartials p.path then { p with typ := 8 }
  else p
 else p
def PathS.fin4 (p : PathS) : PathS :=
 if p.typ = 7 /\ p.lay ≠ -1 /\ ((p.known.getD p.lay.toNat (0, 0)).1 : Int) = p.cHigh then { p with lay := -1 } else p
def PathS.finish (site : SiteM) (comp : Str) (p : PathS) (slashes : Int) : PathS :=
 PathS.fin4 (PathS.fin3 comp (PathS.fin2 site (PathS.fin1 p) slashes))

def normPath (s : Str) : Str := if s = [] then [47] else trimEnd (slashed s)

def doParseM (site : SiteM) (comp s : Str) : PathS :=
 let s := normPath s
 let skips := skipsOf s
 let numDots : Int := (countDots (lastPart s) : Int) - skips.length
 let p0 : PathS := { s := s, comp := comp, typ := if holdsL s kShort then 7 else 0 }
 let st := ScanM.down site comp skips numDots s.length { p := p0 }
 PathS.finish site comp st.p st.slashes

/-! ### The methods -/
def PathS.norm (p : PathS) (s : Str) : Str := if p.trim then (if List.isPrefixOf [47] s then s.drop 1 else s) else s
def PathS.containerM (p : PathS) : Str := if p.cLow = -1 then [] else p.norm (sub p.s (p.cLow.toNat, (p.cHigh - 1).toNat))
def PathS.dirM (p : PathS) : Str :=
 let d := if 0 < p.cHigh then p.s.take (p.cHigh - 1).toNat else []
 p.norm (if d = [] then [47] else d)
def PathS.isBundle (p : PathS) : Bool := isBundleT p.typ
def PathS.containerDirM (p : PathS) : Str := if p.cLow = -1 \/ p.isBundle = false then p.dirM else p.norm (p.s.take (p.cLow - 1).toNat)
def PathS.sectionM (p : PathS) : Str := if p.sHigh <= 0 then [] else p.norm (sub p.s (1, p.sHigh.toNat))
def PathS.nameM (p : PathS) : Str := if 0 < p.cHigh then p.s.drop p.cHigh.toNat else p.s
def PathS.nameNoExtM (p : PathS) : Str := if p.known = [] then p.s.drop p.cHigh.toNat else sub p.s (p.cHigh.toNat, (p.known.headD (0, 0)).1 - 1)
def PathS.nameNoIdM (p : PathS) : Str := sub p.s (p.nLow, p.nHigh)
def PathS.baseNameM (p : PathS) : Str := if p.isBundle then p.containerM else p.nameNoIdM
/-- base(preserveExt, isBundle). -/
def PathS.baseM (p : PathS) (keep bundle : Bool) : Str :=
 if p.known = [] then p.norm p.s
 else if keep = true /\ p.known.length = 1 then p.norm p.s
 else
  let high : Int := if bundle then p.cHigh - 1 else p.nHigh
  let high := if high = 0 then high + 1 else high
  if keep = false then p.norm (p.s.take high.toNat)
  else
   let id := p.known.headD (0, 0)
   p.norm (p.s.take high.toNat ++ sub p.s (id.1 - 1, id.2))
def PathS.isPage (p : PathS) : Bool := decide (2 <= p.typ) && decide (p.typ <= 5)
def PathS.base (p : PathS) : Str :=
 let s := p.baseM (!p.isPage) p.isBundle
 if s = [47] /\ p.isPage = true then [] else s
def PathS.pathNoLangM (p : PathS) : Str :=
 if p.langs ≠ [] then p.baseM true false
 else if p.lang < 0 \/ (p.known.length : Int) <= p.lang then p.path else p.baseM true false
def PathS.pathBeforeM (p : PathS) : Str :=
 if p.known = [] then p.norm p.s else p.norm (p.s.take ((p.known.headD (0, 0)).1 - 1))
def PathS.formatM (p : PathS) : Str := if p.pfmt ≠ -1 then p.idStr p.pfmt else p.idStr p.fmt
def PathS.kindM (p : PathS) : Str := if p.pkind ≠ -1 then p.idStr p.pkind else p.idStr p.kind
def PathS.layoutM (p : PathS) : Str := if p.play ≠ -1 then p.idStr p.play else p.idStr p.lay
def PathS.langM (p : PathS) : Str := if p.langs ≠ [] then p.idStr (p.langs.headD 0) else p.idStr p.lang
def trimPre (s : Str) : Str := if List.isPrefixOf [95] s then s.drop 1 else s
def trimSuf (s : Str) : Str := if List.isSuffixOf [95] s then s.take (s.length - 1) else s
def PathS.customM (p : PathS) : Str := trimSuf (trimPre (p.idStr p.custom))

def toldM (p : PathS) : ToldM :=
 { component := p.comp, container := p.containerM, containerDir := p.containerDirM, section_ := p.sectionM,
   name := p.nameM, nameNoExt := p.nameNoExtM, baseName := p.baseNameM, nameNoId := p.nameNoIdM,
   dir := p.dirM, path := p.path, pathNoLang := p.pathNoLangM, pathNoId := p.baseM false false, pathBefore := p.pathBeforeM,
   base := p.base, idBase := if p.comp = kLayouts then p.path else p.base,
   ext := p.ext, format := p.formatM, kind := p.kindM, layout := p.layoutM, lang := p.langM, custom := p.customM,
   langs := p.langs.map fun (i : Nat) => p.idStr i, ids := p.known.map (sub p.s), unknown := p.unknown.map (sub p.s),
   disabled := p.disabled, isContent := decide (1 <= p.typ) && decide (p.typ <= 5), isBundle := p.isBundle,
   isBranch := decide (p.typ = 4), isLeaf := decide (p.typ = 3), isData := decide (p.typ = 5), typ := p.typ }

end Go.Proofs.YtjkecadfakjanaaGreatDoor
