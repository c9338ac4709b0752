/- The plain models: what the reference and the package compute, as functions on lists of bytes. No program here; no condition. -/
import Derived.Test.YtjkecadfakjanaaGreatDoorPure0
set_option linter.unusedVariables false
set_option linter.unusedSimpArgs false
namespace Go.Proofs.YtjkecadfakjanaaGreatDoor

abbrev kContent : Str := [99, 111, 110, 116, 101, 110, 116]
abbrev kLayouts : Str := [108, 97, 121, 111, 117, 116, 115]
abbrev kArch : Str := [97, 114, 99, 104, 101, 116, 121, 112, 101, 115]
abbrev kBaseof : Str := [98, 97, 115, 101, 111, 102]
abbrev kIndex : Str := [105, 110, 100, 101, 120]
abbrev kUIndex : Str := [95, 105, 110, 100, 101, 120]
abbrev kUContent : Str := [95, 99, 111, 110, 116, 101, 110, 116]
abbrev kGotmpl : Str := [103, 111, 116, 109, 112, 108]
abbrev kShort : Str := [47, 95, 115, 104, 111, 114, 116, 99, 111, 100, 101, 115, 47]
abbrev kMarkup : Str := [47, 95, 109, 97, 114, 107, 117, 112, 47]
abbrev kPartials : Str := [47, 95, 112, 97, 114, 116, 105, 97, 108, 115, 47]
abbrev pLanguage : Str := [108, 97, 110, 103, 117, 97, 103, 101, 95]
abbrev pVersion : Str := [118, 101, 114, 115, 105, 111, 110, 95]
abbrev pRole : Str := [114, 111, 108, 101, 95]
abbrev pFormat : Str := [111, 117, 116, 112, 117, 116, 102, 111, 114, 109, 97, 116, 95]
abbrev pKind : Str := [107, 105, 110, 100, 95]
abbrev pLayout : Str := [108, 97, 121, 111, 117, 116, 95]

/-- A site. -/
structure SiteM where
 languages : List Str
 disabled : List Str
 formats : List (Str × Str)
 content : List Str

/-- What a path answers. -/
structure ToldM where
 component : Str := []
 container : Str := []
 containerDir : Str := []
 section_ : Str := []
 name : Str := []
 nameNoExt : Str := []
 baseName : Str := []
 nameNoId : Str := []
 dir : Str := []
 path : Str := []
 pathNoLang : Str := []
 pathNoId : Str := []
 pathBefore : Str := []
 base : Str := []
 idBase : Str := []
 ext : Str := []
 format : Str := []
 kind : Str := []
 layout : Str := []
 lang : Str := []
 custom : Str := []
 langs : List Str := []
 ids : List Str := []
 unknown : List Str := []
 disabled : Bool := false
 isContent : Bool := false
 isBundle : Bool := false
 isBranch : Bool := false
 isLeaf : Bool := false
 isData : Bool := false
 typ : Int := 0

/-! ### The reference -/

structure WordsM where
 component : Str := []
 path : Str := []
 name : Str := []
 nameEnd : Nat := 0
 ids : List Str := []
 unknown : List Str := []
 langs : List Str := []
 ext : Str := []
 format : Str := []
 kind : Str := []
 layout : Str := []
 lang : Str := []
 custom : Str := []
 disabled : Bool := false
 typ : Int := 0

/-- The place of the last slash among the first k bytes; -1 without one. -/
def slashB (s : Str) : Nat -> Int
 | 0 => -1
 | k + 1 => if s[k]? = some 47 then (k : Int) else slashB s k
def lastPart (s : Str) : Str := s.drop (slashB s s.length + 1).toNat
def lowerL (s : Str) : Str := Lib.toLowerA s

def trimEnd (s : Str) : Str := if 1 < s.length /\ s.getLast? = some 47 then s.dropLast else s
def slashed (s : Str) : Str := if s.head? = some 47 then s else 47 :: s
def pathOf (s : Str) (own : Bool) : Str :=
 let s := if own then s else normL s
 if s = [] then [47] else trimEnd (slashed s)

def dirOf (path : Str) : Str := if slashB path path.length <= 0 then [47] else path.take (slashB path path.length).toNat
def containerOf (path : Str) : Str := if slashB path path.length <= 0 then [] else lastPart (path.take (slashB path path.length).toNat)
/-- The parts between slashes. -/
def splitL : Str -> List Str
 | [] => [[]]
 | c :: t => if c = 47 then [] :: splitL t else
  match splitL t with
  | [] => [[c]]
  | x :: r => (c :: x) :: r
def partsOf (path : Str) : List Str := if path = [] then [] else splitL (path.drop 1)
def isBundleT (t : Int) : Bool := decide (3 <= t) && decide (t <= 5)
def sectionOf (w : WordsM) : Str :=
 if (partsOf w.path).length < 2 \/ (partsOf w.path).length = 2 /\ w.typ = 3 then [] else (partsOf w.path).headD []
def headOf (w : WordsM) : Str := w.path.take (w.path.length - w.name.length)
def noIdentifier (w : WordsM) : Str := if w.ids = [] then w.path else headOf w ++ w.name.take w.nameEnd
def baseOf (w : WordsM) : Str :=
 if w.ids = [] then (if w.path = [47] /\ 2 <= w.typ /\ w.typ <= 5 then [] else w.path)
 else if isBundleT w.typ then (if dirOf w.path = [47] then [] else dirOf w.path)
 else if w.typ = 2 then noIdentifier w
 else if w.ids.length = 1 then w.path
 else noIdentifier w ++ [46] ++ w.ext
def noLang (w : WordsM) : Str := if w.lang = [] then w.path else headOf w ++ w.name.take w.nameEnd ++ [46] ++ w.ext
def beforeExt (w : WordsM) (s : Str) : Str := if w.ids = [] then s else s.take (s.length - w.ext.length - 1)

def answers (w : WordsM) : ToldM :=
 { component := w.component, path := w.path, name := w.name, typ := w.typ, ext := w.ext, format := w.format, kind := w.kind, layout := w.layout, lang := w.lang, custom := w.custom,
   langs := w.langs, ids := w.ids, unknown := w.unknown, disabled := w.disabled,
   dir := dirOf w.path, container := containerOf w.path, section_ := sectionOf w,
   containerDir := if isBundleT w.typ /\ containerOf w.path ≠ [] then (dirOf w.path).take (slashB (dirOf w.path) (dirOf w.path).length).toNat else dirOf w.path,
   nameNoId := w.name.take w.nameEnd, nameNoExt := beforeExt w w.name,
   baseName := if isBundleT w.typ then containerOf w.path else w.name.take w.nameEnd,
   isContent := decide (1 <= w.typ) && decide (w.typ <= 5), isBundle := isBundleT w.typ,
   isLeaf := decide (w.typ = 3), isBranch := decide (w.typ = 4), isData := decide (w.typ = 5),
   pathNoLang := noLang w, pathNoId := noIdentifier w, pathBefore := beforeExt w w.path,
   base := baseOf w,
   idBase := if w.component = kLayouts then w.path else baseOf w }

/-- The end of a wrapper: the first place k from 'from' on with an underscore that has a point or the end behind it. -/
def wrapEnd (name : Str) : Nat -> Nat -> Option Nat
 | 0, _ => none
 | n + 1, k => if name[k]? = some 95 /\ (name.length = k + 1 \/ name[k + 1]? = some 46) then some k else wrapEnd name n (k + 1)
/-- The points that part a name's words, from place i on (fuel n). -/
def cutsFrom (name : Str) : Nat -> Nat -> List Nat
 | 0, _ => []
 | n + 1, i =>
  if name.length <= i then []
  else if name[i]? ≠ some 46 then cutsFrom name n (i + 1)
  else if name[i + 1]? ≠ some 95 then i :: cutsFrom name n (i + 1)
  else match wrapEnd name (name.length - (i + 2)) (i + 2) with
   | some k => i :: cutsFrom name n (k + 1)
   | none => i :: cutsFrom name n (i + 1)
def cutPoints (name : Str) : List Nat := cutsFrom name name.length 0

def wrapped (word : Str) : Option Str :=
 if word.length < 3 \/ word.head? ≠ some 95 \/ word.getLast? ≠ some 95 then none else some ((word.drop 1).take (word.length - 2))
def startsL (s p : Str) : Bool := p.isPrefixOf s
def tagged (x p : Str) : Option Str := if startsL (lowerL x) p then some (x.drop p.length) else none
def isKindL (word : Str) : Bool :=
 lowerL word == [104, 111, 109, 101] || lowerL word == [112, 97, 103, 101] || lowerL word == [115, 101, 99, 116, 105, 111, 110] || lowerL word == [116, 97, 120, 111, 110, 111, 109, 121] || lowerL word == [116, 101, 114, 109] || lowerL word == [116, 97, 120, 111, 110, 111, 109, 121, 116, 101, 114, 109]
def amongL (l : List Str) (s : Str) : Bool := l.any (· == s)
def formatNamed (l : List (Str × Str)) (n : Str) : Bool := l.any fun f => f.1 == n
def formatBeside (l : List (Str × Str)) (n e : Str) : Bool := l.any fun f => f.1 == n && f.2 == e

structure ReadM where
 w : WordsM
 layouts : Bool
 shortcode : Bool
 points : Nat
 marks : List Int := []
 lang : Str := []
 format : Str := []
 kind : Str := []
 layout : Str := []
 hasLang : Bool := false
 hasKind : Bool := false
 baseof : Bool := false
 layoutAt : Int := -1

def ReadM.identify (r : ReadM) (text : Str) (at_ : Int) : ReadM := { r with w := { r.w with ids := r.w.ids ++ [text] }, marks := r.marks ++ [at_] }

def ReadM.wrapper (site : SiteM) (r : ReadM) (word x : Str) (at_ : Int) : ReadM :=
 let custom : ReadM := let r1 := r.identify word at_; { r1 with w := { r1.w with custom := x } }
 let rest : ReadM :=
  if r.layouts then
   match tagged x pFormat with
   | some v => if formatNamed site.formats (lowerL v) then (let r1 := r.identify v at_; { r1 with w := { r1.w with format := v } }) else
    match tagged x pKind with
    | some v => if isKindL v then (let r1 := r.identify v at_; { r1 with w := { r1.w with kind := v } }) else
     match tagged x pLayout with
     | some v => (let r1 := r.identify v at_; { r1 with w := { r1.w with layout := v } })
     | none => custom
    | none =>
     match tagged x pLayout with
     | some v => (let r1 := r.identify v at_; { r1 with w := { r1.w with layout := v } })
     | none => custom
   | none =>
    match tagged x pKind with
    | some v => if isKindL v then (let r1 := r.identify v at_; { r1 with w := { r1.w with kind := v } }) else
     match tagged x pLayout with
     | some v => (let r1 := r.identify v at_; { r1 with w := { r1.w with layout := v } })
     | none => custom
    | none =>
     match tagged x pLayout with
     | some v => (let r1 := r.identify v at_; { r1 with w := { r1.w with layout := v } })
     | none => custom
  else custom
 match tagged x pLanguage with
 | some v =>
  if amongL site.languages (lowerL v) || amongL site.disabled (lowerL v) then
   let r1 := r.identify v at_
   { r1 with w := { r1.w with langs := r1.w.langs ++ [v], disabled := r1.w.disabled || !amongL site.languages (lowerL v) } }
  else rest
 | none => rest

def ReadM.plain (site : SiteM) (r : ReadM) (word : Str) (at_ : Int) : ReadM :=
 let language := (r.w.component == kContent || r.layouts) && decide (2 <= r.points) && !r.hasLang
 if language && (amongL site.languages word || amongL site.disabled word) then
  let r1 := r.identify word at_
  { r1 with lang := word, hasLang := true, w := { r1.w with disabled := r1.w.disabled || !amongL site.languages word } }
 else if r.layouts && formatBeside site.formats word r.w.ext then { r.identify word at_ with format := word }
 else if r.layouts && !r.hasKind && isKindL word then { r.identify word at_ with kind := word, hasKind := true }
 else if word == kBaseof then { r.identify word at_ with baseof := true }
 else if r.layouts && !(r.shortcode && decide (at_ < 0)) then
  if r.layoutAt < 0 then { r.identify word at_ with layoutAt := r.w.ids.length, layout := word }
  else { r with w := { r.w with unknown := r.w.unknown ++ [r.layout], ids := r.w.ids.set r.layoutAt.toNat word }, marks := r.marks ++ [at_], layout := word }
 else { r with w := { r.w with unknown := r.w.unknown ++ [word] } }

def ReadM.typeOf (site : SiteM) (r : ReadM) : Int :=
 let w := r.w
 let name := w.name.take w.nameEnd
 let pointed := !w.ids.isEmpty
 let data := pointed && name == kUContent && w.ext == kGotmpl
 if pointed && (w.component == kContent || w.component == kArch) && amongL site.content w.ext && !name.isEmpty then
  if name = kIndex then 3 else if name = kUIndex then 4 else 2
 else if data && !r.layouts then 5
 else if data && r.baseof then 9
 else if holdsL w.path kShort then 7
 else if r.layouts && r.baseof then 9
 else if r.layouts && holdsL w.path kMarkup then 6
 else if r.layouts && startsL w.path kPartials then 8
 else if data then 5
 else 0

def chooseL (a b : Str) : Str := if a ≠ [] then a else b

/-- One word is read: the i-th from the left is behind the point cuts[i-1]; i = 0: the first word. -/
def readWord (site : SiteM) (name : Str) (cuts : List Nat) (r : ReadM) (i : Nat) (end_ : Nat) : ReadM × Nat :=
 let at_ : Int := if i = 0 then -1 else (cuts.getD (i - 1) 0 : Nat)
 let from_ : Nat := if i = 0 then 0 else cuts.getD (i - 1) 0 + 1
 let word := (name.drop from_).take (end_ - from_)
 let r' := if i = cuts.length then (let r1 := r.identify word at_; { r1 with w := { r1.w with ext := word } })
  else match wrapped word with
   | some x => ReadM.wrapper site r word x at_
   | none => ReadM.plain site r word at_
 (r', if i = 0 then end_ else cuts.getD (i - 1) 0)
/-- The words from the i-th down to the first. -/
def readDown (site : SiteM) (name : Str) (cuts : List Nat) : Nat -> ReadM -> Nat -> ReadM
 | 0, r, e => (readWord site name cuts r 0 e).1
 | i + 1, r, e => readDown site name cuts i (readWord site name cuts r (i + 1) e).1 (readWord site name cuts r (i + 1) e).2

def markEnd (marks : List Int) (n : Nat) : Nat := marks.foldl (fun (e : Nat) (m : Int) => if 0 <= m /\ m < (e : Int) then m.toNat else e) n

def wordsOf (site : SiteM) (component s : Str) (own : Bool) : WordsM :=
 let path := pathOf s own
 let name := lastPart path
 let cuts := cutPoints name
 let r0 : ReadM := { w := { component := component, path := path, name := name, nameEnd := name.length }, layouts := component == kLayouts, shortcode := holdsL path kShort, points := cuts.length }
 let r := if cuts = [] then r0 else readDown site name cuts cuts.length r0 name.length
 let w1 := { r.w with nameEnd := markEnd r.marks name.length }
 let w2 := { w1 with lang := if w1.langs ≠ [] then w1.langs.headD [] else r.lang }
 let w3 := { w2 with format := chooseL w2.format r.format }
 let w4 := { w3 with format := if r.layouts && w3.format == [] && !cuts.isEmpty && formatNamed site.formats w3.ext then w3.ext else w3.format }
 let w5 := { w4 with kind := chooseL w4.kind r.kind, layout := chooseL w4.layout r.layout }
 { w5 with typ := ReadM.typeOf site { r with w := w5 } }

def specParse (site : SiteM) (component s : Str) : ToldM := answers (wordsOf site component s false)
def specUnnormalized (site : SiteM) (component s : Str) : ToldM := answers (wordsOf site component s true)

/-! ### What is said of which inputs -/
def siteWordB (c : UInt8) : Bool := (97 <= c && c <= 122) || (48 <= c && c <= 57) || c == 45
def siteWord (s : Str) : Bool := s.all siteWordB && !s.isEmpty && decide (s.length <= 20)
def siteWordsFrom : List Str -> List Str -> Bool
 | _, [] => true
 | seen, x :: r => siteWord x && !amongL seen x && siteWordsFrom (seen ++ [x]) r
def siteWords (l : List Str) : Bool := siteWordsFrom [] l && decide (l.length <= 12)
def siteKnown (site : SiteM) : Bool :=
 siteWords site.languages && siteWords site.disabled && siteWords site.content && decide (site.formats.length <= 12) &&
 site.disabled.all (fun d => !amongL site.languages d) && site.formats.all (fun f => siteWord f.1 && siteWord f.2)

def tagsList : List Str := [pFormat, pKind, pLayout]
/-- The tags of one word beside those that were met: none where nothing is said. -/
def tagWord (x : Str) : List Str -> List Str -> Option (List Str)
 | [], tags => some tags
 | t :: r, tags => if startsL (lowerL x) t then (if amongL tags t \/ x.length = t.length then none else tagWord x r (tags ++ [t])) else tagWord x r tags
/-- The words of a layout's last part. -/
def layoutWords (name : Str) (cuts : List Nat) : Nat -> Nat -> List Str -> Bool
 | 0, from_, tags =>
  let word := (name.drop from_).take (name.length - from_)
  if word = [] then false else
  match wrapped word with
  | some x => (tagWord x tagsList tags).isSome
  | none => true
 | n + 1, from_, tags =>
  let end_ := cuts.getD (cuts.length - (n + 1)) 0
  let word := (name.drop from_).take (end_ - from_)
  if word = [] then false else
  match (match wrapped word with | some x => tagWord x tagsList tags | none => some tags) with
  | some tags' => layoutWords name cuts n (end_ + 1) tags'
  | none => false
def wordsKnown (component name : Str) : Bool :=
 let cuts := cutPoints name
 if cuts = [] then true else
 let last := cuts.getLastD 0
 if (wrapped (name.drop (last + 1))).isSome \/ cuts.headD 0 = 0 \/ last + 1 = name.length then false
 else if component = kLayouts then layoutWords name cuts cuts.length 0 [] else true
def pathKnown (site : SiteM) (component s : Str) : Bool :=
 siteKnown site && !holdsL s [47, 47] && asciiL s && asciiL component && decide (s.length <= 400) &&
 wordsKnown component (lastPart (pathOf s false)) && wordsKnown component (lastPart (pathOf s true))

end Go.Proofs.YtjkecadfakjanaaGreatDoor
