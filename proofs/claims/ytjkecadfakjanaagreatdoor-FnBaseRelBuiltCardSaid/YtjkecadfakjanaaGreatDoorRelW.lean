/- What the law FnBaseRelBuilt needs of the plain laws and of the small functions' walks. Printed by gen_bunch.py. -/
import Derived.Test.YtjkecadfakjanaaGreatDoorEqM
import Derived.Test.YtjkecadfakjanaaGreatDoorSpecA
import Derived.Test.YtjkecadfakjanaaGreatDoorLow
import Derived.Test.YtjkecadfakjanaaGreatDoorShort
import Derived.Test.YtjkecadfakjanaaGreatDoorRep
import Derived.Test.YtjkecadfakjanaaGreatDoorGet
import Derived.Test.YtjkecadfakjanaaGreatDoorParse
import Derived.Test.YtjkecadfakjanaaGreatDoorKnowA
import Derived.Test.YtjkecadfakjanaaGreatDoorAnsD
import Derived.Test.YtjkecadfakjanaaGreatDoorHelpB
import Derived.Deep.DeepCutAuto
import Derived.Deep.MidRow
import Derived.BigFrame
set_option maxRecDepth 100000
set_option linter.unusedVariables false
set_option linter.unusedSimpArgs false
namespace Go.Proofs.YtjkecadfakjanaaGreatDoor
open Go.RowKit
attribute [local go_sem] B_extract B_toList B_append



def Low (t : Str) : Prop := ∀ x ∈ t, Lib.lowerB x = x /\ x ≠ 32
theorem Low.lower {t : Str} (h : Low t) : lowerL t = t := by
 unfold lowerL Lib.toLowerA
 exact (List.map_congr_left fun x hx => (h x hx).1).trans (List.map_id' t)
theorem Low.drop {t : Str} (h : Low t) (n : Nat) : Low (t.drop n) := fun x hx => h x (List.mem_of_mem_drop hx)
theorem Low.take {t : Str} (h : Low t) (n : Nat) : Low (t.take n) := fun x hx => h x (List.mem_of_mem_take hx)


theorem low_norm_id {t : Str} (h : Low t) : normL t = t := by
 unfold normL
 rw [show Lib.toLowerA t = t from h.lower]
 exact map_normB_of_ne fun x hx => (h x hx).2
theorem pathOf_false (s : Str) : pathOf s false = normPath (normL s) := rfl


def plainChars : Str -> Bool
 | [] => true
 | c :: t => (decide (97 <= c) && decide (c <= 122)) && t.all siteWordB
def plainL (s : Str) : Bool := plainChars s && (s != [] && s != kIndex && s != kBaseof && !isKindL s)
theorem letter_site {c : UInt8} (h : (decide (97 <= c) && decide (c <= 122)) = true) : siteWordB c = true := by unfold siteWordB; rw [h]; rfl
theorem plainChars_all {s : Str} (h : plainChars s = true) : ∀ c ∈ s, siteWordB c = true := by
 cases s with
 | nil => intro c hc; cases hc
 | cons a t =>
  unfold plainChars at h
  rw [Bool.and_eq_true, List.all_eq_true] at h
  intro c hc
  rcases List.mem_cons.1 hc with rfl | hc
  ·exact letter_site h.1
  ·exact h.2 c hc
structure PlainW (s : Str) : Prop where
 ne : s ≠ []
 ch : ∀ c ∈ s, siteWordB c = true
 idx : s ≠ kIndex
 bas : s ≠ kBaseof
 knd : isKindL s = false
theorem plain_word {s : Str} (h : plainL s = true) : PlainW s := by
 unfold plainL at h
 simp only [Bool.and_eq_true, bne_iff_ne, Bool.not_eq_true'] at h
 exact ⟨h.2.1.1.1, plainChars_all h.1, h.2.1.1.2, h.2.1.2, h.2.2⟩
/-- Site words' bytes. -/
def Chars (s : Str) : Prop := ∀ c ∈ s, siteWordB c = true
theorem Chars.low {s : Str} (h : Chars s) : Low s := by
 have hb : ∀ c : UInt8, siteWordB c = true -> Lib.lowerB c = c /\ c ≠ 32 := fun c => by
  have h : ∀ n : Fin 256, siteWordB (UInt8.ofNat n) = true -> Lib.lowerB (UInt8.ofNat n) = UInt8.ofNat n /\ UInt8.ofNat n ≠ 32 := by decide +kernel
  have := h ⟨c.toNat, c.toNat_lt⟩
  simpa using this
 exact fun x hx => hb x (h x hx)
theorem Chars.not {s : Str} (h : Chars s) {c : UInt8} (hc : siteWordB c = false) (j : Nat) : s[j]? ≠ some c := fun e => by
 have := h c (List.mem_of_getElem? e)
 rw [hc] at this; cases this
theorem Chars.notin {s : Str} (h : Chars s) {c : UInt8} (hc : siteWordB c = false) : c ∉ s := fun e => by
 have := h c e
 rw [hc] at this; cases this
theorem Low.append {a b : Str} (h : Low a) (h' : Low b) : Low (a ++ b) := fun x hx => by
 rcases List.mem_append.1 hx with hx | hx
 ·exact h x hx
 ·exact h' x hx
theorem low_one {c : UInt8} (h : Lib.lowerB c = c /\ c ≠ 32) : Low [c] := fun x hx => by rw [List.mem_singleton] at hx; subst hx; exact h
theorem Low.cons {c : UInt8} {b : Str} (h : Lib.lowerB c = c /\ c ≠ 32) (h' : Low b) : Low (c :: b) := (low_one h).append h'
def folderL (dirs : List Str) : Str := dirs.flatMap fun d => 47 :: d
theorem folder_cons (d : Str) (r : List Str) : folderL (d :: r) = 47 :: (d ++ folderL r) := rfl
theorem folder_snoc (r : List Str) (d : Str) : folderL (r ++ [d]) = folderL r ++ 47 :: d := by
 unfold folderL
 rw [List.flatMap_append]
 simp
theorem folder_append (r q : List Str) : folderL (r ++ q) = folderL r ++ folderL q := by unfold folderL; rw [List.flatMap_append]
theorem folder_low {dirs : List Str} (h : ∀ d ∈ dirs, Chars d) : Low (folderL dirs) := by
 intro x hx
 unfold folderL at hx
 obtain ⟨d, hd, hx⟩ := List.mem_flatMap.1 hx
 exact Low.cons (by decide) (h d hd).low x hx
theorem folder_head (dirs : List Str) (f : Str) : (folderL dirs ++ 47 :: f).head? = some 47 := by
 cases dirs with
 | nil => rfl
 | cons d r => rw [folder_cons]; rfl
theorem built_slash {D f : Str} (hf : (47 : UInt8) ∉ f) : slashB (D ++ 47 :: f) (D ++ 47 :: f).length = (D.length : Int) := by
 refine slashB_at (by rw [List.getElem?_append_right (Nat.le_refl _), Nat.sub_self]; rfl) _ (by rw [List.length_append, List.length_cons]; omega) ?_
 intro j h1 h2 e
 rw [List.getElem?_append_right (by omega)] at e
 obtain ⟨k, hk⟩ : ∃ k, j - D.length = k + 1 := ⟨j - D.length - 1, by omega⟩
 rw [hk, List.getElem?_cons_succ] at e
 exact hf (List.mem_of_getElem? e)
theorem built_last {D f : Str} (hf : (47 : UInt8) ∉ f) : lastPart (D ++ 47 :: f) = f := by
 unfold lastPart
 rw [built_slash hf, show ((D.length : Int) + 1).toNat = D.length + 1 by omega, List.drop_append, List.drop_of_length_le (by omega), show D.length + 1 - D.length = 1 by omega]
 rfl
theorem built_dir {dirs : List Str} {f : Str} (hf : (47 : UInt8) ∉ f) : dirOf (folderL dirs ++ 47 :: f) = if dirs = [] then [47] else folderL dirs := by
 unfold dirOf
 rw [built_slash hf]
 cases dirs with
 | nil => rfl
 | cons d r =>
  rw [if_neg (by rw [folder_cons, List.length_cons]; omega), if_neg (by simp), Int.toNat_natCast, List.take_left']
  rfl
theorem built_container {dirs : List Str} {f : Str} (hf : (47 : UInt8) ∉ f) (hd : ∀ d ∈ dirs, (47 : UInt8) ∉ d) : containerOf (folderL dirs ++ 47 :: f) = dirs.getLastD [] := by
 unfold containerOf
 rw [built_slash hf]
 rcases List.eq_nil_or_concat dirs with rfl | ⟨r, d, rfl⟩
 ·rfl
 ·rw [List.concat_eq_append] at hd |-
  rw [if_neg (by rw [folder_snoc, List.length_append, List.length_cons]; omega), Int.toNat_natCast, List.take_left', folder_snoc, built_last (hd d (by simp))]
  ·simp [List.getLastD_eq_getLast?]
  ·rfl
theorem split_no : ∀ {s : Str}, (47 : UInt8) ∉ s -> splitL s = [s]
 | [], _ => rfl
 | c :: t, h => by
  rw [List.mem_cons, not_or] at h
  unfold splitL
  rw [if_neg (fun e => h.1 e.symm), split_no h.2]
theorem split_cut : ∀ {d : Str} (t : Str), (47 : UInt8) ∉ d -> splitL (d ++ 47 :: t) = d :: splitL t
 | [], t, _ => by show splitL (47 :: t) = _; rw [splitL, if_pos rfl]
 | c :: d, t, h => by
  rw [List.mem_cons, not_or] at h
  show splitL (c :: (d ++ 47 :: t)) = _
  rw [splitL, if_neg (fun e => h.1 e.symm), split_cut t h.2]
theorem built_split : ∀ {dirs : List Str} {f : Str}, (47 : UInt8) ∉ f -> (∀ d ∈ dirs, (47 : UInt8) ∉ d) -> splitL ((folderL dirs ++ 47 :: f).drop 1) = dirs ++ [f]
 | [], f, hf, _ => split_no hf
 | d :: r, f, hf, hd => by
  rw [folder_cons]
  show splitL ((d ++ folderL r) ++ 47 :: f) = _
  rw [List.append_assoc]
  have ih := built_split (dirs := r) (f := f) hf (fun x hx => hd x (List.mem_cons_of_mem _ hx))
  cases r with
  | nil => rw [show folderL [] ++ 47 :: f = 47 :: f from rfl, split_cut f (hd d List.mem_cons_self), split_no hf]; rfl
  | cons e q =>
   rw [folder_cons] at ih |-
   show splitL (d ++ 47 :: (e ++ folderL q ++ 47 :: f)) = _
   rw [split_cut _ (hd d List.mem_cons_self)]
   exact congrArg (d :: ·) ih
theorem built_parts {dirs : List Str} {f : Str} (hf : (47 : UInt8) ∉ f) (hd : ∀ d ∈ dirs, (47 : UInt8) ∉ d) : partsOf (folderL dirs ++ 47 :: f) = dirs ++ [f] := by
 unfold partsOf
 rw [if_neg (by simp), built_split hf hd]
theorem built_section {dirs : List Str} {f : Str} {w : WordsM} (hp : w.path = folderL dirs ++ 47 :: f) (hf : (47 : UInt8) ∉ f) (hd : ∀ d ∈ dirs, (47 : UInt8) ∉ d) (ht : w.typ ≠ 3) : sectionOf w = dirs.headD [] := by
 unfold sectionOf
 rw [hp, built_parts hf hd]
 cases dirs with
 | nil => rw [if_pos (.inl (by simp))]; rfl
 | cons d r => rw [if_neg (fun h => h.elim (fun h => by simp at h; omega) (fun h => ht h.2))]; rfl
theorem built_path {D f : Str} (hh : (D ++ 47 :: f).head? = some 47) (hl : Low D) (hf : Low f) (h0 : f ≠ []) (h1 : (47 : UInt8) ∉ f) : pathOf (D ++ 47 :: f) false = D ++ 47 :: f := by
 rw [pathOf_false, low_norm_id (hl.append (hf.cons (by decide)))]
 unfold normPath
 rw [if_neg (by simp)]
 have e1 : slashed (D ++ 47 :: f) = D ++ 47 :: f := by unfold slashed; rw [if_pos hh]
 rw [e1]
 unfold trimEnd
 rw [if_neg]
 rintro ⟨_, h⟩
 have e2 : (D ++ 47 :: f).getLast? = (47 :: f).getLast? := by rw [List.getLast?_append]; cases f with
  | nil => rfl
  | cons c t => simp [List.getLast?_cons_cons, List.getLast?_cons]
 rw [e2] at h
 cases f with
 | nil => exact h0 rfl
 | cons c t =>
  rw [List.getLast?_cons_cons] at h
  exact h1 (List.mem_of_getLast? h)
theorem cuts_skip (name : Str) : ∀ (m n i : Nat), (∀ j, i <= j -> j < i + m -> name[j]? ≠ some 46) -> i + m <= name.length -> cutsFrom name (n + m) i = cutsFrom name n (i + m)
 | 0, n, i, _, _ => rfl
 | m + 1, n, i, h, hl => by
  rw [show n + (m + 1) = (n + m) + 1 by omega, cutsFrom, if_neg (by omega), if_pos (h i (Nat.le_refl _) (by omega)), cuts_skip name m n (i + 1) (fun j h1 h2 => h j (by omega) (by omega)) (by omega), show i + 1 + m = i + (m + 1) by omega]
theorem cuts_hit {name : Str} {i : Nat} (n : Nat) (h1 : name[i]? = some 46) (h2 : name[i + 1]? ≠ some 95) (hl : i < name.length) : cutsFrom name (n + 1) i = i :: cutsFrom name n (i + 1) := by
 rw [cutsFrom, if_neg (by omega), if_neg (fun h => h h1), if_pos h2]
theorem get_left {a b : Str} {j : Nat} (h : j < a.length) : (a ++ b)[j]? = a[j]? := List.getElem?_append_left h
theorem get_right (a b : Str) (j : Nat) : (a ++ b)[a.length + j]? = b[j]? := by rw [List.getElem?_append_right (by omega), Nat.add_sub_cancel_left]
theorem cuts_one {n e : Str} (hn : (46 : UInt8) ∉ n) (he : (46 : UInt8) ∉ e) (hu : e[0]? ≠ some 95) : cutPoints (n ++ 46 :: e) = [n.length] := by
 unfold cutPoints
 have hl : (n ++ 46 :: e).length = (e.length + 1) + n.length := by rw [List.length_append, List.length_cons]; omega
 have g0 : (n ++ 46 :: e)[n.length]? = some 46 := by rw [<- Nat.add_zero n.length, get_right]; rfl
 have g1 : ∀ j, (n ++ 46 :: e)[n.length + (j + 1)]? = e[j]? := fun j => by rw [get_right]; rfl
 generalize hN : n ++ 46 :: e = N at hl g0 g1
 rw [hl, cuts_skip N n.length (e.length + 1) 0 (fun j h1 h2 q => by rw [<- hN, get_left (by omega)] at q; exact hn (List.mem_of_getElem? q)) (by omega), Nat.zero_add, cuts_hit e.length g0 (by rw [g1 0]; exact hu) (by omega)]
 have := cuts_skip N e.length 0 (n.length + 1) (fun j h1 h2 q => by
  obtain ⟨x, rfl⟩ : ∃ x, j = n.length + (x + 1) := ⟨j - n.length - 1, by omega⟩
  rw [g1] at q
  exact he (List.mem_of_getElem? q)) (by omega)
 rw [Nat.zero_add] at this
 rw [this]; rfl
def extR (r : ReadM) (word : Str) (at_ : Int) : ReadM := let r1 := r.identify word at_; { r1 with w := { r1.w with ext := word } }
theorem rw_ext (site : SiteM) (name : Str) (cuts : List Nat) (r : ReadM) (i end_ c : Nat) (word : Str) (hi : i + 1 = cuts.length) (hc : cuts.getD i 0 = c) (hw : (name.drop (c + 1)).take (end_ - (c + 1)) = word) :
  readWord site name cuts r (i + 1) end_ = (extR r word c, c) := by
 unfold readWord
 dsimp only
 rw [if_neg (Nat.succ_ne_zero i), if_neg (Nat.succ_ne_zero i), if_pos hi, Nat.add_sub_cancel, hc, if_neg (Nat.succ_ne_zero i), hw]
 rfl
theorem rw_first (site : SiteM) (name : Str) (cuts : List Nat) (r : ReadM) (end_ : Nat) (word : Str) (hi : 0 ≠ cuts.length) (hw : name.take end_ = word) :
  readWord site name cuts r 0 end_ = (readStep site r word (-1), end_) := by
 unfold readWord
 dsimp only
 rw [if_pos rfl, if_pos rfl, if_neg hi, List.drop_zero, Nat.sub_zero, hw]
 rfl
theorem drop_at (n t : Str) (c : UInt8) : (n ++ c :: t).drop (n.length + 1) = t := by
 rw [List.drop_append, List.drop_of_length_le (by omega), show n.length + 1 - n.length = 1 by omega]; rfl
theorem readAll_one (site : SiteM) (comp path : Str) {n e : Str} (hc : cutPoints (n ++ 46 :: e) = [n.length]) :
  readAll site comp path (n ++ 46 :: e) = readStep site (extR (read0 comp path (n ++ 46 :: e)) e n.length) n (-1) := by
 unfold readAll
 rw [hc, if_neg (by simp)]
 show (readWord site _ _ (readWord site _ _ _ (0 + 1) _).1 0 (readWord site _ _ _ (0 + 1) _).2).1 = _
 rw [rw_ext site _ [n.length] _ 0 _ n.length e rfl rfl (by rw [drop_at, List.take_of_length_le]; rw [List.length_append, List.length_cons]; omega)]
 rw [rw_first site _ [n.length] _ n.length n (by simp) (by rw [List.take_left'] ; rfl)]
theorem wrapped_none {s : Str} (h : s.head? ≠ some 95) : wrapped s = none := by unfold wrapped; rw [if_pos (.inr (.inl h))]
theorem readStep_pl (site : SiteM) (r : ReadM) {word : Str} (at_ : Int) (h : wrapped word = none) : readStep site r word at_ = ReadM.plain site r word at_ := by unfold readStep; rw [h]


theorem wordsEnd_is (site : SiteM) (name : Str) (r : ReadM) {ne : Nat} {lang fmt kind lay : Str} {typ : Int} (h1 : markEnd r.marks name.length = ne) (h2 : (if r.w.langs ≠ [] then r.w.langs.headD [] else r.lang) = lang)
  (h3 : (if (r.layouts && (chooseL r.w.format r.format == []) && !(cutPoints name).isEmpty && formatNamed site.formats r.w.ext) = true then r.w.ext else chooseL r.w.format r.format) = fmt) (h4 : chooseL r.w.kind r.kind = kind) (h5 : chooseL r.w.layout r.layout = lay)
  (h6 : ReadM.typeOf site { r with w := { r.w with nameEnd := ne, lang := lang, format := fmt, kind := kind, layout := lay } } = typ) :
  wordsEnd site name r = { r.w with nameEnd := ne, lang := lang, format := fmt, kind := kind, layout := lay, typ := typ } := by
 subst h1 h2 h3 h4 h5 h6; rfl
theorem mark_one {a N : Nat} (h : a < N) : markEnd [(a : Int)] N = a := by
 show (if 0 <= (a : Int) /\ (a : Int) < (N : Int) then (a : Int).toNat else N) = a
 rw [if_pos ⟨by omega, by omega⟩]; rfl
theorem built_words {site : SiteM} {comp D f : Str} (hl : Low D) (hf : Low f) (h0 : f ≠ []) (h1 : (47 : UInt8) ∉ f) (hh : (D ++ 47 :: f).head? = some 47) :
  wordsOf site comp (D ++ 47 :: f) false = wordsEnd site f (readAll site comp (D ++ 47 :: f) f) := by
 rw [wordsOf_eq, built_path hh hl hf h0 h1, built_last h1]
/-- A name and an extension. -/
structure OneDot (n e : Str) : Prop where
 n46 : (46 : UInt8) ∉ n
 e46 : (46 : UInt8) ∉ e
 e95 : e[0]? ≠ some 95
 n0 : n ≠ []
 e0 : e ≠ []
 nl : Low n
 el : Low e
 n47 : (47 : UInt8) ∉ n
 e47 : (47 : UInt8) ∉ e
 nw : wrapped n = none
theorem Chars.dot {s : Str} (h : Chars s) : (46 : UInt8) ∉ s := h.notin (by decide)
theorem Chars.slash {s : Str} (h : Chars s) : (47 : UInt8) ∉ s := h.notin (by decide)
theorem Chars.under {s : Str} (h : Chars s) : (95 : UInt8) ∉ s := h.notin (by decide)
theorem Chars.head {s : Str} (h : Chars s) : s.head? ≠ some 95 := fun e => h.under (List.mem_of_head? e)
theorem PlainW.chars {s : Str} (h : PlainW s) : Chars s := h.ch
theorem oneDot {n e : Str} (hn : PlainW n) (he : PlainW e) : OneDot n e :=
 ⟨hn.chars.dot, he.chars.dot, he.chars.not (by decide) 0, hn.ne, he.ne, hn.chars.low, he.chars.low, hn.chars.slash, he.chars.slash, wrapped_none hn.chars.head⟩
theorem OneDot.low {n e : Str} (h : OneDot n e) : Low (n ++ 46 :: e) := h.nl.append (h.el.cons (by decide))
theorem OneDot.noSlash {n e : Str} (h : OneDot n e) : (47 : UInt8) ∉ n ++ 46 :: e := fun x => by
 rcases List.mem_append.1 x with x | x
 ·exact h.n47 x
 ·rcases List.mem_cons.1 x with x | x
  ·exact absurd x (by decide)
  ·exact h.e47 x
theorem OneDot.cuts {n e : Str} (h : OneDot n e) : cutPoints (n ++ 46 :: e) = [n.length] := cuts_one h.n46 h.e46 h.e95
/-- The reading behind the extension. -/
def R1 (comp p n e : Str) : ReadM := extR (read0 comp p (n ++ 46 :: e)) e n.length
theorem one_read {site : SiteM} {comp D n e : Str} (h : OneDot n e) (hl : Low D) (hh : (D ++ 47 :: (n ++ 46 :: e)).head? = some 47) :
  wordsOf site comp (D ++ 47 :: (n ++ 46 :: e)) false = wordsEnd site (n ++ 46 :: e) (ReadM.plain site (R1 comp (D ++ 47 :: (n ++ 46 :: e)) n e) n (-1)) := by
 rw [built_words hl h.low (by simp) h.noSlash hh, readAll_one site comp _ h.cuts, readStep_pl _ _ _ h.nw]; rfl
theorem R1_lang {comp p n e : Str} (h : OneDot n e) : plainLang (R1 comp p n e) = false := by
 unfold plainLang
 show ((comp == kContent || comp == kLayouts) && decide (2 <= (cutPoints (n ++ 46 :: e)).length) && !false) = false
 rw [h.cuts]
 cases (comp == kContent || comp == kLayouts) <;> rfl
theorem one_len {n e : Str} : n.length < (n ++ 46 :: e).length := by rw [List.length_append, List.length_cons]; omega
theorem plain_unknown {site : SiteM} {r : ReadM} {n : Str} (at_ : Int) (h1 : (plainLang r && (amongL site.languages n || amongL site.disabled n)) = false) (h2 : r.layouts = false) (h3 : n ≠ kBaseof) :
  ReadM.plain site r n at_ = { r with w := { r.w with unknown := r.w.unknown ++ [n] } } := by
 rw [plain_eq, if_neg (by rw [h1]; decide), if_neg (by rw [h2]; simp), if_neg (by rw [h2]; simp), if_neg (by simpa using h3), if_neg (by rw [h2]; simp)]
theorem one_other {site : SiteM} {comp D n e : Str} (h : OneDot n e) (hb : n ≠ kBaseof) (hc : (comp == kLayouts) = false) (hl : Low D) (hh : (D ++ 47 :: (n ++ 46 :: e)).head? = some 47) {typ : Int}
  (ht : ∀ r : ReadM, r.w.component = comp -> r.w.ids = [e] -> r.w.ext = e -> r.w.path = D ++ 47 :: (n ++ 46 :: e) -> r.w.name.take r.w.nameEnd = n -> r.layouts = false -> r.baseof = false -> ReadM.typeOf site r = typ) :
  wordsOf site comp (D ++ 47 :: (n ++ 46 :: e)) false = { component := comp, path := D ++ 47 :: (n ++ 46 :: e), name := n ++ 46 :: e, nameEnd := n.length, ids := [e], unknown := [n], ext := e, typ := typ } := by
 rw [one_read h hl hh, plain_unknown (-1) (by rw [R1_lang h]; rfl) hc hb]
 rw [wordsEnd_is site _ _ (ne := n.length) (lang := []) (fmt := []) (kind := []) (lay := []) (typ := typ) (mark_one one_len) rfl (if_neg (by show ¬ ((comp == kLayouts) && _ && _ && _) = true; rw [hc]; simp)) rfl rfl
  (ht _ rfl rfl rfl rfl (by show (n ++ 46 :: e).take n.length = n; rw [List.take_left']; rfl) hc rfl)]
 rfl
theorem typeOf_single {site : SiteM} {r : ReadM} {n e : Str} (h1 : r.w.component = kContent) (h2 : r.w.ids ≠ []) (h3 : amongL site.content r.w.ext = true) (h4 : r.w.name.take r.w.nameEnd = n) (h5 : n ≠ []) (h6 : n ≠ kIndex) (h7 : n ≠ kUIndex) : ReadM.typeOf site r = 2 := by
 unfold ReadM.typeOf
 dsimp only
 have h2' : r.w.ids.isEmpty = false := List.isEmpty_eq_false_iff.2 h2
 have h5' : n.isEmpty = false := List.isEmpty_eq_false_iff.2 h5
 rw [h1, h2', h3, h4, h5', if_pos (by rfl), if_neg h6, if_neg h7]
theorem uindex_ne {n : Str} (h : Chars n) : n ≠ kUIndex := fun e => h.under (by rw [e]; decide)
/-- A page of a name and an extension. -/
theorem page_one {site : SiteM} {D n e : Str} (hn : PlainW n) (he : PlainW e) (hc : amongL site.content e = true) (hl : Low D) (hh : (D ++ 47 :: (n ++ 46 :: e)).head? = some 47) :
  wordsOf site kContent (D ++ 47 :: (n ++ 46 :: e)) false = { component := kContent, path := D ++ 47 :: (n ++ 46 :: e), name := n ++ 46 :: e, nameEnd := n.length, ids := [e], unknown := [n], ext := e, typ := 2 } :=
 one_other (oneDot hn he) hn.bas (by decide) hl hh (fun r h1 h2 h3 _ h5 _ _ => typeOf_single (e := e) h1 (by rw [h2]; simp) (by rw [h3]; exact hc) h5 hn.ne hn.idx (uindex_ne hn.chars))


theorem head_built {W : WordsM} {D f : Str} (hp : W.path = D ++ 47 :: f) (hn : W.name = f) : headOf W = D ++ [47] := by
 unfold headOf
 rw [hp, hn, List.length_append, List.length_cons, show D.length + (f.length + 1) - f.length = D.length + 1 by omega, show D ++ 47 :: f = (D ++ [47]) ++ f by simp, List.take_left' (by simp)]
structure PageT (T : ToldM) (dirs : List Str) (n l e f : Str) (ids : List Str) : Prop where
 typ : T.typ = 2
 isContent : T.isContent = true
 isBundle : T.isBundle = false
 lang : T.lang = l
 ext : T.ext = e
 ids : T.ids = ids
 unknown : T.unknown = [n]
 path : T.path = folderL dirs ++ 47 :: f
 dir : T.dir = if dirs = [] then [47] else folderL dirs
 name : T.name = f
 nameNoId : T.nameNoId = n
 baseName : T.baseName = n
 container : T.container = dirs.getLastD []
 section_ : T.section_ = dirs.headD []
 base : T.base = folderL dirs ++ 47 :: n
 pathNoId : T.pathNoId = folderL dirs ++ 47 :: n
 pathNoLang : T.pathNoLang = folderL dirs ++ 47 :: (n ++ 46 :: e)
 idBase : T.idBase = folderL dirs ++ 47 :: n
 disabled : T.disabled = false
theorem page_told {W : WordsM} {dirs : List Str} {n l e f : Str} {ids : List Str} {cus : Str} (hW : W = { component := kContent, path := folderL dirs ++ 47 :: f, name := f, nameEnd := n.length, ids := ids, unknown := [n], ext := e, lang := l, custom := cus, typ := 2 }) (hids : ids ≠ []) (hnf : f.take n.length = n)
  (hf : (47 : UInt8) ∉ f) (hd : ∀ d ∈ dirs, (47 : UInt8) ∉ d) (hl : cus = [] -> l = [] -> f = n ++ 46 :: e) (hc : cus = []) : PageT (answers W) dirs n l e f ids := by
 have hp : W.path = folderL dirs ++ 47 :: f := by rw [hW]
 have hn : W.name = f := by rw [hW]
 have hh := head_built hp hn
 have ht : W.typ = 2 := by rw [hW]
 have hcm : W.component = kContent := by rw [hW]
 have hno : noIdentifier W = folderL dirs ++ 47 :: n := by
  unfold noIdentifier
  rw [if_neg (by rw [hW]; exact hids), hh, hn, show W.nameEnd = n.length by rw [hW], hnf]
  simp
 have hba : baseOf W = folderL dirs ++ 47 :: n := by
  unfold baseOf
  rw [if_neg (by rw [hW]; exact hids), if_neg (by rw [ht]; decide), if_pos ht, hno]
 have hnl : noLang W = folderL dirs ++ 47 :: (n ++ 46 :: e) := by
  unfold noLang
  by_cases hl0 : l = []
  ·rw [if_pos (by rw [hW]; exact hl0), hp, hl hc hl0]
  ·rw [if_neg (by rw [hW]; exact hl0), hh, hn, show W.nameEnd = n.length by rw [hW], hnf, show W.ext = e by rw [hW]]
   simp
 have hsec := built_section (w := W) hp hf hd (by rw [ht]; decide)
 refine ⟨by rw [hW]; rfl, by rw [hW]; rfl, by rw [hW]; rfl, by rw [hW]; rfl, by rw [hW]; rfl, by rw [hW]; rfl, by rw [hW]; rfl, hp, ?_, hn, ?_, ?_, ?_, hsec, hba, hno, hnl, ?_, by rw [hW]; rfl⟩
 ·show dirOf W.path = _; rw [hp, built_dir hf]
 ·show W.name.take W.nameEnd = n; rw [hn, show W.nameEnd = n.length by rw [hW], hnf]
 ·show (if isBundleT W.typ then containerOf W.path else W.name.take W.nameEnd) = n
  rw [if_neg (by rw [ht]; decide), hn, show W.nameEnd = n.length by rw [hW], hnf]
 ·show containerOf W.path = _; rw [hp, built_container hf hd]
 ·show (if W.component = kLayouts then W.path else baseOf W) = _
  rw [if_neg (by rw [hcm]; decide), hba]
theorem plains_slash {dirs : List Str} (h : ∀ d ∈ dirs, PlainW d) : ∀ d ∈ dirs, (47 : UInt8) ∉ d := fun d hd => (h d hd).chars.slash
theorem plains_low {dirs : List Str} (h : ∀ d ∈ dirs, PlainW d) : Low (folderL dirs) := folder_low fun d hd => (h d hd).chars
theorem built_page_one {site : SiteM} {dirs : List Str} {n e : Str} (hd : ∀ d ∈ dirs, PlainW d) (hn : PlainW n) (he : PlainW e) (hc : amongL site.content e = true) : PageT (specParse site kContent (folderL dirs ++ 47 :: (n ++ 46 :: e))) dirs n [] e (n ++ 46 :: e) [e] :=
 page_told (page_one hn he hc (plains_low hd) (folder_head _ _)) (by simp) (by rw [List.take_left']; rfl) (oneDot hn he).noSlash (plains_slash hd) (fun _ _ => rfl) rfl


theorem wpList_load_g {P : Program} {ops : Array Oper} {rest : List Oper} {op : Oper} {a : Act} {w : World} {Q : Exit -> Act -> World -> Prop} (hw : Region.wanted op (yielded ops a.tmps) = true) (ty : TypeId) (x : Operand) (ho : op.op = .load ty x)
  (b o : Nat) (hx : a.eval x = .pointer (some ⟨b, o, none⟩)) (cs : List Value) (d : TypeDesc) (hc : w.rangeAt b o cs) (hu : P.underlying ty = some d) (hd : d.isRow = true) (hi : (P.info? ty).map (·.size) = some cs.length)
  (h : wpList P ops Q rest (a.put op.dst (.agg cs.toArray)) w) : wpList P ops Q (op :: rest) a w :=
 BigFrame.wpList_want hw fun _ hK => wp_load_mid ty x ho b o hx cs d hc hu hd hi (hK _ _ h)
theorem range_blk {w : World} {g : Nat} {cs : Array Value} {t : TypeId} (h : w.heap[g]? = some (.cells cs t (0, 0))) : w.rangeAt g 0 cs.toList := by
 intro j v hj
 rw [Nat.zero_add, cell_blk h, <- hj, Array.getElem?_toList]


set_option maxHeartbeats 1000000 in
theorem c_IsKindW (x : Str) (w : World) (hx : x.length <= 70368744177664) :
  Calls Tryz.prog 47 #[.string (B x)] w fun e w' => e = .returned (.bool (isKindL x)) /\ Below w.heap.size w w' := by
 have HL : Hid (Calls Tryz.prog 100 #[.string (B x)] w fun e w' => e = .returned (.string (B (lowerL x))) /\ Below w.heap.size w w') := c_lower x w (by omega)
 have HR : Hid (isKindL x = (lowerL x == [104, 111, 109, 101] || lowerL x == [112, 97, 103, 101] || lowerL x == [115, 101, 99, 116, 105, 111, 110] || lowerL x == [116, 97, 120, 111, 110, 111, 109, 121] || lowerL x == [116, 101, 114, 109] || lowerL x == [116, 97, 120, 111, 110, 111, 109, 121, 116, 101, 114, 109])) := rfl
 generalize isKindL x = R at HR |-
 generalize lowerL x = l at HR HL
 go_enter Tryz.func47, Tryz.ntmps47
 go_wp2_with fail
 refine HL.out.mono ?_; rintro e w1 ⟨rfl, hb⟩
 replace hb := Lib.hid hb
 cases h1 : (l == [104, 111, 109, 101]) with
 | true =>
  have q : Hid (R = true) := by show _ = _; rw [HR.out, h1]; rfl
  go_wp2_with fail
  go_ret
  exact ⟨ret_bool q.out.symm, hb.out⟩
 | false =>
 cases h2 : (l == [112, 97, 103, 101]) with
 | true =>
  have q : Hid (R = true) := by show _ = _; rw [HR.out, h1, h2]; rfl
  go_wp2_with fail
  go_ret
  exact ⟨ret_bool q.out.symm, hb.out⟩
 | false =>
 cases h3 : (l == [115, 101, 99, 116, 105, 111, 110]) with
 | true =>
  have q : Hid (R = true) := by show _ = _; rw [HR.out, h1, h2, h3]; rfl
  go_wp2_with fail
  go_ret
  exact ⟨ret_bool q.out.symm, hb.out⟩
 | false =>
 cases h4 : (l == [116, 97, 120, 111, 110, 111, 109, 121]) with
 | true =>
  have q : Hid (R = true) := by show _ = _; rw [HR.out, h1, h2, h3, h4]; rfl
  go_wp2_with fail
  go_ret
  exact ⟨ret_bool q.out.symm, hb.out⟩
 | false =>
 cases h5 : (l == [116, 101, 114, 109]) with
 | true =>
  have q : Hid (R = true) := by show _ = _; rw [HR.out, h1, h2, h3, h4, h5]; rfl
  go_wp2_with fail
  go_ret
  exact ⟨ret_bool q.out.symm, hb.out⟩
 | false =>
 cases h6 : (l == [116, 97, 120, 111, 110, 111, 109, 121, 116, 101, 114, 109]) with
 | true =>
  have q : Hid (R = true) := by show _ = _; rw [HR.out, h1, h2, h3, h4, h5, h6]; rfl
  go_wp2_with fail
  go_ret
  exact ⟨ret_bool q.out.symm, hb.out⟩
 | false =>
  have q : Hid (R = false) := by show _ = _; rw [HR.out, h1, h2, h3, h4, h5, h6]; rfl
  go_wp2_with fail
  go_ret
  exact ⟨ret_bool q.out.symm, hb.out⟩
/-- The test of the bytes from place k on. -/
def pcAt (s : Str) (k : Nat) : Bool := if k = 0 then plainChars s else (s.drop k).all siteWordB
def letterB (c : UInt8) : Bool := decide (97 <= c) && decide (c <= 122)
theorem pcAt_zero {s : Str} (h : 0 < s.length) : pcAt s 0 = (letterB s[0] && pcAt s 1) := by
 cases s with
 | nil => simp at h
 | cons c t => rfl
theorem pcAt_more {s : Str} {k : Nat} (h0 : k ≠ 0) (h : k < s.length) : pcAt s k = (siteWordB s[k] && pcAt s (k + 1)) := by
 unfold pcAt
 rw [if_neg h0, if_neg (Nat.succ_ne_zero k), drop_cons h, List.all_cons]
theorem letterB_int (c : UInt8) : letterB c = decide ((97 : Int) <= c.toNat /\ (c.toNat : Int) <= 122) := by
 have h1 : ∀ (a b : UInt8), decide (a <= b) = decide ((a.toNat : Int) <= (b.toNat : Int)) := fun a b => by
  rw [decide_eq_decide, UInt8.le_iff_toNat_le]; omega
 unfold letterB
 rw [h1, h1, Bool.eq_iff_iff]
 simp only [Bool.and_eq_true, decide_eq_true_eq]
 rfl
theorem pcAt_end {s : Str} {k : Nat} (h : s.length <= k) : pcAt s k = true := by
 unfold pcAt
 split
 ·rename_i e
  subst e
  have : s = [] := List.length_eq_zero_iff.1 (by omega)
  subst this; rfl
 ·rw [List.drop_of_length_le h]; rfl
set_option maxHeartbeats 4000000 in
theorem c_plainW (s : Str) (w : World) (hs : s.length <= 70368744177664) :
  Calls Tryz.prog 21 #[.string (B s)] w fun e w' => e = .returned (.bool (plainL s)) /\ Below w.heap.size w w' := by
 have HK := Lib.hid (fun wx => c_IsKindW s wx hs)
 have HR : Hid (plainL s = (pcAt s 0 && (s != [] && s != kIndex && s != kBaseof && !isKindL s))) := rfl
 generalize plainL s = R at HR |-
 generalize isKindL s = K at HR HK
 go_enter Tryz.func21, Tryz.ntmps21
 go_wp2
 go_loop [3] (fun i => ∃ k : Nat, k <= s.length /\ i = .int .i64 k /\ Hid (pcAt s 0 = pcAt s k)) (fun i => s.length - (intOf i).toNat)
 case atStart => exact ⟨0, Nat.zero_le _, rfl, rfl⟩
 case round =>
  obtain ⟨k, hk, rfl, hall⟩ := hrel
  by_cases hlt : k < s.length
  ·have hg := B_get s k hlt
   by_cases hz : k = 0
   ·have hbi := letterB_int s[k]
    subst hz
    have HM : Hid (pcAt s 0 = (letterB s[0] && pcAt s 1)) := pcAt_zero hlt
    by_cases a1 : (97 : Int) <= (((B s)[0]'(by rw [B_size]; exact hlt)).toNat : Int)
    ·by_cases a2 : (((B s)[0]'(by rw [B_size]; exact hlt)).toNat : Int) <= 122
     ·skip
      have hp : letterB s[0] = true := by
       rw [hbi]
       exact decide_eq_true (by rw [<- hg]; omega)
      have HN : Hid (pcAt s 0 = pcAt s 1) := by show _ = _; rw [HM.out, hp, Bool.true_and]
      have fa1 : (97 : Int) <= (((B s)[0]'(by rw [B_size]; exact hlt)).toNat : Int) := by omega
      have fa2 : (((B s)[0]'(by rw [B_size]; exact hlt)).toNat : Int) <= 122 := by omega
      clear hp hbi hg HM
      go_wp2_with fail
      go_round
      case rel => exact ⟨1, by omega, by go_num, HN.out⟩
      case measure => simp [intOf]; omega
     ·skip
      have hp : letterB s[0] = false := by
       rw [hbi]
       exact decide_eq_false (by rw [<- hg]; omega)
      have HN : Hid (pcAt s 0 = false) := by show _ = _; rw [HM.out, hp, Bool.false_and]
      have fa1 : (97 : Int) <= (((B s)[0]'(by rw [B_size]; exact hlt)).toNat : Int) := by omega
      have fa2 : ¬ ((((B s)[0]'(by rw [B_size]; exact hlt)).toNat : Int) <= 122) := by omega
      clear hp hbi hg HM
      go_wp2_with fail
      go_ret
      exact ⟨ret_bool (by rw [HR.out, HN.out]; rfl), Below.refl _ _⟩
    ·skip
     have hp : letterB s[0] = false := by
      rw [hbi]
      exact decide_eq_false (by rw [<- hg]; omega)
     have HN : Hid (pcAt s 0 = false) := by show _ = _; rw [HM.out, hp, Bool.false_and]
     have fa1 : ¬ ((97 : Int) <= (((B s)[0]'(by rw [B_size]; exact hlt)).toNat : Int)) := by omega
     clear hp hbi hg HM
     go_wp2_with fail
     go_ret
     exact ⟨ret_bool (by rw [HR.out, HN.out]; rfl), Below.refl _ _⟩
   ·have hbi := siteWordB_int s[k]
    have HM := Lib.hid (pcAt_more hz hlt)
    have hz1 : ((k : Int) == 0) = false := by rw [beq_eq_false_iff_ne]; omega
    by_cases a1 : (97 : Int) <= (((B s)[k]'(by rw [B_size]; exact hlt)).toNat : Int)
    ·by_cases a2 : (((B s)[k]'(by rw [B_size]; exact hlt)).toNat : Int) <= 122
     ·skip
      have hp : siteWordB s[k] = true := by
       rw [hbi]
       simp only [Bool.or_eq_true, decide_eq_true_eq, <- hg]; omega
      have HN : Hid (pcAt s k = pcAt s (k + 1)) := by show _ = _; rw [HM.out, hp, Bool.true_and]
      have fa1 : (97 : Int) <= (((B s)[k]'(by rw [B_size]; exact hlt)).toNat : Int) := by omega
      have fa2 : (((B s)[k]'(by rw [B_size]; exact hlt)).toNat : Int) <= 122 := by omega
      clear hp hbi hg HM
      go_wp2_with fail
      go_round
      case rel => exact ⟨k + 1, by omega, by go_num, hall.out.trans HN.out⟩
      case measure => simp [intOf]; omega
     ·skip
      have hp : siteWordB s[k] = false := by
       rw [hbi]
       simp only [Bool.or_eq_false_iff, decide_eq_false_iff_not, <- hg]; omega
      have HN : Hid (pcAt s k = false) := by show _ = _; rw [HM.out, hp, Bool.false_and]
      have fa1 : (97 : Int) <= (((B s)[k]'(by rw [B_size]; exact hlt)).toNat : Int) := by omega
      have fa2 : ¬ ((((B s)[k]'(by rw [B_size]; exact hlt)).toNat : Int) <= 122) := by omega
      have fb1 : ¬ ((((B s)[k]'(by rw [B_size]; exact hlt)).toNat : Int) < 48) := by omega
      have fb2 : 57 < (((B s)[k]'(by rw [B_size]; exact hlt)).toNat : Int) := by omega
      have fe : ((((B s)[k]'(by rw [B_size]; exact hlt)).toNat : Int) != 45) = true := by rw [bne_iff_ne]; omega
      clear hp hbi hg HM
      go_wp2_with fail
      go_ret
      exact ⟨ret_bool (by rw [HR.out, hall.out, HN.out]; rfl), Below.refl _ _⟩
    ·by_cases b1 : (((B s)[k]'(by rw [B_size]; exact hlt)).toNat : Int) < 48
     ·by_cases c1 : (((B s)[k]'(by rw [B_size]; exact hlt)).toNat : Int) = 45
      ·skip
       have hp : siteWordB s[k] = true := by
        rw [hbi]
        simp only [Bool.or_eq_true, decide_eq_true_eq, <- hg]; omega
       have HN : Hid (pcAt s k = pcAt s (k + 1)) := by show _ = _; rw [HM.out, hp, Bool.true_and]
       have fa1 : ¬ ((97 : Int) <= (((B s)[k]'(by rw [B_size]; exact hlt)).toNat : Int)) := by omega
       have fb1 : (((B s)[k]'(by rw [B_size]; exact hlt)).toNat : Int) < 48 := by omega
       have fe : ((((B s)[k]'(by rw [B_size]; exact hlt)).toNat : Int) != 45) = false := by rw [bne_eq_false_iff_eq]; omega
       clear hp hbi hg HM
       go_wp2_with fail
       go_round
       case rel => exact ⟨k + 1, by omega, by go_num, hall.out.trans HN.out⟩
       case measure => simp [intOf]; omega
      ·skip
       have hp : siteWordB s[k] = false := by
        rw [hbi]
        simp only [Bool.or_eq_false_iff, decide_eq_false_iff_not, <- hg]; omega
       have HN : Hid (pcAt s k = false) := by show _ = _; rw [HM.out, hp, Bool.false_and]
       have fa1 : ¬ ((97 : Int) <= (((B s)[k]'(by rw [B_size]; exact hlt)).toNat : Int)) := by omega
       have fb1 : (((B s)[k]'(by rw [B_size]; exact hlt)).toNat : Int) < 48 := by omega
       have fe : ((((B s)[k]'(by rw [B_size]; exact hlt)).toNat : Int) != 45) = true := by rw [bne_iff_ne]; omega
       clear hp hbi hg HM
       go_wp2_with fail
       go_ret
       exact ⟨ret_bool (by rw [HR.out, hall.out, HN.out]; rfl), Below.refl _ _⟩
     ·by_cases b2 : 57 < (((B s)[k]'(by rw [B_size]; exact hlt)).toNat : Int)
      ·skip
       have hp : siteWordB s[k] = false := by
        rw [hbi]
        simp only [Bool.or_eq_false_iff, decide_eq_false_iff_not, <- hg]; omega
       have HN : Hid (pcAt s k = false) := by show _ = _; rw [HM.out, hp, Bool.false_and]
       have fa1 : ¬ ((97 : Int) <= (((B s)[k]'(by rw [B_size]; exact hlt)).toNat : Int)) := by omega
       have fb1 : ¬ ((((B s)[k]'(by rw [B_size]; exact hlt)).toNat : Int) < 48) := by omega
       have fb2 : 57 < (((B s)[k]'(by rw [B_size]; exact hlt)).toNat : Int) := by omega
       have fe : ((((B s)[k]'(by rw [B_size]; exact hlt)).toNat : Int) != 45) = true := by rw [bne_iff_ne]; omega
       clear hp hbi hg HM
       go_wp2_with fail
       go_ret
       exact ⟨ret_bool (by rw [HR.out, hall.out, HN.out]; rfl), Below.refl _ _⟩
      ·skip
       have hp : siteWordB s[k] = true := by
        rw [hbi]
        simp only [Bool.or_eq_true, decide_eq_true_eq, <- hg]; omega
       have HN : Hid (pcAt s k = pcAt s (k + 1)) := by show _ = _; rw [HM.out, hp, Bool.true_and]
       have fa1 : ¬ ((97 : Int) <= (((B s)[k]'(by rw [B_size]; exact hlt)).toNat : Int)) := by omega
       have fb1 : ¬ ((((B s)[k]'(by rw [B_size]; exact hlt)).toNat : Int) < 48) := by omega
       have fb2 : ¬ (57 < (((B s)[k]'(by rw [B_size]; exact hlt)).toNat : Int)) := by omega
       clear hp hbi hg HM
       go_wp2_with fail
       go_round
       case rel => exact ⟨k + 1, by omega, by go_num, hall.out.trans HN.out⟩
       case measure => simp [intOf]; omega
  ·have HM : Hid (pcAt s k = true) := pcAt_end (by omega)
   cases he : s.isEmpty with
   | true =>
    have hs0 : s = [] := List.isEmpty_iff.1 he
    subst hs0
    go_wp2_with fail
    go_ret
    exact ⟨ret_bool (by rw [HR.out, hall.out, HM.out]; rfl), Below.refl _ _⟩
   | false =>
    have hne : (s != []) = true := by cases s with | nil => cases he | cons a t => rfl
    have HR2 : Hid (R = (s != kIndex && s != kBaseof && !K)) := by show _ = _; rw [HR.out, hall.out, HM.out, hne]; rfl
    clear hne HR hall HM
    cases h1 : (s == [105, 110, 100, 101, 120]) with
    | true =>
     have q : Hid (R = false) := by show _ = _; rw [HR2.out, bne, h1]; rfl
     have h2 : (s != [105, 110, 100, 101, 120]) = false := by rw [bne, h1]; rfl
     go_wp2_with fail
     go_ret
     exact ⟨ret_bool q.out.symm, Below.refl _ _⟩
    | false =>
    have h2 : (s != [105, 110, 100, 101, 120]) = true := by rw [bne, h1]; rfl
    cases h3 : (s == [98, 97, 115, 101, 111, 102]) with
    | true =>
     have q : Hid (R = false) := by show _ = _; rw [HR2.out, bne, bne, h1, h3]; rfl
     have h4 : (s != [98, 97, 115, 101, 111, 102]) = false := by rw [bne, h3]; rfl
     go_wp2_with fail
     go_ret
     exact ⟨ret_bool q.out.symm, Below.refl _ _⟩
    | false =>
    have h4 : (s != [98, 97, 115, 101, 111, 102]) = true := by rw [bne, h3]; rfl
    have q : Hid (R = !K) := by show _ = _; rw [HR2.out, bne, bne, h1, h3]; rfl
    go_wp2_with fail
    refine (HK.out _).mono ?_; rintro e w1 ⟨rfl, hb⟩
    go_wp2_with fail
    go_ret
    exact ⟨ret_bool (by rw [q.out]), hb⟩


def plainsL (l : List Str) : Bool := l.all plainL && fewL l
set_option maxHeartbeats 1000000 in
theorem c_plains (l : List Str) (v : Value) (w : World) (hv : StrsAt w v l) (hf : fits2 l = true) :
  Calls Tryz.prog 20 #[v] w fun e w' => e = .returned (.bool (plainsL l)) /\ Below w.heap.size w w' := by
 have HV := Lib.hid hv
 have HF : Hid (∀ wx, StrsAt wx v l -> Calls Tryz.prog 38 #[v] wx fun e w' => e = .returned (.bool (fewL l)) /\ wx = w') := fun wx h => c_few l v wx h hf
 have HE := Lib.hid (fits2_get hf).2
 have HR : Hid (plainsL l = (l.all plainL && fewL l)) := rfl
 generalize plainsL l = R at HR |-
 generalize fewL l = F at HR HF
 have hlen := (fits2_get hf).1
 obtain ⟨a, cap, rfl⟩ : ∃ a cap, v = .slice a l.length cap := by obtain ⟨_, a, cap, e, _⟩ := hv; exact ⟨a, cap, e⟩
 clear hv hf
 go_enter Tryz.func20, Tryz.ntmps20
 go_wp2
 go_loopw [7] (fun i wr => ∃ k : Nat, k <= l.length /\ i = .int .i64 k /\ Hid (l.all plainL = (l.drop k).all plainL) /\ Hid (Below w.heap.size w wr)) (fun i _ => l.length - (intOf i).toNat)
 case atStart => exact ⟨0, Nat.zero_le _, rfl, rfl, Below.refl _ _⟩
 case round =>
  obtain ⟨k, hk, rfl, hall, hb⟩ := hrel
  by_cases hlt : k < l.length
  ·obtain ⟨_, a', cap', ea, hc⟩ := HV.out.below hb.out
   obtain ⟨rfl, -, rfl⟩ := Value.slice.inj ea
   obtain ⟨b, off, rfl, hcell⟩ := hc k hlt
   have hkl := HE.out k hlt
   have HP : Hid (∀ wx, Calls Tryz.prog 21 #[.string (B l[k])] wx fun e w' => e = .returned (.bool (plainL l[k])) /\ Below wx.heap.size wx w') := fun wx => c_plainW l[k] wx (by omega)
   clear hc ea
   cases he : plainL l[k] with
   | true =>
    have HM := Lib.hid (all_miss (p := plainL) hlt he)
    rw [he] at HP
    clear he
    go_wp2_with fail
    refine (HP.out _).mono ?_; rintro e w' ⟨rfl, hb'⟩
    replace hb' := Lib.hid hb'
    go_wp2_with fail
    go_roundw
    case rel => exact ⟨k + 1, by omega, by go_num, hall.out.trans HM.out, Lib.hid (belowThen hb.out hb'.out (Nat.le_refl _))⟩
    case measure => simp [intOf]; omega
   | false =>
    have HM := Lib.hid (all_hit (p := plainL) hlt he)
    rw [he] at HP
    clear he
    go_wp2_with fail
    refine (HP.out _).mono ?_; rintro e w' ⟨rfl, hb'⟩
    replace hb' := Lib.hid hb'
    go_wp2_with fail
    go_ret
    exact ⟨ret_bool (by rw [HR.out, hall.out, HM.out]; rfl), belowThen hb.out hb'.out (Nat.le_refl _)⟩
  ·have HM : Hid ((l.drop k).all plainL = true) := by show _ = _; rw [List.drop_of_length_le (by omega)]; rfl
   have HV2 := Lib.hid (HV.out.below hb.out)
   go_wp2_with fail
   refine (HF.out _ HV2.out).mono ?_; rintro e w' ⟨rfl, rfl⟩
   go_wp2_with fail
   go_ret
   exact ⟨ret_bool (by rw [HR.out, hall.out, HM.out]; rfl), hb.out⟩
theorem folder_step {l : List Str} {k : Nat} (h : k < l.length) : folderL (l.take (k + 1)) = folderL (l.take k) ++ 47 :: l[k] := by
 rw [List.take_succ_eq_append_getElem h, folder_snoc]
theorem folder_size (l : List Str) : (folderL l).length = l.length + sumLen l := by
 induction l with
 | nil => rfl
 | cons d r ih => rw [folder_cons, List.length_cons, List.length_append, ih]; unfold sumLen; simp; omega
theorem folder_take_size (l : List Str) (k : Nat) : (folderL (l.take k)).length <= (folderL l).length := by
 conv => rhs; rw [<- List.take_append_drop k l, folder_append]
 rw [List.length_append]; omega
set_option maxHeartbeats 1000000 in
theorem c_folder (l : List Str) (v : Value) (w : World) (hv : StrsAt w v l) (hf : fewL l = true) :
  Calls Tryz.prog 23 #[v] w fun e w' => e = .returned (.string (B (folderL l))) /\ w = w' := by
 obtain ⟨h0, a, cap, rfl, hc⟩ := hv
 have HC := Lib.hid hc
 have hsz : (folderL l).length <= 2000 := by rw [folder_size]; simpa [fewL] using hf
 have HT := Lib.hid (folder_take_size l)
 clear hc hf
 go_enter Tryz.func23, Tryz.ntmps23
 go_wp2
 go_loop [3, 8] (fun s i => ∃ k : Nat, k <= l.length /\ i = .int .i64 k /\ s = .string (B (folderL (l.take k)))) (fun _ i => l.length - (intOf i).toNat)
 case atStart => exact ⟨0, Nat.zero_le _, rfl, rfl⟩
 case round =>
  obtain ⟨k, hk, rfl, rfl⟩ := hrel
  by_cases hlt : k < l.length
  ·obtain ⟨b, off, rfl, hcell⟩ := HC.out k hlt
   have HS := Lib.hid (folder_step hlt)
   have h1 := HT.out k
   have h2 := HT.out (k + 1)
   rw [HS.out, List.length_append, List.length_cons] at h2
   have hrel : Hid (∃ k' : Nat, k' <= l.length /\ Value.int .i64 ((k : Int) + 1) = .int .i64 k' /\ Value.string (B (folderL (l.take k) ++ 47 :: l[k])) = .string (B (folderL (l.take k')))) := ⟨k + 1, by omega, by go_num, by rw [HS.out]⟩
   generalize folderL (l.take k) = Y at hrel h1 h2 |-
   go_wp2
   go_round
   case rel => exact hrel.out
   case measure => simp [intOf]; omega
  ·obtain rfl : k = l.length := by omega
   rw [List.take_length]
   go_wp2
   go_ret
   exact ⟨rfl, rfl⟩
/-- The n-th word of a list, where there is one and it is plain. -/
def pickL (l : List Str) (n : Int) : Str := if 0 <= n /\ n < (l.length : Int) /\ plainL (l.getD n.toNat []) = true then l.getD n.toNat [] else []
theorem pick_ne {l : List Str} {n : Int} (h : pickL l n ≠ []) : amongL l (pickL l n) = true /\ plainL (pickL l n) = true := by
 unfold pickL at h |-
 split
 ·rename_i hc
  obtain ⟨h1, h2, h3⟩ := hc
  refine ⟨?_, h3⟩
  have hlt : n.toNat < l.length := by omega
  unfold amongL
  rw [List.any_eq_true]
  refine ⟨l[n.toNat], List.getElem_mem hlt, ?_⟩
  rw [List.getD_eq_getElem?_getD, List.getElem?_eq_getElem hlt]
  simp
 ·rename_i hc
  rw [if_neg hc] at h
  exact absurd rfl h
set_option maxHeartbeats 1000000 in
theorem c_content (site : SiteM) (n : Int) (vl vd vf vc : Value) (w : World) (hv : SiteAt w vl vd vf vc site) (hf : fits2 site.content = true) :
  Calls Tryz.prog 26 #[.agg #[vl, vd, vf, vc], .int .i64 n] w fun e w' => e = .returned (.string (B (pickL site.content n))) /\ Below w.heap.size w w' := by
 have hlen := (fits2_get hf).1
 have HE := Lib.hid (fits2_get hf).2
 obtain ⟨_, a, cap, rfl, hc⟩ := hv.c
 clear hv
 by_cases h1 : 0 <= n
 rotate_left 1
 ·have HR : Hid (pickL site.content n = []) := if_neg (fun h => h1 h.1)
  generalize pickL site.content n = R at HR |-
  clear hc HE
  go_enter Tryz.func26, Tryz.ntmps26
  go_wp2_with fail
  go_ret
  exact ⟨ret_str HR.out.symm, Below_alloc w _⟩
 by_cases h2 : n < (site.content.length : Int)
 rotate_left 1
 ·have HR : Hid (pickL site.content n = []) := if_neg (fun h => h2 h.2.1)
  generalize pickL site.content n = R at HR |-
  clear hc HE
  go_enter Tryz.func26, Tryz.ntmps26
  go_wp2_with fail
  go_ret
  exact ⟨ret_str HR.out.symm, Below_alloc w _⟩
 obtain ⟨k, rfl⟩ : ∃ k : Nat, n = k := ⟨n.toNat, by omega⟩
 have hlt : k < site.content.length := by omega
 have hkl := HE.out k hlt
 have HP : Hid (∀ wx, Calls Tryz.prog 21 #[.string (B site.content[k])] wx fun e w' => e = .returned (.bool (plainL site.content[k])) /\ Below wx.heap.size wx w') := fun wx => c_plainW site.content[k] wx (by omega)
 have hd : site.content.getD k [] = site.content[k] := by rw [List.getD_eq_getElem?_getD, List.getElem?_eq_getElem hlt]; rfl
 have HR : Hid (pickL site.content k = if plainL site.content[k] = true then site.content[k] else []) := by
  show _ = _
  unfold pickL
  rw [Int.toNat_natCast, hd]
  cases plainL site.content[k] with
  | true => rw [if_pos ⟨h1, h2, rfl⟩, if_pos rfl]
  | false => rw [if_neg (fun h => by cases h.2.2), if_neg (by decide)]
 obtain ⟨b, off, rfl, hcell⟩ := hc k hlt
 clear hc
 have hac : ∀ o, (w.alloc o).cell? ⟨b, off + k, none⟩ = some (.string (B site.content[k])) := fun o => ((Below_alloc w o).cell (p := ⟨b, off + k, none⟩) (cell_lt hcell)).trans hcell
 have HB : Hid (b < w.heap.size) := cell_lt hcell
 generalize pickL site.content k = R at HR |-
 generalize site.content[k] = x at HP HR hkl hac hcell hd
 clear HE hd hcell
 generalize site.content.length = m at hlen h2 hlt |-
 cases hp : plainL x with
 | false =>
  rw [hp] at HP HR
  replace HR : Hid (R = []) := HR
  clear hp
  go_enter Tryz.func26, Tryz.ntmps26
  go_wp2_with fail
  refine (HP.out _).mono ?_; rintro e w2 ⟨rfl, b2⟩
  replace b2 := Lib.hid b2
  go_wp2_with fail
  go_ret
  exact ⟨ret_str HR.out.symm, belowThen (Below_alloc w _) b2.out (Nat.le_refl _)⟩
 | true =>
  rw [hp] at HP HR
  replace HR : Hid (R = x) := HR
  clear hp
  go_enter Tryz.func26, Tryz.ntmps26
  go_wp2_with fail
  refine (HP.out _).mono ?_; rintro e w2 ⟨rfl, b2⟩
  have hk : w2.cell? ⟨w.heap.size, 3, none⟩ = some (.slice (some ⟨b, off, none⟩) m cap) := cell_blk (blk_below (blk_new w _) b2) 3
  have hx : w2.cell? ⟨b, off + k, none⟩ = some (.string (B x)) := (b2.cell (p := ⟨b, off + k, none⟩) (by have := HB.out; simp; omega)).trans (hac _)
  replace b2 := Lib.hid b2
  clear hac
  go_wp2_with fail
  go_ret
  exact ⟨ret_str HR.out.symm, belowThen (Below_alloc w _) b2.out (Nat.le_refl _)⟩


theorem pnorm_len (p : PathS) (s : Str) : (p.norm s).length <= s.length := by
 unfold PathS.norm
 repeat' split
 all_goals simp
theorem sub_leB (s : Str) (lh : Nat × Nat) : (sub s lh).length <= s.length := by
 unfold sub
 simp only [List.length_take, List.length_drop]
 omega
theorem baseM_len (p : PathS) (k b : Bool) : (p.baseM k b).length <= 2 * p.s.length := by
 unfold PathS.baseM
 dsimp only
 repeat' split
 all_goals refine Nat.le_trans (pnorm_len p _) ?_
 all_goals first | omega | (simp only [List.length_append, List.length_take]; have := sub_leB p.s ((p.known.headD (0, 0)).1 - 1, (p.known.headD (0, 0)).2); omega)
theorem base_len (p : PathS) : p.base.length <= 2 * p.s.length := by
 unfold PathS.base
 dsimp only
 split
 ·exact Nat.zero_le _
 ·exact baseM_len p _ _
/-- What stands ahead of a path that is told from its owner on. -/
def relBase (ob : Str) : Str := if List.isSuffixOf [47] ob then ob else ob ++ [47]
theorem c_pathRel (p q : PathS) (w : World) (base b base' c : Nat) (vk vu vl vk' vu' vl' : Value) (un un' : Un) (h : PathAt w base b p vk vu vl un) (h' : PathAt w base' c q vk' vu' vl' un') (ok : PathOK q) (hp : p.s.length <= 1800000) (hp2 : p.path.length <= 1800000) (hq : q.s.length <= 1800000) :
  Calls Tryz.prog 54 #[.pointer (some ⟨b, 0, none⟩), .pointer (some ⟨c, 0, none⟩)] w fun e w' => e = .returned (.string (B (trimPreG p.path (relBase q.base)))) /\ Below w.heap.size w w' := by
 have HB := Lib.hid (c_Base q w base' c vk' vu' vl' un' h' ok)
 have HP : Hid (∀ wx, PathAt wx base b p vk vu vl un -> Calls Tryz.prog 71 #[.pointer (some ⟨b, 0, none⟩)] wx fun e w' => e = .returned (.string (B p.path)) /\ wx = w') := fun wx h => c_Path p wx base b vk vu vl un h (by omega)
 have hh := Lib.hid h
 have hbl : q.base.length <= 3600000 := by have := base_len q; omega
 have HR : Hid (relBase q.base = if List.isSuffixOf [47] q.base then q.base else q.base ++ [47]) := rfl
 generalize q.base = x at HB HR hbl |-
 generalize p.path = P at HP hp2 |-
 clear h h' ok hp hq
 cases hs : List.isSuffixOf [47] x with
 | true =>
  have HQ : Hid (relBase x = x) := by show _ = _; rw [HR.out, if_pos hs]
  have HT := Lib.hid (fun wx => c_trimPrefix P (relBase x) wx (by omega))
  rw [HQ.out] at HT |-
  generalize trimPreG P x = r at HT |-
  have HJ := Lib.hid hs
  clear hs HR HQ
  go_enter Tryz.func54, Tryz.ntmps54
  go_wp2_with fail
  refine HB.out.mono ?_; rintro e w1 ⟨rfl, hb⟩
  replace hb := Lib.hid hb
  go_wp2_with fail
  refine (c_hasSuffix x [47] _ (by omega)).mono ?_; rintro e w' ⟨rfl, rfl⟩
  rw [HJ.out]
  go_wp2_with fail
  refine (HP.out _ (hh.out.below hb.out)).mono ?_; rintro e w' ⟨rfl, rfl⟩
  go_wp2_with fail
  refine (HT.out _).mono ?_; rintro e w' ⟨rfl, rfl⟩
  go_wp2_with fail
  go_ret
  exact ⟨rfl, hb.out⟩
 | false =>
  have HQ : Hid (relBase x = x ++ [47]) := by show _ = _; rw [HR.out, if_neg (by rw [hs]; decide)]
  have HT := Lib.hid (fun wx => c_trimPrefix P (relBase x) wx (by omega))
  rw [HQ.out] at HT |-
  generalize trimPreG P (x ++ [47]) = r at HT |-
  have HJ := Lib.hid hs
  clear hs HR HQ
  go_enter Tryz.func54, Tryz.ntmps54
  go_wp2_with fail
  refine HB.out.mono ?_; rintro e w1 ⟨rfl, hb⟩
  replace hb := Lib.hid hb
  go_wp2_with fail
  refine (c_hasSuffix x [47] _ (by omega)).mono ?_; rintro e w' ⟨rfl, rfl⟩
  rw [HJ.out]
  go_wp2_with fail
  refine (HP.out _ (hh.out.below hb.out)).mono ?_; rintro e w' ⟨rfl, rfl⟩
  go_wp2_with fail
  refine (HT.out _).mono ?_; rintro e w' ⟨rfl, rfl⟩
  go_wp2_with fail
  go_ret
  exact ⟨rfl, hb.out⟩
set_option maxHeartbeats 4000000 in
theorem c_implPathRel (w : World) (site : SiteM) (comp s o : Str) (vl vd vf vc : Value) (hs : SiteAt w vl vd vf vc site) (hn : Once site.languages) (hl : s.length <= 900000) (ha : asciiL s = true) (hlo : o.length <= 900000) (hao : asciiL o = true) :
  Calls Tryz.prog 30 #[.agg #[vl, vd, vf, vc], .string (B comp), .string (B s), .string (B o)] w
   fun e w' => e = .returned (.string (B (trimPreG (toldM (doParseM site comp (normL s))).path (relBase (toldM (doParseM site comp (normL o))).base)))) /\ Below w.heap.size w w' := by
 have HPR : Hid (∀ wx, SiteAt wx vl vd vf vc site -> Calls Tryz.prog 42 #[.agg #[vl, vd, vf, vc]] wx fun e w' => ∃ pb mb fb sb, e = .returned (.pointer (some ⟨pb, 0, none⟩)) /\ PPAt w' pb mb fb sb vl vd vf vc site /\ wx.heap.size <= pb /\ Below wx.heap.size wx w') := fun wx h => c_parser site vl vd vf vc wx h hn
 have HPA : Hid (∀ wx pb mb fb sb, PPAt wx pb mb fb sb vl vd vf vc site -> Calls Tryz.prog 43 #[.pointer (some ⟨pb, 0, none⟩), .string (B comp), .string (B s)] wx
   fun e w' => ∃ b b2, e = .returned (.pointer (some ⟨b, 0, none⟩)) /\ PathHere w' wx.heap.size b b2 (doParseM site comp (normL s)) /\ SomePath w' b2 (doParseM site comp s) /\ Below wx.heap.size wx w') := fun wx pb mb fb sb h => c_Parse wx comp s pb mb fb sb vl vd vf vc site h hl ha
 have HPO : Hid (∀ wx pb mb fb sb, PPAt wx pb mb fb sb vl vd vf vc site -> Calls Tryz.prog 43 #[.pointer (some ⟨pb, 0, none⟩), .string (B comp), .string (B o)] wx
   fun e w' => ∃ b b2, e = .returned (.pointer (some ⟨b, 0, none⟩)) /\ PathHere w' wx.heap.size b b2 (doParseM site comp (normL o)) /\ SomePath w' b2 (doParseM site comp o) /\ Below wx.heap.size wx w') := fun wx pb mb fb sb h => c_Parse wx comp o pb mb fb sb vl vd vf vc site h hlo hao
 have ok : PathOK (doParseM site comp (normL o)) := doParse_ok site comp (normL o) (by rw [normL_len]; omega)
 have hfin := doParse_finished site comp (normL s)
 have hlen := normPath_len (normL s)
 rw [normL_len] at hlen
 have hfino := doParse_finished site comp (normL o)
 have hleno := normPath_len (normL o)
 rw [normL_len] at hleno
 have hps : (doParseM site comp (normL s)).s.length <= 1800000 := by rw [hfin.s_]; omega
 have hp2 : (doParseM site comp (normL s)).path.length <= 1800000 := by rw [hfin.path_eq]; omega
 have hqs : (doParseM site comp (normL o)).s.length <= 1800000 := by rw [hfino.s_]; omega
 have HRL : Hid (∀ wx base b base' c vk vu vl vk' vu' vl' un un', PathAt wx base b (doParseM site comp (normL s)) vk vu vl un -> PathAt wx base' c (doParseM site comp (normL o)) vk' vu' vl' un' -> Calls Tryz.prog 54 #[.pointer (some ⟨b, 0, none⟩), .pointer (some ⟨c, 0, none⟩)] wx fun e w' => e = .returned (.string (B (trimPreG (toldM (doParseM site comp (normL s))).path (relBase (toldM (doParseM site comp (normL o))).base)))) /\ Below wx.heap.size wx w') := fun wx base b base' c vk vu vl vk' vu' vl' un un' h h' => c_pathRel _ _ wx base b base' c vk vu vl vk' vu' vl' un un' h h' ok hps hp2 hqs
 clear hfin hlen hps hp2 hfino hleno hqs ok
 generalize trimPreG _ _ = r at HRL |-
 generalize doParseM site comp (normL s) = P1 at HPA HRL
 generalize doParseM site comp s = P2 at HPA
 generalize doParseM site comp (normL o) = P3 at HPO HRL
 generalize doParseM site comp o = P4 at HPO
 obtain ⟨obs, hobs⟩ : ∃ o : Obj, o = .cells #[vl, vd, vf, vc] 25 := ⟨_, rfl⟩
 have hB1 : Hid (Below w.heap.size w (w.alloc obs)) := Below_alloc w obs
 have HV1 : Hid (SiteAt (w.alloc obs) vl vd vf vc site) := hs.alloc obs
 clear hs hn ha hao
 go_enter Tryz.func30, Tryz.ntmps30
 go_wp2_with fail
 rw [<- hobs]
 generalize w.alloc obs = w2 at hB1 HV1 |-
 refine (HPR.out _ HV1.out).mono ?_; rintro e w3 ⟨pb, mb, fb, sb, rfl, hpp, hpb, hb3⟩
 replace hpp := Lib.hid hpp
 have hB3 := Lib.hid (belowThen hB1.out hb3 (Nat.le_refl _))
 clear HPR HV1 hB1 hb3 hpb
 go_wp2_with fail
 refine (HPA.out _ pb mb fb sb hpp.out).mono ?_; rintro e w4 ⟨b, b2, rfl, h1, h2, hb4⟩
 clear h2
 replace h1 := Lib.hid h1
 replace hpp := Lib.hid (hpp.out.below hb4)
 have hB4 := Lib.hid (belowThen hB3.out hb4 (Nat.le_refl _))
 clear HPA hb4 hB3
 go_wp2_with fail
 refine (HPO.out _ pb mb fb sb hpp.out).mono ?_; rintro e w5 ⟨c, c2, rfl, h3, h4, hb5⟩
 clear h4
 obtain ⟨vk, vu, vl1, hat⟩ := h1.out.below hb5
 obtain ⟨vk', vu', vl', hao⟩ := h3
 replace hat := Lib.hid hat
 replace hao := Lib.hid hao
 have hB5 := Lib.hid (belowThen hB4.out hb5 (Nat.le_refl _))
 clear HPO hb5 hB4 hpp h1
 go_wp2_with fail
 refine (HRL.out _ _ _ _ _ _ _ _ _ _ _ _ _ hat.out hao.out).mono ?_; rintro e w6 ⟨rfl, hb6⟩
 have hB6 := Lib.hid (belowThen hB5.out hb6 (Nat.le_refl _))
 go_wp2_with fail
 go_ret
 exact ⟨rfl, hB6.out⟩
theorem c_RelKnown (site : SiteM) (comp s o : Str) (vl vd vf vc : Value) (w : World) (hv : SiteAt w vl vd vf vc site) (hcl : CapOK vl) (hcd : CapOK vd) (hcc : CapOK vc) (hf : siteFits site = true) (hc : comp.length <= 2147483647) (hs : s.length <= 2147483647) (ho : o.length <= 2147483647) :
  Calls Tryz.prog 51 #[.agg #[vl, vd, vf, vc], .string (B comp), .string (B s), .string (B o)] w fun e w' => e = .returned (.bool (pathKnown site comp s && pathKnown site comp o)) /\ Below w.heap.size w w' := by
 have HPK : Hid (∀ wx, SiteAt wx vl vd vf vc site -> Calls Tryz.prog 39 #[.agg #[vl, vd, vf, vc], .string (B comp), .string (B s)] wx fun e w' => e = .returned (.bool (pathKnown site comp s)) /\ Below wx.heap.size wx w') := fun wx h => c_PathKnown site comp s vl vd vf vc wx h hcl hcd hcc hf hc hs
 have HPO : Hid (∀ wx, SiteAt wx vl vd vf vc site -> Calls Tryz.prog 39 #[.agg #[vl, vd, vf, vc], .string (B comp), .string (B o)] wx fun e w' => e = .returned (.bool (pathKnown site comp o)) /\ Below wx.heap.size wx w') := fun wx h => c_PathKnown site comp o vl vd vf vc wx h hcl hcd hcc hf hc ho
 obtain ⟨obs, hobs⟩ : ∃ o : Obj, o = .cells #[vl, vd, vf, vc] 25 := ⟨_, rfl⟩
 have hB1 : Hid (Below w.heap.size w (w.alloc obs)) := Below_alloc w obs
 have hsb : Hid ((w.alloc obs).heap[w.heap.size]? = some (.cells #[vl, vd, vf, vc] 25)) := by show _ = _; rw [hobs]; exact blk_new w _
 have HV1 : Hid (SiteAt (w.alloc obs) vl vd vf vc site) := hv.alloc obs
 clear hv hcl hcd hcc
 cases hk : pathKnown site comp s with
 | false =>
  rw [hk] at HPK
  go_enter Tryz.func51, Tryz.ntmps51
  go_wp2_with fail
  rw [<- hobs]
  generalize w.alloc obs = w1 at hB1 hsb HV1 |-
  refine (HPK.out _ HV1.out).mono ?_; rintro e w2 ⟨rfl, b2⟩
  have hB2 := Lib.hid (belowThen hB1.out b2 (Nat.le_refl _))
  go_wp2_with fail
  go_ret
  exact ⟨rfl, hB2.out⟩
 | true =>
  rw [hk] at HPK
  rw [Bool.true_and]
  go_enter Tryz.func51, Tryz.ntmps51
  go_wp2_with fail
  rw [<- hobs]
  generalize w.alloc obs = w1 at hB1 hsb HV1 |-
  refine (HPK.out _ HV1.out).mono ?_; rintro e w2 ⟨rfl, b2⟩
  have hB2 := Lib.hid (belowThen hB1.out b2 (Nat.le_refl _))
  have hsb2 := Lib.hid (blk_below hsb.out b2)
  have HV2 := Lib.hid (HV1.out.below b2)
  obtain ⟨k0, k1, k2, k3⟩ : w2.cell? ⟨w.heap.size, 0, none⟩ = some vl /\ w2.cell? ⟨w.heap.size, 1, none⟩ = some vd /\ w2.cell? ⟨w.heap.size, 2, none⟩ = some vf /\ w2.cell? ⟨w.heap.size, 3, none⟩ = some vc := ⟨cell_blk hsb2.out 0, cell_blk hsb2.out 1, cell_blk hsb2.out 2, cell_blk hsb2.out 3⟩
  clear b2 hsb HV1 hB1 HPK
  go_wp2_with fail
  refine (HPO.out _ HV2.out).mono ?_; rintro e w3 ⟨rfl, b3⟩
  have hB3 := Lib.hid (belowThen hB2.out b3 (Nat.le_refl _))
  go_wp2_with fail
  go_ret
  exact ⟨rfl, hB3.out⟩

end Go.Proofs.YtjkecadfakjanaaGreatDoor
