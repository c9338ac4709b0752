/- Paths that are built of parts: what their words are. Plain Lean; no program here. Conditions: parts of small letters, digits and hyphens. -/
import Derived.Test.YtjkecadfakjanaaGreatDoorTwice
set_option linter.unusedVariables false
set_option linter.unusedSimpArgs false
namespace Go.Proofs.YtjkecadfakjanaaGreatDoor

/-! ### Plain words -/
def plainChars : Str -> Bool
 | [] => true
 | c :: t => (decide (97 <= c) && decide (c <= 122)) && t.all siteWordB
def plainL (s : Str) : Bool := plainChars s && (s != [] && s != kIndex && s != kBaseof && !isKindL s)
theorem letter_site {c : UInt8} (h : (decide (97 <= c) && decide (c <= 122)) = true) : siteWordB c = true := by unfold siteWordB; rw [h]; rfl
theorem plainChars_all {s : Str} (h : plainChars s = true) : ∀ c ∈ s, siteWordB c = true := by
 cases s with
 | nil => intro c hc; cases hc
 | cons a t =>
  unfold plainChars at h
  rw [Bool.and_eq_true, List.all_eq_true] at h
  intro c hc
  rcases List.mem_cons.1 hc with rfl | hc
  ·exact letter_site h.1
  ·exact h.2 c hc
structure PlainW (s : Str) : Prop where
 ne : s ≠ []
 ch : ∀ c ∈ s, siteWordB c = true
 idx : s ≠ kIndex
 bas : s ≠ kBaseof
 knd : isKindL s = false
theorem plain_word {s : Str} (h : plainL s = true) : PlainW s := by
 unfold plainL at h
 simp only [Bool.and_eq_true, bne_iff_ne, Bool.not_eq_true'] at h
 exact ⟨h.2.1.1.1, plainChars_all h.1, h.2.1.1.2, h.2.1.2, h.2.2⟩
/-- Site words' bytes. -/
def Chars (s : Str) : Prop := ∀ c ∈ s, siteWordB c = true
theorem Chars.low {s : Str} (h : Chars s) : Low s := by
 have hb : ∀ c : UInt8, siteWordB c = true -> Lib.lowerB c = c /\ c ≠ 32 := fun c => by
  have h : ∀ n : Fin 256, siteWordB (UInt8.ofNat n) = true -> Lib.lowerB (UInt8.ofNat n) = UInt8.ofNat n /\ UInt8.ofNat n ≠ 32 := by decide +kernel
  have := h ⟨c.toNat, c.toNat_lt⟩
  simpa using this
 exact fun x hx => hb x (h x hx)
theorem Chars.not {s : Str} (h : Chars s) {c : UInt8} (hc : siteWordB c = false) (j : Nat) : s[j]? ≠ some c := fun e => by
 have := h c (List.mem_of_getElem? e)
 rw [hc] at this; cases this
theorem Chars.notin {s : Str} (h : Chars s) {c : UInt8} (hc : siteWordB c = false) : c ∉ s := fun e => by
 have := h c e
 rw [hc] at this; cases this
theorem Low.append {a b : Str} (h : Low a) (h' : Low b) : Low (a ++ b) := fun x hx => by
 rcases List.mem_append.1 hx with hx | hx
 ·exact h x hx
 ·exact h' x hx
theorem low_one {c : UInt8} (h : Lib.lowerB c = c /\ c ≠ 32) : Low [c] := fun x hx => by rw [List.mem_singleton] at hx; subst hx; exact h
theorem Low.cons {c : UInt8} {b : Str} (h : Lib.lowerB c = c /\ c ≠ 32) (h' : Low b) : Low (c :: b) := (low_one h).append h'

/-! ### Folders -/
def folderL (dirs : List Str) : Str := dirs.flatMap fun d => 47 :: d
theorem folder_cons (d : Str) (r : List Str) : folderL (d :: r) = 47 :: (d ++ folderL r) := rfl
theorem folder_snoc (r : List Str) (d : Str) : folderL (r ++ [d]) = folderL r ++ 47 :: d := by
 unfold folderL
 rw [List.flatMap_append]
 simp
theorem folder_append (r q : List Str) : folderL (r ++ q) = folderL r ++ folderL q := by unfold folderL; rw [List.flatMap_append]
theorem folder_low {dirs : List Str} (h : ∀ d ∈ dirs, Chars d) : Low (folderL dirs) := by
 intro x hx
 unfold folderL at hx
 obtain ⟨d, hd, hx⟩ := List.mem_flatMap.1 hx
 exact Low.cons (by decide) (h d hd).low x hx
theorem folder_head (dirs : List Str) (f : Str) : (folderL dirs ++ 47 :: f).head? = some 47 := by
 cases dirs with
 | nil => rfl
 | cons d r => rw [folder_cons]; rfl
theorem folder_nil {dirs : List Str} : folderL dirs = [] ↔ dirs = [] := by
 cases dirs with
 | nil => exact ⟨fun _ => rfl, fun _ => rfl⟩
 | cons d r => rw [folder_cons]; exact ⟨fun e => absurd e (by simp), fun e => absurd e (by simp)⟩
theorem built_slash {D f : Str} (hf : (47 : UInt8) ∉ f) : slashB (D ++ 47 :: f) (D ++ 47 :: f).length = (D.length : Int) := by
 refine slashB_at (by rw [List.getElem?_append_right (Nat.le_refl _), Nat.sub_self]; rfl) _ (by rw [List.length_append, List.length_cons]; omega) ?_
 intro j h1 h2 e
 rw [List.getElem?_append_right (by omega)] at e
 obtain ⟨k, hk⟩ : ∃ k, j - D.length = k + 1 := ⟨j - D.length - 1, by omega⟩
 rw [hk, List.getElem?_cons_succ] at e
 exact hf (List.mem_of_getElem? e)
theorem built_last {D f : Str} (hf : (47 : UInt8) ∉ f) : lastPart (D ++ 47 :: f) = f := by
 unfold lastPart
 rw [built_slash hf, show ((D.length : Int) + 1).toNat = D.length + 1 by omega, List.drop_append, List.drop_of_length_le (by omega), show D.length + 1 - D.length = 1 by omega]
 rfl
theorem built_dir {dirs : List Str} {f : Str} (hf : (47 : UInt8) ∉ f) : dirOf (folderL dirs ++ 47 :: f) = if dirs = [] then [47] else folderL dirs := by
 unfold dirOf
 rw [built_slash hf]
 cases dirs with
 | nil => rfl
 | cons d r =>
  rw [if_neg (by rw [folder_cons, List.length_cons]; omega), if_neg (by simp), Int.toNat_natCast, List.take_left']
  rfl
theorem built_container {dirs : List Str} {f : Str} (hf : (47 : UInt8) ∉ f) (hd : ∀ d ∈ dirs, (47 : UInt8) ∉ d) : containerOf (folderL dirs ++ 47 :: f) = dirs.getLastD [] := by
 unfold containerOf
 rw [built_slash hf]
 rcases List.eq_nil_or_concat dirs with rfl | ⟨r, d, rfl⟩
 ·rfl
 ·rw [List.concat_eq_append] at hd |-
  rw [if_neg (by rw [folder_snoc, List.length_append, List.length_cons]; omega), Int.toNat_natCast, List.take_left', folder_snoc, built_last (hd d (by simp))]
  ·simp [List.getLastD_eq_getLast?]
  ·rfl
theorem split_no : ∀ {s : Str}, (47 : UInt8) ∉ s -> splitL s = [s]
 | [], _ => rfl
 | c :: t, h => by
  rw [List.mem_cons, not_or] at h
  unfold splitL
  rw [if_neg (fun e => h.1 e.symm), split_no h.2]
theorem split_cut : ∀ {d : Str} (t : Str), (47 : UInt8) ∉ d -> splitL (d ++ 47 :: t) = d :: splitL t
 | [], t, _ => by show splitL (47 :: t) = _; rw [splitL, if_pos rfl]
 | c :: d, t, h => by
  rw [List.mem_cons, not_or] at h
  show splitL (c :: (d ++ 47 :: t)) = _
  rw [splitL, if_neg (fun e => h.1 e.symm), split_cut t h.2]
theorem built_split : ∀ {dirs : List Str} {f : Str}, (47 : UInt8) ∉ f -> (∀ d ∈ dirs, (47 : UInt8) ∉ d) -> splitL ((folderL dirs ++ 47 :: f).drop 1) = dirs ++ [f]
 | [], f, hf, _ => split_no hf
 | d :: r, f, hf, hd => by
  rw [folder_cons]
  show splitL ((d ++ folderL r) ++ 47 :: f) = _
  rw [List.append_assoc]
  have ih := built_split (dirs := r) (f := f) hf (fun x hx => hd x (List.mem_cons_of_mem _ hx))
  cases r with
  | nil => rw [show folderL [] ++ 47 :: f = 47 :: f from rfl, split_cut f (hd d List.mem_cons_self), split_no hf]; rfl
  | cons e q =>
   rw [folder_cons] at ih |-
   show splitL (d ++ 47 :: (e ++ folderL q ++ 47 :: f)) = _
   rw [split_cut _ (hd d List.mem_cons_self)]
   exact congrArg (d :: ·) ih
theorem built_parts {dirs : List Str} {f : Str} (hf : (47 : UInt8) ∉ f) (hd : ∀ d ∈ dirs, (47 : UInt8) ∉ d) : partsOf (folderL dirs ++ 47 :: f) = dirs ++ [f] := by
 unfold partsOf
 rw [if_neg (by simp), built_split hf hd]
theorem built_section {dirs : List Str} {f : Str} {w : WordsM} (hp : w.path = folderL dirs ++ 47 :: f) (hf : (47 : UInt8) ∉ f) (hd : ∀ d ∈ dirs, (47 : UInt8) ∉ d) (ht : w.typ ≠ 3) : sectionOf w = dirs.headD [] := by
 unfold sectionOf
 rw [hp, built_parts hf hd]
 cases dirs with
 | nil => rw [if_pos (.inl (by simp))]; rfl
 | cons d r => rw [if_neg (fun h => h.elim (fun h => by simp at h; omega) (fun h => ht h.2))]; rfl
theorem built_path {D f : Str} (hh : (D ++ 47 :: f).head? = some 47) (hl : Low D) (hf : Low f) (h0 : f ≠ []) (h1 : (47 : UInt8) ∉ f) : pathOf (D ++ 47 :: f) false = D ++ 47 :: f := by
 rw [pathOf_false, low_norm_id (hl.append (hf.cons (by decide)))]
 unfold normPath
 rw [if_neg (by simp)]
 have e1 : slashed (D ++ 47 :: f) = D ++ 47 :: f := by unfold slashed; rw [if_pos hh]
 rw [e1]
 unfold trimEnd
 rw [if_neg]
 rintro ⟨_, h⟩
 have e2 : (D ++ 47 :: f).getLast? = (47 :: f).getLast? := by rw [List.getLast?_append]; cases f with
  | nil => rfl
  | cons c t => simp [List.getLast?_cons_cons, List.getLast?_cons]
 rw [e2] at h
 cases f with
 | nil => exact h0 rfl
 | cons c t =>
  rw [List.getLast?_cons_cons] at h
  exact h1 (List.mem_of_getLast? h)

/-! ### Points -/
theorem cuts_skip (name : Str) : ∀ (m n i : Nat), (∀ j, i <= j -> j < i + m -> name[j]? ≠ some 46) -> i + m <= name.length -> cutsFrom name (n + m) i = cutsFrom name n (i + m)
 | 0, n, i, _, _ => rfl
 | m + 1, n, i, h, hl => by
  rw [show n + (m + 1) = (n + m) + 1 by omega, cutsFrom, if_neg (by omega), if_pos (h i (Nat.le_refl _) (by omega)), cuts_skip name m n (i + 1) (fun j h1 h2 => h j (by omega) (by omega)) (by omega), show i + 1 + m = i + (m + 1) by omega]
theorem cuts_hit {name : Str} {i : Nat} (n : Nat) (h1 : name[i]? = some 46) (h2 : name[i + 1]? ≠ some 95) (hl : i < name.length) : cutsFrom name (n + 1) i = i :: cutsFrom name n (i + 1) := by
 rw [cutsFrom, if_neg (by omega), if_neg (fun h => h h1), if_pos h2]
theorem cuts_wrap {name : Str} {i k : Nat} (n : Nat) (h1 : name[i]? = some 46) (h2 : name[i + 1]? = some 95) (hl : i < name.length) (h3 : wrapEnd name (name.length - (i + 2)) (i + 2) = some k) : cutsFrom name (n + 1) i = i :: cutsFrom name n (k + 1) := by
 rw [cutsFrom, if_neg (by omega), if_neg (fun h => h h1), if_neg (fun h => h h2), h3]
theorem get_left {a b : Str} {j : Nat} (h : j < a.length) : (a ++ b)[j]? = a[j]? := List.getElem?_append_left h
theorem get_right (a b : Str) (j : Nat) : (a ++ b)[a.length + j]? = b[j]? := by rw [List.getElem?_append_right (by omega), Nat.add_sub_cancel_left]
theorem cuts_one {n e : Str} (hn : (46 : UInt8) ∉ n) (he : (46 : UInt8) ∉ e) (hu : e[0]? ≠ some 95) : cutPoints (n ++ 46 :: e) = [n.length] := by
 unfold cutPoints
 have hl : (n ++ 46 :: e).length = (e.length + 1) + n.length := by rw [List.length_append, List.length_cons]; omega
 have g0 : (n ++ 46 :: e)[n.length]? = some 46 := by rw [<- Nat.add_zero n.length, get_right]; rfl
 have g1 : ∀ j, (n ++ 46 :: e)[n.length + (j + 1)]? = e[j]? := fun j => by rw [get_right]; rfl
 generalize hN : n ++ 46 :: e = N at hl g0 g1
 rw [hl, cuts_skip N n.length (e.length + 1) 0 (fun j h1 h2 q => by rw [<- hN, get_left (by omega)] at q; exact hn (List.mem_of_getElem? q)) (by omega), Nat.zero_add, cuts_hit e.length g0 (by rw [g1 0]; exact hu) (by omega)]
 have := cuts_skip N e.length 0 (n.length + 1) (fun j h1 h2 q => by
  obtain ⟨x, rfl⟩ : ∃ x, j = n.length + (x + 1) := ⟨j - n.length - 1, by omega⟩
  rw [g1] at q
  exact he (List.mem_of_getElem? q)) (by omega)
 rw [Nat.zero_add] at this
 rw [this]; rfl
theorem cuts_two {n l e : Str} (hn : (46 : UInt8) ∉ n) (hl : (46 : UInt8) ∉ l) (he : (46 : UInt8) ∉ e) (hv : (l ++ 46 :: e)[0]? ≠ some 95) (hu : e[0]? ≠ some 95) : cutPoints (n ++ 46 :: (l ++ 46 :: e)) = [n.length, n.length + 1 + l.length] := by
 unfold cutPoints
 have hlen : (n ++ 46 :: (l ++ 46 :: e)).length = ((e.length + 1) + l.length + 1) + n.length := by simp only [List.length_append, List.length_cons]; omega
 have g0 : (n ++ 46 :: (l ++ 46 :: e))[n.length]? = some 46 := by rw [<- Nat.add_zero n.length, get_right]; rfl
 have g1 : ∀ j, (n ++ 46 :: (l ++ 46 :: e))[n.length + (j + 1)]? = (l ++ 46 :: e)[j]? := fun j => by rw [get_right]; rfl
 have g2 : (l ++ 46 :: e)[l.length]? = some 46 := by rw [<- Nat.add_zero l.length, get_right]; rfl
 have g3 : ∀ j, (l ++ 46 :: e)[l.length + (j + 1)]? = e[j]? := fun j => by rw [get_right]; rfl
 have g4 : ∀ j, j < l.length -> (l ++ 46 :: e)[j]? = l[j]? := fun j h => get_left h
 have g5 : ∀ j, j < n.length -> (n ++ 46 :: (l ++ 46 :: e))[j]? = n[j]? := fun j h => get_left h
 generalize n ++ 46 :: (l ++ 46 :: e) = N at hlen g0 g1 g5
 rw [hlen, cuts_skip N n.length ((e.length + 1) + l.length + 1) 0 (fun j h1 h2 q => by rw [g5 j (by omega)] at q; exact hn (List.mem_of_getElem? q)) (by omega), Nat.zero_add, cuts_hit _ g0 (by rw [g1 0]; exact hv) (by omega)]
 rw [cuts_skip N l.length (e.length + 1) (n.length + 1) (fun j h1 h2 q => by
  obtain ⟨x, rfl⟩ : ∃ x, j = n.length + (x + 1) := ⟨j - n.length - 1, by omega⟩
  rw [g1, g4 x (by omega)] at q
  exact hl (List.mem_of_getElem? q)) (by omega)]
 have h0 : N[n.length + 1 + l.length]? = some 46 := by rw [show n.length + 1 + l.length = n.length + (l.length + 1) by omega, g1, g2]
 have h1 : N[n.length + 1 + l.length + 1]? ≠ some 95 := by rw [show n.length + 1 + l.length + 1 = n.length + ((l.length + (0 + 1)) + 1) by omega, g1, g3]; exact hu
 rw [cuts_hit e.length h0 h1 (by omega)]
 have := cuts_skip N e.length 0 (n.length + 1 + l.length + 1) (fun j h1 h2 q => by
  obtain ⟨x, rfl⟩ : ∃ x, j = n.length + ((l.length + (x + 1)) + 1) := ⟨j - n.length - l.length - 2, by omega⟩
  rw [g1, g3] at q
  exact he (List.mem_of_getElem? q)) (by omega)
 rw [Nat.zero_add] at this
 rw [this]; rfl

/-! ### The reading of one word, of two words and of three -/
def extR (r : ReadM) (word : Str) (at_ : Int) : ReadM := let r1 := r.identify word at_; { r1 with w := { r1.w with ext := word } }
theorem rw_ext (site : SiteM) (name : Str) (cuts : List Nat) (r : ReadM) (i end_ c : Nat) (word : Str) (hi : i + 1 = cuts.length) (hc : cuts.getD i 0 = c) (hw : (name.drop (c + 1)).take (end_ - (c + 1)) = word) :
  readWord site name cuts r (i + 1) end_ = (extR r word c, c) := by
 unfold readWord
 dsimp only
 rw [if_neg (Nat.succ_ne_zero i), if_neg (Nat.succ_ne_zero i), if_pos hi, Nat.add_sub_cancel, hc, if_neg (Nat.succ_ne_zero i), hw]
 rfl
theorem rw_mid (site : SiteM) (name : Str) (cuts : List Nat) (r : ReadM) (i end_ c : Nat) (word : Str) (hi : i + 1 ≠ cuts.length) (hc : cuts.getD i 0 = c) (hw : (name.drop (c + 1)).take (end_ - (c + 1)) = word) :
  readWord site name cuts r (i + 1) end_ = (readStep site r word c, c) := by
 unfold readWord
 dsimp only
 rw [if_neg (Nat.succ_ne_zero i), if_neg (Nat.succ_ne_zero i), if_neg hi, Nat.add_sub_cancel, hc, if_neg (Nat.succ_ne_zero i), hw]
 rfl
theorem rw_first (site : SiteM) (name : Str) (cuts : List Nat) (r : ReadM) (end_ : Nat) (word : Str) (hi : 0 ≠ cuts.length) (hw : name.take end_ = word) :
  readWord site name cuts r 0 end_ = (readStep site r word (-1), end_) := by
 unfold readWord
 dsimp only
 rw [if_pos rfl, if_pos rfl, if_neg hi, List.drop_zero, Nat.sub_zero, hw]
 rfl
theorem drop_at (n t : Str) (c : UInt8) : (n ++ c :: t).drop (n.length + 1) = t := by
 rw [List.drop_append, List.drop_of_length_le (by omega), show n.length + 1 - n.length = 1 by omega]; rfl
theorem readAll_one (site : SiteM) (comp path : Str) {n e : Str} (hc : cutPoints (n ++ 46 :: e) = [n.length]) :
  readAll site comp path (n ++ 46 :: e) = readStep site (extR (read0 comp path (n ++ 46 :: e)) e n.length) n (-1) := by
 unfold readAll
 rw [hc, if_neg (by simp)]
 show (readWord site _ _ (readWord site _ _ _ (0 + 1) _).1 0 (readWord site _ _ _ (0 + 1) _).2).1 = _
 rw [rw_ext site _ [n.length] _ 0 _ n.length e rfl rfl (by rw [drop_at, List.take_of_length_le]; rw [List.length_append, List.length_cons]; omega)]
 rw [rw_first site _ [n.length] _ n.length n (by simp) (by rw [List.take_left'] ; rfl)]
theorem readAll_two (site : SiteM) (comp path : Str) {n l e : Str} (hc : cutPoints (n ++ 46 :: (l ++ 46 :: e)) = [n.length, n.length + 1 + l.length]) :
  readAll site comp path (n ++ 46 :: (l ++ 46 :: e)) = readStep site (readStep site (extR (read0 comp path (n ++ 46 :: (l ++ 46 :: e))) e ((n.length + 1 + l.length : Nat) : Int)) l n.length) n (-1) := by
 unfold readAll
 rw [hc, if_neg (by simp)]
 show (readWord site _ _ (readWord site _ _ (readWord site _ _ _ (1 + 1) _).1 (0 + 1) (readWord site _ _ _ (1 + 1) _).2).1 0 (readWord site _ _ (readWord site _ _ _ (1 + 1) _).1 (0 + 1) (readWord site _ _ _ (1 + 1) _).2).2).1 = _
 have hd : (n ++ 46 :: (l ++ 46 :: e)).drop (n.length + 1 + l.length + 1) = e := by
  rw [show n.length + 1 + l.length + 1 = (n.length + 1) + (l.length + 1) by omega, <- List.drop_drop, drop_at, drop_at]
 rw [rw_ext site _ [n.length, n.length + 1 + l.length] _ 1 _ (n.length + 1 + l.length) e rfl rfl (by rw [hd, List.take_of_length_le]; simp only [List.length_append, List.length_cons]; omega)]
 rw [rw_mid site _ [n.length, n.length + 1 + l.length] _ 0 _ n.length l (by simp) rfl (by rw [drop_at, show n.length + 1 + l.length - (n.length + 1) = l.length by omega, List.take_left']; rfl)]
 rw [rw_first site _ [n.length, n.length + 1 + l.length] _ n.length n (by simp) (by rw [List.take_left']; rfl)]
theorem wrapped_none {s : Str} (h : s.head? ≠ some 95) : wrapped s = none := by unfold wrapped; rw [if_pos (.inr (.inl h))]
theorem readStep_plain (site : SiteM) (r : ReadM) {word : Str} (at_ : Int) (h : wrapped word = none) : readStep site r word at_ = ReadM.plain site r word at_ := by unfold readStep; rw [h]

end Go.Proofs.YtjkecadfakjanaaGreatDoor

namespace Go.Proofs.YtjkecadfakjanaaGreatDoor

theorem wordsEnd_is (site : SiteM) (name : Str) (r : ReadM) {ne : Nat} {lang fmt kind lay : Str} {typ : Int} (h1 : markEnd r.marks name.length = ne) (h2 : (if r.w.langs ≠ [] then r.w.langs.headD [] else r.lang) = lang)
  (h3 : (if (r.layouts && (chooseL r.w.format r.format == []) && !(cutPoints name).isEmpty && formatNamed site.formats r.w.ext) = true then r.w.ext else chooseL r.w.format r.format) = fmt) (h4 : chooseL r.w.kind r.kind = kind) (h5 : chooseL r.w.layout r.layout = lay)
  (h6 : ReadM.typeOf site { r with w := { r.w with nameEnd := ne, lang := lang, format := fmt, kind := kind, layout := lay } } = typ) :
  wordsEnd site name r = { r.w with nameEnd := ne, lang := lang, format := fmt, kind := kind, layout := lay, typ := typ } := by
 subst h1 h2 h3 h4 h5 h6; rfl
theorem mark_one {a N : Nat} (h : a < N) : markEnd [(a : Int)] N = a := by
 show (if 0 <= (a : Int) /\ (a : Int) < (N : Int) then (a : Int).toNat else N) = a
 rw [if_pos ⟨by omega, by omega⟩]; rfl
theorem mark_neg (l : List Int) (N : Nat) : markEnd (l ++ [-1]) N = markEnd l N := by rw [markEnd_snoc, if_neg (by omega)]
theorem mark_two {a b N : Nat} (h : b < N) (h2 : a < b) : markEnd [(b : Int), (a : Int)] N = a := by
 have := markEnd_snoc [(b : Int)] (a : Int) N
 rw [mark_one h, if_pos ⟨by omega, by omega⟩] at this
 exact this
theorem built_words {site : SiteM} {comp D f : Str} (hl : Low D) (hf : Low f) (h0 : f ≠ []) (h1 : (47 : UInt8) ∉ f) (hh : (D ++ 47 :: f).head? = some 47) :
  wordsOf site comp (D ++ 47 :: f) false = wordsEnd site f (readAll site comp (D ++ 47 :: f) f) := by
 rw [wordsOf_eq, built_path hh hl hf h0 h1, built_last h1]
/-- A name and an extension. -/
structure OneDot (n e : Str) : Prop where
 n46 : (46 : UInt8) ∉ n
 e46 : (46 : UInt8) ∉ e
 e95 : e[0]? ≠ some 95
 n0 : n ≠ []
 e0 : e ≠ []
 nl : Low n
 el : Low e
 n47 : (47 : UInt8) ∉ n
 e47 : (47 : UInt8) ∉ e
 nw : wrapped n = none
theorem Chars.dot {s : Str} (h : Chars s) : (46 : UInt8) ∉ s := h.notin (by decide)
theorem Chars.slash {s : Str} (h : Chars s) : (47 : UInt8) ∉ s := h.notin (by decide)
theorem Chars.under {s : Str} (h : Chars s) : (95 : UInt8) ∉ s := h.notin (by decide)
theorem Chars.head {s : Str} (h : Chars s) : s.head? ≠ some 95 := fun e => h.under (List.mem_of_head? e)
theorem PlainW.chars {s : Str} (h : PlainW s) : Chars s := h.ch
theorem oneDot {n e : Str} (hn : PlainW n) (he : PlainW e) : OneDot n e :=
 ⟨hn.chars.dot, he.chars.dot, he.chars.not (by decide) 0, hn.ne, he.ne, hn.chars.low, he.chars.low, hn.chars.slash, he.chars.slash, wrapped_none hn.chars.head⟩
theorem OneDot.low {n e : Str} (h : OneDot n e) : Low (n ++ 46 :: e) := h.nl.append (h.el.cons (by decide))
theorem OneDot.noSlash {n e : Str} (h : OneDot n e) : (47 : UInt8) ∉ n ++ 46 :: e := fun x => by
 rcases List.mem_append.1 x with x | x
 ·exact h.n47 x
 ·rcases List.mem_cons.1 x with x | x
  ·exact absurd x (by decide)
  ·exact h.e47 x
theorem OneDot.cuts {n e : Str} (h : OneDot n e) : cutPoints (n ++ 46 :: e) = [n.length] := cuts_one h.n46 h.e46 h.e95
/-- The reading behind the extension. -/
def R1 (comp p n e : Str) : ReadM := extR (read0 comp p (n ++ 46 :: e)) e n.length
theorem one_read {site : SiteM} {comp D n e : Str} (h : OneDot n e) (hl : Low D) (hh : (D ++ 47 :: (n ++ 46 :: e)).head? = some 47) :
  wordsOf site comp (D ++ 47 :: (n ++ 46 :: e)) false = wordsEnd site (n ++ 46 :: e) (ReadM.plain site (R1 comp (D ++ 47 :: (n ++ 46 :: e)) n e) n (-1)) := by
 rw [built_words hl h.low (by simp) h.noSlash hh, readAll_one site comp _ h.cuts, readStep_plain _ _ _ h.nw]; rfl
theorem R1_lang {comp p n e : Str} (h : OneDot n e) : plainLang (R1 comp p n e) = false := by
 unfold plainLang
 show ((comp == kContent || comp == kLayouts) && decide (2 <= (cutPoints (n ++ 46 :: e)).length) && !false) = false
 rw [h.cuts]
 cases (comp == kContent || comp == kLayouts) <;> rfl
theorem one_len {n e : Str} : n.length < (n ++ 46 :: e).length := by rw [List.length_append, List.length_cons]; omega

/-! ### No layout: the name is a word that is none -/
theorem plain_unknown {site : SiteM} {r : ReadM} {n : Str} (at_ : Int) (h1 : (plainLang r && (amongL site.languages n || amongL site.disabled n)) = false) (h2 : r.layouts = false) (h3 : n ≠ kBaseof) :
  ReadM.plain site r n at_ = { r with w := { r.w with unknown := r.w.unknown ++ [n] } } := by
 rw [plain_eq, if_neg (by rw [h1]; decide), if_neg (by rw [h2]; simp), if_neg (by rw [h2]; simp), if_neg (by simpa using h3), if_neg (by rw [h2]; simp)]
theorem one_other {site : SiteM} {comp D n e : Str} (h : OneDot n e) (hb : n ≠ kBaseof) (hc : (comp == kLayouts) = false) (hl : Low D) (hh : (D ++ 47 :: (n ++ 46 :: e)).head? = some 47) {typ : Int}
  (ht : ∀ r : ReadM, r.w.component = comp -> r.w.ids = [e] -> r.w.ext = e -> r.w.path = D ++ 47 :: (n ++ 46 :: e) -> r.w.name.take r.w.nameEnd = n -> r.layouts = false -> r.baseof = false -> ReadM.typeOf site r = typ) :
  wordsOf site comp (D ++ 47 :: (n ++ 46 :: e)) false = { component := comp, path := D ++ 47 :: (n ++ 46 :: e), name := n ++ 46 :: e, nameEnd := n.length, ids := [e], unknown := [n], ext := e, typ := typ } := by
 rw [one_read h hl hh, plain_unknown (-1) (by rw [R1_lang h]; rfl) hc hb]
 rw [wordsEnd_is site _ _ (ne := n.length) (lang := []) (fmt := []) (kind := []) (lay := []) (typ := typ) (mark_one one_len) rfl (if_neg (by show ¬ ((comp == kLayouts) && _ && _ && _) = true; rw [hc]; simp)) rfl rfl
  (ht _ rfl rfl rfl rfl (by show (n ++ 46 :: e).take n.length = n; rw [List.take_left']; rfl) hc rfl)]
 rfl
theorem typeOf_single {site : SiteM} {r : ReadM} {n e : Str} (h1 : r.w.component = kContent) (h2 : r.w.ids ≠ []) (h3 : amongL site.content r.w.ext = true) (h4 : r.w.name.take r.w.nameEnd = n) (h5 : n ≠ []) (h6 : n ≠ kIndex) (h7 : n ≠ kUIndex) : ReadM.typeOf site r = 2 := by
 unfold ReadM.typeOf
 dsimp only
 have h2' : r.w.ids.isEmpty = false := List.isEmpty_eq_false_iff.2 h2
 have h5' : n.isEmpty = false := List.isEmpty_eq_false_iff.2 h5
 rw [h1, h2', h3, h4, h5', if_pos (by rfl), if_neg h6, if_neg h7]
theorem uindex_ne {n : Str} (h : Chars n) : n ≠ kUIndex := fun e => h.under (by rw [e]; decide)
theorem ucontent_ne {n : Str} (h : Chars n) : n ≠ kUContent := fun e => h.under (by rw [e]; decide)
/-- A page of a name and an extension. -/
theorem page_one {site : SiteM} {D n e : Str} (hn : PlainW n) (he : PlainW e) (hc : amongL site.content e = true) (hl : Low D) (hh : (D ++ 47 :: (n ++ 46 :: e)).head? = some 47) :
  wordsOf site kContent (D ++ 47 :: (n ++ 46 :: e)) false = { component := kContent, path := D ++ 47 :: (n ++ 46 :: e), name := n ++ 46 :: e, nameEnd := n.length, ids := [e], unknown := [n], ext := e, typ := 2 } :=
 one_other (oneDot hn he) hn.bas (by decide) hl hh (fun r h1 h2 h3 _ h5 _ _ => typeOf_single (e := e) h1 (by rw [h2]; simp) (by rw [h3]; exact hc) h5 hn.ne hn.idx (uindex_ne hn.chars))

/-! ### What stands nowhere -/
theorem holds_infix {s u : Str} (h : holdsL s u = true) : u <:+: s := by
 unfold holdsL at h
 induction s with
 | nil =>
  unfold idx? at h
  cases hp : List.isPrefixOf u [] with
  | true => exact (List.isPrefixOf_iff_prefix.1 hp).isInfix
  | false => rw [hp] at h; cases h
 | cons c t ih =>
  unfold idx? at h
  cases hp : List.isPrefixOf u (c :: t) with
  | true => exact (List.isPrefixOf_iff_prefix.1 hp).isInfix
  | false =>
   rw [hp, if_neg (by decide)] at h
   cases e : idx? u t with
   | none => rw [e] at h; cases h
   | some k => rw [e] at ih; exact (ih rfl).trans (List.suffix_cons c t).isInfix
theorem holds_not {s u : Str} {c : UInt8} (h : c ∉ s) (hu : c ∈ u) : holdsL s u = false := by
 cases e : holdsL s u with
 | false => rfl
 | true => exact absurd ((holds_infix e).subset hu) h
/-- A path whose only underscore stands behind its slash at place k. -/
theorem holds_other {A B u : Str} {a b : UInt8} (hA : (95 : UInt8) ∉ A) (hB : (95 : UInt8) ∉ B) (hab : a ≠ b) (ha : a ≠ 95) (hu : u[1]? = some 95) (hu2 : u[2]? = some b) : holdsL (A ++ 95 :: a :: B) u = false := by
 cases e : holdsL (A ++ 95 :: a :: B) u with
 | false => rfl
 | true =>
  obtain ⟨x, y, hxy⟩ := holds_infix e
  have g : ∀ j : Nat, j < u.length -> (A ++ 95 :: a :: B)[x.length + j]? = u[j]? := fun j hj => by
   rw [<- hxy, List.append_assoc, List.getElem?_append_right (by omega), Nat.add_sub_cancel_left, List.getElem?_append_left hj]
  have l2 : 2 < u.length := by
   rcases Nat.lt_or_ge 2 u.length with z | z
   ·exact z
   ·rw [List.getElem?_eq_none z] at hu2; cases hu2
  have g1 := (g 1 (by omega)).trans hu
  have g2 := (g 2 l2).trans hu2
  rcases Nat.lt_trichotomy (x.length + 1) A.length with z | z | z
  ·rw [List.getElem?_append_left z] at g1
   exact absurd (List.mem_of_getElem? g1) hA
  ·rw [show x.length + 2 = A.length + 1 by omega, List.getElem?_append_right (by omega), Nat.add_sub_cancel_left] at g2
   exact absurd (Option.some.inj g2) hab
  ·obtain ⟨k, hk⟩ : ∃ k, x.length + 1 = A.length + (k + 1) := ⟨x.length - A.length, by omega⟩
   rw [hk, List.getElem?_append_right (by omega), Nat.add_sub_cancel_left, List.getElem?_cons_succ] at g1
   cases k with
   | zero =>
    exact absurd (Option.some.inj g1) ha
   | succ k =>
    rw [List.getElem?_cons_succ] at g1
    exact absurd (List.mem_of_getElem? g1) hB

/-! ### A name, one word more, an extension -/
def R2 (comp p n l e : Str) : ReadM := extR (read0 comp p (n ++ 46 :: (l ++ 46 :: e))) e ((n.length + 1 + l.length : Nat) : Int)
/-- What is asked of the words: e and n are plain, l has no point and no slash, is no wrapper's beginning at the wrong place. -/
structure TwoDot (n l e : Str) : Prop where
 n46 : (46 : UInt8) ∉ n
 l46 : (46 : UInt8) ∉ l
 e46 : (46 : UInt8) ∉ e
 l95 : (l ++ 46 :: e)[0]? ≠ some 95
 e95 : e[0]? ≠ some 95
 nl : Low n
 ll : Low l
 el : Low e
 n47 : (47 : UInt8) ∉ n
 l47 : (47 : UInt8) ∉ l
 e47 : (47 : UInt8) ∉ e
 nw : wrapped n = none
theorem twoDot {n l e : Str} (hn : PlainW n) (hl : PlainW l) (he : PlainW e) : TwoDot n l e :=
 ⟨hn.chars.dot, hl.chars.dot, he.chars.dot, by rw [get_left (List.length_pos_iff.2 hl.ne)]; exact hl.chars.not (by decide) 0, he.chars.not (by decide) 0, hn.chars.low, hl.chars.low, he.chars.low, hn.chars.slash, hl.chars.slash, he.chars.slash, wrapped_none hn.chars.head⟩
theorem TwoDot.low {n l e : Str} (h : TwoDot n l e) : Low (n ++ 46 :: (l ++ 46 :: e)) := h.nl.append ((h.ll.append (h.el.cons (by decide))).cons (by decide))
theorem TwoDot.noSlash {n l e : Str} (h : TwoDot n l e) : (47 : UInt8) ∉ n ++ 46 :: (l ++ 46 :: e) := fun x => by
 rcases List.mem_append.1 x with x | x
 ·exact h.n47 x
 ·rcases List.mem_cons.1 x with x | x
  ·exact absurd x (by decide)
  ·rcases List.mem_append.1 x with x | x
   ·exact h.l47 x
   ·rcases List.mem_cons.1 x with x | x
    ·exact absurd x (by decide)
    ·exact h.e47 x
theorem TwoDot.cuts {n l e : Str} (h : TwoDot n l e) : cutPoints (n ++ 46 :: (l ++ 46 :: e)) = [n.length, n.length + 1 + l.length] := cuts_two h.n46 h.l46 h.e46 h.l95 h.e95
theorem two_read {site : SiteM} {comp D n l e : Str} (h : TwoDot n l e) (hl : Low D) (hh : (D ++ 47 :: (n ++ 46 :: (l ++ 46 :: e))).head? = some 47) :
  wordsOf site comp (D ++ 47 :: (n ++ 46 :: (l ++ 46 :: e))) false = wordsEnd site (n ++ 46 :: (l ++ 46 :: e)) (ReadM.plain site (readStep site (R2 comp (D ++ 47 :: (n ++ 46 :: (l ++ 46 :: e))) n l e) l n.length) n (-1)) := by
 rw [built_words hl h.low (by simp) h.noSlash hh, readAll_two site comp _ h.cuts, readStep_plain _ _ _ h.nw]; rfl
theorem R2_lang {comp p n l e : Str} (h : TwoDot n l e) : plainLang (R2 comp p n l e) = (comp == kContent || comp == kLayouts) := by
 unfold plainLang
 show ((comp == kContent || comp == kLayouts) && decide (2 <= (cutPoints (n ++ 46 :: (l ++ 46 :: e))).length) && !false) = _
 rw [h.cuts]
 cases (comp == kContent || comp == kLayouts) <;> rfl
theorem two_len {n l e : Str} : n.length + 1 + l.length < (n ++ 46 :: (l ++ 46 :: e)).length := by simp only [List.length_append, List.length_cons]; omega
theorem two_take {n l e : Str} : (n ++ 46 :: (l ++ 46 :: e)).take n.length = n := by rw [List.take_left']; rfl
/-- A page of a name, a language and an extension. -/
theorem page_two {site : SiteM} {D n l e : Str} (hn : PlainW n) (hlg : PlainW l) (he : PlainW e) (hc : amongL site.content e = true) (hla : amongL site.languages l = true) (hl : Low D) (hh : (D ++ 47 :: (n ++ 46 :: (l ++ 46 :: e))).head? = some 47) :
  wordsOf site kContent (D ++ 47 :: (n ++ 46 :: (l ++ 46 :: e))) false = { component := kContent, path := D ++ 47 :: (n ++ 46 :: (l ++ 46 :: e)), name := n ++ 46 :: (l ++ 46 :: e), nameEnd := n.length, ids := [e, l], unknown := [n], ext := e, lang := l, typ := 2 } := by
 have h := twoDot hn hlg he
 rw [two_read h hl hh, readStep_plain _ _ _ (wrapped_none hlg.chars.head)]
 have s1 : ReadM.plain site (R2 kContent (D ++ 47 :: (n ++ 46 :: (l ++ 46 :: e))) n l e) l n.length = { (R2 kContent (D ++ 47 :: (n ++ 46 :: (l ++ 46 :: e))) n l e).identify l n.length with lang := l, hasLang := true } := by
  rw [plain_eq, if_pos (by rw [R2_lang h, hla]; rfl), hla]; rfl
 rw [s1, plain_unknown (-1) (by show ((_ && _ && !true) && _) = false; simp) rfl hn.bas]
 rw [wordsEnd_is site _ _ (ne := n.length) (lang := l) (fmt := []) (kind := []) (lay := []) (typ := 2) (mark_two two_len (by omega)) rfl (if_neg (by simp [R2, extR, read0, ReadM.identify])) rfl rfl
  (typeOf_single (e := e) rfl (by show [e, l] ≠ []; simp) hc two_take hn.ne hn.idx (uindex_ne hn.chars))]
 rfl

/-! ### Layouts -/
theorem plain_layout {site : SiteM} {r : ReadM} {n : Str} (at_ : Int) (h1 : (plainLang r && (amongL site.languages n || amongL site.disabled n)) = false) (h2 : r.layouts = true) (h3 : formatBeside site.formats n r.w.ext = false) (h4 : isKindL n = false) (h5 : n ≠ kBaseof)
  (h6 : (r.shortcode && decide (at_ < 0)) = false) (h7 : r.layoutAt < 0) : ReadM.plain site r n at_ = { r.identify n at_ with layoutAt := r.w.ids.length, layout := n } := by
 rw [plain_eq, if_neg (by rw [h1]; decide), if_neg (by rw [h3]; simp), if_neg (by rw [h4]; simp), if_neg (by simpa using h5), if_pos (by rw [h2, h6]; rfl), if_pos h7]
theorem formatBeside_none {l : List (Str × Str)} {n x : Str} (h : formatNamed l n = false) : formatBeside l n x = false := by
 unfold formatBeside formatNamed at *
 rw [List.any_eq_false] at h |-
 intro f hf q
 rw [Bool.and_eq_true] at q
 exact h f hf q.1
theorem typeOf_layout {site : SiteM} {r : ReadM} {n : Str} (h1 : (r.w.component == kContent || r.w.component == kArch) = false) (h2 : r.layouts = true) (h3 : r.baseof = false) (h4 : r.w.name.take r.w.nameEnd = n) (h5 : n ≠ kUContent)
  (h6 : holdsL r.w.path kShort = false) (h7 : holdsL r.w.path kMarkup = false) (h8 : startsL r.w.path kPartials = false) : ReadM.typeOf site r = 0 := by
 unfold ReadM.typeOf
 dsimp only
 have h5' : (n == kUContent) = false := by simpa using h5
 rw [h1, h2, h3, h4, h5', h6, h7, h8]
 simp

end Go.Proofs.YtjkecadfakjanaaGreatDoor

namespace Go.Proofs.YtjkecadfakjanaaGreatDoor

theorem head_built {W : WordsM} {D f : Str} (hp : W.path = D ++ 47 :: f) (hn : W.name = f) : headOf W = D ++ [47] := by
 unfold headOf
 rw [hp, hn, List.length_append, List.length_cons, show D.length + (f.length + 1) - f.length = D.length + 1 by omega, show D ++ 47 :: f = (D ++ [47]) ++ f by simp, List.take_left' (by simp)]
structure PageT (T : ToldM) (dirs : List Str) (n l e f : Str) (ids : List Str) : Prop where
 typ : T.typ = 2
 isContent : T.isContent = true
 isBundle : T.isBundle = false
 lang : T.lang = l
 ext : T.ext = e
 ids : T.ids = ids
 unknown : T.unknown = [n]
 path : T.path = folderL dirs ++ 47 :: f
 dir : T.dir = if dirs = [] then [47] else folderL dirs
 name : T.name = f
 nameNoId : T.nameNoId = n
 baseName : T.baseName = n
 container : T.container = dirs.getLastD []
 section_ : T.section_ = dirs.headD []
 base : T.base = folderL dirs ++ 47 :: n
 pathNoId : T.pathNoId = folderL dirs ++ 47 :: n
 pathNoLang : T.pathNoLang = folderL dirs ++ 47 :: (n ++ 46 :: e)
 idBase : T.idBase = folderL dirs ++ 47 :: n
 disabled : T.disabled = false
theorem page_told {W : WordsM} {dirs : List Str} {n l e f : Str} {ids : List Str} {cus : Str} (hW : W = { component := kContent, path := folderL dirs ++ 47 :: f, name := f, nameEnd := n.length, ids := ids, unknown := [n], ext := e, lang := l, custom := cus, typ := 2 }) (hids : ids ≠ []) (hnf : f.take n.length = n)
  (hf : (47 : UInt8) ∉ f) (hd : ∀ d ∈ dirs, (47 : UInt8) ∉ d) (hl : cus = [] -> l = [] -> f = n ++ 46 :: e) (hc : cus = []) : PageT (answers W) dirs n l e f ids := by
 have hp : W.path = folderL dirs ++ 47 :: f := by rw [hW]
 have hn : W.name = f := by rw [hW]
 have hh := head_built hp hn
 have ht : W.typ = 2 := by rw [hW]
 have hcm : W.component = kContent := by rw [hW]
 have hno : noIdentifier W = folderL dirs ++ 47 :: n := by
  unfold noIdentifier
  rw [if_neg (by rw [hW]; exact hids), hh, hn, show W.nameEnd = n.length by rw [hW], hnf]
  simp
 have hba : baseOf W = folderL dirs ++ 47 :: n := by
  unfold baseOf
  rw [if_neg (by rw [hW]; exact hids), if_neg (by rw [ht]; decide), if_pos ht, hno]
 have hnl : noLang W = folderL dirs ++ 47 :: (n ++ 46 :: e) := by
  unfold noLang
  by_cases hl0 : l = []
  ·rw [if_pos (by rw [hW]; exact hl0), hp, hl hc hl0]
  ·rw [if_neg (by rw [hW]; exact hl0), hh, hn, show W.nameEnd = n.length by rw [hW], hnf, show W.ext = e by rw [hW]]
   simp
 have hsec := built_section (w := W) hp hf hd (by rw [ht]; decide)
 refine ⟨by rw [hW]; rfl, by rw [hW]; rfl, by rw [hW]; rfl, by rw [hW]; rfl, by rw [hW]; rfl, by rw [hW]; rfl, by rw [hW]; rfl, hp, ?_, hn, ?_, ?_, ?_, hsec, hba, hno, hnl, ?_, by rw [hW]; rfl⟩
 ·show dirOf W.path = _; rw [hp, built_dir hf]
 ·show W.name.take W.nameEnd = n; rw [hn, show W.nameEnd = n.length by rw [hW], hnf]
 ·show (if isBundleT W.typ then containerOf W.path else W.name.take W.nameEnd) = n
  rw [if_neg (by rw [ht]; decide), hn, show W.nameEnd = n.length by rw [hW], hnf]
 ·show containerOf W.path = _; rw [hp, built_container hf hd]
 ·show (if W.component = kLayouts then W.path else baseOf W) = _
  rw [if_neg (by rw [hcm]; decide), hba]
theorem plains_slash {dirs : List Str} (h : ∀ d ∈ dirs, PlainW d) : ∀ d ∈ dirs, (47 : UInt8) ∉ d := fun d hd => (h d hd).chars.slash
theorem plains_low {dirs : List Str} (h : ∀ d ∈ dirs, PlainW d) : Low (folderL dirs) := folder_low fun d hd => (h d hd).chars
theorem built_page_one {site : SiteM} {dirs : List Str} {n e : Str} (hd : ∀ d ∈ dirs, PlainW d) (hn : PlainW n) (he : PlainW e) (hc : amongL site.content e = true) : PageT (specParse site kContent (folderL dirs ++ 47 :: (n ++ 46 :: e))) dirs n [] e (n ++ 46 :: e) [e] :=
 page_told (page_one hn he hc (plains_low hd) (folder_head _ _)) (by simp) (by rw [List.take_left']; rfl) (oneDot hn he).noSlash (plains_slash hd) (fun _ _ => rfl) rfl
theorem built_page_two {site : SiteM} {dirs : List Str} {n l e : Str} (hd : ∀ d ∈ dirs, PlainW d) (hn : PlainW n) (hl : PlainW l) (he : PlainW e) (hc : amongL site.content e = true) (hla : amongL site.languages l = true) :
  PageT (specParse site kContent (folderL dirs ++ 47 :: (n ++ 46 :: (l ++ 46 :: e)))) dirs n l e (n ++ 46 :: (l ++ 46 :: e)) [e, l] :=
 page_told (page_two hn hl he hc hla (plains_low hd) (folder_head _ _)) (by simp) two_take (twoDot hn hl he).noSlash (plains_slash hd) (fun _ h => absurd h hl.ne) rfl

end Go.Proofs.YtjkecadfakjanaaGreatDoor

namespace Go.Proofs.YtjkecadfakjanaaGreatDoor

theorem typeOf_file {site : SiteM} {r : ReadM} {n : Str} (h1 : ((r.w.component == kContent || r.w.component == kArch) && amongL site.content r.w.ext) = false) (h4 : r.w.name.take r.w.nameEnd = n) (h5 : n ≠ kUContent)
  (h6 : holdsL r.w.path kShort = false) (h7 : (r.layouts && r.baseof) = false) (h8 : (r.layouts && holdsL r.w.path kMarkup) = false) (h9 : (r.layouts && startsL r.w.path kPartials) = false) : ReadM.typeOf site r = 0 := by
 unfold ReadM.typeOf
 dsimp only
 have h5' : (n == kUContent) = false := by simpa using h5
 rw [h4, h5', h6, h7, h8, h9]
 rw [if_neg]
 ·simp
 ·intro h
  simp only [Bool.and_eq_true] at h
  rw [h.1.1.2, h.1.2] at h1
  exact absurd h1 (by decide)
theorem built_under {dirs : List Str} {n e : Str} (hd : ∀ d ∈ dirs, PlainW d) (hn : Chars n) (he : Chars e) : (95 : UInt8) ∉ folderL dirs ++ 47 :: (n ++ 46 :: e) := fun x => by
 rcases List.mem_append.1 x with x | x
 ·unfold folderL at x
  obtain ⟨d, h1, h2⟩ := List.mem_flatMap.1 x
  rcases List.mem_cons.1 h2 with h2 | h2
  ·exact absurd h2 (by decide)
  ·exact (hd d h1).chars.under h2
 ·rcases List.mem_cons.1 x with x | x
  ·exact absurd x (by decide)
  ·rcases List.mem_append.1 x with x | x
   ·exact hn.under x
   ·rcases List.mem_cons.1 x with x | x
    ·exact absurd x (by decide)
    ·exact he.under x
theorem folder_under {dirs : List Str} (hd : ∀ d ∈ dirs, PlainW d) : (95 : UInt8) ∉ folderL dirs := fun x => by
 unfold folderL at x
 obtain ⟨d, h1, h2⟩ := List.mem_flatMap.1 x
 rcases List.mem_cons.1 h2 with h2 | h2
 ·exact absurd h2 (by decide)
 ·exact (hd d h1).chars.under h2
theorem starts_holds {s u : Str} (h : holdsL s u = false) : startsL s u = false := by
 cases e : startsL s u with
 | false => rfl
 | true =>
  unfold startsL at e
  rw [infix_holds (List.isPrefixOf_iff_prefix.1 e).isInfix] at h
  cases h
/-- A file of content that is none of content: its words. -/
theorem resource_words {site : SiteM} {dirs : List Str} {n e : Str} (hd : ∀ d ∈ dirs, PlainW d) (hn : PlainW n) (he : PlainW e) (hc : amongL site.content e = false) :
  wordsOf site kContent (folderL dirs ++ 47 :: (n ++ 46 :: e)) false = { component := kContent, path := folderL dirs ++ 47 :: (n ++ 46 :: e), name := n ++ 46 :: e, nameEnd := n.length, ids := [e], unknown := [n], ext := e, typ := 0 } :=
 one_other (oneDot hn he) hn.bas (by decide) (plains_low hd) (folder_head _ _) (fun r h1 h2 h3 h4 h5 h6 h7 => by
  have hu := built_under hd hn.chars he.chars
  exact typeOf_file (n := n) (by rw [h3, hc, Bool.and_false]) h5 (ucontent_ne hn.chars) (by rw [h4]; exact holds_not hu (by decide)) (by rw [h6]; rfl) (by rw [h6]; rfl) (by rw [h6]; rfl))
/-- .. and what it answers. -/
structure ResT (T : ToldM) (dirs : List Str) (n e : Str) : Prop where
 typ : T.typ = 0
 isContent : T.isContent = false
 path : T.path = folderL dirs ++ 47 :: (n ++ 46 :: e)
 base : T.base = folderL dirs ++ 47 :: (n ++ 46 :: e)
 nameNoId : T.nameNoId = n
theorem resource_told {site : SiteM} {dirs : List Str} {n e : Str} (hd : ∀ d ∈ dirs, PlainW d) (hn : PlainW n) (he : PlainW e) (hc : amongL site.content e = false) : ResT (specParse site kContent (folderL dirs ++ 47 :: (n ++ 46 :: e))) dirs n e := by
 unfold specParse
 rw [resource_words hd hn he hc]
 refine ⟨rfl, rfl, rfl, ?_, ?_⟩
 ·have hb : ∀ W, (answers W).base = baseOf W := fun _ => rfl
  rw [hb]
  unfold baseOf
  rw [if_neg (by simp), if_neg (by simp [isBundleT]), if_neg (by simp), if_pos (by rfl)]
 ·show (n ++ 46 :: e).take n.length = n
  rw [List.take_left']; rfl

/-! ### Content data -/
theorem dataDot : OneDot kUContent kGotmpl := ⟨by decide, by decide, by decide, by decide, by decide, (show ∀ x ∈ kUContent, Lib.lowerB x = x /\ x ≠ 32 from by decide +kernel), (show ∀ x ∈ kGotmpl, Lib.lowerB x = x /\ x ≠ 32 from by decide +kernel), by decide, by decide, by decide⟩
theorem data_none {dirs : List Str} (hd : ∀ d ∈ dirs, PlainW d) {u : Str} {b : UInt8} (hu : u[1]? = some 95) (hu2 : u[2]? = some b) (hb : (99 : UInt8) ≠ b) : holdsL (folderL dirs ++ 47 :: (kUContent ++ 46 :: kGotmpl)) u = false := by
 have e : folderL dirs ++ 47 :: (kUContent ++ 46 :: kGotmpl) = (folderL dirs ++ [47]) ++ 95 :: 99 :: ([111, 110, 116, 101, 110, 116] ++ 46 :: kGotmpl) := by simp
 rw [e]
 refine holds_other ?_ (by decide) hb (by decide) hu hu2
 intro x
 rcases List.mem_append.1 x with x | x
 ·exact folder_under hd x
 ·exact absurd x (by decide)
theorem typeOf_data {site : SiteM} {r : ReadM} (h1 : amongL site.content kGotmpl = false) (h2 : r.w.ids ≠ []) (h3 : r.w.name.take r.w.nameEnd = kUContent) (h4 : r.w.ext = kGotmpl) (h5 : r.baseof = false) (h6 : holdsL r.w.path kShort = false) (h7 : holdsL r.w.path kMarkup = false) (h8 : startsL r.w.path kPartials = false) : ReadM.typeOf site r = 5 := by
 unfold ReadM.typeOf
 dsimp only
 have h2' : r.w.ids.isEmpty = false := List.isEmpty_eq_false_iff.2 h2
 rw [h2', h3, h4, h5, h6, h7, h8, h1]
 cases r.layouts <;> simp
structure DataT (T : ToldM) (dirs : List Str) : Prop where
 typ : T.typ = 5
 isData : T.isData = true
 isContent : T.isContent = true
 isBundle : T.isBundle = true
 ext : T.ext = kGotmpl
 nameNoId : T.nameNoId = kUContent
 baseName : T.baseName = dirs.getLastD []
 dir : T.dir = if dirs = [] then [47] else folderL dirs
theorem data_told {site : SiteM} {comp : Str} {dirs : List Str} (hd : ∀ d ∈ dirs, PlainW d) (hc : amongL site.content kGotmpl = false) (hf : formatNamed site.formats kUContent = false) (hf2 : formatNamed site.formats kGotmpl = false) :
  DataT (specParse site comp (folderL dirs ++ 47 :: (kUContent ++ 46 :: kGotmpl))) dirs := by
 have hdd := dataDot
 have h47 := hdd.noSlash
 have hs := data_none hd (u := kShort) (b := 115) (by decide) (by decide) (by decide)
 have hm := data_none hd (u := kMarkup) (b := 109) (by decide) (by decide) (by decide)
 have hp := starts_holds (data_none hd (u := kPartials) (b := 112) (by decide) (by decide) (by decide))
 have key : ∃ ids unk lay, wordsOf site comp (folderL dirs ++ 47 :: (kUContent ++ 46 :: kGotmpl)) false = { component := comp, path := folderL dirs ++ 47 :: (kUContent ++ 46 :: kGotmpl), name := kUContent ++ 46 :: kGotmpl, nameEnd := kUContent.length, ids := ids, unknown := unk, layout := lay, ext := kGotmpl, typ := 5 } := by
  cases hl : (comp == kLayouts) with
  | false =>
   refine ⟨_, _, _, one_other hdd (by decide) hl (plains_low hd) (folder_head _ _) (fun r h1 h2 h3 h4 h5 h6 h7 => typeOf_data hc (by rw [h2]; simp) h5 h3 h7 (by rw [h4]; exact hs) (by rw [h4]; exact hm) (by rw [h4]; exact hp))⟩
  | true =>
   have hcl : comp = kLayouts := by simpa using hl
   refine ⟨[kGotmpl, kUContent], [], kUContent, ?_⟩
   rw [one_read hdd (plains_low hd) (folder_head _ _), plain_layout (-1) (by rw [R1_lang hdd]; rfl) hl (formatBeside_none hf) (by decide) (by decide) (by show (holdsL _ kShort && _) = false; rw [hs]; rfl) (by show (-1 : Int) < 0; decide)]
   rw [wordsEnd_is site _ _ (ne := kUContent.length) (lang := []) (fmt := []) (kind := []) (lay := kUContent) (typ := 5) ?a rfl (if_neg (by show ¬ (_ && _ && _ && formatNamed site.formats kGotmpl) = true; rw [hf2]; simp)) rfl rfl ?c]
   ·rfl
   case a =>
    show markEnd ([((kUContent.length : Nat) : Int)] ++ [-1]) _ = _
    rw [mark_neg]; exact mark_one one_len
   case c => exact typeOf_data hc (by show [kGotmpl, kUContent] ≠ []; simp) rfl rfl rfl hs hm hp
 obtain ⟨ids, unk, lay, hW⟩ := key
 unfold specParse
 rw [hW]
 refine ⟨rfl, rfl, rfl, rfl, rfl, ?_, ?_, ?_⟩
 ·show (kUContent ++ 46 :: kGotmpl).take kUContent.length = kUContent
  rfl
 ·show containerOf (folderL dirs ++ 47 :: (kUContent ++ 46 :: kGotmpl)) = _
  exact built_container h47 (plains_slash hd)
 ·show dirOf (folderL dirs ++ 47 :: (kUContent ++ 46 :: kGotmpl)) = _
  exact built_dir h47

end Go.Proofs.YtjkecadfakjanaaGreatDoor

namespace Go.Proofs.YtjkecadfakjanaaGreatDoor

/-- A word that a site has neither as a language nor as a format. -/
structure Unmeant (site : SiteM) (n : Str) : Prop where
 f : formatNamed site.formats n = false
 l : amongL site.languages n = false
 d : amongL site.disabled n = false
structure LayT (T : ToldM) (p n k e : Str) : Prop where
 typ : T.typ = 0
 layout : T.layout = n
 kind : T.kind = k
 format : T.format = []
 ext : T.ext = e
 idBase : T.idBase = p
 path : T.path = p
 isContent : T.isContent = false
 unknown : T.unknown = []
theorem lay_file {site : SiteM} {r : ReadM} {n p : Str} (hc : r.w.component = kLayouts) (hp : r.w.path = p) (hu : (95 : UInt8) ∉ p) (hn : r.w.name.take r.w.nameEnd = n) (h5 : n ≠ kUContent) (hb : r.baseof = false) : ReadM.typeOf site r = 0 := by
 have h1 : holdsL p kShort = false := holds_not hu (by decide)
 have h2 : holdsL p kMarkup = false := holds_not hu (by decide)
 have h3 : startsL p kPartials = false := starts_holds (holds_not hu (by decide))
 exact typeOf_file (n := n) (by rw [hc]; rfl) hn h5 (by rw [hp]; exact h1) (by rw [hb, Bool.and_false]) (by rw [hp, h2, Bool.and_false]) (by rw [hp, h3, Bool.and_false])
theorem layout_one {site : SiteM} {dirs : List Str} {n e : Str} (hd : ∀ d ∈ dirs, PlainW d) (hn : PlainW n) (he : PlainW e) (mn : Unmeant site n) (me : Unmeant site e) :
  LayT (specParse site kLayouts (folderL dirs ++ 47 :: (n ++ 46 :: e))) (folderL dirs ++ 47 :: (n ++ 46 :: e)) n [] e := by
 have h := oneDot hn he
 have hu := built_under hd hn.chars he.chars
 have hs : holdsL (folderL dirs ++ 47 :: (n ++ 46 :: e)) kShort = false := holds_not hu (by decide)
 have hW : wordsOf site kLayouts (folderL dirs ++ 47 :: (n ++ 46 :: e)) false = { component := kLayouts, path := folderL dirs ++ 47 :: (n ++ 46 :: e), name := n ++ 46 :: e, nameEnd := n.length, ids := [e, n], unknown := [], layout := n, ext := e, typ := 0 } := by
  rw [one_read h (plains_low hd) (folder_head _ _), plain_layout (-1) (by rw [R1_lang h]; rfl) rfl (formatBeside_none mn.f) hn.knd hn.bas (by show (holdsL _ kShort && _) = false; rw [hs]; rfl) (by show (-1 : Int) < 0; decide)]
  rw [wordsEnd_is site _ _ (ne := n.length) (lang := []) (fmt := []) (kind := []) (lay := n) (typ := 0) ?a rfl (if_neg (by show ¬ (_ && _ && _ && formatNamed site.formats e) = true; rw [me.f]; simp)) rfl rfl ?c]
  ·rfl
  case a =>
   show markEnd ([((n.length : Nat) : Int)] ++ [-1]) _ = _
   rw [mark_neg]; exact mark_one one_len
  case c => exact lay_file rfl rfl hu (by show (n ++ 46 :: e).take n.length = n; rw [List.take_left']; rfl) (ucontent_ne hn.chars) rfl
 unfold specParse
 rw [hW]
 exact ⟨rfl, rfl, rfl, rfl, rfl, rfl, rfl, rfl, rfl⟩
/-- A kind's word. -/
structure KindW (k : Str) : Prop where
 ne : k ≠ []
 ch : Chars k
 knd : isKindL k = true
theorem layout_two {site : SiteM} {dirs : List Str} {n k e : Str} (hd : ∀ d ∈ dirs, PlainW d) (hn : PlainW n) (hk : KindW k) (he : PlainW e) (mn : Unmeant site n) (me : Unmeant site e) (mk : Unmeant site k) :
  LayT (specParse site kLayouts (folderL dirs ++ 47 :: (n ++ 46 :: (k ++ 46 :: e)))) (folderL dirs ++ 47 :: (n ++ 46 :: (k ++ 46 :: e))) n k e := by
 have h : TwoDot n k e := ⟨hn.chars.dot, hk.ch.dot, he.chars.dot, by rw [get_left (List.length_pos_iff.2 hk.ne)]; exact hk.ch.not (by decide) 0, he.chars.not (by decide) 0, hn.chars.low, hk.ch.low, he.chars.low, hn.chars.slash, hk.ch.slash, he.chars.slash, wrapped_none hn.chars.head⟩
 have hu : (95 : UInt8) ∉ folderL dirs ++ 47 :: (n ++ 46 :: (k ++ 46 :: e)) := fun x => by
  rcases List.mem_append.1 x with x | x
  ·exact folder_under hd x
  ·rcases List.mem_cons.1 x with x | x
   ·exact absurd x (by decide)
   ·rcases List.mem_append.1 x with x | x
    ·exact hn.chars.under x
    ·rcases List.mem_cons.1 x with x | x
     ·exact absurd x (by decide)
     ·rcases List.mem_append.1 x with x | x
      ·exact hk.ch.under x
      ·rcases List.mem_cons.1 x with x | x
       ·exact absurd x (by decide)
       ·exact he.chars.under x
 have hs : holdsL (folderL dirs ++ 47 :: (n ++ 46 :: (k ++ 46 :: e))) kShort = false := holds_not hu (by decide)
 have hW : wordsOf site kLayouts (folderL dirs ++ 47 :: (n ++ 46 :: (k ++ 46 :: e))) false = { component := kLayouts, path := folderL dirs ++ 47 :: (n ++ 46 :: (k ++ 46 :: e)), name := n ++ 46 :: (k ++ 46 :: e), nameEnd := n.length, ids := [e, k, n], unknown := [], kind := k, layout := n, ext := e, typ := 0 } := by
  rw [two_read h (plains_low hd) (folder_head _ _), readStep_plain _ _ _ (wrapped_none hk.ch.head)]
  have s1 : ReadM.plain site (R2 kLayouts (folderL dirs ++ 47 :: (n ++ 46 :: (k ++ 46 :: e))) n k e) k n.length = { (R2 kLayouts (folderL dirs ++ 47 :: (n ++ 46 :: (k ++ 46 :: e))) n k e).identify k n.length with kind := k, hasKind := true } := by
   rw [plain_eq, if_neg (by rw [mk.l, mk.d]; simp), if_neg (by rw [formatBeside_none mk.f]; simp), if_pos (by rw [hk.knd]; rfl)]
  rw [s1, plain_layout (-1) (by rw [mn.l, mn.d]; simp) rfl (formatBeside_none mn.f) hn.knd hn.bas (by show (holdsL _ kShort && _) = false; rw [hs]; rfl) (by show (-1 : Int) < 0; decide)]
  rw [wordsEnd_is site _ _ (ne := n.length) (lang := []) (fmt := []) (kind := k) (lay := n) (typ := 0) ?a rfl (if_neg (by show ¬ (_ && _ && _ && formatNamed site.formats e) = true; rw [me.f]; simp)) ?k rfl ?c]
  ·rfl
  case a =>
   show markEnd ([((n.length + 1 + k.length : Nat) : Int), ((n.length : Nat) : Int)] ++ [-1]) _ = _
   rw [mark_neg]; exact mark_two two_len (by omega)
  case k => rfl
  case c => exact lay_file rfl rfl hu two_take (ucontent_ne hn.chars) rfl
 unfold specParse
 rw [hW]
 exact ⟨rfl, rfl, rfl, rfl, rfl, rfl, rfl, rfl, rfl⟩

end Go.Proofs.YtjkecadfakjanaaGreatDoor

namespace Go.Proofs.YtjkecadfakjanaaGreatDoor

abbrev kSc : Str := [95, 115, 104, 111, 114, 116, 99, 111, 100, 101, 115]
abbrev kMk : Str := [95, 109, 97, 114, 107, 117, 112]
abbrev kPt : Str := [95, 112, 97, 114, 116, 105, 97, 108, 115]
structure SortT (T : ToldM) (p e : Str) (t : Int) : Prop where
 typ : T.typ = t
 ext : T.ext = e
 isContent : T.isContent = false
 isBundle : T.isBundle = false
 path : T.path = p
theorem lay_words {site : SiteM} {D n e : Str} {typ : Int} (h : OneDot n e) (hl : Low D) (hh : (D ++ 47 :: (n ++ 46 :: e)).head? = some 47) (mn : Unmeant site n) (me : formatNamed site.formats e = false) (hk : isKindL n = false) (hb : n ≠ kBaseof)
  (hs : holdsL (D ++ 47 :: (n ++ 46 :: e)) kShort = false)
  (ht : ∀ r : ReadM, r.w.component = kLayouts -> r.w.path = D ++ 47 :: (n ++ 46 :: e) -> r.w.name.take r.w.nameEnd = n -> r.layouts = true -> r.baseof = false -> ReadM.typeOf site r = typ) :
  wordsOf site kLayouts (D ++ 47 :: (n ++ 46 :: e)) false = { component := kLayouts, path := D ++ 47 :: (n ++ 46 :: e), name := n ++ 46 :: e, nameEnd := n.length, ids := [e, n], unknown := [], layout := n, ext := e, typ := typ } := by
 rw [one_read h hl hh, plain_layout (-1) (by rw [R1_lang h]; rfl) rfl (formatBeside_none mn.f) hk hb (by show (holdsL _ kShort && _) = false; rw [hs]; rfl) (by show (-1 : Int) < 0; decide)]
 rw [wordsEnd_is site _ _ (ne := n.length) (lang := []) (fmt := []) (kind := []) (lay := n) (typ := typ) ?a rfl (if_neg (by show ¬ (_ && _ && _ && formatNamed site.formats e) = true; rw [me]; simp)) rfl rfl ?c]
 ·rfl
 case a =>
  show markEnd ([((n.length : Nat) : Int)] ++ [-1]) _ = _
  rw [mark_neg]; exact mark_one one_len
 case c => exact ht _ rfl rfl (by show (n ++ 46 :: e).take n.length = n; rw [List.take_left']; rfl) rfl rfl
theorem typeOf_lay {site : SiteM} {r : ReadM} {n : Str} (hc : r.w.component = kLayouts) (hl : r.layouts = true) (hn : r.w.name.take r.w.nameEnd = n) (h5 : n ≠ kUContent) :
  ReadM.typeOf site r = if holdsL r.w.path kShort = true then 7 else if r.baseof = true then 9 else if holdsL r.w.path kMarkup = true then 6 else if startsL r.w.path kPartials = true then 8 else 0 := by
 unfold ReadM.typeOf
 dsimp only
 have h5' : (n == kUContent) = false := by simpa using h5
 rw [hc, hl, hn, h5']
 have e1 : (kLayouts == kContent || kLayouts == kArch) = false := by decide
 rw [e1]
 simp
theorem told_sort {site : SiteM} {p e : Str} {t : Int} {W : WordsM} (hW : wordsOf site kLayouts p false = W) (h1 : W.path = p) (h2 : W.ext = e) (h3 : W.typ = t) (h4 : 5 < t) : SortT (specParse site kLayouts p) p e t := by
 unfold specParse
 rw [hW]
 refine ⟨h3, h2, ?_, ?_, h1⟩
 ·show (decide (1 <= W.typ) && decide (W.typ <= 5)) = false
  rw [h3, decide_eq_false (show ¬ t <= 5 by omega), Bool.and_false]
 ·show isBundleT W.typ = false
  unfold isBundleT
  rw [h3, decide_eq_false (show ¬ t <= 5 by omega), Bool.and_false]
theorem low_under {dirs : List Str} {u : Str} (hd : ∀ d ∈ dirs, PlainW d) (hu : Low u) : Low (folderL dirs ++ 47 :: u) := (plains_low hd).append (hu.cons (by decide))
theorem infix_mid (a b c : Str) : b <:+: a ++ (b ++ c) := ⟨a, c, by simp⟩
theorem low_sc : Low kSc := show ∀ x ∈ kSc, Lib.lowerB x = x /\ x ≠ 32 from by decide +kernel
theorem low_mk : Low kMk := show ∀ x ∈ kMk, Lib.lowerB x = x /\ x ≠ 32 from by decide +kernel
theorem low_pt : Low kPt := show ∀ x ∈ kPt, Lib.lowerB x = x /\ x ≠ 32 from by decide +kernel
/-- A shortcode. -/
theorem sort_short {site : SiteM} {dirs : List Str} {n e : Str} (hd : ∀ d ∈ dirs, PlainW d) (hn : PlainW n) (he : PlainW e) (mn : Unmeant site n) (me : Unmeant site e) :
  SortT (specParse site kLayouts ((folderL dirs ++ 47 :: kSc) ++ 47 :: (n ++ 46 :: e))) ((folderL dirs ++ 47 :: kSc) ++ 47 :: (n ++ 46 :: e)) e 7 /\ (specParse site kLayouts ((folderL dirs ++ 47 :: kSc) ++ 47 :: (n ++ 46 :: e))).layout = [] := by
 have h := oneDot hn he
 have hh : ((folderL dirs ++ 47 :: kSc) ++ 47 :: (n ++ 46 :: e)).head? = some 47 := by rw [List.append_assoc]; exact folder_head _ _
 have hs : holdsL ((folderL dirs ++ 47 :: kSc) ++ 47 :: (n ++ 46 :: e)) kShort = true := infix_holds (by
  have := infix_mid (folderL dirs) kShort (n ++ 46 :: e)
  have e : (folderL dirs ++ 47 :: kSc) ++ 47 :: (n ++ 46 :: e) = folderL dirs ++ (kShort ++ (n ++ 46 :: e)) := by simp
  rw [e]; exact this)
 have hW : wordsOf site kLayouts ((folderL dirs ++ 47 :: kSc) ++ 47 :: (n ++ 46 :: e)) false = { component := kLayouts, path := (folderL dirs ++ 47 :: kSc) ++ 47 :: (n ++ 46 :: e), name := n ++ 46 :: e, nameEnd := n.length, ids := [e], unknown := [n], ext := e, typ := 7 } := by
  rw [one_read h (low_under hd low_sc) hh]
  have s1 : ReadM.plain site (R1 kLayouts ((folderL dirs ++ 47 :: kSc) ++ 47 :: (n ++ 46 :: e)) n e) n (-1) = { (R1 kLayouts ((folderL dirs ++ 47 :: kSc) ++ 47 :: (n ++ 46 :: e)) n e) with w := { (R1 kLayouts ((folderL dirs ++ 47 :: kSc) ++ 47 :: (n ++ 46 :: e)) n e).w with unknown := [n] } } := by
   rw [plain_eq, if_neg (by rw [R1_lang h]; simp), if_neg (by rw [formatBeside_none mn.f]; simp), if_neg (by rw [hn.knd]; simp), if_neg (by simpa using hn.bas), if_neg (by show ¬ (true && !(holdsL ((folderL dirs ++ 47 :: kSc) ++ 47 :: (n ++ 46 :: e)) kShort && decide ((-1 : Int) < 0))) = true; rw [hs]; decide)]
   rfl
  rw [s1, wordsEnd_is site _ _ (ne := n.length) (lang := []) (fmt := []) (kind := []) (lay := []) (typ := 7) (mark_one one_len) rfl (if_neg (by show ¬ (_ && _ && _ && formatNamed site.formats e) = true; rw [me.f]; simp)) rfl rfl ?c]
  ·rfl
  case c => rw [typeOf_lay (n := n) rfl rfl (by show (n ++ 46 :: e).take n.length = n; rw [List.take_left']; rfl) (ucontent_ne hn.chars)]; exact if_pos hs
 refine ⟨told_sort hW rfl rfl rfl (by decide), ?_⟩
 unfold specParse
 rw [hW]; rfl
/-- Markup. -/
theorem sort_markup {site : SiteM} {dirs : List Str} {n e : Str} (hd : ∀ d ∈ dirs, PlainW d) (hn : PlainW n) (he : PlainW e) (mn : Unmeant site n) (me : Unmeant site e) :
  SortT (specParse site kLayouts ((folderL dirs ++ 47 :: kMk) ++ 47 :: (n ++ 46 :: e))) ((folderL dirs ++ 47 :: kMk) ++ 47 :: (n ++ 46 :: e)) e 6 := by
 have h := oneDot hn he
 have hh : ((folderL dirs ++ 47 :: kMk) ++ 47 :: (n ++ 46 :: e)).head? = some 47 := by rw [List.append_assoc]; exact folder_head _ _
 have hm : holdsL ((folderL dirs ++ 47 :: kMk) ++ 47 :: (n ++ 46 :: e)) kMarkup = true := infix_holds (by
  have := infix_mid (folderL dirs) kMarkup (n ++ 46 :: e)
  have e : (folderL dirs ++ 47 :: kMk) ++ 47 :: (n ++ 46 :: e) = folderL dirs ++ (kMarkup ++ (n ++ 46 :: e)) := by simp
  rw [e]; exact this)
 have hB : (95 : UInt8) ∉ [97, 114, 107, 117, 112] ++ 47 :: (n ++ 46 :: e) := fun x => by
  rcases List.mem_append.1 x with x | x
  ·exact absurd x (by decide)
  ·rcases List.mem_cons.1 x with x | x
   ·exact absurd x (by decide)
   ·rcases List.mem_append.1 x with x | x
    ·exact hn.chars.under x
    ·rcases List.mem_cons.1 x with x | x
     ·exact absurd x (by decide)
     ·exact he.chars.under x
 have hs : holdsL ((folderL dirs ++ 47 :: kMk) ++ 47 :: (n ++ 46 :: e)) kShort = false := by
  have e : (folderL dirs ++ 47 :: kMk) ++ 47 :: (n ++ 46 :: e) = (folderL dirs ++ [47]) ++ 95 :: 109 :: ([97, 114, 107, 117, 112] ++ 47 :: (n ++ 46 :: e)) := by simp
  rw [e]
  refine holds_other ?_ hB (b := 115) (by decide) (by decide) (by decide) (by decide)
  intro x
  rcases List.mem_append.1 x with x | x
  ·exact folder_under hd x
  ·exact absurd x (by decide)
 refine told_sort (lay_words (typ := 6) h (low_under hd low_mk) hh mn me.f hn.knd hn.bas hs ?_) rfl rfl rfl (by decide)
 intro r h1 h2 h3 h4 h5
 rw [typeOf_lay h1 h4 h3 (ucontent_ne hn.chars), h2, h5, hs, hm]; rfl
/-- A partial. -/
theorem sort_partial {site : SiteM} {dirs : List Str} {n e : Str} (hd : ∀ d ∈ dirs, PlainW d) (hn : PlainW n) (he : PlainW e) (mn : Unmeant site n) (me : Unmeant site e) :
  SortT (specParse site kLayouts ((47 :: kPt ++ folderL dirs) ++ 47 :: (n ++ 46 :: e))) ((47 :: kPt ++ folderL dirs) ++ 47 :: (n ++ 46 :: e)) e 8 := by
 have h := oneDot hn he
 have hu := built_under hd hn.chars he.chars
 have hB : (95 : UInt8) ∉ [97, 114, 116, 105, 97, 108, 115] ++ (folderL dirs ++ 47 :: (n ++ 46 :: e)) := fun x => by
  rcases List.mem_append.1 x with x | x
  ·exact absurd x (by decide)
  ·exact hu x
 have e1 : (47 :: kPt ++ folderL dirs) ++ 47 :: (n ++ 46 :: e) = [47] ++ 95 :: 112 :: ([97, 114, 116, 105, 97, 108, 115] ++ (folderL dirs ++ 47 :: (n ++ 46 :: e))) := by simp
 have hs : holdsL ((47 :: kPt ++ folderL dirs) ++ 47 :: (n ++ 46 :: e)) kShort = false := by
  rw [e1]; exact holds_other (by decide) hB (b := 115) (by decide) (by decide) (by decide) (by decide)
 have hm : holdsL ((47 :: kPt ++ folderL dirs) ++ 47 :: (n ++ 46 :: e)) kMarkup = false := by
  rw [e1]; exact holds_other (by decide) hB (b := 109) (by decide) (by decide) (by decide) (by decide)
 have hp : startsL ((47 :: kPt ++ folderL dirs) ++ 47 :: (n ++ 46 :: e)) kPartials = true := by
  unfold startsL
  rw [List.isPrefixOf_iff_prefix]
  have hx : (folderL dirs ++ 47 :: (n ++ 46 :: e)).head? = some 47 := folder_head _ _
  obtain ⟨t, ht⟩ : ∃ t, folderL dirs ++ 47 :: (n ++ 46 :: e) = 47 :: t := by
   cases hy : folderL dirs ++ 47 :: (n ++ 46 :: e) with
   | nil => rw [hy] at hx; cases hx
   | cons c t => rw [hy] at hx; exact ⟨t, by rw [show c = 47 by simpa using hx]⟩
  rw [List.append_assoc, ht]
  exact ⟨t, by simp⟩
 refine told_sort (lay_words (typ := 8) h ((low_pt.cons (by decide)).append (plains_low hd)) rfl mn me.f hn.knd hn.bas hs ?_) rfl rfl rfl (by decide)
 intro r h1 h2 h3 h4 h5
 rw [typeOf_lay h1 h4 h3 (ucontent_ne hn.chars), h2, h5, hs, hm, hp]; rfl
/-- A base. -/
theorem sort_baseof {site : SiteM} {dirs : List Str} {e : Str} (hd : ∀ d ∈ dirs, PlainW d) (he : PlainW e) (mb : Unmeant site kBaseof) (me : Unmeant site e) :
  SortT (specParse site kLayouts (folderL dirs ++ 47 :: (kBaseof ++ 46 :: e))) (folderL dirs ++ 47 :: (kBaseof ++ 46 :: e)) e 9 := by
 have hbc : Chars kBaseof := show ∀ c ∈ kBaseof, siteWordB c = true from by decide
 have h : OneDot kBaseof e := ⟨hbc.dot, he.chars.dot, he.chars.not (by decide) 0, by decide, he.ne, hbc.low, he.chars.low, hbc.slash, he.chars.slash, wrapped_none hbc.head⟩
 have hu := built_under hd hbc he.chars
 have hs : holdsL (folderL dirs ++ 47 :: (kBaseof ++ 46 :: e)) kShort = false := holds_not hu (by decide)
 have hW : wordsOf site kLayouts (folderL dirs ++ 47 :: (kBaseof ++ 46 :: e)) false = { component := kLayouts, path := folderL dirs ++ 47 :: (kBaseof ++ 46 :: e), name := kBaseof ++ 46 :: e, nameEnd := kBaseof.length, ids := [e, kBaseof], unknown := [], ext := e, typ := 9 } := by
  rw [one_read h (plains_low hd) (folder_head _ _)]
  have s1 : ReadM.plain site (R1 kLayouts (folderL dirs ++ 47 :: (kBaseof ++ 46 :: e)) kBaseof e) kBaseof (-1) = { (R1 kLayouts (folderL dirs ++ 47 :: (kBaseof ++ 46 :: e)) kBaseof e).identify kBaseof (-1) with baseof := true } := by
   rw [plain_eq, if_neg (by rw [R1_lang h]; simp), if_neg (by rw [formatBeside_none mb.f]; simp), if_neg (by rw [show isKindL kBaseof = false from by decide]; simp), if_pos (by decide)]
  rw [s1, wordsEnd_is site _ _ (ne := kBaseof.length) (lang := []) (fmt := []) (kind := []) (lay := []) (typ := 9) ?a rfl (if_neg (by show ¬ (_ && _ && _ && formatNamed site.formats e) = true; rw [me.f]; simp)) rfl rfl ?c]
  ·rfl
  case a =>
   show markEnd ([((kBaseof.length : Nat) : Int)] ++ [-1]) _ = _
   rw [mark_neg]; exact mark_one one_len
  case c =>
   rw [typeOf_lay (n := kBaseof) rfl rfl rfl (by decide)]
   show (if holdsL (folderL dirs ++ 47 :: (kBaseof ++ 46 :: e)) kShort = true then (7 : Int) else if true = true then 9 else _) = 9
   rw [hs]; rfl
 exact told_sort hW rfl rfl rfl (by decide)

end Go.Proofs.YtjkecadfakjanaaGreatDoor

namespace Go.Proofs.YtjkecadfakjanaaGreatDoor

theorem wrap_skip (name : Str) : ∀ (m n i : Nat), (∀ j, i <= j -> j < i + m -> name[j]? ≠ some 95) -> wrapEnd name (n + m) i = wrapEnd name n (i + m)
 | 0, n, i, _ => rfl
 | m + 1, n, i, h => by
  rw [show n + (m + 1) = (n + m) + 1 by omega, wrapEnd, if_neg (fun q => h i (Nat.le_refl _) (by omega) q.1), wrap_skip name m n (i + 1) (fun j h1 h2 => h j (by omega) (by omega)), show i + 1 + m = i + (m + 1) by omega]
theorem wrap_hit {name : Str} {i : Nat} (n : Nat) (h1 : name[i]? = some 95) (h2 : name[i + 1]? = some 46) : wrapEnd name (n + 1) i = some i := by rw [wrapEnd, if_pos ⟨h1, .inr h2⟩]
def wrapW (w : Str) : Str := 95 :: (w ++ [95])
theorem cuts_wrapped {n w e : Str} (hn : (46 : UInt8) ∉ n) (hw : (95 : UInt8) ∉ w) (he : (46 : UInt8) ∉ e) (hu : e[0]? ≠ some 95) : cutPoints (n ++ 46 :: (wrapW w ++ 46 :: e)) = [n.length, n.length + 1 + (wrapW w).length] := by
 unfold cutPoints
 have hwl : (wrapW w).length = w.length + 2 := by unfold wrapW; simp
 have hlen : (n ++ 46 :: (wrapW w ++ 46 :: e)).length = ((e.length + 1) + (w.length + 2) + 1) + n.length := by simp only [List.length_append, List.length_cons, hwl]; omega
 have g0 : (n ++ 46 :: (wrapW w ++ 46 :: e))[n.length]? = some 46 := by rw [<- Nat.add_zero n.length, get_right]; rfl
 have g1 : ∀ j, (n ++ 46 :: (wrapW w ++ 46 :: e))[n.length + (j + 1)]? = (wrapW w ++ 46 :: e)[j]? := fun j => by rw [get_right]; rfl
 have g2 : ∀ j, j < w.length -> (wrapW w ++ 46 :: e)[j + 1]? = w[j]? := fun j h => by
  show ((w ++ [95]) ++ 46 :: e)[j]? = w[j]?
  rw [get_left (by simp; omega), get_left h]
 have g3 : (wrapW w ++ 46 :: e)[w.length + 1]? = some 95 := by
  show ((w ++ [95]) ++ 46 :: e)[w.length]? = some 95
  rw [get_left (by simp), <- Nat.add_zero w.length, get_right]; rfl
 have g4 : ∀ j, (wrapW w ++ 46 :: e)[w.length + 2 + j]? = (46 :: e)[j]? := fun j => by rw [<- hwl, get_right]
 have g5 : ∀ j, j < n.length -> (n ++ 46 :: (wrapW w ++ 46 :: e))[j]? = n[j]? := fun j h => get_left h
 have g6 : (wrapW w ++ 46 :: e)[0]? = some 95 := rfl
 generalize n ++ 46 :: (wrapW w ++ 46 :: e) = N at hlen g0 g1 g5
 generalize wrapW w ++ 46 :: e = L at g1 g2 g3 g4 g6
 have g40 : L[w.length + 2]? = some 46 := g4 0
 have g41 : ∀ x, L[w.length + 2 + (x + 1)]? = e[x]? := fun x => g4 (x + 1)
 have hend : wrapEnd N (N.length - (n.length + 2)) (n.length + 2) = some (n.length + 2 + w.length) := by
  rw [show N.length - (n.length + 2) = ((e.length + 1) + 1) + w.length by omega, wrap_skip N w.length _ (n.length + 2) (fun j h1 h2 q => by
   obtain ⟨x, rfl⟩ : ∃ x, j = n.length + ((x + 1) + 1) := ⟨j - n.length - 2, by omega⟩
   rw [g1, g2 x (by omega)] at q
   exact hw (List.mem_of_getElem? q))]
  refine wrap_hit _ ?_ ?_
  ·rw [show n.length + 2 + w.length = n.length + ((w.length + 1) + 1) by omega, g1, g3]
  ·rw [show n.length + 2 + w.length + 1 = n.length + ((w.length + 2) + 1) by omega, g1, g40]
 rw [hlen, cuts_skip N n.length ((e.length + 1) + (w.length + 2) + 1) 0 (fun j h1 h2 q => by rw [g5 j (by omega)] at q; exact hn (List.mem_of_getElem? q)) (by omega), Nat.zero_add, cuts_wrap _ g0 (by rw [g1 0, g6]) (by omega) hend]
 have h0 : N[n.length + 2 + w.length + 1]? = some 46 := by rw [show n.length + 2 + w.length + 1 = n.length + ((w.length + 2) + 1) by omega, g1, g40]
 have h1 : N[n.length + 2 + w.length + 1 + 1]? ≠ some 95 := by rw [show n.length + 2 + w.length + 1 + 1 = n.length + ((w.length + 3) + 1) by omega, g1, show L[w.length + 3]? = e[0]? from g4 1]; exact hu
 rw [show (e.length + 1) + (w.length + 2) = (e.length + (w.length + 2)) + 1 by omega, cuts_hit _ h0 h1 (by omega)]
 have := cuts_skip N e.length (w.length + 2) (n.length + 2 + w.length + 1 + 1) (fun j h1 h2 q => by
  obtain ⟨x, rfl⟩ : ∃ x, j = n.length + ((w.length + 2 + (x + 1)) + 1) := ⟨j - n.length - w.length - 4, by omega⟩
  rw [g1, g41] at q
  exact he (List.mem_of_getElem? q)) (by omega)
 rw [show e.length + (w.length + 2) = (w.length + 2) + e.length by omega, this]
 have hz : ∀ m, cutsFrom N m (n.length + 2 + w.length + 1 + 1 + e.length) = [] := fun m => by
  cases m with
  | zero => rfl
  | succ m => rw [cutsFrom, if_pos (by omega)]
 rw [hz, hwl, show n.length + 1 + (w.length + 2) = n.length + 2 + w.length + 1 by omega]
theorem wrapped_wrapW {w : Str} (h : w ≠ []) : wrapped (wrapW w) = some w := by
 have hl := List.length_pos_iff.2 h
 unfold wrapped wrapW
 rw [if_neg]
 ·simp
 ·rintro (x | x | x)
  ·simp at x; omega
  ·exact x rfl
  ·exact x (by rw [show (95 : UInt8) :: (w ++ [95]) = (95 :: w) ++ [95] from rfl, List.getLast?_concat])
theorem starts_not {s u : Str} (h : (95 : UInt8) ∉ s) (hu : (95 : UInt8) ∈ u) : startsL s u = false := by
 cases e : startsL s u with
 | false => rfl
 | true =>
  unfold startsL at e
  exact absurd ((List.isPrefixOf_iff_prefix.1 e).subset hu) h
theorem tag_none {w p : Str} (hw : Chars w) (hp : (95 : UInt8) ∈ p) : tagOk w p = false := by
 unfold tagOk
 rw [hw.low.lower]
 exact starts_not hw.under hp
/-- A page with a wrapper of no sort: its words. -/
theorem custom_words {site : SiteM} {dirs : List Str} {n w e : Str} (hd : ∀ d ∈ dirs, PlainW d) (hn : PlainW n) (hw : PlainW w) (he : PlainW e) (hc : amongL site.content e = true) (h1 : amongL site.languages n = false) (h2 : amongL site.disabled n = false) :
  wordsOf site kContent (folderL dirs ++ 47 :: (n ++ 46 :: (wrapW w ++ 46 :: e))) false = { component := kContent, path := folderL dirs ++ 47 :: (n ++ 46 :: (wrapW w ++ 46 :: e)), name := n ++ 46 :: (wrapW w ++ 46 :: e), nameEnd := n.length, ids := [e, wrapW w], unknown := [n], ext := e, custom := w, typ := 2 } := by
 have hlw : Low (wrapW w) := (hw.chars.low.append (low_one (by decide))).cons (by decide)
 have hlow : Low (n ++ 46 :: (wrapW w ++ 46 :: e)) := hn.chars.low.append ((hlw.append (he.chars.low.cons (by decide))).cons (by decide))
 have hns : (47 : UInt8) ∉ n ++ 46 :: (wrapW w ++ 46 :: e) := fun x => by
  rcases List.mem_append.1 x with x | x
  ·exact hn.chars.slash x
  ·rcases List.mem_cons.1 x with x | x
   ·exact absurd x (by decide)
   ·rcases List.mem_append.1 x with x | x
    ·rcases List.mem_cons.1 x with x | x
     ·exact absurd x (by decide)
     ·rcases List.mem_append.1 x with x | x
      ·exact hw.chars.slash x
      ·exact absurd x (by decide)
    ·rcases List.mem_cons.1 x with x | x
     ·exact absurd x (by decide)
     ·exact he.chars.slash x
 have hcut := cuts_wrapped hn.chars.dot hw.chars.under he.chars.dot (he.chars.not (by decide) 0)
 rw [built_words (plains_low hd) hlow (by simp) hns (folder_head _ _), readAll_two site kContent _ hcut, readStep_plain _ _ (-1) (wrapped_none hn.chars.head)]
 have s1 : readStep site (extR (read0 kContent (folderL dirs ++ 47 :: (n ++ 46 :: (wrapW w ++ 46 :: e))) (n ++ 46 :: (wrapW w ++ 46 :: e))) e ((n.length + 1 + (wrapW w).length : Nat) : Int)) (wrapW w) n.length = readCus (extR (read0 kContent (folderL dirs ++ 47 :: (n ++ 46 :: (wrapW w ++ 46 :: e))) (n ++ 46 :: (wrapW w ++ 46 :: e))) e ((n.length + 1 + (wrapW w).length : Nat) : Int)) (wrapW w) w n.length := by
  unfold readStep
  rw [wrapped_wrapW hw.ne]
  show ReadM.wrapper _ _ _ _ _ = _
  rw [wrapper_eq, if_neg (by unfold langHit; rw [tag_none hw.chars (by decide)]; simp)]
  rfl
 rw [s1, plain_unknown (-1) (by rw [h1, h2]; simp) rfl hn.bas]
 rw [wordsEnd_is site _ _ (ne := n.length) (lang := []) (fmt := []) (kind := []) (lay := []) (typ := 2) (mark_two two_len (by omega)) rfl (if_neg (by simp [readCus, extR, read0, ReadM.identify])) rfl rfl
  (typeOf_single (e := e) rfl (by show [e, wrapW w] ≠ []; simp) hc two_take hn.ne hn.idx (uindex_ne hn.chars))]
 rfl

end Go.Proofs.YtjkecadfakjanaaGreatDoor
