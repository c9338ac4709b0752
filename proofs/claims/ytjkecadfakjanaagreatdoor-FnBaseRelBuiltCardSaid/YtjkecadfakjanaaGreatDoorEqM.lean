/- The words of a path's last part, one after another: what the package's scan makes of them and what the reference makes of them tell the same. Plain Lean; no program here. Conditions: a site whose words are not empty; a last part of which something is said. -/
import Derived.Test.YtjkecadfakjanaaGreatDoorSimM
import Derived.Test.YtjkecadfakjanaaGreatDoorSpecD
set_option linter.unusedVariables false
set_option linter.unusedSimpArgs false
namespace Go.Proofs.YtjkecadfakjanaaGreatDoor

/-- A reading reads one more word (not the extension). -/
def readStep (site : SiteM) (r : ReadM) (word : Str) (at_ : Int) : ReadM :=
 match wrapped word with
 | some x => ReadM.wrapper site r word x at_
 | none => ReadM.plain site r word at_
/-- A word of a layout is no tag alone. -/
def TagOK (comp : Str) (w : Str) : Prop := comp = kLayouts -> isWrap w = true -> ∀ q ∈ tagsList, startsL (lowerL (innerOf w)) q = true -> (innerOf w).length ≠ q.length

theorem step_sim {site : SiteM} {comp : Str} {p : PathS} {r : ReadM} (hs : Words site) (h : Sim site comp p r) (id : Nat × Nat) (h2 : id.2 <= p.s.length) (ht : TagOK comp (sub p.s id))
  (numDots : Int) (isLast : Bool) (at_ : Int) (hpts : decide (1 < numDots) = decide (2 <= r.points)) (hlast : isLast = decide (at_ < 0)) :
  ∃ q b, PathS.word site comp p id numDots isLast = (q, b) /\ Sim site comp q (readStep site r (sub p.s id) at_) /\ q.s = p.s /\ q.nameHigh = p.nameHigh /\ Core p q /\
   (readStep site r (sub p.s id) at_).marks = (if b then r.marks ++ [at_] else r.marks) /\ (readStep site r (sub p.s id) at_).points = r.points := by
 unfold readStep
 rw [isWrap_wrapped]
 cases hw : isWrap (sub p.s id) with
 | true =>
  obtain ⟨q, a1, a2, a3, a4, a5, a6, a7⟩ := wrapper_sim hs h id h2 hw (fun hc => ht hc hw) numDots isLast at_
  exact ⟨q, true, a1, a2, a3, a4, a5, a6, a7⟩
 | false => exact plain_sim hs h id hw numDots isLast at_ hpts hlast

/-! ### The ends of names -/
theorem markEnd_snoc (l : List Int) (m : Int) (n : Nat) : markEnd (l ++ [m]) n = if 0 <= m /\ m < (markEnd l n : Int) then m.toNat else markEnd l n := by
 unfold markEnd
 rw [List.foldl_append]; rfl

/-- Where the words stand: the path, the name, the place of its first byte. -/
structure At (s name : Str) (n0 : Nat) : Prop extends Tail s name n0 where
 pos : 0 < n0
theorem At.sub {s name : Str} {n0 : Nat} (h : At s name n0) (a b : Nat) : sub s (n0 + a, n0 + b) = (name.drop a).take (b - a) := by
 have hd : s.drop n0 = name := by
  apply List.ext_getElem?
  intro j
  rw [List.getElem?_drop]; exact h.get j
 unfold Go.Proofs.YtjkecadfakjanaaGreatDoor.sub
 rw [<- hd, List.drop_drop]
 show (s.drop (n0 + a)).take (n0 + b - (n0 + a)) = _
 rw [show n0 + b - (n0 + a) = b - a by omega]

/-- The state between two words: the next one ends at place e of the name. -/
structure Mid (site : SiteM) (comp s name : Str) (n0 : Nat) (numDots : Int) (p : PathS) (ld : Nat) (r : ReadM) (e : Nat) : Prop where
 sim : Sim site comp p r
 ps : p.s = s
 hc : p.cHigh = -1
 ld : ld = n0 + e
 le : e <= name.length
 pts : decide (1 < numDots) = decide (2 <= r.points)
 nh : p.nameHigh = (n0 : Int) + markEnd r.marks name.length
 me : e <= markEnd r.marks name.length

theorem Sim.nh {site : SiteM} {comp : Str} {p : PathS} {r : ReadM} (h : Sim site comp p r) (x : Int) : Sim site comp { p with nameHigh := x } r :=
 ⟨h.cmp, h.lys, h.sho, h.ids, h.unk, h.ext, h.exn, h.lay, h.lng, h.lgs, h.fmt, h.knd, h.bas, h.cus, h.pfm, h.pkn, h.ply, h.dis⟩
theorem Sim.bounds {site : SiteM} {comp : Str} {p : PathS} {r : ReadM} (h : Sim site comp p r) (a b c : Int) : Sim site comp { p with cHigh := a, cLow := b, sHigh := c } r :=
 ⟨h.cmp, h.lys, h.sho, h.ids, h.unk, h.ext, h.exn, h.lay, h.lng, h.lgs, h.fmt, h.knd, h.bas, h.cus, h.pfm, h.pkn, h.ply, h.dis⟩
theorem Sim.known {site : SiteM} {comp : Str} {p : PathS} {r : ReadM} (h : Sim site comp p r) : p.known ≠ [] := fun e => by have := h.idsPos; rw [h.ids, e] at this; exact absurd this (by simp)

theorem mid_step {site : SiteM} {comp s name : Str} {n0 : Nat} {numDots : Int} {p : PathS} {ld : Nat} {r : ReadM} {e : Nat} (hs : Words site) (ha : At s name n0) (h : Mid site comp s name n0 numDots p ld r e) (c : Nat) (hc : c < e)
  (ht : TagOK comp ((name.drop (c + 1)).take (e - (c + 1)))) :
  Mid site comp s name n0 numDots (PathS.parseId site comp p (n0 + c) ld numDots false) (n0 + c) (readStep site r ((name.drop (c + 1)).take (e - (c + 1))) (c : Int)) c /\ Core p (PathS.parseId site comp p (n0 + c) ld numDots false) := by
 have hk := h.sim.known
 rw [parseId_open site comp p (n0 + c) ld numDots false h.hc, if_neg hk]
 have hw : sub p.s (n0 + c + 1, ld) = (name.drop (c + 1)).take (e - (c + 1)) := by rw [h.ps, h.ld]; exact ha.sub (c + 1) e
 have hle : ld <= p.s.length := by rw [h.ld, h.ps, ha.len]; have := h.le; omega
 obtain ⟨q, b, a1, a2, a3, a4, a5, a6, a7⟩ := step_sim hs h.sim (n0 + c + 1, ld) hle (by rw [hw]; exact ht) numDots false (c : Int) h.pts (by simp)
 rw [hw] at a2 a6 a7
 rw [a1]
 have hme := h.me
 have hle2 := h.le
 cases b with
 | true =>
  rw [finId_mid]
  have hm : markEnd (r.marks ++ [(c : Int)]) name.length = c := by rw [markEnd_snoc, if_pos ⟨by omega, by omega⟩]; rfl
  rw [if_pos rfl] at a6
  refine ⟨⟨a2.nh _, a3.trans h.ps, a5.2.2.2.2.1.trans h.hc, rfl, by omega, by rw [a7]; exact h.pts, ?_, ?_⟩, a5⟩
  ·show ((n0 + c : Nat) : Int) = _
   rw [a6, hm]; omega
  ·rw [a6, hm]; exact Nat.le_refl _
 | false =>
  rw [finId_no]
  rw [if_neg (by decide)] at a6
  refine ⟨⟨a2, a3.trans h.ps, a5.2.2.2.2.1.trans h.hc, rfl, by omega, by rw [a7]; exact h.pts, ?_, ?_⟩, a5⟩
  ·rw [a4, h.nh, a6]
  ·rw [a6]; omega

theorem last_step {site : SiteM} {comp s name : Str} {n0 : Nat} {numDots : Int} {p : PathS} {ld : Nat} {r : ReadM} {e : Nat} (hs : Words site) (ha : At s name n0) (h : Mid site comp s name n0 numDots p ld r e)
  (ht : TagOK comp ((name.drop 0).take (e - 0))) :
  Sim site comp (PathS.parseId site comp p (n0 - 1) ld numDots true) (readStep site r ((name.drop 0).take (e - 0)) (-1)) /\ Core p (PathS.parseId site comp p (n0 - 1) ld numDots true) /\
   (PathS.parseId site comp p (n0 - 1) ld numDots true).nameHigh = (n0 : Int) + markEnd (readStep site r ((name.drop 0).take (e - 0)) (-1)).marks name.length := by
 have hk := h.sim.known
 have hp := ha.pos
 rw [parseId_open site comp p (n0 - 1) ld numDots true h.hc, if_neg hk, show n0 - 1 + 1 = n0 + 0 by omega]
 have hw : sub p.s (n0 + 0, ld) = (name.drop 0).take (e - 0) := by rw [h.ps, h.ld]; exact ha.sub 0 e
 have hle : ld <= p.s.length := by rw [h.ld, h.ps, ha.len]; have := h.le; omega
 obtain ⟨q, b, a1, a2, a3, a4, a5, a6, a7⟩ := step_sim hs h.sim (n0 + 0, ld) hle (by rw [hw]; exact ht) numDots true (-1) h.pts (by decide)
 rw [hw] at a2 a6 a7
 rw [a1]
 have hq : ¬ q.nameHigh <= 0 := by rw [a4, h.nh]; omega
 have hf : finId (q, b) (n0 - 1) ld true = q := by
  cases b with
  | true =>
   show (if q.nameHigh <= 0 then _ else q) = q
   rw [if_neg hq]
  | false => rfl
 rw [hf]
 refine ⟨a2, a5, ?_⟩
 rw [a4, h.nh, a6]
 cases b with
 | true => rw [if_pos rfl, markEnd_snoc, if_neg (by omega)]
 | false => rfl

/-! ### The words one after another -/
def procDots (site : SiteM) (comp : Str) (numDots : Int) (n0 : Nat) : PathS -> Nat -> List Nat -> PathS × Nat
 | p, ld, [] => (p, ld)
 | p, ld, c :: L => procDots site comp numDots n0 (PathS.parseId site comp p (n0 + c) ld numDots false) (n0 + c) L

/-- Where the i-th word begins. -/
def fromAt (cuts : List Nat) (i : Nat) : Nat := if i = 0 then 0 else cuts.getD (i - 1) 0 + 1
theorem readWord_first (site : SiteM) (name : Str) (cuts : List Nat) (r : ReadM) (e : Nat) (h : 0 < cuts.length) : (readWord site name cuts r 0 e).1 = readStep site r ((name.drop 0).take (e - 0)) (-1) := by
 unfold readWord readStep
 dsimp only
 rw [if_neg (by omega)]
 rfl
theorem readWord_mid (site : SiteM) (name : Str) (cuts : List Nat) (r : ReadM) (i e : Nat) (h : i + 1 < cuts.length) :
  (readWord site name cuts r (i + 1) e) = (readStep site r ((name.drop (cuts.getD i 0 + 1)).take (e - (cuts.getD i 0 + 1))) (cuts.getD i 0 : Nat), cuts.getD i 0) := by
 unfold readWord readStep
 dsimp only
 rw [if_neg (by omega), if_neg (by omega), if_neg (by omega), Nat.add_sub_cancel, if_neg (by omega)]
 rfl

theorem chain_sim {site : SiteM} {comp s name : Str} {n0 : Nat} {numDots : Int} (hs : Words site) (ha : At s name n0) (ht : ∀ i, i < (cutPoints name).length -> TagOK comp (wordAt name (cutPoints name) i (fromAt (cutPoints name) i))) :
  ∀ (n : Nat) (p : PathS) (ld : Nat) (r : ReadM), n < (cutPoints name).length -> Mid site comp s name n0 numDots p ld r ((cutPoints name).getD n 0) ->
   let P := procDots site comp numDots n0 p ld ((cutPoints name).take n).reverse
   let q := PathS.parseId site comp P.1 (n0 - 1) P.2 numDots true
   let R := readDown site name (cutPoints name) n r ((cutPoints name).getD n 0)
   Sim site comp q R /\ Core p q /\ q.nameHigh = (n0 : Int) + markEnd R.marks name.length /\ 0 < P.2 /\ P.1.cHigh = -1
 | 0, p, ld, r, hn, h => by
  have hw := ht 0 hn
  unfold wordAt endAt fromAt at hw
  rw [if_pos hn, if_pos rfl] at hw
  obtain ⟨a1, a2, a3⟩ := last_step hs ha h hw
  refine ⟨?_, a2, ?_, ?_, h.hc⟩
  ·show Sim site comp _ (readWord site name (cutPoints name) r 0 _).1
   rw [readWord_first _ _ _ _ _ hn]; exact a1
  ·show _ = (n0 : Int) + markEnd (readWord site name (cutPoints name) r 0 _).1.marks name.length
   rw [readWord_first _ _ _ _ _ hn]; exact a3
  ·show 0 < ld
   rw [h.ld]; have := ha.pos; omega
 | i + 1, p, ld, r, hn, h => by
  have hw := ht (i + 1) hn
  unfold wordAt endAt fromAt at hw
  rw [if_pos hn, if_neg (by omega), Nat.add_sub_cancel] at hw
  have hi : i < (cutPoints name).length := by omega
  have hlt : (cutPoints name).getD i 0 < (cutPoints name).getD (i + 1) 0 := by
   have := cut_mono (name := name) (i := i) (j := i + 1) (by omega) hn
   simp only [List.getD_eq_getElem?_getD, List.getElem?_eq_getElem hi, List.getElem?_eq_getElem hn, Option.getD_some]
   exact this
  obtain ⟨a1, a2⟩ := mid_step hs ha h _ hlt hw
  have ih := chain_sim hs ha ht i _ _ _ hi a1
  have e1 : ((cutPoints name).take (i + 1)).reverse = (cutPoints name).getD i 0 :: ((cutPoints name).take i).reverse := by
   rw [List.take_succ_eq_append_getElem hi, List.reverse_append, List.getD_eq_getElem?_getD, List.getElem?_eq_getElem hi]; rfl
  have e2 : readDown site name (cutPoints name) (i + 1) r ((cutPoints name).getD (i + 1) 0) = readDown site name (cutPoints name) i (readStep site r ((name.drop ((cutPoints name).getD i 0 + 1)).take ((cutPoints name).getD (i + 1) 0 - ((cutPoints name).getD i 0 + 1))) ((cutPoints name).getD i 0 : Nat)) ((cutPoints name).getD i 0) := by
   show readDown site name (cutPoints name) i (readWord site name (cutPoints name) r (i + 1) _).1 (readWord site name (cutPoints name) r (i + 1) _).2 = _
   rw [readWord_mid _ _ _ _ _ _ hn]
  dsimp only
  rw [e1, e2]
  refine ⟨ih.1, ?_, ih.2.2⟩
  obtain ⟨b1, b2, b3, b4, b5, b6, b7⟩ := a2
  obtain ⟨c1, c2, c3, c4, c5, c6, c7⟩ := ih.2.1
  exact ⟨c1.trans b1, c2.trans b2, c3.trans b3, c4.trans b4, c5.trans b5, c6.trans b6, c7.trans b7⟩

end Go.Proofs.YtjkecadfakjanaaGreatDoor

namespace Go.Proofs.YtjkecadfakjanaaGreatDoor

theorem Core.trans {p q r : PathS} (h1 : Core p q) (h2 : Core q r) : Core p r := by
 obtain ⟨b1, b2, b3, b4, b5, b6, b7⟩ := h1
 obtain ⟨c1, c2, c3, c4, c5, c6, c7⟩ := h2
 exact ⟨c1.trans b1, c2.trans b2, c3.trans b3, c4.trans b4, c5.trans b5, c6.trans b6, c7.trans b7⟩

/-- What an applied prefix turns: one identifier more; of the rest nothing that is asked for below. -/
theorem apply_known (site : SiteM) (comp pre : Str) (p : PathS) (id : Nat × Nat) : ∀ q, PathS.applyPrefix site comp pre p id = some q -> q.known = p.known ++ [id] /\ q.typ = p.typ /\ q.lay = p.lay /\ Core p q := by
 intro q hq
 unfold PathS.applyPrefix at hq
 dsimp only at hq
 repeat' split at hq
 all_goals first
  | (cases hq; done)
  | (obtain rfl := Option.some.inj hq; exact ⟨rfl, rfl, rfl, rfl, rfl, rfl, rfl, rfl, rfl, rfl⟩)

theorem word_core (site : SiteM) (comp : Str) (p : PathS) (id : Nat × Nat) (numDots : Int) (isLast : Bool) : Core p (PathS.word site comp p id numDots isLast).1 := by
 unfold PathS.word
 dsimp only
 split
 ·split
  ·rename_i q hq
   split at hq
   ·exact (apply_known site comp _ p _ q hq).2.2.2
   ·cases hq
  ·exact ⟨rfl, rfl, rfl, rfl, rfl, rfl, rfl⟩
 ·repeat' split
  all_goals exact ⟨rfl, rfl, rfl, rfl, rfl, rfl, rfl⟩
theorem finId_core (q : PathS × Bool) (i lastDot : Nat) (isLast : Bool) : Core q.1 (finId q i lastDot isLast) := (finId_like q i lastDot isLast).1
theorem parseId_core (site : SiteM) (comp : Str) (p : PathS) (i lastDot : Nat) (numDots : Int) (isLast : Bool) : Core p (PathS.parseId site comp p i lastDot numDots isLast) := by
 by_cases h : p.cHigh = -1
 ·rw [parseId_open site comp p i lastDot numDots isLast h]
  exact (word_core site comp p _ numDots isLast).trans (finId_core _ i lastDot isLast)
 ·rw [parseId_shut site comp p i lastDot numDots isLast h]
  exact Core.refl p

/-! ### What a path keeps besides its words -/
structure Extra (n0 : Nat) (x0 : Nat × Nat) (p : PathS) : Prop where
 hd : p.known.head? = some x0
 lp : p.typ = 7 -> p.lay ≠ -1 -> n0 < (p.known.getD p.lay.toNat (0, 0)).1
 ly : p.lay = -1 \/ 1 <= p.lay /\ p.lay < (p.known.length : Int)
 la : p.lang ≠ -1 -> 2 <= p.known.length
 lg : p.langs ≠ [] -> 2 <= p.known.length

theorem Extra.pos {n0 : Nat} {x0 : Nat × Nat} {p : PathS} (h : Extra n0 x0 p) : 1 <= p.known.length := by
 have := h.hd
 cases hk : p.known with
 | nil => rw [hk] at this; cases this
 | cons a t => simp
theorem Extra.ne {n0 : Nat} {x0 : Nat × Nat} {p : PathS} (h : Extra n0 x0 p) : p.known ≠ [] := fun e => by have := h.pos; rw [e] at this; simp at this
theorem Extra.add {n0 : Nat} {x0 : Nat × Nat} {p q : PathS} {id : Nat × Nat} (h : Extra n0 x0 p) (e1 : q.known = p.known ++ [id]) (e2 : q.typ = p.typ) (e3 : q.lay = p.lay \/ q.lay = (p.known.length : Int) /\ (p.typ = 7 -> n0 < id.1)) : Extra n0 x0 q := by
 have hp := h.pos
 have hlen : q.known.length = p.known.length + 1 := by rw [e1]; simp
 refine ⟨?_, ?_, ?_, fun _ => by omega, fun _ => by omega⟩
 ·rw [e1]
  cases hk : p.known with
  | nil => exact absurd hk h.ne
  | cons a t => have := h.hd; rw [hk] at this; exact this
 ·intro h7 hl
  rw [e2] at h7
  rcases e3 with e3 | ⟨e3, e4⟩
  ·rw [e3] at hl |-
   have := h.lp h7 hl
   rcases h.ly with a | a
   ·exact absurd a hl
   ·rw [e1, List.getD_eq_getElem?_getD, List.getElem?_append_left (by omega), <- List.getD_eq_getElem?_getD]; exact this
  ·rw [e3, e1, Int.toNat_natCast, List.getD_eq_getElem?_getD]
   simp
   exact e4 h7
 ·rcases e3 with e3 | ⟨e3, _⟩
  ·rw [e3, hlen]
   rcases h.ly with a | a
   ·exact .inl a
   ·exact .inr ⟨a.1, by omega⟩
  ·rw [e3, hlen]; exact .inr ⟨by omega, by omega⟩

theorem word_extra (site : SiteM) (comp : Str) {n0 : Nat} {x0 : Nat × Nat} {p : PathS} (h : Extra n0 x0 p) (id : Nat × Nat) (numDots : Int) (isLast : Bool) (hid : isLast = false -> n0 < id.1) : Extra n0 x0 (PathS.word site comp p id numDots isLast).1 := by
 have hk := h.ne
 unfold PathS.word
 dsimp only
 split
 ·split
  ·rename_i q hq
   split at hq
   ·obtain ⟨a, b, c, _⟩ := apply_known site comp _ p _ q hq
    exact h.add a b (.inl c)
   ·cases hq
  ·exact h.add (id := id) rfl rfl (.inl rfl)
 ·split
  ·exact h.add (id := id) rfl rfl (.inl rfl)
  ·split
   ·exact h.add (id := id) rfl rfl (.inl rfl)
   ·split
    ·exact h.add (id := id) rfl rfl (.inl rfl)
    ·split
     ·exact h.add (id := id) rfl rfl (.inl rfl)
     ·obtain ⟨m, hm⟩ : ∃ m, m = (if p.typ = 7 then !isLast && (comp == kLayouts) else comp == kLayouts) := ⟨_, rfl⟩
      rw [<- hm]
      cases m with
      | true =>
       have h7 : p.typ = 7 -> n0 < id.1 := fun e => by
        rw [if_pos e] at hm
        have hm := hm.symm
        rw [Bool.and_eq_true, Bool.not_eq_true'] at hm
        exact hid hm.1
       rw [if_pos rfl]
       by_cases hl : p.lay = -1
       ·rw [if_pos hl]
        exact h.add (id := id) rfl rfl (.inr ⟨rfl, h7⟩)
       ·rw [if_neg hl]
        have hl2 : 1 <= p.lay /\ p.lay < (p.known.length : Int) := by
         rcases h.ly with a | a
         ·exact absurd a hl
         ·exact a
        refine ⟨?_, ?_, .inr ⟨hl2.1, by simpa using hl2.2⟩, fun e => by simpa using h.la e, fun e => by simpa using h.lg e⟩
        ·have := h.hd
         rw [<- this]
         cases hkk : p.known with
         | nil => exact absurd hkk hk
         | cons y t =>
          obtain ⟨m, hm⟩ : ∃ m, p.lay.toNat = m + 1 := ⟨p.lay.toNat - 1, by omega⟩
          show ((y :: t).set p.lay.toNat id).head? = _
          rw [hm]; rfl
        ·intro e _
         show n0 < ((p.known.set p.lay.toNat id).getD p.lay.toNat (0, 0)).1
         rw [List.getD_eq_getElem?_getD, List.getElem?_set_self (by omega)]
         exact h7 e
      | false =>
       rw [if_neg (by decide)]
       exact ⟨h.hd, h.lp, h.ly, h.la, h.lg⟩
theorem parseId_extra (site : SiteM) (comp : Str) {n0 : Nat} {x0 : Nat × Nat} {p : PathS} (h : Extra n0 x0 p) (hc : p.cHigh = -1) (i lastDot : Nat) (numDots : Int) (isLast : Bool) (hid : isLast = false -> n0 <= i) : Extra n0 x0 (PathS.parseId site comp p i lastDot numDots isLast) := by
 rw [parseId_open site comp p i lastDot numDots isLast hc]
 have hw := word_extra site comp h (i + 1, if p.known = [] then p.s.length else lastDot) numDots isLast (fun e => by have := hid e; show n0 < i + 1; omega)
 generalize PathS.word site comp p (i + 1, if p.known = [] then p.s.length else lastDot) numDots isLast = q at hw |-
 obtain ⟨⟨c1, c2, c3, c4, c5, c6, c7⟩, b2, b3, b4, b5, b6, b7, b8⟩ := finId_like q i lastDot isLast
 refine ⟨by rw [b2]; exact hw.hd, ?_, by rw [b7, b2]; exact hw.ly, by rw [b6, b2]; exact hw.la, by rw [b4, b2]; exact hw.lg⟩
 rw [c3, b7, b2]; exact hw.lp
theorem procDots_core (site : SiteM) (comp : Str) (numDots : Int) (n0 : Nat) : ∀ (L : List Nat) (p : PathS) (ld : Nat), Core p (procDots site comp numDots n0 p ld L).1
 | [], p, ld => Core.refl p
 | c :: L, p, ld => (parseId_core site comp p (n0 + c) ld numDots false).trans (procDots_core site comp numDots n0 L _ _)
theorem procDots_extra (site : SiteM) (comp : Str) (numDots : Int) {n0 : Nat} {x0 : Nat × Nat} : ∀ (L : List Nat) {p : PathS} (ld : Nat), Extra n0 x0 p -> p.cHigh = -1 -> Extra n0 x0 (procDots site comp numDots n0 p ld L).1
 | [], p, ld, h, _ => h
 | c :: L, p, ld, h, hc => by
  have hco := parseId_core site comp p (n0 + c) ld numDots false
  exact procDots_extra site comp numDots L _ (parseId_extra site comp h hc (n0 + c) ld numDots false (fun _ => Nat.le_add_right _ _)) (hco.2.2.2.2.1.trans hc)

/-! ### The places of the last part -/
theorem range0_succ (k : Nat) : List.range' 0 (k + 1) = List.range' 0 k ++ [k] := by rw [List.range'_concat]; simp
theorem scan_name (site : SiteM) (comp : Str) {s name : Str} {n0 : Nat} (numDots : Int) (skips : List Nat) (ht : Tail s name n0) : ∀ (k : Nat) (st : ScanM), st.p.s = s ->
  ScanM.down site comp skips numDots (n0 + k) st = ScanM.down site comp skips numDots n0 { st with p := (procDots site comp numDots n0 st.p st.lastDot ((List.range' 0 k).filter (isCut name n0 skips)).reverse).1, lastDot := (procDots site comp numDots n0 st.p st.lastDot ((List.range' 0 k).filter (isCut name n0 skips)).reverse).2 }
 | 0, st, _ => rfl
 | k + 1, st, hs => by
  show ScanM.down site comp skips numDots (n0 + k) (ScanM.step site comp skips numDots st (n0 + k)) = _
  have hg : st.p.s[n0 + k]? = name[k]? := by rw [hs]; exact ht.get k
  rw [range0_succ, List.filter_append]
  by_cases hd : name[k]? = some 46
  ·by_cases hk : skips.contains (n0 + k) = true
   ·have e1 : ScanM.step site comp skips numDots st (n0 + k) = st := by unfold ScanM.step; rw [hg, if_pos hd, if_pos hk]
    have e2 : [k].filter (isCut name n0 skips) = [] := by
     rw [List.filter_cons_of_neg]
     ·rfl
     ·unfold isCut; rw [hk]; simp
    rw [e1, e2, List.append_nil]
    exact scan_name site comp numDots skips ht k st hs
   ·have e1 : ScanM.step site comp skips numDots st (n0 + k) = { st with p := PathS.parseId site comp st.p (n0 + k) st.lastDot numDots false, lastDot := n0 + k } := by unfold ScanM.step; rw [hg, if_pos hd, if_neg hk]
    have e2 : [k].filter (isCut name n0 skips) = [k] := by
     rw [List.filter_cons_of_pos]
     ·rfl
     ·unfold isCut; rw [hd]; simp at hk |-; exact hk
    rw [e1, e2, List.reverse_append]
    exact scan_name site comp numDots skips ht k _ ((parseId_core site comp st.p (n0 + k) st.lastDot numDots false).1.trans hs)
  ·have e1 : ScanM.step site comp skips numDots st (n0 + k) = st := by unfold ScanM.step; rw [hg, if_neg hd, if_neg (ht.one k)]
   have e2 : [k].filter (isCut name n0 skips) = [] := by
    rw [List.filter_cons_of_neg]
    ·rfl
    ·unfold isCut
     have : (name[k]? == some 46) = false := by simpa using hd
     rw [this]; simp
   rw [e1, e2, List.append_nil]
   exact scan_name site comp numDots skips ht k st hs

/-- Two paths alike but for the bounds of folders. -/
def BoundsOnly (p q : PathS) : Prop := q = { p with cLow := q.cLow, sHigh := q.sHigh }
theorem step_shut (site : SiteM) (comp : Str) (skips : List Nat) (numDots : Int) (st : ScanM) (i : Nat) (h : st.p.cHigh ≠ -1) : BoundsOnly st.p (ScanM.step site comp skips numDots st i).p /\ (ScanM.step site comp skips numDots st i).p.cHigh ≠ -1 := by
 unfold ScanM.step
 split
 ·split
  ·exact ⟨rfl, h⟩
  ·rw [parseId_shut site comp st.p i st.lastDot numDots false h]; exact ⟨rfl, h⟩
 ·split
  ·dsimp only
   repeat' split
   all_goals exact ⟨rfl, h⟩
  ·exact ⟨rfl, h⟩
theorem BoundsOnly.trans {p q r : PathS} (h1 : BoundsOnly p q) (h2 : BoundsOnly q r) : BoundsOnly p r := by
 unfold BoundsOnly at *
 rw [h2, h1]
theorem down_shut (site : SiteM) (comp : Str) (skips : List Nat) (numDots : Int) : ∀ (k : Nat) (st : ScanM), st.p.cHigh ≠ -1 -> BoundsOnly st.p (ScanM.down site comp skips numDots k st).p
 | 0, st, _ => rfl
 | k + 1, st, h => by
  obtain ⟨a, b⟩ := step_shut site comp skips numDots st k h
  exact a.trans (down_shut site comp skips numDots k _ b)

/-- The last part of a text that begins with a slash. -/
theorem slashB_find (s : Str) : ∀ n, n <= s.length -> (slashB s n = -1 /\ NoSl s 0 n) \/ ∃ h : Nat, slashB s n = (h : Int) /\ h < n /\ s[h]? = some 47 /\ NoSl s (h + 1) n
 | 0, _ => .inl ⟨rfl, fun j a b => by omega⟩
 | n + 1, hn => by
  unfold slashB
  by_cases e : s[n]? = some 47
  ·rw [if_pos e]
   exact .inr ⟨n, rfl, by omega, e, fun j a b => by omega⟩
  ·rw [if_neg e]
   have ext : ∀ a, NoSl s a n -> NoSl s a (n + 1) := fun a h j h1 h2 => by
    by_cases q : j = n
    ·subst q; exact e
    ·exact h j h1 (by omega)
   rcases slashB_find s n (by omega) with ⟨a, b⟩ | ⟨h, a, b, c, d⟩
   ·exact .inl ⟨a, ext _ b⟩
   ·exact .inr ⟨h, a, by omega, c, ext _ d⟩
theorem last_slash {s : Str} (hs : s.head? = some 47) : ∃ h : Nat, slashB s s.length = (h : Int) /\ h < s.length /\ s[h]? = some 47 /\ NoSl s (h + 1) s.length /\ lastPart s = s.drop (h + 1) := by
 rcases slashB_find s s.length (Nat.le_refl _) with ⟨a, b⟩ | ⟨h, a, b, c, d⟩
 ·exfalso
  have hp : 0 < s.length := by cases s with
   | nil => cases hs
   | cons c t => simp
  exact b 0 (Nat.le_refl _) hp (by rw [<- List.head?_eq_getElem?]; exact hs)
 ·refine ⟨h, a, b, c, d, ?_⟩
  unfold lastPart
  rw [a]; rfl
theorem at_of {s : Str} {h : Nat} (hl : h < s.length) (hn : NoSl s (h + 1) s.length) : At s (s.drop (h + 1)) (h + 1) := by
 refine ⟨⟨?_, ?_, ?_⟩, by omega⟩
 ·rw [List.length_drop]; omega
 ·intro j; rw [List.getElem?_drop]
 ·intro j
  rw [List.getElem?_drop]
  by_cases hj : h + 1 + j < s.length
  ·exact hn _ (by omega) hj
  ·rw [List.getElem?_eq_none (by omega)]; simp

/-- The points that the scan stops at are the reference's, and as many. -/
theorem scan_cuts {s name : Str} {h : Nat} (ha : At s name (h + 1)) (hb : slashB s s.length = (h : Int)) (hc : s[h]? = some 47) :
  (List.range' 0 name.length).filter (isCut name (h + 1) (skipsOf s)) = cutPoints name /\ ((countDots name : Int) - (skipsOf s).length) = ((cutPoints name).length : Int) := by
 have hl := ha.len
 have hsk : skipsOf s = skipsFrom s (s.length - 1) (h + 1) := by
  unfold skipsOf
  rw [hb, if_neg (by omega), Int.toNat_natCast]
  obtain ⟨m, hm⟩ : ∃ m, s.length = m + 1 := ⟨s.length - 1, by omega⟩
  rw [hm, Nat.add_sub_cancel]
  show (if s.length <= h then _ else _) = _
  rw [if_neg (by omega), if_neg (fun e => by rw [hc] at e; exact absurd e.2.1 (by decide))]
 rw [hsk]
 constructor
 ·have := cuts_filter ha.toTail name.length (s.length - 1) 0 (by omega) (by omega) [] (fun x hx => by simp at hx)
  rw [List.nil_append, Nat.sub_zero, Nat.add_zero] at this
  exact this.symm
 ·have h1 := cuts_count ha.toTail name.length (s.length - 1) 0 (by omega) (by omega)
  have h2 := dotsUp_count name name.length (Nat.le_refl _)
  rw [List.take_length] at h2
  rw [Nat.add_zero, Nat.sub_zero, h2] at h1
  unfold countDots cutPoints
  omega

/-! ### The last word: the extension -/
theorem tagWord_none {x : Str} : ∀ (l : List Str) (T : List Str), (tagWord x l T).isSome = true -> ∀ q ∈ l, startsL (lowerL x) q = true -> x.length ≠ q.length
 | [], _, _, q, hq, _ => by simp at hq
 | t :: r, T, h, q, hq, hs => by
  unfold tagWord at h
  rcases List.mem_cons.1 hq with rfl | hq
  ·rw [if_pos hs] at h
   intro e
   rw [if_pos (.inr e)] at h
   cases h
  ·split at h
   ·split at h
    ·cases h
    ·exact tagWord_none r _ h q hq hs
   ·exact tagWord_none r _ h q hq hs
theorem layout_tags {name : Str} (T0 : List Str) : ∀ (m i : Nat) (T : List Str), i + m = (cutPoints name).length -> layoutWords name (cutPoints name) m (fromAt (cutPoints name) i) T = true ->
  ∀ j, i <= j -> j <= (cutPoints name).length -> TagOK kLayouts (wordAt name (cutPoints name) j (fromAt (cutPoints name) j)) /\ wordAt name (cutPoints name) j (fromAt (cutPoints name) j) ≠ []
 | m, i, T, hm, h, j, hij, hj => by
  have hi : i <= (cutPoints name).length := by omega
  have e : m = (cutPoints name).length - i := by omega
  rw [e, layoutWords_at hi] at h
  by_cases hw : wordAt name (cutPoints name) i (fromAt (cutPoints name) i) = []
  ·rw [if_pos hw] at h; cases h
  ·rw [if_neg hw] at h
   cases ht : tagsOf (wordAt name (cutPoints name) i (fromAt (cutPoints name) i)) T with
   | none => rw [ht] at h; cases h
   | some T' =>
    rw [ht] at h
    by_cases hji : j = i
    ·subst hji
     refine ⟨fun _ hwr q hq hs => ?_, hw⟩
     unfold tagsOf wrapOk wrapStr at ht
     rw [isWrap_wrapped, hwr] at ht
     have ht : tagWord (innerOf (wordAt name (cutPoints name) j (fromAt (cutPoints name) j))) tagsList T = some T' := ht
     exact tagWord_none tagsList T (by rw [ht]; rfl) q hq hs
    ·have hlt : i < (cutPoints name).length := by omega
     have h : (if i < (cutPoints name).length then layoutWords name (cutPoints name) ((cutPoints name).length - (i + 1)) (endAt name (cutPoints name) i + 1) T' else true) = true := h
     rw [if_pos hlt] at h
     have h : layoutWords name (cutPoints name) ((cutPoints name).length - (i + 1)) (endAt name (cutPoints name) i + 1) T' = true := h
     have e2 : endAt name (cutPoints name) i + 1 = fromAt (cutPoints name) (i + 1) := by
      unfold endAt fromAt
      rw [if_pos hlt, if_neg (by omega), Nat.add_sub_cancel]
     rw [e2] at h
     exact layout_tags T0 ((cutPoints name).length - (i + 1)) (i + 1) T' (by omega) h j (by omega) hj
 termination_by m => m
 decreasing_by omega

/-- What wordsKnown says of a last part with a point. -/
structure NameOK (comp name : Str) : Prop where
 last : isWrap (name.drop ((cutPoints name).getD ((cutPoints name).length - 1) 0 + 1)) = false
 first : 0 < (cutPoints name).getD 0 0
 ext : (cutPoints name).getD ((cutPoints name).length - 1) 0 + 1 < name.length
 tag : ∀ i, i <= (cutPoints name).length -> TagOK comp (wordAt name (cutPoints name) i (fromAt (cutPoints name) i))
theorem name_ok {comp name : Str} (hc : cutPoints name ≠ []) (h : wordsKnown comp name = true) : NameOK comp name := by
 have hl : 0 < (cutPoints name).length := List.length_pos_iff.2 hc
 have eL : (cutPoints name).getLastD 0 = (cutPoints name).getD ((cutPoints name).length - 1) 0 := by
  rw [List.getLastD_eq_getLast?, List.getLast?_eq_getElem?, List.getD_eq_getElem?_getD]
 have eH : (cutPoints name).headD 0 = (cutPoints name).getD 0 0 := by
  rw [List.headD_eq_head?_getD, List.head?_eq_getElem?, List.getD_eq_getElem?_getD]
 have hlt : (cutPoints name).getD ((cutPoints name).length - 1) 0 < name.length := by
  have hx : (cutPoints name).length - 1 < (cutPoints name).length := by omega
  have := cut_lt hx
  rw [List.getD_eq_getElem?_getD, List.getElem?_eq_getElem hx]
  exact this
 unfold wordsKnown at h
 dsimp only at h
 rw [if_neg hc, eL, eH] at h
 split at h
 ·cases h
 ·rename_i hn
  have n1 : ¬ (wrapped (name.drop ((cutPoints name).getD ((cutPoints name).length - 1) 0 + 1))).isSome = true := fun e => hn (.inl e)
  have n2 : (cutPoints name).getD 0 0 ≠ 0 := fun e => hn (.inr (.inl e))
  have n3 : (cutPoints name).getD ((cutPoints name).length - 1) 0 + 1 ≠ name.length := fun e => hn (.inr (.inr e))
  refine ⟨?_, by omega, by omega, ?_⟩
  ·rw [isWrap_wrapped] at n1
   cases hw : isWrap (name.drop ((cutPoints name).getD ((cutPoints name).length - 1) 0 + 1)) with
   | false => rfl
   | true => rw [hw] at n1; exact absurd rfl n1
  ·intro i hi hcomp
   split at h
   ·have := layout_tags (name := name) [] (cutPoints name).length 0 [] (by omega) h i (by omega) hi
    exact this.1 rfl
   ·rename_i hne; exact absurd hcomp hne

theorem cutsFrom_dot (s : Str) : ∀ (n i : Nat) {x : Nat}, x ∈ cutsFrom s n i -> s[x]? = some 46
 | 0, i, x, h => by simp [cutsFrom] at h
 | n + 1, i, x, h => by
  unfold cutsFrom at h
  split at h
  ·simp at h
  ·split at h
   ·exact cutsFrom_dot s n (i + 1) h
   ·rename_i hd
    have hd : s[i]? = some 46 := by simpa using hd
    split at h
    ·rcases List.mem_cons.1 h with rfl | h
     ·exact hd
     ·exact cutsFrom_dot s n (i + 1) h
    ·split at h
     ·rename_i k _
      rcases List.mem_cons.1 h with rfl | h
      ·exact hd
      ·exact cutsFrom_dot s n (k + 1) h
     ·rcases List.mem_cons.1 h with rfl | h
      ·exact hd
      ·exact cutsFrom_dot s n (i + 1) h
theorem cuts_dot {name : Str} {x : Nat} (h : x ∈ cutPoints name) : name[x]? = some 46 := cutsFrom_dot name _ _ h

/-! ### The marks -/
def PosMarks (l : List Int) : Prop := ∀ m ∈ l, m < 0 \/ 0 < m
theorem posMarks_snoc {l : List Int} {m : Int} (h : PosMarks l) (hm : m < 0 \/ 0 < m) : PosMarks (l ++ [m]) := by
 intro x hx
 rw [List.mem_append, List.mem_singleton] at hx
 rcases hx with hx | rfl
 ·exact h x hx
 ·exact hm
theorem markEnd_pos : ∀ (l : List Int) (n : Nat), PosMarks l -> 0 < n -> 0 < markEnd l n
 | [], n, _, hn => hn
 | m :: l, n, h, hn => by
  unfold markEnd
  rw [List.foldl_cons]
  have h2 : PosMarks l := fun x hx => h x (List.mem_cons_of_mem _ hx)
  have hm := h m List.mem_cons_self
  split
  ·exact markEnd_pos l m.toNat h2 (by omega)
  ·exact markEnd_pos l n h2 hn
theorem readStep_marks (site : SiteM) (r : ReadM) (word : Str) (at_ : Int) : (readStep site r word at_).marks = r.marks \/ (readStep site r word at_).marks = r.marks ++ [at_] := by
 unfold readStep
 split
 ·unfold ReadM.wrapper
  dsimp only
  repeat' split
  all_goals exact .inr rfl
 ·unfold ReadM.plain
  dsimp only
  repeat' split
  all_goals first | exact .inr rfl | exact .inl rfl
theorem readWord_marks (site : SiteM) (name : Str) (r : ReadM) (i e : Nat) (hi : i <= (cutPoints name).length) (h0 : 0 < (cutPoints name).getD 0 0) (h : PosMarks r.marks) : PosMarks (readWord site name (cutPoints name) r i e).1.marks := by
 have hat : (if i = 0 then (-1 : Int) else ((cutPoints name).getD (i - 1) 0 : Nat)) < 0 \/ 0 < (if i = 0 then (-1 : Int) else ((cutPoints name).getD (i - 1) 0 : Nat)) := by
  by_cases hz : i = 0
  ·rw [if_pos hz]; exact .inl (by decide)
  ·rw [if_neg hz]
   right
   have h1 : i - 1 < (cutPoints name).length := by omega
   by_cases hz2 : i - 1 = 0
   ·rw [hz2]; omega
   ·have := cut_mono (name := name) (i := 0) (j := i - 1) (by omega) h1
    rw [List.getD_eq_getElem?_getD, List.getElem?_eq_getElem h1]
    show (0 : Int) < ((cutPoints name)[i - 1] : Nat)
    omega
 unfold readWord
 dsimp only
 split
 ·exact posMarks_snoc h hat
 ·rcases readStep_marks site r ((name.drop (if i = 0 then 0 else (cutPoints name).getD (i - 1) 0 + 1)).take (e - (if i = 0 then 0 else (cutPoints name).getD (i - 1) 0 + 1))) (if i = 0 then (-1 : Int) else ((cutPoints name).getD (i - 1) 0 : Nat)) with q | q
  ·have q2 : PosMarks (readStep site r ((name.drop (if i = 0 then 0 else (cutPoints name).getD (i - 1) 0 + 1)).take (e - (if i = 0 then 0 else (cutPoints name).getD (i - 1) 0 + 1))) (if i = 0 then (-1 : Int) else ((cutPoints name).getD (i - 1) 0 : Nat))).marks := by rw [q]; exact h
   exact q2
  ·have q2 : PosMarks (readStep site r ((name.drop (if i = 0 then 0 else (cutPoints name).getD (i - 1) 0 + 1)).take (e - (if i = 0 then 0 else (cutPoints name).getD (i - 1) 0 + 1))) (if i = 0 then (-1 : Int) else ((cutPoints name).getD (i - 1) 0 : Nat))).marks := by rw [q]; exact posMarks_snoc h hat
   exact q2
theorem readDown_marks (site : SiteM) (name : Str) (h0 : 0 < (cutPoints name).getD 0 0) : ∀ (n : Nat) (r : ReadM) (e : Nat), n <= (cutPoints name).length -> PosMarks r.marks -> PosMarks (readDown site name (cutPoints name) n r e).marks
 | 0, r, e, hn, h => readWord_marks site name r 0 e hn h0 h
 | n + 1, r, e, hn, h => readDown_marks site name h0 n _ _ (by omega) (readWord_marks site name r (n + 1) e hn h0 h)

/-- The reading at its beginning. -/
def read0 (comp path name : Str) : ReadM := { w := { component := comp, path := path, name := name, nameEnd := name.length }, layouts := comp == kLayouts, shortcode := holdsL path kShort, points := (cutPoints name).length }
def readAll (site : SiteM) (comp path name : Str) : ReadM :=
 if cutPoints name = [] then read0 comp path name else readDown site name (cutPoints name) (cutPoints name).length (read0 comp path name) name.length

theorem mark_pos {site : SiteM} {comp path name : Str} (h : cutPoints name ≠ []) (ok : NameOK comp name) : 0 < markEnd (readAll site comp path name).marks name.length := by
 unfold readAll
 rw [if_neg h]
 refine markEnd_pos _ _ (readDown_marks site name ok.first _ _ _ (Nat.le_refl _) (fun m hm => ?_)) (by have := ok.ext; omega)
 cases hm
theorem readDown_ext (site : SiteM) (comp path name : Str) (h : cutPoints name ≠ []) :
  readDown site name (cutPoints name) (cutPoints name).length (read0 comp path name) name.length =
   (let c := (cutPoints name).getD ((cutPoints name).length - 1) 0
     let r1 := (read0 comp path name).identify (name.drop (c + 1)) (c : Nat)
     readDown site name (cutPoints name) ((cutPoints name).length - 1) { r1 with w := { r1.w with ext := name.drop (c + 1) } } c) := by
 obtain ⟨m, hm⟩ : ∃ m, (cutPoints name).length = m + 1 := ⟨(cutPoints name).length - 1, by have := List.length_pos_iff.2 h; omega⟩
 have e : (name.drop ((cutPoints name).getD m 0 + 1)).take (name.length - ((cutPoints name).getD m 0 + 1)) = name.drop ((cutPoints name).getD m 0 + 1) := by
  rw [List.take_of_length_le]
  rw [List.length_drop]; exact Nat.le_refl _
 rw [hm, Nat.add_sub_cancel]
 show readDown site name (cutPoints name) m (readWord site name (cutPoints name) (read0 comp path name) (m + 1) name.length).1 (readWord site name (cutPoints name) (read0 comp path name) (m + 1) name.length).2 = _
 have hr : readWord site name (cutPoints name) (read0 comp path name) (m + 1) name.length = (let r1 := (read0 comp path name).identify (name.drop ((cutPoints name).getD m 0 + 1)) ((cutPoints name).getD m 0 : Nat); ({ r1 with w := { r1.w with ext := name.drop ((cutPoints name).getD m 0 + 1) } }, (cutPoints name).getD m 0)) := by
  unfold readWord
  dsimp only
  have z : (m + 1 = 0) = False := by simp
  simp only [z, if_false, Nat.add_sub_cancel]
  rw [if_pos hm.symm, e]
 rw [hr]

/-! ### The whole scan -/
structure Read (site : SiteM) (comp s name : Str) (n0 : Nat) (p : PathS) : Prop where
 none : cutPoints name = [] -> p = { startP comp s with cHigh := p.cHigh, cLow := p.cLow, sHigh := p.sHigh }
 some : cutPoints name ≠ [] -> Sim site comp p (readAll site comp s name) /\ p.nameHigh = (n0 : Int) + markEnd (readAll site comp s name).marks name.length /\
  Extra n0 (n0 + (cutPoints name).getD ((cutPoints name).length - 1) 0 + 1, s.length) p
 hc : p.cHigh = (n0 : Int)
 core : p.s = s /\ p.comp = comp /\ p.trim = false /\ p.typ = (if holdsL s kShort then 7 else 0)

theorem Read.bounds {site : SiteM} {comp s name : Str} {n0 : Nat} {p q : PathS} (h : Read site comp s name n0 p) (hb : BoundsOnly p q) : Read site comp s name n0 q := by
 unfold BoundsOnly at hb
 have e : q = { p with cHigh := p.cHigh, cLow := q.cLow, sHigh := q.sHigh } := hb
 refine ⟨fun hn => ?_, fun hn => ?_, ?_, ?_⟩
 ·have := h.none hn
  rw [hb, this]
 ·obtain ⟨a, b, c⟩ := h.some hn
  refine ⟨?_, ?_, ?_⟩
  ·rw [e]; exact a.bounds _ _ _
  ·rw [e]; exact b
  ·rw [e]; exact ⟨c.hd, c.lp, c.ly, c.la, c.lg⟩
 ·rw [e]; exact h.hc
 ·rw [e]; exact h.core

theorem scan_read (site : SiteM) (comp s : Str) (hs : Words site) (hh : s.head? = Option.some 47) (hk : wordsKnown comp (lastPart s) = true) :
  ∃ h : Nat, slashB s s.length = (h : Int) /\ h < s.length /\ s[h]? = Option.some 47 /\ NoSl s (h + 1) s.length /\ lastPart s = s.drop (h + 1) /\
   Read site comp s (lastPart s) (h + 1) (ScanM.down site comp (skipsOf s) ((countDots (lastPart s) : Int) - (skipsOf s).length) s.length { p := startP comp s }).p := by
 obtain ⟨h, hb, hlt, hc, hn, hlp⟩ := last_slash hh
 refine ⟨h, hb, hlt, hc, hn, hlp, ?_⟩
 have ha : At s (lastPart s) (h + 1) := by rw [hlp]; exact at_of hlt hn
 obtain ⟨hcut, hnum⟩ := scan_cuts ha hb hc
 generalize lastPart s = name at *
 rw [hnum]
 have hlen := ha.len
 have e1 := scan_name site comp ((cutPoints name).length : Int) (skipsOf s) ha.toTail name.length { p := startP comp s } rfl
 rw [<- hlen, hcut] at e1
 rw [e1]
 show Read site comp s name (h + 1) (ScanM.down site comp (skipsOf s) ((cutPoints name).length : Int) (h + 1) _).p
 -- the slash ahead of the last part
 have slash : ∀ (st : ScanM), st.p.s = s -> st.p.cHigh = -1 -> Read site comp s name (h + 1) ({ (if 0 < st.lastDot then PathS.parseId site comp st.p h st.lastDot ((cutPoints name).length : Int) true else st.p) with cHigh := ((h : Nat) : Int) + 1 } : PathS) ->
   Read site comp s name (h + 1) (ScanM.down site comp (skipsOf s) ((cutPoints name).length : Int) (h + 1) st).p := by
  intro st h1 h2 h3
  show Read site comp s name (h + 1) (ScanM.down site comp (skipsOf s) ((cutPoints name).length : Int) h (ScanM.step site comp (skipsOf s) ((cutPoints name).length : Int) st h)).p
  have e2 : ScanM.step site comp (skipsOf s) ((cutPoints name).length : Int) st h = { st with slashes := st.slashes + 1, p := (if 0 < h then { ({ (if 0 < st.lastDot then PathS.parseId site comp st.p h st.lastDot ((cutPoints name).length : Int) true else st.p) with cHigh := ((h : Nat) : Int) + 1 } : PathS) with sHigh := ((h : Nat) : Int) } else { (if 0 < st.lastDot then PathS.parseId site comp st.p h st.lastDot ((cutPoints name).length : Int) true else st.p) with cHigh := ((h : Nat) : Int) + 1 }) } := by
   unfold ScanM.step
   rw [h1, if_neg (by rw [hc]; decide), if_pos hc, if_pos h2]
  rw [e2]
  have h4 : Read site comp s name (h + 1) (if 0 < h then { ({ (if 0 < st.lastDot then PathS.parseId site comp st.p h st.lastDot ((cutPoints name).length : Int) true else st.p) with cHigh := ((h : Nat) : Int) + 1 } : PathS) with sHigh := ((h : Nat) : Int) } else { (if 0 < st.lastDot then PathS.parseId site comp st.p h st.lastDot ((cutPoints name).length : Int) true else st.p) with cHigh := ((h : Nat) : Int) + 1 }) := by
   split
   ·exact h3.bounds rfl
   ·exact h3
  exact h4.bounds (down_shut site comp (skipsOf s) ((cutPoints name).length : Int) h _ (by rw [h4.hc]; omega))
 by_cases hnil : cutPoints name = []
 ·-- no point
  rw [hnil]
  rw [hnil] at slash
  refine slash _ rfl rfl ?_
  rw [if_neg (by show ¬ 0 < 0; omega)]
  exact ⟨fun _ => rfl, fun e => absurd hnil e, by show ((h : Nat) : Int) + 1 = ((h + 1 : Nat) : Int); omega, rfl, rfl, rfl, rfl⟩
 ·have hok := name_ok hnil hk
  have hpos : 0 < (cutPoints name).length := List.length_pos_iff.2 hnil
  obtain ⟨c, hcc⟩ : ∃ c, c = (cutPoints name).getD ((cutPoints name).length - 1) 0 := ⟨_, rfl⟩
  have hx : (cutPoints name).length - 1 < (cutPoints name).length := by omega
  have hrev : (cutPoints name).reverse = c :: ((cutPoints name).take ((cutPoints name).length - 1)).reverse := by
   have : cutPoints name = (cutPoints name).take ((cutPoints name).length - 1) ++ [c] := by
    rw [hcc, List.getD_eq_getElem?_getD, List.getElem?_eq_getElem hx, Option.getD_some, <- List.take_succ_eq_append_getElem hx, show (cutPoints name).length - 1 + 1 = (cutPoints name).length by omega, List.take_length]
   have h2 := congrArg List.reverse this
   rw [List.reverse_append] at h2
   exact h2
  rw [hrev]
  -- the extension
  have hw : sub s (h + 1 + c + 1, s.length) = name.drop (c + 1) := by
   have := ha.sub (c + 1) name.length
   rw [List.take_of_length_le (by rw [List.length_drop]; exact Nat.le_refl _)] at this
   rw [hlen]; exact this
  have hl := hok.last
  have he := hok.ext
  rw [<- hcc] at hl he
  obtain ⟨P0, hP0⟩ : ∃ q, q = PathS.parseId site comp (startP comp s) (h + 1 + c) 0 ((cutPoints name).length : Int) false := ⟨_, rfl⟩
  have hP : P0 = { startP comp s with known := [(h + 1 + c + 1, s.length)], fmt := (if (comp == kLayouts) && isFormat site (name.drop (c + 1)) [] then 0 else -1), nameHigh := ((h + 1 + c : Nat) : Int) } := by
   rw [hP0, parseId_open site comp _ _ _ _ _ rfl, if_pos (show (startP comp s).known = [] from rfl)]
   have hword : PathS.word site comp (startP comp s) (h + 1 + c + 1, (startP comp s).s.length) ((cutPoints name).length : Int) false = ({ startP comp s with known := [(h + 1 + c + 1, s.length)], fmt := (if (comp == kLayouts) && isFormat site (name.drop (c + 1)) [] then 0 else -1) }, true) := by
    unfold PathS.word
    dsimp only
    rw [show sub (startP comp s).s (h + 1 + c + 1, (startP comp s).s.length) = name.drop (c + 1) from hw]
    rw [hl]
    rw [if_neg (by decide), if_pos (show (startP comp s).known = [] from rfl)]
    rfl
   rw [hword]
   exact finId_mid _ _ _
  obtain ⟨r1, hr1⟩ : ∃ r : ReadM, r = (let r1 := (read0 comp s name).identify (name.drop (c + 1)) (c : Nat); { r1 with w := { r1.w with ext := name.drop (c + 1) } }) := ⟨_, rfl⟩
  have hall : readAll site comp s name = readDown site name (cutPoints name) ((cutPoints name).length - 1) r1 ((cutPoints name).getD ((cutPoints name).length - 1) 0) := by
   unfold readAll
   rw [if_neg hnil, readDown_ext site comp s name hnil]
   dsimp only
   rw [<- hcc, hr1]
  have hext : name.drop (c + 1) ≠ [] := fun e => by
   have := congrArg List.length e
   rw [List.length_drop] at this
   simp at this; omega
  have hsub : ([(h + 1 + c + 1, s.length)] : List (Nat × Nat)).map (sub s) = [name.drop (c + 1)] := by rw [List.map_singleton, hw]
  have hsim : Sim site comp P0 r1 := by
   rw [hP, hr1]
   refine ⟨rfl, rfl, ?_, hsub.symm, rfl, rfl, hext, ⟨rfl, .inl ⟨rfl, rfl⟩⟩, ⟨Fld.none, rfl⟩, .nil, .inl ⟨rfl, rfl⟩, ⟨Fld.none, rfl⟩, ⟨rfl, by show (-1 : Int) <= -1; omega⟩, ⟨[], Fld.none, rfl⟩, Fld.none, Fld.none, Fld.none, rfl⟩
   show holdsL s kShort = decide ((if holdsL s kShort then (7 : Int) else 0) = 7)
   cases holdsL s kShort <;> rfl
  have hex : Extra (h + 1) (h + 1 + c + 1, s.length) P0 := by
   rw [hP]
   exact ⟨rfl, fun _ e => absurd rfl e, .inl rfl, fun e => absurd rfl e, fun e => absurd rfl e⟩
  have hcn : c < name.length := by omega
  have hmark : markEnd [((c : Nat) : Int)] name.length = c := by
   show (if 0 <= ((c : Nat) : Int) /\ ((c : Nat) : Int) < ((name.length : Nat) : Int) then ((c : Nat) : Int).toNat else name.length) = c
   rw [if_pos ⟨by omega, by omega⟩]; rfl
  have hmid : Mid site comp s name (h + 1) ((cutPoints name).length : Int) P0 (h + 1 + c) r1 ((cutPoints name).getD ((cutPoints name).length - 1) 0) := by
   rw [<- hcc]
   refine ⟨hsim, by rw [hP]; rfl, by rw [hP]; rfl, rfl, by omega, ?_, ?_, ?_⟩
   ·rw [hr1]
    show decide ((1 : Int) < ((cutPoints name).length : Int)) = decide (2 <= (cutPoints name).length)
    rw [decide_eq_decide]; omega
   ·rw [hP, hr1]
    show ((h + 1 + c : Nat) : Int) = ((h + 1 : Nat) : Int) + (markEnd [((c : Nat) : Int)] name.length : Nat)
    rw [hmark]; omega
   ·rw [hr1]
    show c <= markEnd [((c : Nat) : Int)] name.length
    rw [hmark]; exact Nat.le_refl _
  obtain ⟨s1, s2, s3, s4, s5⟩ := chain_sim hs ha (fun i hi => hok.tag i (by omega)) ((cutPoints name).length - 1) P0 (h + 1 + c) r1 hx hmid
  have hex2 := procDots_extra site comp ((cutPoints name).length : Int) (n0 := h + 1) ((cutPoints name).take ((cutPoints name).length - 1)).reverse (h + 1 + c) hex (by rw [hP]; rfl)
  have hco2 := procDots_core site comp ((cutPoints name).length : Int) (h + 1) ((cutPoints name).take ((cutPoints name).length - 1)).reverse P0 (h + 1 + c)
  have hst : procDots site comp ((cutPoints name).length : Int) (h + 1) (startP comp s) 0 (c :: ((cutPoints name).take ((cutPoints name).length - 1)).reverse) = procDots site comp ((cutPoints name).length : Int) (h + 1) P0 (h + 1 + c) ((cutPoints name).take ((cutPoints name).length - 1)).reverse := by
   rw [hP0]; rfl
  rw [show (({ p := startP comp s } : ScanM).p) = startP comp s from rfl, show (({ p := startP comp s } : ScanM).lastDot) = 0 from rfl, hst]
  generalize procDots site comp ((cutPoints name).length : Int) (h + 1) P0 (h + 1 + c) ((cutPoints name).take ((cutPoints name).length - 1)).reverse = PP at s1 s2 s3 s4 s5 hex2 hco2 |-
  have hPs : P0.s = s := by rw [hP]; rfl
  refine slash _ (hco2.1.trans hPs) s5 ?_
  rw [if_pos s4]
  have hex3 := parseId_extra site comp hex2 s5 (h + 1 - 1) PP.2 ((cutPoints name).length : Int) true (fun e => by cases e)
  rw [show h + 1 - 1 = h by omega] at s1 s2 s3 hex3
  show Read site comp s name (h + 1) { PathS.parseId site comp PP.1 h PP.2 ((cutPoints name).length : Int) true with cHigh := ((h : Nat) : Int) + 1 }
  rw [<- hall] at s1 s3
  generalize PathS.parseId site comp PP.1 h PP.2 ((cutPoints name).length : Int) true = Q at s1 s2 s3 hex3 |-
  obtain ⟨d1, d2, d3, d4, d5, d6, d7⟩ := s2
  refine ⟨fun e => absurd e hnil, fun _ => ⟨s1.bounds _ _ _, s3, by rw [<- hcc]; exact ⟨hex3.hd, hex3.lp, hex3.ly, hex3.la, hex3.lg⟩⟩, by show ((h : Nat) : Int) + 1 = ((h + 1 : Nat) : Int); omega, ?_, ?_, ?_, ?_⟩
  ·show Q.s = s; rw [d1]; exact hPs
  ·show Q.comp = comp; rw [d2, hP]; rfl
  ·show Q.trim = false; rw [d7, hP]; rfl
  ·show Q.typ = _; rw [d3, hP]; rfl

end Go.Proofs.YtjkecadfakjanaaGreatDoor

namespace Go.Proofs.YtjkecadfakjanaaGreatDoor

/-- What the reference makes of a reading. -/
def wordsEnd (site : SiteM) (name : Str) (r : ReadM) : WordsM :=
 let w1 := { r.w with nameEnd := markEnd r.marks name.length }
 let w2 := { w1 with lang := if w1.langs ≠ [] then w1.langs.headD [] else r.lang }
 let w3 := { w2 with format := chooseL w2.format r.format }
 let w4 := { w3 with format := if r.layouts && w3.format == [] && !(cutPoints name).isEmpty && formatNamed site.formats w3.ext then w3.ext else w3.format }
 let w5 := { w4 with kind := chooseL w4.kind r.kind, layout := chooseL w4.layout r.layout }
 { w5 with typ := ReadM.typeOf site { r with w := w5 } }
theorem wordsOf_eq (site : SiteM) (comp s : Str) (own : Bool) : wordsOf site comp s own = wordsEnd site (lastPart (pathOf s own)) (readAll site comp (pathOf s own) (lastPart (pathOf s own))) := rfl

/-! ### The text of a reading stays -/
theorem readStep_keep (site : SiteM) (r : ReadM) (word : Str) (at_ : Int) : (readStep site r word at_).w.path = r.w.path /\ (readStep site r word at_).w.name = r.w.name := by
 unfold readStep
 split
 ·unfold ReadM.wrapper
  dsimp only
  repeat' split
  all_goals exact ⟨rfl, rfl⟩
 ·unfold ReadM.plain
  dsimp only
  repeat' split
  all_goals exact ⟨rfl, rfl⟩
theorem readWord_keep (site : SiteM) (name : Str) (cuts : List Nat) (r : ReadM) (i e : Nat) : (readWord site name cuts r i e).1.w.path = r.w.path /\ (readWord site name cuts r i e).1.w.name = r.w.name := by
 unfold readWord
 dsimp only
 split
 ·exact ⟨rfl, rfl⟩
 ·exact readStep_keep site r _ _
theorem readDown_keep (site : SiteM) (name : Str) (cuts : List Nat) : ∀ (n : Nat) (r : ReadM) (e : Nat), (readDown site name cuts n r e).w.path = r.w.path /\ (readDown site name cuts n r e).w.name = r.w.name
 | 0, r, e => readWord_keep site name cuts r 0 e
 | n + 1, r, e => by
  obtain ⟨a, b⟩ := readDown_keep site name cuts n (readWord site name cuts r (n + 1) e).1 (readWord site name cuts r (n + 1) e).2
  obtain ⟨c, d⟩ := readWord_keep site name cuts r (n + 1) e
  exact ⟨a.trans c, b.trans d⟩
theorem readAll_keep (site : SiteM) (comp path name : Str) : (readAll site comp path name).w.path = path /\ (readAll site comp path name).w.name = name := by
 unfold readAll
 split
 ·exact ⟨rfl, rfl⟩
 ·exact readDown_keep site name _ _ (read0 comp path name) _

/-! ### Two that agree -/
structure Agree (h : Nat) (P : PathS) (w : WordsM) : Prop where
 s_ : P.s = w.path
 cmp : P.comp = w.component
 trim : P.trim = false
 typ : P.typ = w.typ
 hd : w.path.head? = some 47
 name : w.name = w.path.drop (h + 1)
 hlt : h < w.path.length
 hc : P.cHigh = (h : Int) + 1
 sl : slashB w.path w.path.length = (h : Int)
 cl : P.cLow = -1 /\ NoSl w.path 0 h \/ ∃ l : Nat, P.cLow = (l : Int) + 1 /\ l < h /\ w.path[l]? = some 47 /\ NoSl w.path (l + 1) h
 at_ : w.path[h]? = some 47
 nodbl : ∀ i : Nat, w.path[i]? = some 47 -> w.path[i + 1]? ≠ some 47
 nl : P.nLow = h + 1
 nh : P.nHigh = h + 1 + w.nameEnd
 ne : w.nameEnd <= w.name.length
 kn : P.known = [] /\ w.ext = [] \/ ∃ c : Nat, P.known.head? = some (h + 1 + c + 1, w.path.length) /\ c < w.name.length /\ w.ext = w.name.drop (c + 1) /\ 0 < w.nameEnd /\ w.name[c]? = some 46
 ids : P.known.map (sub P.s) = w.ids
 unk : P.unknown.map (sub P.s) = w.unknown
 lgs : (P.langs.map fun (i : Nat) => P.idStr i) = w.langs
 fmt : P.formatM = w.format
 knd : P.kindM = w.kind
 lay : P.layoutM = w.layout
 lng : P.langM = w.lang
 cus : P.customM = w.custom
 dis : P.disabled = w.disabled
 lg0 : w.lang = [] ↔ P.langs = [] /\ (P.lang < 0 \/ (P.known.length : Int) <= P.lang)
 two : w.lang ≠ [] -> 2 <= P.known.length

section
variable {h : Nat} {P : PathS} {w : WordsM}
theorem Agree.norm (a : Agree h P w) (t : Str) : P.norm t = t := by unfold PathS.norm; rw [a.trim]; rfl
theorem Agree.f_path (a : Agree h P w) : P.path = w.path := by unfold PathS.path; rw [a.trim, a.s_]; rfl
theorem Agree.nlen (a : Agree h P w) : w.name.length = w.path.length - (h + 1) := by rw [a.name, List.length_drop]
theorem Agree.f_dir (a : Agree h P w) : P.dirM = dirOf w.path := by
 have hl := a.hlt
 unfold PathS.dirM dirOf
 dsimp only
 rw [a.norm, a.s_, a.hc, a.sl, if_pos (show (0 : Int) < (h : Int) + 1 by omega), show ((h : Int) + 1 - 1).toNat = h by omega]
 by_cases h0 : h = 0
 ·subst h0
  rw [List.take_zero, if_pos rfl, if_pos (show ((0 : Nat) : Int) <= 0 by omega)]
 ·rw [if_neg (show ¬ (h : Int) <= 0 by omega), Int.toNat_natCast, if_neg]
  intro e
  have := congrArg List.length e
  rw [List.length_take, List.length_nil] at this
  omega
theorem Agree.low0 (a : Agree h P w) (e : P.cLow = -1) : h = 0 := by
 rcases a.cl with ⟨_, n⟩ | ⟨l, q, _⟩
 ·rcases Nat.eq_zero_or_pos h with z | z
  ·exact z
  ·exact absurd (by rw [<- List.head?_eq_getElem?]; exact a.hd) (n 0 (Nat.le_refl _) z)
 ·omega
theorem Agree.f_container (a : Agree h P w) : P.containerM = containerOf w.path := by
 have hl := a.hlt
 unfold PathS.containerM containerOf
 rw [a.norm, a.s_, a.hc, a.sl]
 by_cases e : P.cLow = -1
 ·have := a.low0 e
  subst this
  rw [if_pos e, if_pos (by omega)]
 ·rcases a.cl with ⟨q, _⟩ | ⟨l, q1, q2, q3, q4⟩
  ·exact absurd q e
  ·have hget : ∀ j, j < h -> (w.path.take h)[j]? = w.path[j]? := fun j hj => List.getElem?_take_of_lt hj
   have htl : (w.path.take h).length = h := by rw [List.length_take]; omega
   have hsb : slashB (w.path.take h) (w.path.take h).length = (l : Int) := by
    rw [htl]
    exact slashB_at (by rw [hget l q2]; exact q3) h q2 (fun j j1 j2 => by rw [hget j j2]; exact q4 j (by omega) j2)
   rw [if_neg e, if_neg (by omega), q1, Int.toNat_natCast, show ((h : Int) + 1 - 1).toNat = h by omega, show ((l : Int) + 1).toNat = l + 1 by omega]
   unfold lastPart
   rw [hsb, show ((l : Int) + 1).toNat = l + 1 by omega]
   unfold sub
   rw [List.drop_take]
theorem Agree.bundle (a : Agree h P w) : P.isBundle = isBundleT w.typ := by unfold PathS.isBundle; rw [a.typ]
theorem Agree.f_containerDir (a : Agree h P w) : P.containerDirM = if isBundleT w.typ /\ containerOf w.path ≠ [] then (dirOf w.path).take (slashB (dirOf w.path) (dirOf w.path).length).toNat else dirOf w.path := by
 have hl := a.hlt
 have hcon := a.f_container
 unfold PathS.containerDirM
 rw [a.norm, a.s_, a.f_dir, a.bundle]
 by_cases e : P.cLow = -1
 ·have h0 := a.low0 e
  rw [if_pos (.inl e), if_neg]
  rintro ⟨_, b⟩
  apply b
  unfold containerOf
  rw [a.sl, if_pos (by omega)]
 ·rcases a.cl with ⟨q, _⟩ | ⟨l, q1, q2, q3, q4⟩
  ·exact absurd q e
  ·have hlh : l + 1 ≠ h := fun x => by
    have := a.nodbl l q3
    rw [x] at this
    exact this a.at_
   have hne : containerOf w.path ≠ [] := by
    rw [<- hcon]
    unfold PathS.containerM
    rw [a.norm, if_neg e, a.s_, q1, a.hc]
    intro x
    have := congrArg List.length x
    unfold sub at this
    rw [List.length_take, List.length_drop] at this
    simp at this; omega
   cases hb : isBundleT w.typ with
   | false => rw [if_pos (.inr rfl), if_neg (by rintro ⟨x, _⟩; cases x)]
   | true =>
    have hget : ∀ j, j < h -> (w.path.take h)[j]? = w.path[j]? := fun j hj => List.getElem?_take_of_lt hj
    have htl : (w.path.take h).length = h := by rw [List.length_take]; omega
    have hd : dirOf w.path = w.path.take h := by
     unfold dirOf
     rw [a.sl, if_neg (by omega), Int.toNat_natCast]
    have hsb : slashB (w.path.take h) (w.path.take h).length = (l : Int) := by
     rw [htl]
     exact slashB_at (by rw [hget l q2]; exact q3) h q2 (fun j j1 j2 => by rw [hget j j2]; exact q4 j (by omega) j2)
    rw [if_neg (by rintro (x | x); exact e x; cases x), if_pos ⟨rfl, hne⟩, hd, hsb, Int.toNat_natCast, q1, show ((l : Int) + 1 - 1).toNat = l by omega, List.take_take, Nat.min_eq_left (by omega)]
theorem Agree.f_name (a : Agree h P w) : P.nameM = w.name := by
 unfold PathS.nameM
 rw [a.hc, if_pos (by omega), a.s_, a.name, show ((h : Int) + 1).toNat = h + 1 by omega]
theorem Agree.f_noId (a : Agree h P w) : P.nameNoIdM = w.name.take w.nameEnd := by
 unfold PathS.nameNoIdM sub
 rw [a.nl, a.nh, a.s_, a.name, show h + 1 + w.nameEnd - (h + 1) = w.nameEnd by omega]
theorem Agree.headD (a : Agree h P w) {c : Nat} (e : P.known.head? = some (h + 1 + c + 1, w.path.length)) : P.known.headD (0, 0) = (h + 1 + c + 1, w.path.length) := by
 rw [List.headD_eq_head?_getD, e]; rfl
theorem Agree.ids0 (a : Agree h P w) : P.known = [] ↔ w.ids = [] := by
 rw [<- a.ids, List.map_eq_nil_iff]
theorem kn_ne {x : Nat × Nat} (e : P.known.head? = some x) : P.known ≠ [] := fun q => by rw [q] at e; cases e
theorem Agree.f_before (a : Agree h P w) : P.nameNoExtM = beforeExt w w.name /\ P.pathBeforeM = beforeExt w w.path := by
 have hl := a.hlt
 have hn := a.nlen
 unfold PathS.nameNoExtM PathS.pathBeforeM beforeExt
 rcases a.kn with ⟨e, _⟩ | ⟨c, e, c1, c2, _⟩
 ·rw [if_pos e, if_pos e, if_pos (a.ids0.1 e), if_pos (a.ids0.1 e), a.norm, a.s_, a.hc, a.name, show ((h : Int) + 1).toNat = h + 1 by omega]
  exact ⟨rfl, rfl⟩
 ·have hk := kn_ne e
  have hi : w.ids ≠ [] := fun x => hk (a.ids0.2 x)
  rw [if_neg hk, if_neg hk, if_neg hi, if_neg hi, a.headD e, a.norm, a.s_, a.hc, c2, List.length_drop]
  refine ⟨?_, ?_⟩
  ·unfold sub
   show (w.path.drop ((h : Int) + 1).toNat).take (h + 1 + c + 1 - 1 - ((h : Int) + 1).toNat) = _
   rw [show ((h : Int) + 1).toNat = h + 1 by omega, <- a.name, show h + 1 + c + 1 - 1 - (h + 1) = c by omega, show w.name.length - (w.name.length - (c + 1)) - 1 = c by omega]
  ·show w.path.take (h + 1 + c + 1 - 1) = _
   rw [show h + 1 + c + 1 - 1 = h + 1 + c by omega, show w.path.length - (w.name.length - (c + 1)) - 1 = h + 1 + c by omega]
theorem Agree.head_of (a : Agree h P w) : headOf w = w.path.take (h + 1) := by
 have hl := a.hlt
 unfold headOf
 rw [a.nlen, show w.path.length - (w.path.length - (h + 1)) = h + 1 by omega]
theorem Agree.high (a : Agree h P w) : headOf w ++ w.name.take w.nameEnd = w.path.take (h + 1 + w.nameEnd) := by
 rw [a.head_of, a.name, <- List.take_add]
theorem Agree.base_ff (a : Agree h P w) (hk : P.known ≠ []) : P.baseM false false = headOf w ++ w.name.take w.nameEnd := by
 unfold PathS.baseM
 dsimp only
 rw [if_neg hk, if_neg (by simp), a.norm, if_pos rfl, a.high, a.s_, a.nh]
 have e : (if (false = true) then P.cHigh - 1 else ((h + 1 + w.nameEnd : Nat) : Int)) = ((h + 1 + w.nameEnd : Nat) : Int) := rfl
 rw [e, if_neg (by omega), Int.toNat_natCast]
theorem Agree.base_tf (a : Agree h P w) (h2 : 2 <= P.known.length) : P.baseM true false = headOf w ++ w.name.take w.nameEnd ++ [46] ++ w.ext := by
 have hl := a.hlt
 have hn := a.nlen
 have hk : P.known ≠ [] := fun e => by rw [e] at h2; simp at h2
 rcases a.kn with ⟨e, _⟩ | ⟨c, e, c1, c2, _, c3⟩
 ·exact absurd e hk
 ·unfold PathS.baseM
  dsimp only
  rw [if_neg hk, if_neg (by omega), if_neg (show ¬ true = false by decide), a.norm, a.high, a.s_, a.nh, a.headD e]
  have e1 : (if (false = true) then P.cHigh - 1 else ((h + 1 + w.nameEnd : Nat) : Int)) = ((h + 1 + w.nameEnd : Nat) : Int) := rfl
  rw [e1, if_neg (by omega), Int.toNat_natCast, List.append_assoc]
  congr 1
  show (w.path.drop (h + 1 + c + 1 - 1)).take (w.path.length - (h + 1 + c + 1 - 1)) = _
  rw [show h + 1 + c + 1 - 1 = h + 1 + c by omega, List.take_of_length_le (by rw [List.length_drop]; exact Nat.le_refl _), c2, <- List.drop_drop, <- a.name, drop_cons c1]
  have : w.name[c] = 46 := by rw [List.getElem?_eq_getElem c1] at c3; exact Option.some.inj c3
  rw [this]; rfl
theorem Agree.f_noIdentifier (a : Agree h P w) : P.baseM false false = noIdentifier w := by
 unfold noIdentifier
 by_cases hk : P.known = []
 ·rw [if_pos (a.ids0.1 hk)]
  unfold PathS.baseM
  rw [if_pos hk, a.norm, a.s_]
 ·rw [if_neg (fun e => hk (a.ids0.2 e))]
  exact a.base_ff hk
theorem Agree.f_noLang (a : Agree h P w) : P.pathNoLangM = noLang w := by
 unfold PathS.pathNoLangM noLang
 by_cases hl : w.lang = []
 ·obtain ⟨x, y⟩ := a.lg0.1 hl
  rw [if_pos hl, if_neg (by simpa using x), if_pos y, a.f_path]
 ·have h2 := a.two hl
  rw [if_neg hl, <- a.base_tf h2]
  by_cases x : P.langs = []
  ·rw [if_neg (by simpa using x), if_neg (fun y => hl (a.lg0.2 ⟨x, y⟩))]
  ·rw [if_pos x]
theorem Agree.f_ext (a : Agree h P w) : P.ext = w.ext := by
 have hl := a.hlt
 unfold PathS.ext PathS.idStr
 rcases a.kn with ⟨e, e2⟩ | ⟨c, e, c1, c2, _⟩
 ·rw [if_pos (.inr (by rw [e]; exact Int.le_refl 0)), e2]
 ·have hk := kn_ne e
  have hp : 0 < P.known.length := List.length_pos_iff.2 hk
  rw [if_neg (by omega)]
  have : P.known.getD (0 : Int).toNat (0, 0) = (h + 1 + c + 1, w.path.length) := by
   rw [List.getD_eq_getElem?_getD, show (0 : Int).toNat = 0 from rfl, <- List.head?_eq_getElem?, e]; rfl
  rw [this, a.s_, c2, a.name, List.drop_drop]
  unfold sub
  rw [List.take_of_length_le (by rw [List.length_drop]; exact Nat.le_refl _)]
  rfl
theorem Agree.f_base (a : Agree h P w) : P.base = baseOf w := by
 have hl := a.hlt
 have hty := a.typ
 have hpg : P.isPage = (decide (2 <= w.typ) && decide (w.typ <= 5)) := by unfold PathS.isPage; rw [hty]
 have hlen : P.known.length = w.ids.length := by rw [<- a.ids, List.length_map]
 unfold PathS.base baseOf
 dsimp only
 rw [a.bundle]
 by_cases hk : P.known = []
 ·have e : ∀ x y, P.baseM x y = w.path := fun x y => by unfold PathS.baseM; rw [if_pos hk, a.norm, a.s_]
  rw [e, if_pos (a.ids0.1 hk), hpg]
  simp only [Bool.and_eq_true, decide_eq_true_eq]
 ·rw [if_neg (fun e => hk (a.ids0.2 e))]
  cases hb : isBundleT w.typ with
  | true =>
   have h35 : 3 <= w.typ /\ w.typ <= 5 := by unfold isBundleT at hb; simpa using hb
   have hp : P.isPage = true := by rw [hpg]; simp; omega
   rw [hp, if_pos rfl]
   have e : P.baseM (!true) true = w.path.take (if h = 0 then 1 else h) := by
    unfold PathS.baseM
    dsimp only
    rw [if_neg hk, if_neg (by simp), if_pos (by rfl), a.norm, a.s_, if_pos rfl, a.hc]
    by_cases h0 : h = 0
    ·rw [if_pos (by omega), if_pos h0]; subst h0; rfl
    ·rw [if_neg (by omega), if_neg h0, show ((h : Int) + 1 - 1).toNat = h by omega]
   rw [e]
   unfold dirOf
   rw [a.sl]
   by_cases h0 : h = 0
   ·subst h0
    rw [if_pos rfl, if_pos (show ((0 : Nat) : Int) <= 0 by omega), if_pos rfl]
    have hs1 : w.path.take 1 = [47] := by
     have := a.hd
     cases hx : w.path with
     | nil => rw [hx] at this; cases this
     | cons c t => rw [hx] at this; simp at this; subst this; rfl
    rw [hs1, if_pos ⟨rfl, rfl⟩]
   ·rw [if_neg h0, if_neg (show ¬ (h : Int) <= 0 by omega), Int.toNat_natCast]
    by_cases q : w.path.take h = [47]
    ·rw [if_pos ⟨q, rfl⟩, if_pos q]
    ·rw [if_neg (fun z => q z.1), if_neg q]
  | false =>
   have h35 : ¬ (3 <= w.typ /\ w.typ <= 5) := by unfold isBundleT at hb; simpa using hb
   rw [if_neg (show ¬ false = true by decide)]
   by_cases h2 : w.typ = 2
   ·have hp : P.isPage = true := by rw [hpg, h2]; rfl
    rw [hp, if_pos h2]
    show (if P.baseM false false = [47] /\ true = true then [] else P.baseM false false) = _
    rw [<- a.f_noIdentifier, if_neg]
    rintro ⟨e, -⟩
    rw [a.base_ff hk, a.high] at e
    have e2 := congrArg List.length e
    rw [List.length_take] at e2
    rcases a.kn with ⟨x, _⟩ | ⟨c, _, _, _, x, _⟩
    ·exact hk x
    ·have := a.ne
     have := a.nlen
     simp at e2
     omega
   ·have hp : P.isPage = false := by rw [hpg]; simp; omega
    rw [hp, if_neg h2]
    show (if P.baseM true false = [47] /\ false = true then [] else P.baseM true false) = _
    rw [if_neg (by simp), <- hlen]
    by_cases h1 : P.known.length = 1
    ·rw [if_pos h1]
     unfold PathS.baseM
     rw [if_neg hk, if_pos ⟨rfl, h1⟩, a.norm, a.s_]
    ·rw [if_neg h1]
     have : 2 <= P.known.length := by have := List.length_pos_iff.2 hk; omega
     rw [a.base_tf this]
     unfold noIdentifier
     rw [if_neg (fun e => hk (a.ids0.2 e))]

theorem told_answers (a : Agree h P w) : toldM P = { answers w with section_ := P.sectionM } := by
 have e1 := a.f_path
 have e2 := a.f_dir
 have e3 := a.f_container
 have e4 := a.f_containerDir
 have e5 := a.f_name
 have e6 := a.f_noId
 obtain ⟨e7, e8⟩ := a.f_before
 have e9 := a.f_noIdentifier
 have e10 := a.f_noLang
 have e11 := a.f_ext
 have e12 := a.f_base
 have e13 : P.baseNameM = if isBundleT w.typ then containerOf w.path else w.name.take w.nameEnd := by unfold PathS.baseNameM; rw [a.bundle, e3, e6]
 unfold toldM answers
 rw [e1, e2, e3, e4, e5, e6, e7, e8, e9, e10, e11, e12, e13, a.cmp, a.bundle, a.fmt, a.knd, a.lay, a.lng, a.cus, a.lgs, a.ids, a.unk, a.dis, a.typ]
end

end Go.Proofs.YtjkecadfakjanaaGreatDoor

namespace Go.Proofs.YtjkecadfakjanaaGreatDoor

theorem fin1_form (p : PathS) : PathS.fin1 p = { p with nLow := p.cHigh.toNat, nHigh := (PathS.fin1 p).nHigh } := by
 unfold PathS.fin1; split <;> rfl
theorem fin2_form (site : SiteM) (p : PathS) (sl : Int) : PathS.fin2 site p sl = { p with typ := (PathS.fin2 site p sl).typ, sHigh := (PathS.fin2 site p sl).sHigh } := by
 unfold PathS.fin2
 repeat' split
 all_goals rfl
theorem fin3_form (comp : Str) (p : PathS) : PathS.fin3 comp p = { p with typ := (PathS.fin3 comp p).typ } := by
 unfold PathS.fin3
 repeat' split
 all_goals rfl

theorem isFormat_nil (site : SiteM) (n : Str) : isFormat site n [] = formatNamed site.formats n := by
 unfold isFormat formatNamed
 congr 1
 funext f
 simp
theorem Flds.map {p : PathS} {lay : Int} {is : List Nat} {ts : List Str} (h : Flds (p.known.map (sub p.s)) lay is ts) : is.map (fun (i : Nat) => p.idStr i) = ts := by
 induction h with
 | nil => rfl
 | cons a _ ih => rw [List.map_cons, ih, a.str]
theorem idStr_none (p : PathS) : p.idStr (-1) = [] := by unfold PathS.idStr; rw [if_pos (.inl (by decide))]
theorem idStr_at {p : PathS} {k : Nat} {t : Str} (h : (p.known.map (sub p.s))[k]? = some t) : p.idStr (k : Int) = t := by
 have hk : k < p.known.length := by
  rcases Nat.lt_or_ge k p.known.length with x | x
  ·exact x
  ·rw [List.getElem?_eq_none (by simpa using x)] at h; cases h
 unfold PathS.idStr
 rw [if_neg (by omega), Int.toNat_natCast, List.getD_eq_getElem?_getD, List.getElem?_eq_getElem hk]
 rw [List.getElem?_map, List.getElem?_eq_getElem hk] at h
 exact Option.some.inj h

theorem Flds.two {l : List Str} {lay : Int} {is : List Nat} {ts : List Str} (h : Flds l lay is ts) : (is = [] /\ ts = []) \/ ∃ i t is' ts', is = i :: is' /\ ts = t :: ts' /\ Fld l lay (i : Int) t := by
 cases h with
 | nil => exact .inl ⟨rfl, rfl⟩
 | cons a _ => exact .inr ⟨_, _, _, _, rfl, rfl, a⟩

/-- What the words of a finished path tell: with the reading's words. -/
structure Tells (P : PathS) (w : WordsM) : Prop where
 ids : P.known.map (sub P.s) = w.ids
 unk : P.unknown.map (sub P.s) = w.unknown
 lgs : (P.langs.map fun (i : Nat) => P.idStr i) = w.langs
 fmt : P.formatM = w.format
 knd : P.kindM = w.kind
 lay : P.layoutM = w.layout
 lng : P.langM = w.lang
 cus : P.customM = w.custom
 dis : P.disabled = w.disabled
 lg0 : w.lang = [] ↔ P.langs = [] /\ (P.lang < 0 \/ (P.known.length : Int) <= P.lang)
 two : w.lang ≠ [] -> 2 <= P.known.length
 ext : P.ext = w.ext

theorem tells_none {site : SiteM} {comp s name : Str} {n0 : Nat} {F : PathS} (h : Read site comp s name n0 F) (hn : cutPoints name = []) : Tells F (wordsEnd site name (readAll site comp s name)) := by
 have hr : readAll site comp s name = read0 comp s name := by unfold readAll; rw [if_pos hn]
 rw [hr, h.none hn]
 have hl : (if ((comp == kLayouts) && (chooseL [] [] : Str) == [] && !(cutPoints name).isEmpty && formatNamed site.formats []) = true then ([] : Str) else chooseL [] []) = [] := by split <;> rfl
 exact ⟨rfl, rfl, rfl, by rw [show (wordsEnd site name (read0 comp s name)).format = _ from hl]; rfl, rfl, rfl, rfl, rfl, rfl, ⟨fun _ => ⟨rfl, .inl (by show (-1 : Int) < 0; decide)⟩, fun _ => rfl⟩, fun e => absurd rfl e, rfl⟩
theorem tells_some {site : SiteM} {comp s name : Str} {n0 : Nat} {F : PathS} (h : Read site comp s name n0 F) (hn : cutPoints name ≠ []) : Tells F (wordsEnd site name (readAll site comp s name)) := by
 obtain ⟨a, _, x⟩ := h.some hn
 generalize readAll site comp s name = r at a |-
 have hemp : (cutPoints name).isEmpty = false := by simpa using hn
 have hfm : ∀ i t, Fld r.w.ids F.lay i t -> F.idStr i = t := fun i t f => by rw [a.ids] at f; exact f.str
 refine ⟨a.ids.symm, a.unk.symm, ?_, ?_, ?_, ?_, ?_, ?_, a.dis.symm, ?_, ?_, ?_⟩
 ·have := a.lgs
  rw [a.ids] at this
  exact this.map
 ·-- the format
  show F.formatM = (if r.layouts && (chooseL r.w.format r.format == []) && !(cutPoints name).isEmpty && formatNamed site.formats r.w.ext then r.w.ext else chooseL r.w.format r.format)
  unfold PathS.formatM
  rw [hemp]
  by_cases hf : r.w.format = []
  ·have h1 := a.pfm.iff.2 hf
   rw [if_neg (by simpa using h1), hf]
   rcases a.fmt with ⟨b1, b2⟩ | ⟨b1, b2⟩
   ·rw [b1, show (chooseL [] [] : Str) = [] from rfl, b2, a.lys, isFormat_nil]
    cases hc : ((comp == kLayouts) && formatNamed site.formats r.w.ext) with
    | true =>
     rw [Bool.and_eq_true] at hc
     rw [hc.1, hc.2, if_pos rfl, if_pos (show (true && (([] : Str) == []) && !false && true) = true from rfl)]
     have := a.ext
     rw [a.ids] at this
     exact idStr_at (k := 0) this
    | false =>
     rw [if_neg (by decide)]
     have : ((comp == kLayouts) && ([] == ([] : Str)) && !false && formatNamed site.formats r.w.ext) = false := by
      have e : (([] : Str) == []) = true := rfl
      rw [e, Bool.and_true, Bool.not_false, Bool.and_true]; exact hc
     rw [this, if_neg (by decide), idStr_none]
   ·have e : chooseL [] r.format = r.format := rfl
    have e2 : (r.format == []) = false := by simpa using b1
    rw [e, e2, Bool.and_false, Bool.false_and, Bool.false_and, if_neg (by decide)]
    exact hfm _ _ b2
  ·have h1 : F.pfmt ≠ -1 := fun e => hf (a.pfm.iff.1 e)
   have e : chooseL r.w.format r.format = r.w.format := if_pos hf
   have e2 : (r.w.format == []) = false := by simpa using hf
   rw [if_pos h1, e, e2, Bool.and_false, Bool.false_and, Bool.false_and, if_neg (by decide)]
   exact hfm _ _ a.pfm
 ·show F.kindM = chooseL r.w.kind r.kind
  unfold PathS.kindM
  by_cases hf : r.w.kind = []
  ·rw [if_neg (by simpa using a.pkn.iff.2 hf), hf]
   exact hfm _ _ a.knd.1
  ·rw [if_pos (fun e => hf (a.pkn.iff.1 e)), show chooseL r.w.kind r.kind = r.w.kind from if_pos hf]
   exact hfm _ _ a.pkn
 ·show F.layoutM = chooseL r.w.layout r.layout
  unfold PathS.layoutM
  by_cases hf : r.w.layout = []
  ·rw [if_neg (by simpa using a.ply.iff.2 hf), hf]
   show F.idStr F.lay = r.layout
   rcases a.lay.2 with ⟨e1, e2⟩ | ⟨k, e1, _, _, e4⟩
   ·rw [e1, e2, idStr_none]
   ·rw [a.ids] at e4
    rw [e1]; exact idStr_at e4
  ·rw [if_pos (fun e => hf (a.ply.iff.1 e)), show chooseL r.w.layout r.layout = r.w.layout from if_pos hf]
   exact hfm _ _ a.ply
 ·show F.langM = if r.w.langs ≠ [] then r.w.langs.headD [] else r.lang
  unfold PathS.langM
  rcases a.lgs.two with ⟨z1, z2⟩ | ⟨i, t, is', ts', z1, z2, b⟩
  ·rw [z1, z2, if_neg (by simp), if_neg (by simp)]
   exact hfm _ _ a.lng.1
  ·rw [z1, z2, if_pos (by simp), if_pos (by simp)]
   exact hfm _ _ b
 ·obtain ⟨cw, c1, c2⟩ := a.cus
  show trimSuf (trimPre (F.idStr F.custom)) = r.w.custom
  rw [hfm _ _ c1, c2]
 ·show (if r.w.langs ≠ [] then r.w.langs.headD [] else r.lang) = [] ↔ _
  rcases a.lgs.two with ⟨z1, z2⟩ | ⟨i, t, is', ts', z1, z2, b⟩
  ·rw [z1, z2, if_neg (by simp)]
   rcases a.lng.1 with ⟨q1, q2⟩ | ⟨k, q1, q2, _, _, q5⟩
   ·rw [q1, q2]
    exact ⟨fun _ => ⟨rfl, .inl (by decide)⟩, fun _ => rfl⟩
   ·have := a.len
    exact ⟨fun e => absurd e q5, fun e => by omega⟩
  ·rw [z1, z2, if_pos (by simp)]
   rcases b with ⟨q1, _⟩ | ⟨k, q1, q2, _, _, q5⟩
   ·omega
   ·exact ⟨fun e => absurd e q5, fun e => by cases e.1⟩
 ·show (if r.w.langs ≠ [] then r.w.langs.headD [] else r.lang) ≠ [] -> _
  rcases a.lgs.two with ⟨z1, z2⟩ | ⟨i, t, is', ts', z1, z2, b⟩
  ·rw [z2, if_neg (by simp)]
   intro e
   exact x.la (fun q => e (a.lng.1.iff.1 q))
  ·intro _
   exact x.lg (by rw [z1]; simp)
 ·have := a.ext
  rw [a.ids] at this
  exact idStr_at (k := 0) this

/-! ### Types -/
theorem typ_bool (pointed nonempty cont idx uidx dat lay bas sh mk pa : Bool) (h1 : lay = true -> cont = false) (h2 : dat = true -> nonempty = true) (h3 : pointed = false -> bas = false) :
  (let t0 : Int := if sh then 7 else 0
   let t2 : Int := if !pointed then t0 else if nonempty then (if cont then (if idx then 3 else if uidx then 4 else 2) else if dat then 5 else t0) else t0
   if decide (t2 < 6) && lay then (if bas then 9 else if sh then 7 else if mk then 6 else if pa then 8 else t2) else t2) =
  (let data := pointed && dat
   if pointed && cont && nonempty then (if idx then 3 else if uidx then 4 else 2)
   else if data && !lay then 5 else if data && bas then 9 else if sh then 7 else if lay && bas then 9 else if lay && mk then 6 else if lay && pa then 8 else if data then 5 else (0 : Int)) := by
 cases pointed <;> cases nonempty <;> cases cont <;> cases dat <;> cases lay <;> cases bas <;> cases sh <;> (try (exfalso; simp at h1 h2 h3; done)) <;> cases idx <;> cases uidx <;> cases mk <;> cases pa <;> first | rfl | (exfalso; simp at h1 h2 h3; done)

/-! ### No two slashes side by side -/
theorem holds_no {s p : Str} (h : holdsL s p = false) : ∀ k, p.isPrefixOf (s.drop k) = false := by
 intro k
 unfold holdsL at h
 induction s generalizing k with
 | nil =>
  rw [List.drop_nil]
  unfold idx? at h
  cases e : p.isPrefixOf ([] : Str) with
  | false => rfl
  | true => rw [e, if_pos rfl] at h; cases h
 | cons c t ih =>
  unfold idx? at h
  cases e : p.isPrefixOf (c :: t) with
  | true => rw [e, if_pos rfl] at h; cases h
  | false =>
   rw [e, if_neg (by decide)] at h
   cases k with
   | zero => exact e
   | succ k =>
    refine ih ?_ k
    cases hx : idx? p t with
    | none => rfl
    | some i => rw [hx] at h; exact absurd h (by simp)
def NoDbl (s : Str) : Prop := ∀ i : Nat, s[i]? = some 47 -> s[i + 1]? ≠ some 47
theorem noDbl_of {s : Str} (h : holdsL s [47, 47] = false) : NoDbl s := by
 intro i h1 h2
 have := holds_no h i
 have hi : i < s.length := by
  rcases Nat.lt_or_ge i s.length with x | x
  ·exact x
  ·rw [List.getElem?_eq_none x] at h1; cases h1
 have hi2 : i + 1 < s.length := by
  rcases Nat.lt_or_ge (i + 1) s.length with x | x
  ·exact x
  ·rw [List.getElem?_eq_none x] at h2; cases h2
 rw [drop_cons hi, drop_cons hi2] at this
 rw [List.getElem?_eq_getElem hi] at h1
 rw [List.getElem?_eq_getElem hi2] at h2
 rw [Option.some.inj h1, Option.some.inj h2] at this
 exact absurd this (by simp [List.isPrefixOf])
theorem noDbl_cons {t : Str} (h : NoDbl t) (h0 : t.head? ≠ some 47) : NoDbl (47 :: t) := by
 intro i h1 h2
 cases i with
 | zero => rw [List.head?_eq_getElem?] at h0; exact h0 (by simpa using h2)
 | succ i => exact h i (by simpa using h1) (by simpa using h2)
theorem noDbl_dropLast {t : Str} (h : NoDbl t) : NoDbl t.dropLast := by
 intro i h1 h2
 rw [List.dropLast_eq_take, List.getElem?_take] at h1 h2
 split at h1
 ·split at h2
  ·exact h i h1 h2
  ·cases h2
 ·cases h1
theorem noDbl_norm {s : Str} (h : NoDbl s) : NoDbl (normPath s) := by
 unfold normPath
 split
 ·intro i h1 h2
  cases i with
  | zero => simp at h2
  | succ i => simp at h1
 ·have h2 : NoDbl (slashed s) := by
   unfold slashed
   split
   ·exact h
   ·rename_i hc; exact noDbl_cons h hc
  unfold trimEnd
  split
  ·exact noDbl_dropLast h2
  ·exact h2

/-! ### Sections -/
theorem splitL_len : ∀ t : Str, (splitL t).length = t.countP (· == 47) + 1
 | [] => rfl
 | c :: t => by
  have ih := splitL_len t
  unfold splitL
  by_cases h : c = 47
  ·rw [if_pos h, List.length_cons, ih, h, List.countP_cons]; rfl
  ·rw [if_neg h, List.countP_cons, if_neg (by simpa using h)]
   cases hs : splitL t with
   | nil => rw [hs] at ih; simp at ih
   | cons x r => rw [hs] at ih; simpa using ih
theorem splitL_head : ∀ (t : Str) (g : Nat), NoSl t 0 g -> g <= t.length -> (t[g]? = some 47 \/ g = t.length) -> (splitL t).headD [] = t.take g
 | [], g, _, hg, _ => by
  have : g = 0 := by simpa using hg
  subst this; rfl
 | c :: t, 0, _, _, h => by
  rcases h with h | h
  ·have : c = 47 := by simpa using h
   unfold splitL
   rw [if_pos this]; rfl
  ·simp at h
 | c :: t, g + 1, hn, hg, h => by
  have hc : c ≠ 47 := fun e => hn 0 (Nat.le_refl _) (by omega) (by rw [e]; rfl)
  have ih := splitL_head t g (fun j h1 h2 => by have := hn (j + 1) (by omega) (by omega); simpa using this) (by simpa using hg) (by
   rcases h with h | h
   ·exact .inl (by simpa using h)
   ·exact .inr (by simpa using h))
  have hl := splitL_len t
  unfold splitL
  rw [if_neg hc]
  cases hs : splitL t with
  | nil => rw [hs] at hl; simp at hl
  | cons x r => rw [hs] at ih; simp at ih |-; exact ih
theorem noSl_count {t : Str} (h : NoSl t 0 t.length) : t.countP (· == 47) = 0 := by
 rw [List.countP_eq_zero]
 intro x hx
 obtain ⟨j, hj, rfl⟩ := List.getElem_of_mem hx
 have := h j (Nat.zero_le _) hj
 rw [List.getElem?_eq_getElem hj] at this
 simpa using this

/-! ### A finished path -/
/-- The type that the last steps give, the type 7, the bound of the section. -/
theorem fin_typ (site : SiteM) (comp s nm ext : Str) (X : PathS) (sl : Int) (em : Bool) (hxe : X.ext = ext) (hxc : X.comp = comp) (hxn : sub X.s (X.nLow, X.nHigh) = nm) (hlow : X.nLow < X.nHigh ↔ nm ≠ [])
  (hx : X.typ = if holdsL s kShort then 7 else 0) (hk : X.known = [] ↔ em = true) (hkb : em = true -> (X.baseof != -1) = false) (hp : X.path = s) :
  (PathS.fin3 comp (PathS.fin2 site X sl)).typ =
   (if (!em && (comp == kContent || comp == kArch) && amongL site.content ext && !nm.isEmpty) = true then (if nm = kIndex then 3 else if nm = kUIndex then 4 else 2)
   else if (!em && nm == kUContent && ext == kGotmpl && !(comp == kLayouts)) = true then 5 else if (!em && nm == kUContent && ext == kGotmpl && (X.baseof != -1)) = true then 9 else if holdsL s kShort = true then 7
   else if ((comp == kLayouts) && (X.baseof != -1)) = true then 9 else if ((comp == kLayouts) && holdsL s kMarkup) = true then 6 else if ((comp == kLayouts) && startsL s kPartials) = true then 8
   else if (!em && nm == kUContent && ext == kGotmpl) = true then 5 else 0) /\
  ((PathS.fin3 comp (PathS.fin2 site X sl)).typ = 7 -> holdsL s kShort = true) /\
  (PathS.fin3 comp (PathS.fin2 site X sl)).sHigh = (if (PathS.fin3 comp (PathS.fin2 site X sl)).typ = 3 /\ sl = 2 then 0 else X.sHigh) := by
 obtain ⟨q, hq⟩ : ∃ q, q = PathS.fin2 site X sl := ⟨_, rfl⟩
 have f2 := fin2_form site X sl
 rw [<- hq] at f2 |-
 have f3 := fin3_form comp q
 have t2 : q.typ = if X.known = [] then X.typ else if X.nLow < X.nHigh then (if ((comp == kContent || comp == kArch) && amongL site.content ext) = true then (if nm = kIndex then 3 else if nm = kUIndex then 4 else 2) else if nm = kUContent /\ ext = kGotmpl then 5 else X.typ) else X.typ := by
  rw [hq]
  unfold PathS.fin2
  rw [hxe, hxc, hxn]
  simp only [apply_ite PathS.typ, ite_self]
 have hx3 : ¬ X.typ = 3 := by rw [hx]; split <;> decide
 have s2 : q.sHigh = if q.typ = 3 /\ sl = 2 then 0 else X.sHigh := by
  rw [t2, hq]
  unfold PathS.fin2
  rw [hxe, hxc, hxn]
  by_cases c1 : X.known = []
  ·rw [if_pos c1, if_pos c1, if_neg (fun z => hx3 z.1)]
  ·rw [if_neg c1, if_neg c1]
   by_cases c2 : X.nLow < X.nHigh
   ·rw [if_pos c2, if_pos c2]
    by_cases c3 : ((comp == kContent || comp == kArch) && amongL site.content ext) = true
    ·rw [if_pos c3, if_pos c3]
     by_cases c4 : nm = kIndex
     ·rw [if_pos c4, if_pos c4]
      by_cases c5 : sl = 2
      ·rw [if_pos c5, if_pos ⟨rfl, c5⟩]
      ·rw [if_neg c5, if_neg (fun z => c5 z.2)]
     ·rw [if_neg c4, if_neg c4]
      by_cases c5 : nm = kUIndex
      ·rw [if_pos c5, if_pos c5, if_neg (fun z => absurd z.1 (by decide))]
      ·rw [if_neg c5, if_neg c5, if_neg (fun z => absurd z.1 (by decide))]
    ·rw [if_neg c3, if_neg c3]
     by_cases c4 : nm = kUContent /\ ext = kGotmpl
     ·rw [if_pos c4, if_pos c4, if_neg (fun z => absurd z.1 (by decide))]
     ·rw [if_neg c4, if_neg c4, if_neg (fun z => hx3 z.1)]
   ·rw [if_neg c2, if_neg c2, if_neg (fun z => hx3 z.1)]
 have q2b : q.baseof = X.baseof := by rw [f2]
 have q2p : q.path = s := by rw [f2]; exact hp
 have t3 : (PathS.fin3 comp q).typ = if q.typ < 6 /\ comp = kLayouts then (if X.baseof ≠ -1 then 9 else if holdsL s kShort = true then 7 else if holdsL s kMarkup = true then 6 else if List.isPrefixOf kPartials s = true then 8 else q.typ) else q.typ := by
  unfold PathS.fin3
  rw [q2b, q2p]
  simp only [apply_ite PathS.typ]
 have hlayc : comp = kLayouts -> (comp == kContent || comp == kArch) = false := fun e => by rw [e]; decide
 have hs3 : (PathS.fin3 comp q).sHigh = q.sHigh := by rw [f3]
 have e3 : (q.typ = 3) ↔ ((PathS.fin3 comp q).typ = 3) := by
  rw [t3]
  by_cases z : q.typ < 6 /\ comp = kLayouts
  ·rw [if_pos z]
   have hn3 : ¬ q.typ = 3 := by
    rw [t2, hlayc z.2, Bool.false_and, if_neg (show ¬ false = true by decide)]
    by_cases c1 : X.known = []
    ·rw [if_pos c1]; exact hx3
    ·rw [if_neg c1]
     by_cases c2 : X.nLow < X.nHigh
     ·rw [if_pos c2]
      by_cases c4 : nm = kUContent /\ ext = kGotmpl
      ·rw [if_pos c4]; decide
      ·rw [if_neg c4]; exact hx3
     ·rw [if_neg c2]; exact hx3
   constructor
   ·intro y; exact absurd y hn3
   ·intro y
    exfalso
    revert y
    repeat' split
    all_goals first | decide | exact hn3
  ·rw [if_neg z]
 refine ⟨?_, ?_, by rw [hs3, s2]; simp only [e3]⟩
 ·have tb := typ_bool (!em) (!nm.isEmpty) ((comp == kContent || comp == kArch) && amongL site.content ext) (nm == kIndex) (nm == kUIndex) (nm == kUContent && ext == kGotmpl) (comp == kLayouts) (X.baseof != -1) (holdsL s kShort) (holdsL s kMarkup) (startsL s kPartials)
   (fun e => by rw [hlayc (by simpa using e)]; rfl)
   (fun e => by
    rw [Bool.and_eq_true, beq_iff_eq] at e
    rw [e.1]; rfl)
   (fun e => hkb (by simpa using e))
  have p1 : (X.known = []) = ((! !em) = true) := propext (hk.trans (by simp))
  have p2 : (X.nLow < X.nHigh) = ((!nm.isEmpty) = true) := propext (hlow.trans (by simp))
  have d1 : (nm = kIndex) = ((nm == kIndex) = true) := by simp
  have d2 : (nm = kUIndex) = ((nm == kUIndex) = true) := by simp
  have d3 : (nm = kUContent /\ ext = kGotmpl) = ((nm == kUContent && ext == kGotmpl) = true) := by simp
  have d4 : (X.baseof ≠ -1) = ((X.baseof != -1) = true) := by simp
  have d5 : (q.typ < 6 /\ comp = kLayouts) = ((decide (q.typ < 6) && (comp == kLayouts)) = true) := by simp
  have eI : (if nm = kIndex then (3 : Int) else if nm = kUIndex then 4 else 2) = (if (nm == kIndex) = true then (3 : Int) else if (nm == kUIndex) = true then 4 else 2) := ite_congr d1 (fun _ => rfl) (fun _ => ite_congr d2 (fun _ => rfl) (fun _ => rfl))
  have t2b := t2.trans (ite_congr p1 (fun _ => rfl) (fun _ => ite_congr p2 (fun _ => ite_congr rfl (fun _ => eI) (fun _ => ite_congr d3 (fun _ => rfl) (fun _ => rfl))) (fun _ => rfl)))
  have t3b := t3.trans (ite_congr d5 (fun _ => ite_congr d4 (fun _ => rfl) (fun _ => rfl)) (fun _ => rfl))
  have d6 : (List.isPrefixOf kPartials s) = startsL s kPartials := rfl
  rw [t3b, t2b, hx, eI, d6]
  clear t2 t3 t2b t3b s2 e3 p1 p2 d1 d2 d3 d4 d5 d6 eI hlow hk hkb hlayc f2 f3 q2b q2p hs3 hx hx3 hxn hxe hxc hp hq
  generalize (!em) = b1 at tb |-
  generalize (!nm.isEmpty) = b2 at tb |-
  generalize (nm == kIndex) = b4 at tb |-
  generalize (nm == kUIndex) = b5 at tb |-
  generalize (comp == kContent || comp == kArch) = b3 at tb |-
  generalize amongL site.content ext = b3' at tb |-
  generalize (nm == kUContent) = b6 at tb |-
  generalize (ext == kGotmpl) = b6' at tb |-
  generalize (comp == kLayouts) = b7 at tb |-
  generalize (X.baseof != -1) = b8 at tb |-
  generalize holdsL s kShort = b9 at tb |-
  generalize holdsL s kMarkup = b10 at tb |-
  generalize startsL s kPartials = b11 at tb |-
  dsimp only at tb
  rw [Bool.and_assoc b1 b6 b6', Bool.and_assoc b1 b3 b3']
  exact tb
 ·intro z
  cases hsh : holdsL s kShort with
  | true => rfl
  | false =>
   exfalso
   have h2 : ¬ q.typ = 7 := by
    rw [t2, hx, hsh, if_neg (show ¬ false = true by decide)]
    by_cases c1 : X.known = []
    ·rw [if_pos c1]; decide
    ·rw [if_neg c1]
     by_cases c2 : X.nLow < X.nHigh
     ·rw [if_pos c2]
      by_cases c3 : ((comp == kContent || comp == kArch) && amongL site.content ext) = true
      ·rw [if_pos c3]
       by_cases c4 : nm = kIndex
       ·rw [if_pos c4]; decide
       ·rw [if_neg c4]
        by_cases c5 : nm = kUIndex
        ·rw [if_pos c5]; decide
        ·rw [if_neg c5]; decide
      ·rw [if_neg c3]
       by_cases c4 : nm = kUContent /\ ext = kGotmpl
       ·rw [if_pos c4]; decide
       ·rw [if_neg c4]; decide
     ·rw [if_neg c2]; decide
   rw [t3, hsh, if_neg (show ¬ false = true by decide)] at z
   by_cases c1 : q.typ < 6 /\ comp = kLayouts
   ·rw [if_pos c1] at z
    by_cases c2 : X.baseof ≠ -1
    ·rw [if_pos c2] at z; exact absurd z (by decide)
    ·rw [if_neg c2] at z
     by_cases c3 : holdsL s kMarkup = true
     ·rw [if_pos c3] at z; exact absurd z (by decide)
     ·rw [if_neg c3] at z
      by_cases c4 : List.isPrefixOf kPartials s = true
      ·rw [if_pos c4] at z; exact absurd z (by decide)
      ·rw [if_neg c4] at z; exact h2 z
   ·rw [if_neg c1] at z; exact h2 z

theorem finish_agree {site : SiteM} {comp s : Str} {h : Nat} {st : ScanM} (hh : s.head? = some 47) (hnd : NoDbl s) (hb : slashB s s.length = (h : Int)) (hlt : h < s.length) (hc : s[h]? = some 47) (hno : NoSl s (h + 1) s.length) (hlp : lastPart s = s.drop (h + 1))
  (hk : wordsKnown comp (lastPart s) = true) (hr : Read site comp s (lastPart s) (h + 1) st.p) (hsl : SlInv s 0 st) :
  ∃ w, w = wordsEnd site (lastPart s) (readAll site comp s (lastPart s)) /\ Agree h (PathS.finish site comp st.p st.slashes) w /\ (PathS.finish site comp st.p st.slashes).sectionM = sectionOf w := by
 obtain ⟨w, hw⟩ : ∃ w, w = wordsEnd site (lastPart s) (readAll site comp s (lastPart s)) := ⟨_, rfl⟩
 refine ⟨w, hw, ?_⟩
 obtain ⟨k1, k2, k3, k4⟩ := hr.core
 obtain ⟨keepP, keepN⟩ := readAll_keep site comp s (lastPart s)
 have hwp : w.path = s := by rw [hw]; exact keepP
 have hwn : w.name = lastPart s := by rw [hw]; exact keepN
 have hnl : (lastPart s).length = s.length - (h + 1) := by rw [hlp, List.length_drop]
 have hT : Tells st.p w := by
  rw [hw]
  by_cases hn : cutPoints (lastPart s) = []
  ·exact tells_none hr hn
  ·exact tells_some hr hn
 have hhc := hr.hc
 -- the name's end
 have hne : w.nameEnd = markEnd (readAll site comp s (lastPart s)).marks (lastPart s).length := by rw [hw]; rfl
 have hcomp : w.component = comp := by
  rw [hw]
  show (readAll site comp s (lastPart s)).w.component = comp
  by_cases hn : cutPoints (lastPart s) = []
  ·unfold readAll; rw [if_pos hn]; rfl
  ·exact (hr.some hn).1.cmp
 have hmk : ∀ (l : List Int) (n : Nat), markEnd l n <= n := by
  intro l
  unfold markEnd
  induction l with
  | nil => intro n; exact Nat.le_refl _
  | cons m l ih =>
   intro n
   rw [List.foldl_cons]
   split
   ·have := ih m.toNat; omega
   ·exact ih n
 have hnele : w.nameEnd <= (lastPart s).length := by rw [hne]; exact hmk _ _
 have hX : PathS.fin1 st.p = { st.p with nLow := h + 1, nHigh := h + 1 + w.nameEnd } := by
  have e1 : (PathS.fin1 st.p).nHigh = h + 1 + w.nameEnd := by
   unfold PathS.fin1
   by_cases hn : cutPoints (lastPart s) = []
   ·have e := hr.none hn
    have e2 : st.p.nameHigh = -1 := by rw [e]; rfl
    rw [if_neg (by rw [e2, hhc]; omega)]
    show st.p.s.length = _
    rw [k1, hne]
    unfold readAll
    rw [if_pos hn]
    show s.length = h + 1 + (lastPart s).length
    omega
   ·obtain ⟨_, e, _⟩ := hr.some hn
    rw [if_pos (by rw [e, hhc]; omega)]
    show st.p.nameHigh.toNat = _
    rw [e, hne]; omega
  rw [fin1_form, e1, show st.p.cHigh.toNat = h + 1 by rw [hhc, Int.toNat_natCast]]
 have e0 : PathS.finish site comp st.p st.slashes = PathS.fin4 (PathS.fin3 comp (PathS.fin2 site (PathS.fin1 st.p) st.slashes)) := rfl
 rw [e0, hX]
 obtain ⟨X, hXd⟩ : ∃ X : PathS, X = { st.p with nLow := h + 1, nHigh := h + 1 + w.nameEnd } := ⟨_, rfl⟩
 rw [<- hXd]
 have x_typ : X.typ = if holdsL s kShort then 7 else 0 := by rw [hXd]; exact k4
 have x_known : X.known = st.p.known := by rw [hXd]
 -- the extension
 have hxe : X.ext = w.ext := by rw [hXd]; exact hT.ext
 have hxc : X.comp = comp := by rw [hXd]; exact k2
 have hxn : sub X.s (X.nLow, X.nHigh) = w.name.take w.nameEnd := by
  rw [hXd]
  show (st.p.s.drop (h + 1)).take (h + 1 + w.nameEnd - (h + 1)) = _
  rw [k1, hwn, <- hlp, Nat.add_sub_cancel_left]
 have hids : w.ids = [] ↔ X.known = [] := by rw [x_known, <- hT.ids, List.map_eq_nil_iff]
 have hxs : X.s = s := by rw [hXd]; exact k1
 have hxt : X.trim = false := by rw [hXd]; exact k3
 -- the types
 obtain ⟨q2, hq2⟩ : ∃ q, q = PathS.fin2 site X st.slashes := ⟨_, rfl⟩
 obtain ⟨q3, hq3⟩ : ∃ q, q = PathS.fin3 comp q2 := ⟨_, rfl⟩
 have f2 := fin2_form site X st.slashes
 rw [<- hq2] at f2
 have f3 := fin3_form comp q2
 rw [<- hq3] at f3
 have q2b : X.baseof = st.p.baseof := by rw [hXd]
 have hxp : X.path = s := by unfold PathS.path; rw [hxt, if_neg (by decide), hxs]
 have hlow : X.nLow < X.nHigh ↔ w.name.take w.nameEnd ≠ [] := by
  rw [hXd]
  show h + 1 < h + 1 + w.nameEnd ↔ _
  constructor
  ·intro z e
   have := congrArg List.length e
   rw [List.length_take, hwn, List.length_nil] at this
   omega
  ·intro z
   rcases Nat.eq_zero_or_pos w.nameEnd with y | y
   ·rw [y] at z; exact absurd rfl z
   ·omega
 have hbas : (readAll site comp s (lastPart s)).baseof = (X.baseof != -1) /\ (readAll site comp s (lastPart s)).layouts = (comp == kLayouts) := by
  rw [q2b]
  by_cases hn : cutPoints (lastPart s) = []
  ·have e := hr.none hn
   have e2 : st.p.baseof = -1 := by rw [e]; rfl
   rw [e2]
   unfold readAll
   rw [if_pos hn]
   exact ⟨rfl, rfl⟩
  ·exact ⟨(hr.some hn).1.bas.1, (hr.some hn).1.lys⟩
 have hkb : X.known = [] -> (X.baseof != -1) = false := fun e => by
  rw [q2b]
  by_cases hn : cutPoints (lastPart s) = []
  ·have e := hr.none hn
   have e2 : st.p.baseof = -1 := by rw [e]; rfl
   rw [e2]; rfl
  ·exact absurd (x_known ▸ e) (hr.some hn).2.2.ne
 obtain ⟨ft1, ft2, ft3⟩ := fin_typ site comp s (w.name.take w.nameEnd) w.ext X st.slashes w.ids.isEmpty hxe hxc hxn hlow x_typ (by rw [<- hids]; simp) (fun z => hkb (hids.1 (by simpa using z))) hxp
 rw [<- hq2, <- hq3] at ft1
 rw [<- hq2, <- hq3] at ft2
 rw [<- hq2, <- hq3] at ft3
 have htyp : q3.typ = w.typ := by
  have hwt : w.typ = ReadM.typeOf site { readAll site comp s (lastPart s) with w := { w with typ := (readAll site comp s (lastPart s)).w.typ } } := by rw [hw]; rfl
  rw [hwt]
  unfold ReadM.typeOf
  dsimp only
  rw [hbas.1, hbas.2, hcomp, hwp]
  exact ft1
 -- the plain layout stays
 have h4 : PathS.fin4 q3 = q3 := by
  unfold PathS.fin4
  rw [if_neg]
  rintro ⟨z1, z2, z3⟩
  have q3l : q3.lay = st.p.lay := by rw [f3, f2, hXd]
  have q3k : q3.known = st.p.known := by rw [f3, f2, hXd]
  have q3c : q3.cHigh = ((h + 1 : Nat) : Int) := by rw [f3, f2, hXd]; exact hhc
  rw [q3l] at z2 z3
  rw [q3k, q3c] at z3
  have hsh : st.p.typ = 7 := by rw [k4, if_pos (ft2 z1)]
  by_cases hn : cutPoints (lastPart s) = []
  ·exact z2 (by rw [hr.none hn]; rfl)
  ·have := (hr.some hn).2.2.lp hsh z2
   omega
 rw [<- hq2, <- hq3, h4]
 have form : q3 = { st.p with nLow := h + 1, nHigh := h + 1 + w.nameEnd, typ := q3.typ, sHigh := q3.sHigh } := by
  have e : q3.sHigh = q2.sHigh := by rw [f3]
  rw [f3, f2, hXd]
 have q3s : q3.sHigh = if w.typ = 3 /\ st.slashes = 2 then 0 else st.p.sHigh := by
  have e2 : X.sHigh = st.p.sHigh := by rw [hXd]
  rw [ft3, htyp, e2]
 generalize q3.typ = ty at form htyp
 generalize q3.sHigh = sg at form q3s
 rw [form]
 clear form hq3 hq2 f2 f3 q2b h4 ft1 ft2 ft3 hbas hkb hlow
 obtain ⟨hi0, hi1, hsh, hct⟩ := hsl
 obtain ⟨h', c1, c2, c3, c4, c5, c6⟩ := hi1 (by rw [hhc]; omega)
 have hh' : h' = h := by rw [hhc] at c1; omega
 subst hh'
 refine ⟨⟨by rw [hwp]; exact k1, by rw [hcomp]; exact k2, k3, htyp, by rw [hwp]; exact hh, by rw [hwp, hwn]; exact hlp, by rw [hwp]; exact hlt, ?_, by rw [hwp]; exact hb, ?_, by rw [hwp]; exact hc, by rw [hwp]; exact hnd, rfl, rfl, by rw [hwn]; exact hnele, ?_, hT.ids, hT.unk, hT.lgs, hT.fmt, hT.knd, hT.lay, hT.lng, hT.cus, hT.dis, hT.lg0, hT.two⟩, ?_⟩
 ·show st.p.cHigh = _; rw [hhc]; omega
 ·rw [hwp]
  by_cases hcl : st.p.cLow = -1
  ·exact .inl ⟨hcl, c5 hcl⟩
  ·obtain ⟨l, d1, _, d2, d3, d4⟩ := c6 hcl
   exact .inr ⟨l, d1, d2, d3, d4⟩
 ·rw [hwp, hwn]
  by_cases hn : cutPoints (lastPart s) = []
  ·left
   have e := hr.none hn
   refine ⟨?_, ?_⟩
   ·show st.p.known = []; rw [e]; rfl
   ·rw [hw]
    show (readAll site comp s (lastPart s)).w.ext = []
    unfold readAll; rw [if_pos hn]; rfl
  ·right
   obtain ⟨a, _, x⟩ := hr.some hn
   have hok := name_ok hn hk
   have hpos : 0 < (cutPoints (lastPart s)).length := List.length_pos_iff.2 hn
   have hlast : (cutPoints (lastPart s)).length - 1 < (cutPoints (lastPart s)).length := by omega
   have hcut : (lastPart s)[(cutPoints (lastPart s)).getD ((cutPoints (lastPart s)).length - 1) 0]? = some 46 := by
    rw [List.getD_eq_getElem?_getD, List.getElem?_eq_getElem hlast]
    exact cuts_dot (List.getElem_mem hlast)
   have hcl := cut_lt hlast
   refine ⟨(cutPoints (lastPart s)).getD ((cutPoints (lastPart s)).length - 1) 0, x.hd, ?_, ?_, ?_, hcut⟩
   ·have := hok.ext; omega
   ·rw [hw]
    show (readAll site comp s (lastPart s)).w.ext = _
    have e1 := a.ext
    rw [a.ids] at e1
    have hd := x.hd
    rw [List.getElem?_map, <- List.head?_eq_getElem?, hd] at e1
    have e2 : sub st.p.s (h' + 1 + (cutPoints (lastPart s)).getD ((cutPoints (lastPart s)).length - 1) 0 + 1, s.length) = (readAll site comp s (lastPart s)).w.ext := Option.some.inj e1
    rw [<- e2, k1, hlp, List.drop_drop]
    unfold sub
    rw [List.take_of_length_le (by rw [List.length_drop]; exact Nat.le_refl _)]
    rfl
   ·rw [hne]
    exact mark_pos hn hok
 ·-- the section
  have hs1 : ({ st.p with nLow := h' + 1, nHigh := h' + 1 + w.nameEnd, typ := ty, sHigh := sg } : PathS).sectionM = if sg <= 0 then [] else sub s (1, sg.toNat) := by
   unfold PathS.sectionM PathS.norm
   show (if sg <= 0 then [] else (if st.p.trim = true then _ else sub st.p.s (1, sg.toNat))) = _
   rw [k3, if_neg (show ¬ false = true by decide), k1]
  rw [hs1, q3s]
  unfold sectionOf partsOf
  rw [hwp]
  obtain ⟨t, rfl⟩ : ∃ t, s = 47 :: t := by
   cases s with
   | nil => cases hh
   | cons c t => simp at hh; exact ⟨t, by rw [hh]⟩
  rw [if_neg (show ¬ (47 :: t : Str) = [] by simp)]
  have ed : (47 :: t : Str).drop 1 = t := rfl
  rw [ed, splitL_len]
  have hcnt : st.slashes = ((t.countP (· == 47) + 1 : Nat) : Int) := by
   rw [hct, List.drop_zero, List.countP_cons]; rfl
  rw [hcnt]
  have shift : ∀ g, NoSl (47 :: t) (max 0 1) (g + 1) -> NoSl t 0 g := fun g hg j h1 h2 => by
   have := hg (j + 1) (by omega) (by omega)
   simpa using this
  rcases hsh with ⟨d1, d2⟩ | ⟨g, d1, d2, _, d3, d4⟩
  ·have hz := noSl_count (shift t.length (by simpa using d2))
   have hsg : (if w.typ = 3 /\ ((0 + 1 : Nat) : Int) = 2 then (0 : Int) else st.p.sHigh) <= 0 := by rw [d1]; split <;> omega
   rw [hz, if_pos hsg, if_pos (.inl (by omega))]
  ·obtain ⟨g, rfl⟩ : ∃ g', g = g' + 1 := ⟨g - 1, by omega⟩
   have d5 : t[g]? = some 47 := by simpa using d3
   have hg : g < t.length := by
    rcases Nat.lt_or_ge g t.length with z | z
    ·exact z
    ·rw [List.getElem?_eq_none z] at d5; cases d5
   have hpos : 0 < t.countP (· == 47) := by
    rw [List.countP_pos_iff]
    exact ⟨47, List.mem_of_getElem? d5, by decide⟩
   have hhead := splitL_head t g (shift g d4) (by omega) (.inl d5)
   by_cases h3 : w.typ = 3 /\ ((t.countP (· == 47) + 1 : Nat) : Int) = 2
   ·rw [if_pos h3, if_pos (Int.le_refl 0), if_pos (.inr ⟨by omega, h3.1⟩)]
   ·rw [if_neg h3, d1, if_neg (by omega), if_neg (by rintro (z | ⟨z1, z2⟩); omega; exact h3 ⟨z2, by omega⟩), hhead]
    unfold sub
    show (t.drop 0).take (((g + 1 : Nat) : Int).toNat - 1) = _
    rw [List.drop_zero, Int.toNat_natCast, Nat.add_sub_cancel]

/-! ### The law of a parse -/
theorem siteKnown_words {site : SiteM} (h : siteKnown site = true) : Words site := by
 have sw : ∀ l, siteWords l = true -> ∀ w, amongL l w = true -> w ≠ [] := by
  intro l hl w hw e
  subst e
  have h1 : siteWordsFrom [] l = true := by unfold siteWords at hl; rw [Bool.and_eq_true] at hl; exact hl.1
  clear hl
  have : ∀ (l seen : List Str), siteWordsFrom seen l = true -> amongL l [] = true -> False := by
   intro l
   induction l with
   | nil => intro seen _ e; cases e
   | cons x r ih =>
    intro seen h1 h2
    unfold siteWordsFrom at h1
    simp only [Bool.and_eq_true] at h1
    unfold amongL at h2
    rw [List.any_cons, Bool.or_eq_true] at h2
    rcases h2 with e | e
    ·have : x = [] := by simpa using e
     rw [this] at h1
     exact absurd h1.1.1 (by decide)
    ·exact ih _ h1.2 e
  exact this l [] h1 hw
 rw [siteKnown_eq] at h
 simp only [Bool.and_eq_true] at h
 obtain ⟨⟨⟨⟨⟨h1, h2⟩, h3⟩, h4⟩, h5⟩, h6⟩ := h
 refine ⟨sw _ h1, sw _ h2, ?_⟩
 intro w hw e
 subst e
 unfold formatNamed at hw
 rw [List.any_eq_true] at hw
 obtain ⟨f, hf, e⟩ := hw
 rw [List.all_eq_true] at h6
 have := h6 f hf
 have e2 : f.1 = [] := by simpa using e
 rw [Bool.and_eq_true, e2] at this
 exact absurd this.1 (by decide)

/-- What is asked of a text that is parsed. -/
structure Parsable (site : SiteM) (comp s : Str) : Prop where
 words : Words site
 nodbl : NoDbl s
 known : wordsKnown comp (lastPart (normPath s)) = true
theorem parse_agree {site : SiteM} {comp s : Str} (hp : Parsable site comp s) :
  ∃ h w, w = wordsEnd site (lastPart (normPath s)) (readAll site comp (normPath s) (lastPart (normPath s))) /\ Agree h (doParseM site comp s) w /\ (doParseM site comp s).sectionM = sectionOf w := by
 have hh := normPath_head s
 obtain ⟨h, a1, a2, a3, a4, a5, a6⟩ := scan_read site comp (normPath s) hp.words hh hp.known
 have hsl := down_sl site comp (skipsOf (normPath s)) ((countDots (lastPart (normPath s)) : Int) - (skipsOf (normPath s)).length) hh (normPath s).length (start_inv comp (normPath s)) (start_sl comp (normPath s))
 obtain ⟨w, w1, w2, w3⟩ := finish_agree hh (noDbl_norm hp.nodbl) a1 a2 a3 a4 a5 hp.known a6 hsl
 exact ⟨h, w, w1, w2, w3⟩

theorem normL_get (s : Str) (i : Nat) : (normL s)[i]? = some 47 ↔ s[i]? = some 47 := by
 have hb : ∀ c : UInt8, normB (Lib.lowerB c) = 47 ↔ c = 47 := fun c => by
  have h : ∀ n : Fin 256, normB (Lib.lowerB (UInt8.ofNat n)) = 47 ↔ UInt8.ofNat n = 47 := by decide +kernel
  have := h ⟨c.toNat, c.toNat_lt⟩
  simpa using this
 unfold normL Lib.toLowerA
 rw [List.map_map, List.getElem?_map]
 cases s[i]? with
 | none => simp
 | some c =>
  have := hb c
  constructor
  ·intro e
   have e : normB (Lib.lowerB c) = 47 := Option.some.inj e
   rw [this.1 e]
  ·intro e
   have e : c = 47 := Option.some.inj e
   show some (normB (Lib.lowerB c)) = _
   rw [this.2 e]
theorem noDbl_normL {s : Str} (h : NoDbl s) : NoDbl (normL s) := fun i h1 h2 => h i ((normL_get s i).1 h1) ((normL_get s (i + 1)).1 h2)

theorem known_parsable {site : SiteM} {comp s : Str} (h : pathKnown site comp s = true) : Parsable site comp (normL s) /\ Parsable site comp s := by
 unfold pathKnown at h
 simp only [Bool.and_eq_true, Bool.not_eq_true', decide_eq_true_eq] at h
 obtain ⟨⟨⟨⟨⟨⟨h1, h2⟩, h3⟩, h4⟩, h5⟩, h6⟩, h7⟩ := h
 have hw := siteKnown_words h1
 have hd := noDbl_of h2
 exact ⟨⟨hw, noDbl_normL hd, h6⟩, ⟨hw, hd, h7⟩⟩
/-- A known path: what it agrees with. -/
theorem known_agree {site : SiteM} {comp s : Str} (h : pathKnown site comp s = true) : ∃ k, Agree k (doParseM site comp (normL s)) (wordsOf site comp s false) /\ (doParseM site comp (normL s)).sectionM = sectionOf (wordsOf site comp s false) := by
 obtain ⟨k, w, w1, w2, w3⟩ := parse_agree (known_parsable h).1
 have e : w = wordsOf site comp s false := by rw [w1, wordsOf_eq]; rfl
 rw [<- e]
 exact ⟨k, w2, w3⟩
theorem known_agreeU {site : SiteM} {comp s : Str} (h : pathKnown site comp s = true) : ∃ k, Agree k (doParseM site comp s) (wordsOf site comp s true) /\ (doParseM site comp s).sectionM = sectionOf (wordsOf site comp s true) := by
 obtain ⟨k, w, w1, w2, w3⟩ := parse_agree (known_parsable h).2
 have e : w = wordsOf site comp s true := by rw [w1, wordsOf_eq]; rfl
 rw [<- e]
 exact ⟨k, w2, w3⟩
theorem parse_eq {site : SiteM} {comp s : Str} (h : pathKnown site comp s = true) : toldM (doParseM site comp (normL s)) = specParse site comp s := by
 obtain ⟨k, a, b⟩ := known_agree h
 rw [told_answers a, b]; rfl
theorem unnorm_eq {site : SiteM} {comp s : Str} (h : pathKnown site comp s = true) : toldM (doParseM site comp s) = specUnnormalized site comp s := by
 obtain ⟨k, a, b⟩ := known_agreeU h
 rw [told_answers a, b]; rfl

end Go.Proofs.YtjkecadfakjanaaGreatDoor

namespace Go.Proofs.YtjkecadfakjanaaGreatDoor

theorem Agree.typed {h : Nat} {P : PathS} {w : WordsM} (a : Agree h P w) (t : Int) : Agree h { P with typ := t } { w with typ := t } :=
 { s_ := a.s_, cmp := a.cmp, trim := a.trim, typ := rfl, hd := a.hd, name := a.name, hlt := a.hlt, hc := a.hc, sl := a.sl, cl := a.cl, at_ := a.at_, nodbl := a.nodbl, nl := a.nl, nh := a.nh, ne := a.ne, kn := a.kn, ids := a.ids, unk := a.unk, lgs := a.lgs, fmt := a.fmt, knd := a.knd, lay := a.lay, lng := a.lng, cus := a.cus, dis := a.dis, lg0 := a.lg0, two := a.two }
/-- What words answer as of another type; the section stays. -/
def typedL (W : WordsM) (t : Int) : ToldM := { answers { W with typ := t } with section_ := sectionOf W }
theorem typed_eq {site : SiteM} {comp s : Str} (h : pathKnown site comp s = true) (t : Int) : toldM { doParseM site comp (normL s) with typ := t } = typedL (wordsOf site comp s false) t := by
 obtain ⟨k, a, b⟩ := known_agree h
 rw [told_answers (a.typed t)]
 show { answers _ with section_ := (doParseM site comp (normL s)).sectionM } = _
 rw [b]; rfl
theorem typ_eq {site : SiteM} {comp s : Str} (h : pathKnown site comp s = true) : (doParseM site comp (normL s)).typ = (wordsOf site comp s false).typ := by
 obtain ⟨k, a, b⟩ := known_agree h
 exact a.typ

end Go.Proofs.YtjkecadfakjanaaGreatDoor
