/- The words of a path's last part, one after another: what the package's scan makes of them and what the reference makes of them tell the same. Plain Lean; no program here. Conditions: a site whose words are not empty; a last part of which something is said. -/
import Derived.Test.YtbpoljgchbfhpaaGreatDoorSim
import Derived.Test.YtbpoljgchbfhpaaGreatDoorSpecD
set_option linter.unusedVariables false
set_option linter.unusedSimpArgs false
namespace Go.Proofs.YtbpoljgchbfhpaaGreatDoor

/-- A reading reads one more word (not the extension). -/
def readStep (site : SiteM) (r : ReadM) (word : Str) (at_ : Int) : ReadM :=
  match wrapped word with
  | some x => ReadM.wrapper site r word x at_
  | none => ReadM.plain site r word at_
/-- A word of a layout is no tag alone. -/
def TagOK (comp : Str) (w : Str) : Prop := comp = kLayouts → isWrap w = true → ∀ q ∈ tagsList, startsL (lowerL (innerOf w)) q = true → (innerOf w).length ≠ q.length

theorem step_sim {site : SiteM} {comp : Str} {p : PathS} {r : ReadM} (hs : Words site) (h : Sim site comp p r) (id : Nat × Nat) (h2 : id.2 ≤ p.s.length) (ht : TagOK comp (sub p.s id))
    (numDots : Int) (isLast : Bool) (at_ : Int) (hpts : decide (1 < numDots) = decide (2 ≤ r.points)) (hlast : isLast = decide (at_ < 0)) :
    ∃ q b, PathS.word site comp p id numDots isLast = (q, b) ∧ Sim site comp q (readStep site r (sub p.s id) at_) ∧ q.s = p.s ∧ q.nameHigh = p.nameHigh ∧ Core p q ∧
      (readStep site r (sub p.s id) at_).marks = (if b then r.marks ++ [at_] else r.marks) ∧ (readStep site r (sub p.s id) at_).points = r.points := by
  unfold readStep
  rw [isWrap_wrapped]
  cases hw : isWrap (sub p.s id) with
  | true =>
    obtain ⟨q, a1, a2, a3, a4, a5, a6, a7⟩ := wrapper_sim hs h id h2 hw (fun hc => ht hc hw) numDots isLast at_
    exact ⟨q, true, a1, a2, a3, a4, a5, a6, a7⟩
  | false => exact plain_sim hs h id hw numDots isLast at_ hpts hlast

/-! ### The ends of names -/
theorem markEnd_snoc (l : List Int) (m : Int) (n : Nat) : markEnd (l ++ [m]) n = if 0 ≤ m ∧ m < (markEnd l n : Int) then m.toNat else markEnd l n := by
  unfold markEnd
  rw [List.foldl_append]; rfl

/-- Where the words stand: the path, the name, the place of its first byte. -/
structure At (s name : Str) (n0 : Nat) : Prop extends Tail s name n0 where
  pos : 0 < n0
theorem At.sub {s name : Str} {n0 : Nat} (h : At s name n0) (a b : Nat) : sub s (n0 + a, n0 + b) = (name.drop a).take (b - a) := by
  have hd : s.drop n0 = name := by
    apply List.ext_getElem?
    intro j
    rw [List.getElem?_drop]; exact h.get j
  unfold Go.Proofs.YtbpoljgchbfhpaaGreatDoor.sub
  rw [← hd, List.drop_drop]
  show (s.drop (n0 + a)).take (n0 + b - (n0 + a)) = _
  rw [show n0 + b - (n0 + a) = b - a by omega]

/-- The state between two words: the next one ends at place e of the name. -/
structure Mid (site : SiteM) (comp s name : Str) (n0 : Nat) (numDots : Int) (p : PathS) (ld : Nat) (r : ReadM) (e : Nat) : Prop where
  sim : Sim site comp p r
  ps : p.s = s
  hc : p.cHigh = -1
  ld : ld = n0 + e
  le : e ≤ name.length
  pts : decide (1 < numDots) = decide (2 ≤ r.points)
  nh : p.nameHigh = (n0 : Int) + markEnd r.marks name.length
  me : e ≤ markEnd r.marks name.length

theorem Sim.nh {site : SiteM} {comp : Str} {p : PathS} {r : ReadM} (h : Sim site comp p r) (x : Int) : Sim site comp { p with nameHigh := x } r :=
  ⟨h.cmp, h.lys, h.sho, h.ids, h.unk, h.ext, h.exn, h.lay, h.lng, h.lgs, h.fmt, h.knd, h.bas, h.cus, h.pfm, h.pkn, h.ply, h.dis⟩
theorem Sim.bounds {site : SiteM} {comp : Str} {p : PathS} {r : ReadM} (h : Sim site comp p r) (a b c : Int) : Sim site comp { p with cHigh := a, cLow := b, sHigh := c } r :=
  ⟨h.cmp, h.lys, h.sho, h.ids, h.unk, h.ext, h.exn, h.lay, h.lng, h.lgs, h.fmt, h.knd, h.bas, h.cus, h.pfm, h.pkn, h.ply, h.dis⟩
theorem Sim.known {site : SiteM} {comp : Str} {p : PathS} {r : ReadM} (h : Sim site comp p r) : p.known ≠ [] := fun e => by have := h.idsPos; rw [h.ids, e] at this; exact absurd this (by simp)

theorem mid_step {site : SiteM} {comp s name : Str} {n0 : Nat} {numDots : Int} {p : PathS} {ld : Nat} {r : ReadM} {e : Nat} (hs : Words site) (ha : At s name n0) (h : Mid site comp s name n0 numDots p ld r e) (c : Nat) (hc : c < e)
    (ht : TagOK comp ((name.drop (c + 1)).take (e - (c + 1)))) :
    Mid site comp s name n0 numDots (PathS.parseId site comp p (n0 + c) ld numDots false) (n0 + c) (readStep site r ((name.drop (c + 1)).take (e - (c + 1))) (c : Int)) c ∧ Core p (PathS.parseId site comp p (n0 + c) ld numDots false) := by
  have hk := h.sim.known
  rw [parseId_open site comp p (n0 + c) ld numDots false h.hc, if_neg hk]
  have hw : sub p.s (n0 + c + 1, ld) = (name.drop (c + 1)).take (e - (c + 1)) := by rw [h.ps, h.ld]; exact ha.sub (c + 1) e
  have hle : ld ≤ p.s.length := by rw [h.ld, h.ps, ha.len]; have := h.le; omega
  obtain ⟨q, b, a1, a2, a3, a4, a5, a6, a7⟩ := step_sim hs h.sim (n0 + c + 1, ld) hle (by rw [hw]; exact ht) numDots false (c : Int) h.pts (by simp)
  rw [hw] at a2 a6 a7
  rw [a1]
  have hme := h.me
  have hle2 := h.le
  cases b with
  | true =>
    rw [finId_mid]
    have hm : markEnd (r.marks ++ [(c : Int)]) name.length = c := by rw [markEnd_snoc, if_pos ⟨by omega, by omega⟩]; rfl
    rw [if_pos rfl] at a6
    refine ⟨⟨a2.nh _, a3.trans h.ps, a5.2.2.2.2.1.trans h.hc, rfl, by omega, by rw [a7]; exact h.pts, ?_, ?_⟩, a5⟩
    · show ((n0 + c : Nat) : Int) = _
      rw [a6, hm]; omega
    · rw [a6, hm]; exact Nat.le_refl _
  | false =>
    rw [finId_no]
    rw [if_neg (by decide)] at a6
    refine ⟨⟨a2, a3.trans h.ps, a5.2.2.2.2.1.trans h.hc, rfl, by omega, by rw [a7]; exact h.pts, ?_, ?_⟩, a5⟩
    · rw [a4, h.nh, a6]
    · rw [a6]; omega

theorem last_step {site : SiteM} {comp s name : Str} {n0 : Nat} {numDots : Int} {p : PathS} {ld : Nat} {r : ReadM} {e : Nat} (hs : Words site) (ha : At s name n0) (h : Mid site comp s name n0 numDots p ld r e)
    (ht : TagOK comp ((name.drop 0).take (e - 0))) :
    Sim site comp (PathS.parseId site comp p (n0 - 1) ld numDots true) (readStep site r ((name.drop 0).take (e - 0)) (-1)) ∧ Core p (PathS.parseId site comp p (n0 - 1) ld numDots true) ∧
      (PathS.parseId site comp p (n0 - 1) ld numDots true).nameHigh = (n0 : Int) + markEnd (readStep site r ((name.drop 0).take (e - 0)) (-1)).marks name.length := by
  have hk := h.sim.known
  have hp := ha.pos
  rw [parseId_open site comp p (n0 - 1) ld numDots true h.hc, if_neg hk, show n0 - 1 + 1 = n0 + 0 by omega]
  have hw : sub p.s (n0 + 0, ld) = (name.drop 0).take (e - 0) := by rw [h.ps, h.ld]; exact ha.sub 0 e
  have hle : ld ≤ p.s.length := by rw [h.ld, h.ps, ha.len]; have := h.le; omega
  obtain ⟨q, b, a1, a2, a3, a4, a5, a6, a7⟩ := step_sim hs h.sim (n0 + 0, ld) hle (by rw [hw]; exact ht) numDots true (-1) h.pts (by decide)
  rw [hw] at a2 a6 a7
  rw [a1]
  have hq : ¬ q.nameHigh ≤ 0 := by rw [a4, h.nh]; omega
  have hf : finId (q, b) (n0 - 1) ld true = q := by
    cases b with
    | true =>
      show (if q.nameHigh ≤ 0 then _ else q) = q
      rw [if_neg hq]
    | false => rfl
  rw [hf]
  refine ⟨a2, a5, ?_⟩
  rw [a4, h.nh, a6]
  cases b with
  | true => rw [if_pos rfl, markEnd_snoc, if_neg (by omega)]
  | false => rfl

/-! ### The words one after another -/
def procDots (site : SiteM) (comp : Str) (numDots : Int) (n0 : Nat) : PathS → Nat → List Nat → PathS × Nat
  | p, ld, [] => (p, ld)
  | p, ld, c :: L => procDots site comp numDots n0 (PathS.parseId site comp p (n0 + c) ld numDots false) (n0 + c) L

/-- Where the i-th word begins. -/
def fromAt (cuts : List Nat) (i : Nat) : Nat := if i = 0 then 0 else cuts.getD (i - 1) 0 + 1
theorem readWord_first (site : SiteM) (name : Str) (cuts : List Nat) (r : ReadM) (e : Nat) (h : 0 < cuts.length) : (readWord site name cuts r 0 e).1 = readStep site r ((name.drop 0).take (e - 0)) (-1) := by
  unfold readWord readStep
  dsimp only
  rw [if_neg (by omega)]
  rfl
theorem readWord_mid (site : SiteM) (name : Str) (cuts : List Nat) (r : ReadM) (i e : Nat) (h : i + 1 < cuts.length) :
    (readWord site name cuts r (i + 1) e) = (readStep site r ((name.drop (cuts.getD i 0 + 1)).take (e - (cuts.getD i 0 + 1))) (cuts.getD i 0 : Nat), cuts.getD i 0) := by
  unfold readWord readStep
  dsimp only
  rw [if_neg (by omega), if_neg (by omega), if_neg (by omega), Nat.add_sub_cancel, if_neg (by omega)]
  rfl

theorem chain_sim {site : SiteM} {comp s name : Str} {n0 : Nat} {numDots : Int} (hs : Words site) (ha : At s name n0) (ht : ∀ i, i < (cutPoints name).length → TagOK comp (wordAt name (cutPoints name) i (fromAt (cutPoints name) i))) :
    ∀ (n : Nat) (p : PathS) (ld : Nat) (r : ReadM), n < (cutPoints name).length → Mid site comp s name n0 numDots p ld r ((cutPoints name).getD n 0) →
      let P := procDots site comp numDots n0 p ld ((cutPoints name).take n).reverse
      let q := PathS.parseId site comp P.1 (n0 - 1) P.2 numDots true
      let R := readDown site name (cutPoints name) n r ((cutPoints name).getD n 0)
      Sim site comp q R ∧ Core p q ∧ q.nameHigh = (n0 : Int) + markEnd R.marks name.length ∧ 0 < P.2 ∧ P.1.cHigh = -1
  | 0, p, ld, r, hn, h => by
    have hw := ht 0 hn
    unfold wordAt endAt fromAt at hw
    rw [if_pos hn, if_pos rfl] at hw
    obtain ⟨a1, a2, a3⟩ := last_step hs ha h hw
    refine ⟨?_, a2, ?_, ?_, h.hc⟩
    · show Sim site comp _ (readWord site name (cutPoints name) r 0 _).1
      rw [readWord_first _ _ _ _ _ hn]; exact a1
    · show _ = (n0 : Int) + markEnd (readWord site name (cutPoints name) r 0 _).1.marks name.length
      rw [readWord_first _ _ _ _ _ hn]; exact a3
    · show 0 < ld
      rw [h.ld]; have := ha.pos; omega
  | i + 1, p, ld, r, hn, h => by
    have hw := ht (i + 1) hn
    unfold wordAt endAt fromAt at hw
    rw [if_pos hn, if_neg (by omega), Nat.add_sub_cancel] at hw
    have hi : i < (cutPoints name).length := by omega
    have hlt : (cutPoints name).getD i 0 < (cutPoints name).getD (i + 1) 0 := by
      have := cut_mono (name := name) (i := i) (j := i + 1) (by omega) hn
      simp only [List.getD_eq_getElem?_getD, List.getElem?_eq_getElem hi, List.getElem?_eq_getElem hn, Option.getD_some]
      exact this
    obtain ⟨a1, a2⟩ := mid_step hs ha h _ hlt hw
    have ih := chain_sim hs ha ht i _ _ _ hi a1
    have e1 : ((cutPoints name).take (i + 1)).reverse = (cutPoints name).getD i 0 :: ((cutPoints name).take i).reverse := by
      rw [List.take_succ_eq_append_getElem hi, List.reverse_append, List.getD_eq_getElem?_getD, List.getElem?_eq_getElem hi]; rfl
    have e2 : readDown site name (cutPoints name) (i + 1) r ((cutPoints name).getD (i + 1) 0) = readDown site name (cutPoints name) i (readStep site r ((name.drop ((cutPoints name).getD i 0 + 1)).take ((cutPoints name).getD (i + 1) 0 - ((cutPoints name).getD i 0 + 1))) ((cutPoints name).getD i 0 : Nat)) ((cutPoints name).getD i 0) := by
      show readDown site name (cutPoints name) i (readWord site name (cutPoints name) r (i + 1) _).1 (readWord site name (cutPoints name) r (i + 1) _).2 = _
      rw [readWord_mid _ _ _ _ _ _ hn]
    dsimp only
    rw [e1, e2]
    refine ⟨ih.1, ?_, ih.2.2⟩
    obtain ⟨b1, b2, b3, b4, b5, b6, b7⟩ := a2
    obtain ⟨c1, c2, c3, c4, c5, c6, c7⟩ := ih.2.1
    exact ⟨c1.trans b1, c2.trans b2, c3.trans b3, c4.trans b4, c5.trans b5, c6.trans b6, c7.trans b7⟩

end Go.Proofs.YtbpoljgchbfhpaaGreatDoor
