/- The walk of doParse: the text made a path's, its points within wrappers, the scan from the end, the last steps. Conditions: a new path in memory, a parser that knows a site, a text of ASCII of at most 900000 bytes. -/
import Derived.Test.YtjkecadfakjanaaGreatDoorParseId
import Derived.Test.YtjkecadfakjanaaGreatDoorSkip
import Derived.Test.YtjkecadfakjanaaGreatDoorSimM
set_option maxRecDepth 100000
set_option linter.unusedVariables false
set_option linter.unusedSimpArgs false
namespace Go.Proofs.YtjkecadfakjanaaGreatDoor
open Go.RowKit
attribute [local go_sem] B_extract B_toList B_append

/-! ### The points within wrappers, in order -/
theorem dotsIn_sorted (s : Str) : ∀ (n j : Nat), (dotsIn s n j).Pairwise (· < ·)
 | 0, j => List.Pairwise.nil
 | n + 1, j => by
  have ih := dotsIn_sorted s n (j + 1)
  unfold dotsIn
  split
  ·exact List.Pairwise.cons (fun x hx => by have := ((dotsIn_mem _ _ _).1 hx).1; omega) ih
  ·exact ih
theorem wrapEndI_ge {s : Str} : ∀ (n k : Nat) {e : Nat}, wrapEndI s n k = some e -> k <= e
 | 0, k, e, h => by cases h
 | n + 1, k, e, h => by
  unfold wrapEndI at h
  split at h
  ·cases h
  ·split at h
   ·have := Option.some.inj h; omega
   ·have := wrapEndI_ge n (k + 1) h; omega
theorem skips_sorted (s : Str) : ∀ (n i : Nat), (skipsFrom s n i).Pairwise (· < ·)
 | 0, i => List.Pairwise.nil
 | n + 1, i => by
  unfold skipsFrom
  split
  ·exact List.Pairwise.nil
  ·split
   ·split
    ·rename_i e he
     rw [List.pairwise_append]
     refine ⟨dotsIn_sorted _ _ _, skips_sorted s n (e + 1), fun x hx y hy => ?_⟩
     have h1 := ((dotsIn_mem _ _ _).1 hx).2.1
     have h2 := skips_ge _ _ _ hy
     have h3 := wrapEndI_ge _ _ he
     omega
    ·exact skips_sorted s n (i + 1)
   ·exact skips_sorted s n (i + 1)
theorem skipsOf_sorted (s : Str) : (skipsOf s).Pairwise (· < ·) := by
 unfold skipsOf
 split
 ·exact List.Pairwise.nil
 ·exact skips_sorted s _ _
theorem skipM_contains : ∀ (l : List Nat) (i : Nat), l.Pairwise (· < ·) -> skipM l i = l.contains i
 | [], i, _ => rfl
 | d :: r, i, h => by
  rw [List.pairwise_cons] at h
  unfold skipM
  rw [List.contains_cons]
  by_cases h1 : d = i
  ·rw [if_pos h1]; simp [h1]
  ·have e1 : (i == d) = false := by simpa using Ne.symm h1
   rw [if_neg h1, e1, Bool.false_or]
   by_cases h2 : i < d
   ·rw [if_pos h2]
    cases hc : r.contains i with
    | false => rfl
    | true =>
     have := h.1 i (List.contains_iff_mem.1 hc)
     omega
   ·rw [if_neg h2]; exact skipM_contains r i h.2

/-! ### A row beside a path -/
theorem PathAt.keep {w : World} {base b : Nat} {p : PathS} {vk vu vl uv : Value} (h : PathAt w base b p vk vu vl ⟨uv, none⟩) (row : Option (Nat × Array Value)) (hr : ∀ g cur, row = some (g, cur) -> w.heap[g]? = some (.cells cur 3 (0, 0)) /\ vl.ownBlock ≠ some g) :
  PathAt w base b p vk vu vl ⟨uv, row⟩ := ⟨h.blk, h.kn, h.uk, h.lg, h.ne, hr, h.lb⟩
theorem PathAt.drop {w : World} {base b : Nat} {p : PathS} {vk vu vl uv : Value} {row : Option (Nat × Array Value)} (h : PathAt w base b p vk vu vl ⟨uv, row⟩) : PathAt w base b p vk vu vl ⟨uv, none⟩ := ⟨h.blk, h.kn, h.uk, h.lg, h.ne, fun g cur e => by (cases e), h.lb⟩
theorem OwnN.row {w : World} {base : Nat} {v : Value} {l : List Nat} (h : OwnN w base v l) : ∃ row : Option (Nat × Array Value), (∀ g cur, row = some (g, cur) -> w.heap[g]? = some (.cells cur 3 (0, 0)) /\ base <= g) /\
  ∀ w' : World, (∀ g cur, row = some (g, cur) -> w'.heap[g]? = some (.cells cur 3 (0, 0))) -> w'.ownsRow base 3 1 v l.length (natCells l) := by
 obtain ⟨⟨h1, h2⟩, h3⟩ := h
 rcases h2 with ⟨rfl, h0⟩ | ⟨g, cap, cur, rfl, hg, hh, r⟩
 ·exact ⟨none, fun g cur e => by (cases e), fun w' _ => ⟨h1, .inl ⟨rfl, h0⟩⟩⟩
 ·refine ⟨some (g, cur), fun g' cur' e => ?_, fun w' hw => ⟨h1, .inr ⟨g, cap, cur, rfl, hg, hw g cur rfl, r⟩⟩⟩
  cases e
  exact ⟨hh, hg⟩

theorem c_parseId (w0 w : World) (p : PathS) (b pb mb fb sb : Nat) (vl0 vd vf vc : Value) (un : Un) (site : SiteM) (hpp : PPAt w0 pb mb fb sb vl0 vd vf vc site) (hs : Scan w0 w b p un) (f : Fits p) (comp s : Str) (i lastDot : Nat) (numDots : Int) (isLast : Bool)
  (hb : p.cHigh = -1 -> (idOf p i lastDot).1 <= (idOf p i lastDot).2 /\ (idOf p i lastDot).2 <= p.s.length) (hkw : Within p.s p.known) (hly : p.lay = -1 \/ 1 <= p.lay /\ p.lay < (p.known.length : Int)) :
  Calls Tryz.prog 146 #[.pointer (some ⟨pb, 0, none⟩), .string (B comp), .string (B s), .pointer (some ⟨b, 0, none⟩), .int .i64 i, .int .i64 lastDot, .int .i64 numDots, .bool isLast] w
   fun e w' => e = .returned (.tuple #[]) /\ Scan w0 w' b (PathS.parseId site comp p i lastDot numDots isLast) un := by
 by_cases hc : p.cHigh = -1
 ·obtain ⟨h1, h2⟩ := hb hc
  exact c_parseId_open w0 w p b pb mb fb sb vl0 vd vf vc un site hpp hs f comp s i lastDot numDots isLast (by rw [hc]; rfl) (idOf p i lastDot) rfl h1 h2 hkw hly
 ·rw [parseId_shut site comp p i lastDot numDots isLast hc]
  exact c_parseId_shut w0 w p b pb mb fb sb vl0 vd vf vc un site hpp hs comp s i lastDot numDots isLast (by rw [beq_eq_false_iff_ne]; exact hc)

theorem c_goTmpl (s : Str) (w : World) : Calls Tryz.prog 147 #[.string (B s)] w fun e w' => e = .returned (.bool (s == kGotmpl)) /\ w = w' := by
 go_enter Tryz.func147, Tryz.ntmps147
 go_wp2_with (go_at_call 167; go_in)
 go_ret
 exact ⟨rfl, rfl⟩

/-! ### One place of the scan -/
theorem SInv.fits {s : Str} {k : Nat} {st : ScanM} (h : SInv s k st) (hl : s.length <= 1000000) (ha : asciiL s = true) : Fits st.p := by
 have hp : ∃ lo, PInv s lo (s.length - k) st.p := by
  by_cases e : st.p.cHigh = -1
  ·exact ⟨_, (h.op e).1⟩
  ·exact ⟨_, (h.sh e).1⟩
 obtain ⟨lo, hp⟩ := hp
 have h1 := hp.kl
 have h2 := hp.ul
 have h3 := hp.ll
 exact ⟨by rw [hp.ps]; omega, by rw [hp.ps]; exact ha, by omega, by omega, by omega⟩
theorem SInv.pinv {s : Str} {k : Nat} {st : ScanM} (h : SInv s k st) : Within st.p.s st.p.known /\ (st.p.lay = -1 \/ 1 <= st.p.lay /\ st.p.lay < (st.p.known.length : Int)) := by
 have hp : ∃ lo, PInv s lo (s.length - k) st.p := by
  by_cases e : st.p.cHigh = -1
  ·exact ⟨_, (h.op e).1⟩
  ·exact ⟨_, (h.sh e).1⟩
 obtain ⟨lo, hp⟩ := hp
 exact ⟨by rw [hp.ps]; exact hp.kw, hp.ly⟩
theorem step_skip {site : SiteM} {comp : Str} {skips : List Nat} {numDots : Int} {st : ScanM} {i : Nat} (h : st.p.s[i]? = some 46) (hk : skips.contains i = true) : ScanM.step site comp skips numDots st i = st := by
 unfold ScanM.step; rw [if_pos h, if_pos hk]
theorem step_dot {site : SiteM} {comp : Str} {skips : List Nat} {numDots : Int} {st : ScanM} {i : Nat} (h : st.p.s[i]? = some 46) (hk : skips.contains i = false) :
  ScanM.step site comp skips numDots st i = { st with p := PathS.parseId site comp st.p i st.lastDot numDots false, lastDot := i } := by
 unfold ScanM.step; rw [if_pos h, if_neg (by rw [hk]; simp)]
theorem step_other {site : SiteM} {comp : Str} {skips : List Nat} {numDots : Int} {st : ScanM} {i : Nat} (h : st.p.s[i]? ≠ some 46) (h2 : st.p.s[i]? ≠ some 47) : ScanM.step site comp skips numDots st i = st := by
 unfold ScanM.step; rw [if_neg h, if_neg h2]
/-- What a slash makes of the path, but for the section. -/
def slash1 (site : SiteM) (comp : Str) (numDots : Int) (st : ScanM) (i : Nat) : PathS :=
 if st.p.cHigh = -1 then { (if 0 < st.lastDot then PathS.parseId site comp st.p i st.lastDot numDots true else st.p) with cHigh := (i : Int) + 1 }
 else if st.p.cLow = -1 then { st.p with cLow := (i : Int) + 1 } else st.p
theorem step_slash {site : SiteM} {comp : Str} {skips : List Nat} {numDots : Int} {st : ScanM} {i : Nat} (h : st.p.s[i]? = some 47) :
  ScanM.step site comp skips numDots st i = { st with slashes := st.slashes + 1, p := if 0 < i then { slash1 site comp numDots st i with sHigh := (i : Int) } else slash1 site comp numDots st i } := by
 unfold ScanM.step
 rw [if_neg (by rw [h]; decide), if_pos h]
 unfold slash1
 by_cases hc : st.p.cHigh = -1
 ·simp only [if_pos hc]
 ·simp only [if_neg hc]

/-! ### The text of a path -/
def oneS (s : Str) : Str := if s = [] then [47] else s
theorem normPath_eq (s : Str) : normPath s = trimEnd (slashed (oneS s)) := by
 unfold normPath oneS
 split
 ·rfl
 ·rfl
theorem prefix_slash (s : Str) : List.isPrefixOf [47] s = (s.head? == some 47) := by
 cases s with
 | nil => rfl
 | cons c t =>
  by_cases h : c = 47
  ·subst h; rfl
  ·have e1 : ((47 : UInt8) == c) = false := by rw [beq_eq_false_iff_ne]; exact Ne.symm h
   have e2 : ((c :: t).head? == some (47 : UInt8)) = false := by rw [beq_eq_false_iff_ne]; intro e; exact h (Option.some.inj e)
   rw [e2]
   show ((47 : UInt8) == c && List.isPrefixOf [] t) = false
   rw [e1]; rfl
theorem slashed_head (s : Str) : (slashed s).head? = some 47 := by
 unfold slashed
 split
 ·assumption
 ·rfl
theorem asciiL_cons {c : UInt8} {s : Str} (h : asciiL s = true) (hc : c.toNat <= 127) : asciiL (c :: s) = true := by
 unfold asciiL at h |-
 rw [List.all_cons, h, Bool.and_true]
 simpa using hc
theorem asciiL_take {s : Str} (h : asciiL s = true) (n : Nat) : asciiL (s.take n) = true := by
 unfold asciiL at h |-
 rw [List.all_eq_true] at h |-
 exact fun x hx => h x (List.mem_of_mem_take hx)
theorem normPath_ascii {s : Str} (h : asciiL s = true) : asciiL (normPath s) = true := by
 unfold normPath
 split
 ·rfl
 ·have h1 : asciiL (slashed s) = true := by
   unfold slashed
   split
   ·exact h
   ·exact asciiL_cons h (by decide)
  unfold trimEnd
  split
  ·rw [List.dropLast_eq_take]; exact asciiL_take h1 _
  ·exact h1
/-- A slash stands at its end. -/
def endSlash (s : Str) : Bool := decide (1 < s.length /\ s.getLast? = some 47)
theorem trimEnd_yes {s : Str} (h : endSlash s = true) : trimEnd s = s.take (s.length - 1) := by
 unfold endSlash at h
 unfold trimEnd
 rw [if_pos (of_decide_eq_true h), List.dropLast_eq_take]
theorem trimEnd_no {s : Str} (h : endSlash s = false) : trimEnd s = s := by
 unfold endSlash at h
 unfold trimEnd
 rw [if_neg (of_decide_eq_false h)]
theorem last_get {s : Str} (h : 0 < s.length) : s.getLast? = s[s.length - 1]? := by rw [List.getLast?_eq_getElem?]
/-- The slash of a text that begins with one. -/
theorem slash_some {s : Str} (h : s.head? = some 47) : ∃ k : Nat, slashB s s.length = k /\ k < s.length /\ lastPart s = s.drop (k + 1) := by
 have hp : 0 < s.length := by cases s with
  | nil => cases h
  | cons c t => simp
 have hge : ∀ k, 0 < k -> k <= s.length -> 0 <= slashB s k := by
  intro k
  induction k with
  | zero => intro h _; omega
  | succ k ih =>
   intro _ hk
   unfold slashB
   split
   ·omega
   ·rename_i hn
    rcases Nat.eq_zero_or_pos k with e | e
    ·subst e
     rw [<- List.head?_eq_getElem?] at hn
     exact absurd h hn
    ·exact ih e (by omega)
 have h1 := hge s.length hp (Nat.le_refl _)
 have h2 := (slashB_lt s s.length).1
 refine ⟨(slashB s s.length).toNat, by omega, by omega, ?_⟩
 unfold lastPart
 rw [show (slashB s s.length + 1).toNat = (slashB s s.length).toNat + 1 by omega]
theorem countDots_le (s : Str) : countDots s <= s.length := List.countP_le_length

/-- The name's bounds are written. -/
theorem PathAt.setName {w : World} {base b : Nat} {p : PathS} {vk vu vl : Value} {un : Un} (h : PathAt w base b p vk vu vl un) (lo hi : Int) (l n : Nat) (h1 : (l : Int) = lo) (h2 : (n : Int) = hi) :
  PathAt ((w.setCell ⟨b, 20, none⟩ (.int .i64 lo)).setCell ⟨b, 21, none⟩ (.int .i64 hi)) base b { p with nLow := l, nHigh := n } vk vu vl un /\ Below base w ((w.setCell ⟨b, 20, none⟩ (.int .i64 lo)).setCell ⟨b, 21, none⟩ (.int .i64 hi)) := by
 subst h1 h2
 obtain ⟨a1, b1⟩ := h.set 20 (i64 l) { p with nLow := l } rfl rfl rfl rfl
 obtain ⟨a2, b2⟩ := a1.set 21 (i64 n) { p with nLow := l, nHigh := n } rfl rfl rfl rfl
 exact ⟨a2, b1.trans b2⟩
/-- A box that holds a first bound. -/
def IdBox (w : World) (s : Value) (n : Nat) : Prop := ∃ g, s = .pointer (some ⟨g, 0, none⟩) /\ w.cell? ⟨g, 0, none⟩ = some (.int .i64 n)

set_option maxHeartbeats 32000000 in
theorem c_doParse (w0 w : World) (comp s : Str) (b pb mb fb sb : Nat) (vl0 vd vf vc uv : Value) (site : SiteM) (hpp : PPAt w0 pb mb fb sb vl0 vd vf vc site) (hs : Scan w0 w b (emptyPath comp) ⟨uv, none⟩) (hl : s.length <= 900000) (ha : asciiL s = true) :
  Calls Tryz.prog 119 #[.pointer (some ⟨pb, 0, none⟩), .string (B comp), .string (B s), .pointer (some ⟨b, 0, none⟩)] w
   fun e w' => e = .returned (.tuple #[.pointer (some ⟨b, 0, none⟩), .nilIface]) /\ Scan w0 w' b (doParseM site comp s) ⟨uv, none⟩ := by
 obtain ⟨s3, hs3⟩ : ∃ s3, s3 = normPath s := ⟨_, rfl⟩
 have hhead := Lib.hid (hs3 ▸ normPath_head s : s3.head? = some 47)
 have hlen : s3.length <= 900001 := by rw [hs3]; have := normPath_len s; omega
 have hasc : Hid (asciiL s3 = true) := by show _ = _; rw [hs3]; exact normPath_ascii ha
 obtain ⟨numDots, hnd⟩ : ∃ n : Int, n = (countDots (lastPart s3) : Int) - (skipsOf s3).length := ⟨_, rfl⟩
 obtain ⟨FIN, hFIN⟩ : ∃ F, F = ScanM.down site comp (skipsOf s3) numDots s3.length { p := startP comp s3 } := ⟨_, rfl⟩
 have HM : Hid (doParseM site comp s = PathS.finish site comp FIN.p FIN.slashes) := by
  show _ = _
  rw [hFIN, hnd, hs3]
  rfl
 have hscd : Hid (Scanned s3 comp FIN.p) := by
  have := scan_scanned site comp s3 (skipsOf s3) numDots hhead.out
  rw [<- hFIN] at this
  exact this
 replace hFIN := Lib.hid hFIN
 generalize doParseM site comp s = RES at HM |-
 have HPP := Lib.hid hpp
 have HSN := Lib.hid hs
 have hs3' : Hid (s3 = trimEnd (slashed (oneS s))) := by show _ = _; rw [hs3, normPath_eq]
 clear hpp hs ha hs3
 go_enter Tryz.func119, Tryz.ntmps119
 go_upto_if 23 with fail
 go_cut [2] from 22 to 23 (fun s2 wx => s2 = .string (B (oneS s)) /\ w = wx)

 case first =>
  as_aux_lemma =>
  cases he : s.isEmpty with
  | true =>
   have h0 : Hid (oneS s = [47]) := by show _ = _; unfold oneS; rw [if_pos (List.isEmpty_iff.1 he)]
   go_wp2_with fail
   go_meet
   exact ⟨by rw [h0.out], rfl⟩
  | false =>
   have h0 : Hid (oneS s = s) := by show _ = _; unfold oneS; rw [if_neg (List.isEmpty_eq_false_iff.1 he)]
   go_wp2_with fail
   go_meet
   exact ⟨by rw [h0.out], rfl⟩
 case rest =>
 obtain ⟨rfl, rfl⟩ := hcut
 have hla : (oneS s).length <= 900001 := by
  unfold oneS
  split
  ·decide
  ·omega
 generalize oneS s = sa at hs3' hla |-
 have HPF := Lib.hid (c_hasPrefix sa [47] w (by omega))
 rw [prefix_slash] at HPF
 go_wp2_with fail
 refine HPF.out.mono ?_; rintro e w' ⟨rfl, rfl⟩
 clear HPF
 go_upto_if 26 with fail
 go_cut [2] from 24 to 28 (fun s2 wx => s2 = .string (B (slashed sa)) /\ w = wx)

 case first =>
  as_aux_lemma =>
  cases hp : (sa.head? == some 47) with
  | true =>
   have h0 : Hid (slashed sa = sa) := by show _ = _; unfold slashed; rw [if_pos (by simpa using hp)]
   go_wp2_with fail
   go_meet
   exact ⟨by rw [h0.out], rfl⟩
  | false =>
   have h0 : Hid (slashed sa = [47] ++ sa) := by show _ = _; unfold slashed; rw [if_neg (by simpa using hp)]; rfl
   go_wp2_with fail
   go_meet
   exact ⟨by rw [h0.out]; rfl, rfl⟩
 case rest =>
 obtain ⟨rfl, rfl⟩ := hcut
 have hlb : (slashed sa).length <= 900002 := by
  unfold slashed
  split
  ·omega
  ·rw [List.length_cons]; omega
 have HSB := Lib.hid (slashed_head sa)
 generalize slashed sa = sb3 at hs3' hlb HSB |-
 go_upto_region 5 with fail
 go_cut [38] from 29 to 38 (fun s38 wx => s38 = .bool (endSlash sb3) /\ w = wx)

 case first =>
  as_aux_lemma =>
  have hhead := HSB.out
  by_cases h1 : 1 < sb3.length
  ·have hlt : sb3.length - 1 < sb3.length := by omega
   have e1 : (sb3 == [47]) = false := by rw [beq_eq_false_iff_ne]; intro e; rw [e] at h1; simp at h1
   have e1' : (sb3 != [47]) = true := by rw [bne, e1]; rfl
   have hidx : (sb3.length : Int) - 1 = ((sb3.length - 1 : Nat) : Int) := by omega
   by_cases h2 : sb3[sb3.length - 1]? = some 47
   ·have f1 := byte_yes hlt 47 47 rfl h2
    have hq : Hid (endSlash sb3 = true) := by show _ = _; unfold endSlash; rw [decide_eq_true]; exact ⟨h1, by rw [last_get (by omega)]; exact h2⟩
    clear h2 hhead
    go_wp2_with fail
    go_meet
    exact ⟨by rw [hq.out], rfl⟩
   ·have f1 := byte_no hlt 47 47 rfl h2
    have hq : Hid (endSlash sb3 = false) := by show _ = _; unfold endSlash; rw [decide_eq_false]; intro e; rw [last_get (by omega)] at e; exact h2 e.2
    clear h2 hhead
    go_wp2_with fail
    go_meet
    exact ⟨by rw [hq.out], rfl⟩
  ·have e0 : sb3 = [47] := by
    cases sb3 with
    | nil => cases hhead
    | cons c t =>
     cases t with
     | nil => simp at hhead; rw [hhead]
     | cons d u => simp at h1
   have e1 : (sb3 == [47]) = true := by rw [e0]; rfl
   have e1' : (sb3 != [47]) = false := by rw [bne, e1]; rfl
   have hq : Hid (endSlash sb3 = false) := by show _ = _; unfold endSlash; rw [decide_eq_false]; intro e; exact h1 e.1
   clear e0 hhead h1
   go_wp2_with fail
   go_meet
   exact ⟨by rw [hq.out], rfl⟩
 case rest =>
 obtain ⟨rfl, rfl⟩ := hcut
 obtain ⟨es, hes⟩ : ∃ e, e = endSlash sb3 := ⟨_, rfl⟩
 rw [<- hes]
 replace hes := Lib.hid hes
 go_upto_if 38 with fail
 go_cut [2] from 29 to 43 (fun s2 wx => s2 = .string (B (trimEnd sb3)) /\ w = wx)

 case first =>
  as_aux_lemma =>
  cases es with
  | true =>
   have h1 : 1 < sb3.length := by
    have := hes.out
    unfold endSlash at this
    exact (of_decide_eq_true this.symm).1
   have h0 := Lib.hid (trimEnd_yes hes.out.symm)
   have hsb : (0 : Int) <= (sb3.length : Int) - 1 := by omega
   have hsl : (sb3.length : Int) - 1 <= (sb3.length : Int) := by omega
   have htn : ((sb3.length : Int) - 1).toNat = sb3.length - 1 := by omega
   go_wp2_with fail
   go_meet
   exact ⟨by rw [h0.out], rfl⟩
  | false =>
   have h0 := Lib.hid (trimEnd_no hes.out.symm)
   go_wp2_with fail
   go_meet
   exact ⟨by rw [h0.out], rfl⟩
 case rest =>
 obtain ⟨rfl, rfl⟩ := hcut
 rw [<- hs3'.out]
 clear hs3' hes hlb HSB hla hl sb3 sa es
 obtain ⟨vk, vu, vl, h, hB⟩ := HSN.out
 have k0 := h.cell 0 (.string (B [])) rfl
 have f0 := h.free 0
 obtain ⟨h1, hb1⟩ := h.set 0 (.string (B s3)) { emptyPath comp with s := s3 } rfl rfl rfl rfl
 replace h1 := Lib.hid h1
 replace hb1 := Lib.hid (hB.trans hb1)
 have HFW := Lib.hid (fun wx => c_findWrapper s3 wx (by omega))
 clear h hB HSN
 go_wp2_with fail
 clear k0 f0
 generalize w.setCell ⟨b, 0, none⟩ (.string (B s3)) = wrow at h1 hb1 |-
 refine (HFW.out _).mono ?_; rintro e w2 ⟨v10, rfl, hown, hb2⟩
 clear HFW
 obtain ⟨row, hr1, hr2⟩ := hown.row
 obtain ⟨a10, cap10, rfl, hdel⟩ := nats_read hown.own
 have hskl : (skipsOf s3).length <= 9223372036854775807 := by
  rcases hown.own.2 with ⟨_, e⟩ | ⟨g, cap', cur, _, _, _, h1, h2, _⟩
  ·rw [e]; exact Nat.zero_le _
  ·exact Nat.le_trans (Nat.le_trans h1 h2) (by decide)
 have h2 : Hid (PathAt w2 w0.heap.size b { emptyPath comp with s := s3 } vk vu vl ⟨uv, row⟩) := by
  refine (h1.out.below hb2).keep row fun g cur e => ⟨(hr1 g cur e).1, fun x => ?_⟩
  obtain ⟨c, _, _, hlt⟩ := ownsRow_blk h1.out.lg x
  have := (hr1 g cur e).2
  omega
 have HB2 : Hid (Below w0.heap.size w0 w2) := belowThen hb1.out hb2 (Nat.le_refl _)
 replace hr2 := Lib.hid hr2
 clear hdel hown hr1 hb2 h1 hb1
 obtain ⟨kx, hk1, hk2, hk3⟩ := slash_some hhead.out
 have HLI := Lib.hid (fun wx => c_lastIndex s3 wx (by omega))
 rw [hk1] at HLI
 have HCD := Lib.hid (fun wx => c_zzCount (s3.drop (kx + 1)) wx (by simp; omega))
 have HCT := Lib.hid (fun wx => c_zzContains s3 kShort wx (by omega) (by decide))
 have hnd' : Hid (numDots = (countDots (s3.drop (kx + 1)) : Int) - (skipsOf s3).length) := by show _ = _; rw [hnd, hk3]
 have htk : Hid (List.take (s3.length - (kx + 1)) (s3.drop (kx + 1)) = s3.drop (kx + 1)) := by show _ = _; rw [List.take_of_length_le (by simp)]
 have hw1n : Hid (((kx : Int) + 1).toNat = kx + 1) := by show _ = _; omega
 have hw1' : (0 : Int) <= (kx : Int) + 1 := by omega
 have hw1'' : (kx : Int) + 1 <= (s3.length : Int) := by omega
 clear hk1 hk3 hnd
 go_wp2_with fail
 refine (HLI.out _).mono ?_; rintro e w' ⟨rfl, rfl⟩
 go_wp2_with fail
 rw [htk.out]
 refine (HCD.out _).mono ?_; rintro e w' ⟨rfl, rfl⟩
 have hcd := countDots_le (s3.drop (kx + 1))
 rw [List.length_drop] at hcd
 have hcd2 : countDots (s3.drop (kx + 1)) <= 900001 := by omega
 have hw2 : IntKind.i64.wrap ((countDots (s3.drop (kx + 1)) : Int) - (skipsOf s3).length) = (countDots (s3.drop (kx + 1)) : Int) - (skipsOf s3).length := by rw [IntKind.wrap_i64]; omega
 clear hcd hcd2
 go_wp2_with fail
 refine (HCT.out _).mono ?_; rintro e w' ⟨rfl, rfl⟩
 go_upto_if 61 with fail
 try rw [hw2]
 rw [<- hnd'.out]
 clear HLI HCD HCT hw1' hw1'' hw1n hw2 hnd'
 go_cut [] from 60 to 64 (fun wx => Scan w0 wx b (startP comp s3) ⟨uv, row⟩)

 case first =>
  as_aux_lemma =>
  cases hh : holdsL s3 kShort with
  | true =>
   have k5 := h2.out.cell 5 (.int .i64 0) rfl
   have f5 := h2.out.free 5
   have hst : Hid (startP comp s3 = { emptyPath comp with s := s3, typ := 7 }) := by show _ = _; unfold startP; rw [hh]; rfl
   obtain ⟨h4, hb4⟩ := h2.out.set 5 (i64 7) { emptyPath comp with s := s3, typ := 7 } rfl rfl rfl rfl
   replace h4 := Lib.hid h4
   replace hb4 := Lib.hid (HB2.out.trans hb4)
   clear hh
   go_wp2_with fail
   go_meet
   rw [hst.out]
   exact ⟨_, _, _, h4.out, hb4.out⟩
  | false =>
   have hst : Hid (startP comp s3 = { emptyPath comp with s := s3 }) := by show _ = _; unfold startP; rw [hh]; rfl
   clear hh
   go_wp2_with fail
   go_meet
   rw [hst.out]
   exact ⟨_, _, _, h2.out, HB2.out⟩
 case rest =>
 have HSC0 := Lib.hid hcut
 clear hcut h2 HB2
 have HI0 := Lib.hid (start_inv comp s3)
 have hwl : IntKind.i64.wrap ((s3.length : Int) - 1) = (s3.length : Int) - 1 := by rw [IntKind.wrap_i64]; omega
 go_wp2_with fail
 go_loopw [11, 12, 15] (fun s11 s12 s15 wr => ∃ (k : Nat) (st : ScanM), k <= s3.length /\ s11 = .int .i64 st.slashes /\ s12 = .int .i64 st.lastDot /\ s15 = .int .i64 ((k : Int) - 1) /\ Scan w0 wr b st.p ⟨uv, row⟩ /\ SInv s3 k st /\ (0 <= st.slashes /\ st.slashes + k <= s3.length) /\ Hid (FIN = ScanM.down site comp (skipsOf s3) numDots k st)) (fun _ _ s15 _ => (intOf s15 + 1).toNat)
 case atStart => exact ⟨s3.length, { p := startP comp s3 }, Nat.le_refl _, rfl, rfl, by go_num, HSC0.out, HI0.out, ⟨Int.le_refl 0, by show (0 : Int) + _ <= _; omega⟩, hFIN.out⟩
 case round =>
  obtain ⟨k, st, hk, rfl, rfl, rfl, hsc, hinv, hslc, hfin⟩ := hrel
  have HSC := Lib.hid hsc
  replace hinv := Lib.hid hinv
  clear hsc hwl HSC0 HI0 hFIN
  cases k with
  | zero =>
   obtain rfl : FIN = st := hfin.out
   obtain ⟨ok1, hnl, hcp⟩ := fin1_ok s3 comp FIN.p hscd.out (by omega)
   have hly1 : Hid (LayOK (PathS.fin1 FIN.p)) := fin1_lay hscd.out.iv.ly
   replace ok1 := Lib.hid ok1
   replace hnl := Lib.hid hnl
   replace hcp := Lib.hid hcp
   have HM2 : Hid (RES = PathS.fin4 (PathS.fin3 comp (PathS.fin2 site (PathS.fin1 FIN.p) FIN.slashes))) := HM.out
   obtain ⟨vk2, vu2, vl2, h2, hB2⟩ := HSC.out
   have c22 := h2.cell 22 (.int .i64 FIN.p.nameHigh) rfl
   have c2 := h2.cell 2 (.int .i64 FIN.p.cHigh) rfl
   replace h2 := Lib.hid h2
   replace hB2 := Lib.hid hB2
   clear HSC HM hinv hfin
   rw [show ((0 : Nat) : Int) - 1 = -1 from rfl]
   go_upto_region 34 with fail
   go_quiet (fail)
   have bq := Below_drewN (Below.refl wr.heap.size wr) nq
   have h3 := Lib.hid (h2.out.below bq)
   have HB3 : Hid (Below w0.heap.size w0 (wr.drewN nq)) := belowThen hB2.out bq (Nat.le_refl _)
   clear bq h2 hB2 c22 c2
   generalize wr.drewN nq = wq at h3 HB3 |-
   go_upto_if 138 with fail
   go_cut [] from 130 to 163 (fun wx => Scan w0 wx b (PathS.fin1 FIN.p) ⟨uv, row⟩)

   case first =>
    as_aux_lemma =>
    have k2 := h3.out.cell 2 (.int .i64 FIN.p.cHigh) rfl
    have k0 := h3.out.cell 0 (.string (B FIN.p.s)) rfl
    have k22 := h3.out.cell 22 (.int .i64 FIN.p.nameHigh) rfl
    have k20 := h3.out.cell 20 (.int .i64 FIN.p.nLow) rfl
    have k21 := h3.out.cell 21 (.int .i64 FIN.p.nHigh) rfl
    have f20 := h3.out.free 20
    have f21 := h3.out.free 21
    have hc1 := hscd.out.hc
    have hnh1 := hscd.out.nh
    by_cases hle : FIN.p.cHigh <= FIN.p.nameHigh
    ·as_aux_lemma =>
     have hN : Hid (PathS.fin1 FIN.p = { FIN.p with nLow := FIN.p.cHigh.toNat, nHigh := FIN.p.nameHigh.toNat }) := by show _ = _; unfold PathS.fin1; rw [if_pos hle]
     obtain ⟨h5, hb5⟩ := (h3.out.below (Below_drewN (Below.refl _ _) 1)).setName FIN.p.cHigh FIN.p.nameHigh FIN.p.cHigh.toNat (FIN.p.nameHigh.toNat) (by omega) (by omega)
     replace h5 := Lib.hid h5
     replace hb5 := Lib.hid ((HB3.out.trans (Below_drewN (Below.refl _ wq) 1)).trans hb5)
     go_upto_region 35 with fail
     clear hle
     refine wp_tail 12 (by kernel_rfl) (by kernel_rfl) ?_
     simp only [List.take_succ_cons, List.take_zero, List.drop_succ_cons, List.drop_zero]
     repeat still_step
     try refine wpStill_nil ?_
     go_wp2_with fail
     go_meet
     rw [hN.out]
     exact ⟨_, _, _, h5.out, hb5.out⟩
    ·as_aux_lemma =>
     have hN : Hid (PathS.fin1 FIN.p = { FIN.p with nLow := FIN.p.cHigh.toNat, nHigh := FIN.p.s.length }) := by show _ = _; unfold PathS.fin1; rw [if_neg hle]
     obtain ⟨h5, hb5⟩ := (h3.out.below (Below_drewN (Below.refl _ _) 1)).setName FIN.p.cHigh (FIN.p.s.length : Int) FIN.p.cHigh.toNat (FIN.p.s.length) (by omega) (by omega)
     replace h5 := Lib.hid h5
     replace hb5 := Lib.hid ((HB3.out.trans (Below_drewN (Below.refl _ wq) 1)).trans hb5)
     go_upto_region 36 with fail
     clear hle
     refine wp_tail 13 (by kernel_rfl) (by kernel_rfl) ?_
     simp only [List.take_succ_cons, List.take_zero, List.drop_succ_cons, List.drop_zero]
     repeat still_step
     try refine wpStill_nil ?_
     go_wp2_with fail
     go_meet
     rw [hN.out]
     exact ⟨_, _, _, h5.out, hb5.out⟩
   case rest =>
   obtain ⟨vk3, vu3, vl3, h3, HB3⟩ := hcut
   generalize PathS.fin1 FIN.p = q at ok1 hnl hcp hly1 HM2 h3 |-
   have okq := ok1
   obtain ⟨ak, capk, ek, hdel⟩ := pairs_read h3.kn
   have c6 : wc.cell? ⟨b, 6, none⟩ = some (.slice ak q.known.length capk) := by rw [<- ek]; exact h3.cell 6 vk3 rfl
   replace h3 := Lib.hid h3
   replace HB3 := Lib.hid HB3
   clear hdel ek
   go_upto_if 169 with fail
   clear c6
   go_cut [11, 17, 18, 19] from 164 to 263 (fun s11 s17 s18 s19 wx => Scan w0 wx b (PathS.fin2 site q FIN.slashes) ⟨uv, row⟩)

   case first =>
    as_aux_lemma =>
    by_cases hk0 : q.known.length = 0
    ·have hkn : ¬ (0 : Int) < (q.known.length : Int) := by omega
     have hN : Hid (PathS.fin2 site q FIN.slashes = q) := by show _ = _; unfold PathS.fin2; rw [if_pos (List.length_eq_zero_iff.1 hk0)]
     clear hk0
     go_wp2_with fail
     go_meet
     rw [hN.out]
     exact ⟨_, _, _, h3.out, HB3.out⟩
    ·have hkn : (0 : Int) < (q.known.length : Int) := by omega
     have hne : Hid (q.known ≠ []) := by show ¬ _ = _; intro e; rw [e] at hk0; exact hk0 rfl
     have c4 := h3.out.cell 4 (.string (B q.comp)) rfl
     obtain ⟨cc, hcc⟩ : ∃ c, c = (q.comp == kContent || q.comp == kArch) := ⟨_, rfl⟩
     replace hcc := Lib.hid hcc
     clear hk0
     go_upto_region 38 with fail
     go_cut [17] from 164 to 181 (fun s17 wx => s17 = .bool cc /\ wx = wc)
     case first =>
      cases e1 : (q.comp == kContent) with
      | true =>
       go_wp2_with fail
       go_meet
       exact ⟨by rw [hcc.out, e1]; rfl, rfl⟩
      | false =>
       cases e2 : (q.comp == kArch) with
       | true =>
        go_wp2_with fail
        go_meet
        exact ⟨by rw [hcc.out, e1, e2]; rfl, rfl⟩
       | false =>
        go_wp2_with fail
        go_meet
        exact ⟨by rw [hcc.out, e1, e2]; rfl, rfl⟩
     case rest =>
     obtain ⟨rfl, rfl⟩ := hcut
     clear c4 hkn
     obtain ⟨ic, hic⟩ : ∃ c, c = (cc && amongL site.content (q.idStr 0)) := ⟨_, rfl⟩
     replace hic := Lib.hid hic
     go_upto_region 39 with fail
     go_cut [17, 18] from 164 to 191 (fun s17 s18 wx => s17 = .bool cc /\ s18 = .bool ic /\ Below wc.heap.size wc wx)
     case first =>
      cases cc with
      | false =>
       go_quiet (fail)
       go_wp2_with fail
       go_meet
       exact ⟨rfl, by rw [hic.out]; rfl, Below_drewN (Below.refl _ _) _⟩
      | true =>
       have m3 : wc.cell? ⟨pb, 3, none⟩ = some (.func (.func 96) #[] #[.pointer (some ⟨fb, 0, none⟩), .pointer (some ⟨sb, 0, none⟩)]) := cell_blk (HPP.out.below HB3.out).pp 3
       have HCE : Hid (∀ w', Below wc.heap.size wc w' -> Calls Tryz.prog 96 #[.string (B (q.idStr 0)), .pointer (some ⟨fb, 0, none⟩), .pointer (some ⟨sb, 0, none⟩)] w' fun e w'' => e = .returned (.bool (amongL site.content (q.idStr 0))) /\ Below w'.heap.size w' w'') := fun w' hb => let z := HPP.out.below (belowThen HB3.out hb (Nat.le_refl _)); (c_isContentExt site (q.idStr 0) vl0 vd vf vc fb sb w' z.read z.fn z.st).mono fun e w'' ⟨h1, h2⟩ => ⟨h1, h2 ▸ Below.refl _ _⟩
       have HEx : Hid (∀ w', Below wc.heap.size wc w' -> Calls Tryz.prog 77 #[.pointer (some ⟨b, 0, none⟩)] w' fun e w'' => e = .returned (.string (B (q.idStr 0))) /\ Below w'.heap.size w' w'') := fun w' hb => c_ExtW (h3.out.below hb) okq.out.kw (Nat.le_trans okq.out.len (by decide))
       have KS : Hid (∀ w' w'', (w'.cell? ⟨pb, 3, none⟩ = some (.func (.func 96) #[] #[.pointer (some ⟨fb, 0, none⟩), .pointer (some ⟨sb, 0, none⟩)]) /\ Below wc.heap.size wc w') -> Below w'.heap.size w' w'' -> (w''.cell? ⟨pb, 3, none⟩ = some (.func (.func 96) #[] #[.pointer (some ⟨fb, 0, none⟩), .pointer (some ⟨sb, 0, none⟩)]) /\ Below wc.heap.size wc w'')) := fun w' w'' h1 h2 => ⟨cell_blk (HPP.out.below (belowThen HB3.out (belowThen h1.2 h2 (Nat.le_refl _)) (Nat.le_refl _))).pp 3, belowThen h1.2 h2 (Nat.le_refl _)⟩
       go_region_held3 (fun w' => w'.cell? ⟨pb, 3, none⟩ = some (.func (.func 96) #[] #[.pointer (some ⟨fb, 0, none⟩), .pointer (some ⟨sb, 0, none⟩)]) /\ Below wc.heap.size wc w') (first | exact ⟨m3, Below_drewN (Below.refl _ _) 1⟩ | exact KS.out _ _ ‹_› ‹_›)
        (first | (go_at_call 77; refine (HEx.out _ ?_).mono ?_; (exact (And.right ‹_›)); rintro e w' ⟨rfl, hb5⟩) | (go_at_call 96; refine (HCE.out _ ?_).mono ?_; (exact (And.right ‹_›)); rintro e w' ⟨rfl, hb5⟩))
       all_goals
        rename_i hS
        replace hS := Lib.hid hS.2
        go_wp2_with fail
        go_meet
        exact ⟨rfl, by rw [hic.out]; rfl, hS.out⟩
     case rest =>
     obtain ⟨rfl, rfl, hb4⟩ := hcut
     have h4 := Lib.hid (h3.out.below hb4)
     have HB4 : Hid (Below w0.heap.size w0 wc) := belowThen HB3.out hb4 (Nat.le_refl _)
     clear h3 HB3 hb4
     have k20 := h4.out.cell 20 (.int .i64 q.nLow) rfl
     have k21 := h4.out.cell 21 (.int .i64 q.nHigh) rfl
     have k2 : wc.cell? ⟨b, 2, none⟩ = some (.int .i64 (q.nLow : Int)) := by rw [hnl.out]; exact h4.out.cell 2 (.int .i64 q.cHigh) rfl
     obtain ⟨lt, hlt⟩ : ∃ c, c = decide (q.nLow < q.nHigh) := ⟨_, rfl⟩
     replace hlt := Lib.hid hlt
     go_upto_region 40 with fail
     go_cut [214] from 164 to 214 (fun s214 wx => s214 = .bool lt /\ Below wc.heap.size wc wx)
     case first =>
      by_cases hx : q.nLow < q.nHigh
      ·have hx2 : (q.nLow : Int) < (q.nHigh : Int) := by omega
       go_quiet (fail)
       go_wp2_with fail
       go_meet
       exact ⟨by rw [hlt.out, decide_eq_true hx], Below_drewN (Below.refl _ _) _⟩
      ·have hx2 : ¬ (q.nLow : Int) < (q.nHigh : Int) := by omega
       go_quiet (fail)
       go_wp2_with fail
       go_meet
       exact ⟨by rw [hlt.out, decide_eq_false hx], Below_drewN (Below.refl _ _) _⟩
     case rest =>
     obtain ⟨rfl, hb4⟩ := hcut
     have h5 := Lib.hid (h4.out.below hb4)
     have HB5 : Hid (Below w0.heap.size w0 wc) := belowThen HB4.out hb4 (Nat.le_refl _)
     clear h4 HB4 hb4 k20 k21 k2
     cases lt with
     | false =>
      have hN : Hid (PathS.fin2 site q FIN.slashes = q) := by show _ = _; unfold PathS.fin2; rw [if_neg hne.out, if_neg (of_decide_eq_false hlt.out.symm)]
      go_wp2_with fail
      go_meet
      rw [hN.out]
      exact ⟨_, _, _, h5.out, HB5.out⟩
     | true =>
      have hlt2 := Lib.hid (of_decide_eq_true hlt.out.symm)
      have k0 := h5.out.cell 0 (.string (B q.s)) rfl
      have k20 := h5.out.cell 20 (.int .i64 q.nLow) rfl
      have k21 := h5.out.cell 21 (.int .i64 q.nHigh) rfl
      have g1 : (q.nLow : Int) <= (q.nHigh : Int) := by have := okq.out.nm.1; omega
      have g2 : (q.nHigh : Int) <= (q.s.length : Int) := by have := okq.out.nm.2; omega
      have hbs : Hid (sub q.s (q.nLow, q.nHigh) = (q.s.drop q.nLow).take (q.nHigh - q.nLow)) := rfl
      go_upto_region 41 with fail
      go_quiet (fail)
      have bq := Below_drewN (Below.refl wc.heap.size wc) nq
      replace h5 := Lib.hid (h5.out.below bq)
      replace HB5 : Hid (Below w0.heap.size w0 (wc.drewN nq)) := belowThen HB5.out bq (Nat.le_refl _)
      clear bq k0 k20 k21 g1 g2 hlt
      generalize wc.drewN nq = wq at h5 HB5 |-
      generalize (q.s.drop q.nLow).take (q.nHigh - q.nLow) = bs at hbs |-
      cases ic with
      | true =>
       have hic2 : Hid (((q.comp == kContent || q.comp == kArch) && amongL site.content q.ext) = true) := by show _ = _; rw [<- hcc.out]; exact hic.out.symm
       cases e1 : (bs == kIndex) with
       | true =>
        have e1' : Hid (sub q.s (q.nLow, q.nHigh) = kIndex) := by show _ = _; rw [hbs.out]; simpa using e1
        have k5 := h5.out.cell 5 (.int .i64 (q : PathS).typ) rfl
        have f5 := h5.out.free 5
        obtain ⟨h6, hb6⟩ := h5.out.set 5 (i64 3) { (q : PathS) with typ := 3 } rfl rfl rfl rfl
        replace h6 := Lib.hid h6
        replace hb6 := Lib.hid (HB5.out.trans hb6)

        have HLF : Hid (∀ w9, PathAt w9 w0.heap.size b { q with typ := 3 } vk3 vu3 vl3 ⟨uv, row⟩ -> Calls Tryz.prog 90 #[.pointer (some ⟨b, 0, none⟩)] w9 fun e w' => e = .returned (.bool true) /\ w9 = w') := fun w9 h => c_IsLeaf { q with typ := 3 } w9 w0.heap.size b vk3 vu3 vl3 ⟨uv, row⟩ h
        cases hs2 : (FIN.slashes == 2) with
        | false =>
         have hN : Hid (PathS.fin2 site q FIN.slashes = { q with typ := 3 }) := by
          show _ = _
          unfold PathS.fin2
          rw [if_neg hne.out, if_pos hlt2.out, if_pos hic2.out, if_pos e1'.out]
          rw [if_neg (by simpa using hs2)]
         go_wp2_with fail
         go_meet
         rw [hN.out]
         exact ⟨_, _, _, h6.out, hb6.out⟩
        | true =>
         have hN : Hid (PathS.fin2 site q FIN.slashes = { q with typ := 3, sHigh := 0 }) := by
          show _ = _
          unfold PathS.fin2
          rw [if_neg hne.out, if_pos hlt2.out, if_pos hic2.out, if_pos e1'.out]
          rw [if_pos (by simpa using hs2)]
         go_wp2_with fail
         refine (HLF.out _ h6.out).mono ?_; rintro e w9 ⟨rfl, rfl⟩
         clear k5 f5
         generalize wq.setCell ⟨b, 5, none⟩ (i64 3) = w9 at h6 hb6 |-
         have k3 := h6.out.cell 3 (.int .i64 q.sHigh) rfl
         have f3 := h6.out.free 3
         obtain ⟨h7, hb7⟩ := h6.out.set 3 (i64 0) { q with typ := 3, sHigh := 0 } rfl rfl rfl rfl
         replace h7 := Lib.hid h7
         replace hb7 := Lib.hid (hb6.out.trans hb7)
         go_wp2_with fail
         go_meet
         rw [hN.out]
         exact ⟨_, _, _, h7.out, hb7.out⟩
       | false =>
        have e1' : Hid (¬ sub q.s (q.nLow, q.nHigh) = kIndex) := by show ¬ _ = _; rw [hbs.out]; simpa using e1
        cases e2 : (bs == kUIndex) with
        | true =>
         have e2' : Hid (sub q.s (q.nLow, q.nHigh) = kUIndex) := by show _ = _; rw [hbs.out]; simpa using e2
         have k5 := h5.out.cell 5 (.int .i64 (q : PathS).typ) rfl
         have f5 := h5.out.free 5
         obtain ⟨h6, hb6⟩ := h5.out.set 5 (i64 4) { (q : PathS) with typ := 4 } rfl rfl rfl rfl
         replace h6 := Lib.hid h6
         replace hb6 := Lib.hid (HB5.out.trans hb6)

         have HLF : Hid (∀ w9, PathAt w9 w0.heap.size b { q with typ := 4 } vk3 vu3 vl3 ⟨uv, row⟩ -> Calls Tryz.prog 90 #[.pointer (some ⟨b, 0, none⟩)] w9 fun e w' => e = .returned (.bool false) /\ w9 = w') := fun w9 h => c_IsLeaf { q with typ := 4 } w9 w0.heap.size b vk3 vu3 vl3 ⟨uv, row⟩ h
         cases hs2 : (FIN.slashes == 2) with
         | false =>
          have hN : Hid (PathS.fin2 site q FIN.slashes = { q with typ := 4 }) := by
           show _ = _
           unfold PathS.fin2
           rw [if_neg hne.out, if_pos hlt2.out, if_pos hic2.out, if_neg e1'.out, if_pos e2'.out]
          go_wp2_with fail
          go_meet
          rw [hN.out]
          exact ⟨_, _, _, h6.out, hb6.out⟩
         | true =>
          have hN : Hid (PathS.fin2 site q FIN.slashes = { q with typ := 4 }) := by
           show _ = _
           unfold PathS.fin2
           rw [if_neg hne.out, if_pos hlt2.out, if_pos hic2.out, if_neg e1'.out, if_pos e2'.out]
          go_wp2_with fail
          refine (HLF.out _ h6.out).mono ?_; rintro e w9 ⟨rfl, rfl⟩
          clear k5 f5
          generalize wq.setCell ⟨b, 5, none⟩ (i64 4) = w9 at h6 hb6 |-
          go_wp2_with fail
          go_meet
          rw [hN.out]
          exact ⟨_, _, _, h6.out, hb6.out⟩
        | false =>
         have e2' : Hid (¬ sub q.s (q.nLow, q.nHigh) = kUIndex) := by show ¬ _ = _; rw [hbs.out]; simpa using e2
         have k5 := h5.out.cell 5 (.int .i64 (q : PathS).typ) rfl
         have f5 := h5.out.free 5
         obtain ⟨h6, hb6⟩ := h5.out.set 5 (i64 2) { (q : PathS) with typ := 2 } rfl rfl rfl rfl
         replace h6 := Lib.hid h6
         replace hb6 := Lib.hid (HB5.out.trans hb6)

         have HLF : Hid (∀ w9, PathAt w9 w0.heap.size b { q with typ := 2 } vk3 vu3 vl3 ⟨uv, row⟩ -> Calls Tryz.prog 90 #[.pointer (some ⟨b, 0, none⟩)] w9 fun e w' => e = .returned (.bool false) /\ w9 = w') := fun w9 h => c_IsLeaf { q with typ := 2 } w9 w0.heap.size b vk3 vu3 vl3 ⟨uv, row⟩ h
         cases hs2 : (FIN.slashes == 2) with
         | false =>
          have hN : Hid (PathS.fin2 site q FIN.slashes = { q with typ := 2 }) := by
           show _ = _
           unfold PathS.fin2
           rw [if_neg hne.out, if_pos hlt2.out, if_pos hic2.out, if_neg e1'.out, if_neg e2'.out]
          go_wp2_with fail
          go_meet
          rw [hN.out]
          exact ⟨_, _, _, h6.out, hb6.out⟩
         | true =>
          have hN : Hid (PathS.fin2 site q FIN.slashes = { q with typ := 2 }) := by
           show _ = _
           unfold PathS.fin2
           rw [if_neg hne.out, if_pos hlt2.out, if_pos hic2.out, if_neg e1'.out, if_neg e2'.out]
          go_wp2_with fail
          refine (HLF.out _ h6.out).mono ?_; rintro e w9 ⟨rfl, rfl⟩
          clear k5 f5
          generalize wq.setCell ⟨b, 5, none⟩ (i64 2) = w9 at h6 hb6 |-
          go_wp2_with fail
          go_meet
          rw [hN.out]
          exact ⟨_, _, _, h6.out, hb6.out⟩
      | false =>
       have hic2 : Hid (¬ ((q.comp == kContent || q.comp == kArch) && amongL site.content q.ext) = true) := by
        show ¬ _ = _
        intro e
        rw [<- hcc.out] at e
        have := hic.out.trans e
        cases this
       cases e3 : (bs == kUContent) with
       | false =>
        have e3' : Hid (¬ (sub q.s (q.nLow, q.nHigh) = kUContent /\ q.ext = kGotmpl)) := by show ¬ _; rw [hbs.out]; intro e; rw [e.1] at e3; simp at e3
        have hN : Hid (PathS.fin2 site q FIN.slashes = q) := by show _ = _; unfold PathS.fin2; rw [if_neg hne.out, if_pos hlt2.out, if_neg hic2.out, if_neg e3'.out]
        go_wp2_with fail
        go_meet
        rw [hN.out]
        exact ⟨_, _, _, h5.out, HB5.out⟩
       | true =>
        have HEx : Hid (Calls Tryz.prog 77 #[.pointer (some ⟨b, 0, none⟩)] wq fun e w'' => e = .returned (.string (B (q.idStr 0))) /\ Below wq.heap.size wq w'') := c_ExtW h5.out okq.out.kw (Nat.le_trans okq.out.len (by decide))
        have HGT : Hid (∀ w9, Calls Tryz.prog 147 #[.string (B (q.idStr 0))] w9 fun e w'' => e = .returned (.bool (q.idStr 0 == kGotmpl)) /\ w9 = w'') := fun w9 => c_goTmpl _ w9
        go_wp2_with fail
        refine HEx.out.mono ?_; rintro e w6 ⟨rfl, hb6⟩
        replace h5 := Lib.hid (h5.out.below hb6)
        replace HB5 : Hid (Below w0.heap.size w0 w6) := belowThen HB5.out hb6 (Nat.le_refl _)
        clear hb6 HEx
        go_wp2_with fail
        refine (HGT.out _).mono ?_; rintro e w9 ⟨rfl, rfl⟩
        clear HGT
        cases e4 : (q.idStr 0 == kGotmpl) with
        | false =>
         have e3' : Hid (¬ (sub q.s (q.nLow, q.nHigh) = kUContent /\ q.ext = kGotmpl)) := by show ¬ _; intro e; rw [show q.idStr 0 = kGotmpl from e.2] at e4; simp at e4
         have hN : Hid (PathS.fin2 site q FIN.slashes = q) := by show _ = _; unfold PathS.fin2; rw [if_neg hne.out, if_pos hlt2.out, if_neg hic2.out, if_neg e3'.out]
         go_wp2_with fail
         go_meet
         rw [hN.out]
         exact ⟨_, _, _, h5.out, HB5.out⟩
        | true =>
         have e4' : q.idStr 0 = kGotmpl := by simpa using e4
         have e3' : Hid (sub q.s (q.nLow, q.nHigh) = kUContent /\ q.ext = kGotmpl) := by
          show _ /\ _
          rw [hbs.out]
          exact ⟨by simpa using e3, e4'⟩
         clear e4'
         have hN : Hid (PathS.fin2 site q FIN.slashes = { q with typ := 5 }) := by show _ = _; unfold PathS.fin2; rw [if_neg hne.out, if_pos hlt2.out, if_neg hic2.out, if_pos e3'.out]
         have k5 := h5.out.cell 5 (.int .i64 (q : PathS).typ) rfl
         have f5 := h5.out.free 5
         obtain ⟨h6, hb6⟩ := h5.out.set 5 (i64 5) { (q : PathS) with typ := 5 } rfl rfl rfl rfl
         replace h6 := Lib.hid h6
         replace hb6 := Lib.hid (HB5.out.trans hb6)

         go_wp2_with fail
         go_meet
         rw [hN.out]
         exact ⟨_, _, _, h6.out, hb6.out⟩
   case rest =>
   obtain ⟨vk4, vu4, vl4, h4, HB4⟩ := hcut
   have okr : Hid (PathOK (PathS.fin2 site q FIN.slashes)) := fin2_ok site _ ok1.out
   have hlr : Hid (LayOK (PathS.fin2 site q FIN.slashes)) := fin2_lay site _ hly1.out
   generalize PathS.fin2 site q FIN.slashes = r at okr hlr HM2 h4 |-
   have c5 := h4.cell 5 (.int .i64 r.typ) rfl
   replace h4 := Lib.hid h4
   replace HB4 := Lib.hid HB4
   clear h3 HB3 okq ok1 hnl hcp hly1
   obtain ⟨t, ht⟩ : ∃ t, t = (decide (r.typ < 6) && (comp == kLayouts)) := ⟨_, rfl⟩
   replace ht := Lib.hid ht
   go_upto_region 53 with fail
   go_cut [272] from 264 to 272 (fun sT wx => sT = .bool t /\ wx = wc)
   case first =>
    as_aux_lemma =>
    by_cases h6 : r.typ < 6
    ·cases e1 : (comp == kLayouts) with
     | true =>
      go_wp2_with fail
      go_meet
      exact ⟨by rw [ht.out, decide_eq_true h6, e1]; rfl, rfl⟩
     | false =>
      go_wp2_with fail
      go_meet
      exact ⟨by rw [ht.out, decide_eq_true h6, e1]; rfl, rfl⟩
    ·go_wp2_with fail
     go_meet
     exact ⟨by rw [ht.out, decide_eq_false (by omega)]; rfl, rfl⟩
   case rest =>
   obtain ⟨rfl, rfl⟩ := hcut
   clear c5
   go_upto_if 272 with fail
   go_cut [20] from 264 to 297 (fun s20 wx => Scan w0 wx b (PathS.fin3 comp r) ⟨uv, row⟩)

   case first =>
    as_aux_lemma =>
    cases t with
    | false =>
     have ht2 : Hid (¬ (r.typ < 6 /\ comp = kLayouts)) := by
      show ¬ _
      intro e
      have := ht.out
      rw [decide_eq_true e.1, e.2] at this
      cases this
     have hN : Hid (PathS.fin3 comp r = r) := by show _ = _; unfold PathS.fin3; rw [if_neg ht2.out]
     go_wp2_with fail
     go_meet
     rw [hN.out]
     exact ⟨_, _, _, h4.out, HB4.out⟩
    | true =>
     have ht2 : Hid (r.typ < 6 /\ comp = kLayouts) := by
      have := ht.out.symm
      rw [Bool.and_eq_true] at this
      exact ⟨of_decide_eq_true this.1, by simpa using this.2⟩
     have c12 := h4.out.cell 12 (.int .i64 r.baseof) rfl
     by_cases hb0 : r.baseof = -1
     ·have hbb : (r.baseof == -1) = true := by rw [hb0]; rfl
      have hb0' : Hid (¬ r.baseof ≠ -1) := by show ¬ ¬ _ = _; exact fun e => e hb0
      have HPa : Hid (Calls Tryz.prog 71 #[.pointer (some ⟨b, 0, none⟩)] wc fun e w' => e = .returned (.string (B r.path)) /\ wc = w') := c_Path r wc w0.heap.size b vk4 vu4 vl4 ⟨uv, row⟩ h4.out (Nat.le_trans okr.out.len (by decide))
      have hpl : r.path.length <= 70368744177664 := by
       have h1 := okr.out.len
       have h2 : r.path.length <= r.s.length := by
        unfold PathS.path
        split
        ·split
         ·simp
         ·exact Nat.le_refl _
        ·exact Nat.le_refl _
       omega
      have HZ : Hid (∀ t, t.length <= 70368744177664 -> Calls Tryz.prog 144 #[.string (B r.path), .string (B t)] wc fun e w' => e = .returned (.bool (holdsL r.path t)) /\ wc = w') := fun t ht => c_zzContains r.path t wc hpl ht
      have HPX : Hid (∀ t : Str, Calls Tryz.prog 140 #[.string (B r.path), .string (B t)] wc fun e w' => e = .returned (.bool (List.isPrefixOf t r.path)) /\ wc = w') := fun t => c_hasPrefix r.path t wc hpl
      clear hb0
      go_wp2_with fail
      refine HPa.out.mono ?_; rintro e w' ⟨rfl, rfl⟩
      clear c12 hbb HPa
      go_wp2_with fail
      refine (HZ.out kShort (by decide)).mono ?_; rintro e w' ⟨rfl, rfl⟩
      cases e1 : holdsL r.path kShort with
      | true =>
       have k5 := h4.out.cell 5 (.int .i64 (r : PathS).typ) rfl
       have f5 := h4.out.free 5
       obtain ⟨h6, hb6⟩ := h4.out.set 5 (i64 7) { (r : PathS) with typ := 7 } rfl rfl rfl rfl
       replace h6 := Lib.hid h6
       replace hb6 := Lib.hid (HB4.out.trans hb6)

       have hN : Hid (PathS.fin3 comp r = { r with typ := 7 }) := by show _ = _; unfold PathS.fin3; rw [if_pos ht2.out, if_neg hb0'.out, if_pos e1]

       go_wp2_with fail
       go_meet
       rw [hN.out]
       exact ⟨_, _, _, h6.out, hb6.out⟩
      | false =>
       have e1' : Hid (¬ holdsL r.path kShort = true) := by show ¬ _; rw [e1]; simp
       go_wp2_with fail
       refine (HZ.out kMarkup (by decide)).mono ?_; rintro e w' ⟨rfl, rfl⟩
       cases e2 : holdsL r.path kMarkup with
       | true =>
        have k5 := h4.out.cell 5 (.int .i64 (r : PathS).typ) rfl
        have f5 := h4.out.free 5
        obtain ⟨h6, hb6⟩ := h4.out.set 5 (i64 6) { (r : PathS) with typ := 6 } rfl rfl rfl rfl
        replace h6 := Lib.hid h6
        replace hb6 := Lib.hid (HB4.out.trans hb6)

        have hN : Hid (PathS.fin3 comp r = { r with typ := 6 }) := by show _ = _; unfold PathS.fin3; rw [if_pos ht2.out, if_neg hb0'.out, if_neg e1'.out, if_pos e2]

        go_wp2_with fail
        go_meet
        rw [hN.out]
        exact ⟨_, _, _, h6.out, hb6.out⟩
       | false =>
        have e2' : Hid (¬ holdsL r.path kMarkup = true) := by show ¬ _; rw [e2]; simp
        go_wp2_with fail
        refine (HPX.out kPartials).mono ?_; rintro e w' ⟨rfl, rfl⟩
        cases e3 : List.isPrefixOf kPartials r.path with
        | true =>
         have k5 := h4.out.cell 5 (.int .i64 (r : PathS).typ) rfl
         have f5 := h4.out.free 5
         obtain ⟨h6, hb6⟩ := h4.out.set 5 (i64 8) { (r : PathS) with typ := 8 } rfl rfl rfl rfl
         replace h6 := Lib.hid h6
         replace hb6 := Lib.hid (HB4.out.trans hb6)

         have hN : Hid (PathS.fin3 comp r = { r with typ := 8 }) := by show _ = _; unfold PathS.fin3; rw [if_pos ht2.out, if_neg hb0'.out, if_neg e1'.out, if_neg e2'.out, if_pos e3]

         go_wp2_with fail
         go_meet
         rw [hN.out]
         exact ⟨_, _, _, h6.out, hb6.out⟩
        | false =>
         have hN : Hid (PathS.fin3 comp r = r) := by show _ = _; unfold PathS.fin3; rw [if_pos ht2.out, if_neg hb0'.out, if_neg e1'.out, if_neg e2'.out, if_neg (by rw [e3]; simp)]
         go_wp2_with fail
         go_meet
         rw [hN.out]
         exact ⟨_, _, _, h4.out, HB4.out⟩
     ·have hbb : (r.baseof == -1) = false := by rw [beq_eq_false_iff_ne]; exact hb0
      have hbb2 : (r.baseof != -1) = true := by rw [bne, hbb]; rfl
      have k5 := h4.out.cell 5 (.int .i64 (r : PathS).typ) rfl
      have f5 := h4.out.free 5
      obtain ⟨h6, hb6⟩ := h4.out.set 5 (i64 9) { (r : PathS) with typ := 9 } rfl rfl rfl rfl
      replace h6 := Lib.hid h6
      replace hb6 := Lib.hid (HB4.out.trans hb6)

      have hN : Hid (PathS.fin3 comp r = { r with typ := 9 }) := by show _ = _; unfold PathS.fin3; rw [if_pos ht2.out, if_pos hb0]

      go_wp2_with fail
      go_meet
      rw [hN.out]
      exact ⟨_, _, _, h6.out, hb6.out⟩
   case rest =>
   obtain ⟨vk5, vu5, vl5, h5, HB5⟩ := hcut
   have hlz : Hid (LayOK (PathS.fin3 comp r)) := fin3_lay comp hlr.out
   generalize PathS.fin3 comp r = z at hlz HM2 h5 |-
   have c5 := h5.cell 5 (.int .i64 z.typ) rfl
   have c11 := h5.cell 11 (.int .i64 z.lay) rfl
   replace h5 := Lib.hid h5
   replace HB5 := Lib.hid HB5
   clear h4 HB4 okr hlr ht t
   obtain ⟨t, ht⟩ : ∃ t, t = ((z.typ == 7) && (z.lay != -1)) := ⟨_, rfl⟩
   replace ht := Lib.hid ht
   go_upto_region 63 with fail
   go_cut [309] from 298 to 309 (fun sT wx => sT = .bool t /\ wx = wc)
   case first =>
    as_aux_lemma =>
    cases e1 : (z.typ == 7) with
    | true =>
     cases e2 : (z.lay == -1) with
     | true =>
      go_wp2_with fail
      go_meet
      exact ⟨by rw [ht.out, e1, bne, e2]; rfl, rfl⟩
     | false =>
      go_wp2_with fail
      go_meet
      exact ⟨by rw [ht.out, e1, bne, e2]; rfl, rfl⟩
    | false =>
     go_wp2_with fail
     go_meet
     exact ⟨by rw [ht.out, e1]; rfl, rfl⟩
   case rest =>
   obtain ⟨rfl, rfl⟩ := hcut
   clear c5 c11
   go_upto_if 309 with fail
   go_cut [21] from 298 to 329 (fun s21 wx => Scan w0 wx b (PathS.fin4 z) ⟨uv, row⟩)

   case first =>
    as_aux_lemma =>
    cases t with
    | false =>
     have ht2 : Hid (¬ (z.typ = 7 /\ z.lay ≠ -1 /\ ((z.known.getD z.lay.toNat (0, 0)).1 : Int) = z.cHigh)) := by
      show ¬ _
      intro e
      have := ht.out
      rw [e.1] at this
      have h2 : (z.lay != -1) = true := bne_iff_ne.2 e.2.1
      rw [h2] at this
      cases this
     have hN : Hid (PathS.fin4 z = z) := by show _ = _; unfold PathS.fin4; rw [if_neg ht2.out]
     go_wp2_with fail
     go_meet
     rw [hN.out]
     exact ⟨_, _, _, h5.out, HB5.out⟩
    | true =>
     have ht2 : z.typ = 7 /\ z.lay ≠ -1 := by
      have := ht.out.symm
      rw [Bool.and_eq_true] at this
      exact ⟨by simpa using this.1, bne_iff_ne.1 this.2⟩
     have hl2 : 1 <= z.lay /\ z.lay < (z.known.length : Int) := by
      rcases hlz.out with a | a
      ·exact absurd a ht2.2
      ·exact a
     obtain ⟨l, hl⟩ : ∃ l : Nat, z.lay = l := ⟨z.lay.toNat, by omega⟩
     have hlk : l < z.known.length := by omega
     have hlk' : (l : Int) < (z.known.length : Int) := by omega
     have hlk0 : (0 : Int) <= (l : Int) := by omega
     have c11 : wc.cell? ⟨b, 11, none⟩ = some (.int .i64 (l : Int)) := by rw [<- hl]; exact h5.out.cell 11 (.int .i64 z.lay) rfl
     obtain ⟨ak, capk, ek, hcells⟩ := pairs_read h5.out.kn
     obtain ⟨g0, rfl, x1, x2, _, _⟩ := hcells l hlk
     have c6 : wc.cell? ⟨b, 6, none⟩ = some (.slice (some ⟨g0, 0, none⟩) z.known.length capk) := by rw [<- ek]; exact h5.out.cell 6 vk5 rfl
     have hgd : z.known.getD z.lay.toNat (0, 0) = z.known[l] := by
      have e1 : z.lay.toNat = l := by omega
      rw [e1]; simp [List.getD, hlk]
     obtain ⟨x, hx⟩ : ∃ x, x = z.known[l] := ⟨_, rfl⟩
     rw [<- hx] at x1 x2 hgd
     have HGD := Lib.hid hgd
     have HT2 := Lib.hid ht2
     have a6 : ∀ o, (wc.alloc o).cell? ⟨b, 6, none⟩ = some (.slice (some ⟨g0, 0, none⟩) z.known.length capk) := fun o => (h5.out.acell 6 vk5 rfl o).trans (congrArg some ek)
     have a11 : ∀ o, (wc.alloc o).cell? ⟨b, 11, none⟩ = some (.int .i64 (l : Int)) := fun o => (h5.out.acell 11 (.int .i64 z.lay) rfl o).trans (congrArg (fun z => some (Value.int .i64 z)) hl)
     have ax1 : ∀ o, (wc.alloc o).cell? ⟨g0, l * 2, none⟩ = some (.int .i64 x.1) := fun o => ((Below_alloc wc o).cell (p := ⟨g0, l * 2, none⟩) (cell_lt x1)).trans x1
     have ax2 : ∀ o, (wc.alloc o).cell? ⟨g0, l * 2 + 1, none⟩ = some (.int .i64 x.2) := fun o => ((Below_alloc wc o).cell (p := ⟨g0, l * 2 + 1, none⟩) (cell_lt x2)).trans x2
     clear ht2 hl2 hl hx hcells ek hgd
     go_upto_region 64 with fail
     go_cut [21] from 310 to 319 (fun s21 wx => IdBox wx s21 x.1 /\ Below wc.heap.size wc wx)
     case first =>
      go_region_held3 (fun w2 => w2.cell? ⟨b, 6, none⟩ = some (.slice (some ⟨g0, 0, none⟩) z.known.length capk) /\ w2.cell? ⟨b, 11, none⟩ = some (.int .i64 (l : Int)) /\ w2.cell? ⟨g0, l * 2, none⟩ = some (.int .i64 x.1) /\ w2.cell? ⟨g0, l * 2 + 1, none⟩ = some (.int .i64 x.2)) (go_keep) (fail)
      all_goals
       go_wp2_with fail
       go_meet
       exact ⟨⟨_, rfl, cell_blk (blk_new wc _) 0⟩, Below_drewN (Below_alloc _ _) 1⟩
     case rest =>
     obtain ⟨⟨g, rfl, hg⟩, hb6⟩ := hcut
     clear c6 c11 x1 x2 a6 a11 ax1 ax2
     replace h5 := Lib.hid (h5.out.below hb6)
     replace HB5 : Hid (Below w0.heap.size w0 wc) := belowThen HB5.out hb6 (Nat.le_refl _)
     have k2 := h5.out.cell 2 (.int .i64 z.cHigh) rfl
     go_upto_region 65 with fail
     go_quiet (fail)
     have bq := Below_drewN (Below.refl wc.heap.size wc) nq
     replace h5 := Lib.hid (h5.out.below bq)
     replace HB5 : Hid (Below w0.heap.size w0 (wc.drewN nq)) := belowThen HB5.out bq (Nat.le_refl _)
     clear bq k2 hb6 hg
     generalize wc.drewN nq = wq at h5 HB5 |-
     cases e1 : ((x.1 : Int) == z.cHigh) with
     | true =>
      have hN : Hid (PathS.fin4 z = { z with lay := -1 }) := by show _ = _; unfold PathS.fin4; rw [if_pos ⟨HT2.out.1, HT2.out.2, by rw [HGD.out]; simpa using e1⟩]
      have k11 := h5.out.cell 11 (.int .i64 z.lay) rfl
      have f11 := h5.out.free 11
      obtain ⟨h6, hb6⟩ := h5.out.set 11 (i64 (-1)) { z with lay := -1 } rfl rfl rfl rfl
      replace h6 := Lib.hid h6
      replace hb6 := Lib.hid (HB5.out.trans hb6)
      go_wp2_with fail
      go_meet
      rw [hN.out]
      exact ⟨_, _, _, h6.out, hb6.out⟩
     | false =>
      have hN : Hid (PathS.fin4 z = z) := by show _ = _; unfold PathS.fin4; rw [if_neg (by rintro ⟨_, _, e⟩; rw [HGD.out] at e; rw [e] at e1; simp at e1)]
      go_wp2_with fail
      go_meet
      rw [hN.out]
      exact ⟨_, _, _, h5.out, HB5.out⟩
   case rest =>
   obtain ⟨vk6, vu6, vl6, h6, HB6⟩ := hcut
   replace h6 := Lib.hid h6.drop
   replace HB6 := Lib.hid HB6
   clear h5 HB5 hlz ht
   go_wp2_with fail
   exact bodyPost_ret (v := .tuple #[.pointer (some ⟨b, 0, none⟩), .nilIface]) (by simp [results, Tryz.results119, go_sem]) rfl ⟨rfl, by rw [HM2.out]; exact ⟨_, _, _, h6.out, HB6.out⟩⟩
  | succ i =>
   have hil : i < s3.length := by omega
   obtain ⟨hsl0, hsl1⟩ := hslc
   have hslc2 : Hid (0 <= st.slashes /\ st.slashes + (i : Int) <= (s3.length : Int)) := ⟨hsl0, by omega⟩
   have hslc3 : Hid (0 <= st.slashes + 1 /\ st.slashes + 1 + (i : Int) <= (s3.length : Int)) := ⟨by omega, by omega⟩
   have hinv1 := Lib.hid (step_inv site comp (skipsOf s3) numDots hhead.out hinv.out)
   have hps := Lib.hid hinv.out.ps
   have hfit := Lib.hid (hinv.out.fits (by omega) hasc.out)
   by_cases hd : s3[i]? = some 46
   ·as_aux_lemma =>
    have b46 := byte_yes hil 46 46 rfl hd
    cases hsk : (skipsOf s3).contains i with
    | true =>
     have hstep := Lib.hid (step_skip (site := site) (comp := comp) (numDots := numDots) (hps.out ▸ hd : st.p.s[i]? = some 46) hsk)
     have hinv2 : Hid (SInv s3 i st) := by show SInv _ _ _; have := hinv1.out; rw [hstep.out] at this; exact this
     have hfin2 : Hid (FIN = ScanM.down site comp (skipsOf s3) numDots i st) := by show _ = _; rw [hfin.out]; show ScanM.down site comp (skipsOf s3) numDots i (ScanM.step site comp (skipsOf s3) numDots st i) = _; rw [hstep.out]
     have hrow : wr.ownsRow wrow.heap.size 3 1 (.slice a10 (skipsOf s3).length cap10) (skipsOf s3).length (natCells (skipsOf s3)) := by
      obtain ⟨_, _, _, h, _⟩ := HSC.out
      exact hr2.out wr fun g cur e => (h.kp g cur e).1
     have HK : Hid (Calls Tryz.prog 145 #[.slice a10 (skipsOf s3).length cap10, .int .i64 i] wr fun e w' => e = .returned (.bool true) /\ wr = w') := by
      have := c_isSkipped (skipsOf s3) hrow i
      rw [skipM_contains _ _ (skipsOf_sorted s3), hsk] at this
      exact this
     clear hrow hd hsk hstep
     go_wp2_with fail
     refine HK.out.mono ?_; rintro e w' ⟨rfl, rfl⟩
     go_wp2_with fail
     go_roundw
     case rel => exact ⟨i, st, by omega, rfl, rfl, by go_num, HSC.out, hinv2.out, hslc2.out, hfin2.out⟩
     case measure => (simp [intOf]; try omega)
    | false =>
     have hstep := Lib.hid (step_dot (site := site) (comp := comp) (numDots := numDots) (hps.out ▸ hd : st.p.s[i]? = some 46) hsk)
     have hinv2 : Hid (SInv s3 i { st with p := PathS.parseId site comp st.p i st.lastDot numDots false, lastDot := i }) := by show SInv _ _ _; have := hinv1.out; rw [hstep.out] at this; exact this
     have hfin2 : Hid (FIN = ScanM.down site comp (skipsOf s3) numDots i { st with p := PathS.parseId site comp st.p i st.lastDot numDots false, lastDot := i }) := by show _ = _; rw [hfin.out]; show ScanM.down site comp (skipsOf s3) numDots i (ScanM.step site comp (skipsOf s3) numDots st i) = _; rw [hstep.out]
     have hrow : wr.ownsRow wrow.heap.size 3 1 (.slice a10 (skipsOf s3).length cap10) (skipsOf s3).length (natCells (skipsOf s3)) := by
      obtain ⟨_, _, _, h, _⟩ := HSC.out
      exact hr2.out wr fun g cur e => (h.kp g cur e).1
     have HK : Hid (Calls Tryz.prog 145 #[.slice a10 (skipsOf s3).length cap10, .int .i64 i] wr fun e w' => e = .returned (.bool false) /\ wr = w') := by
      have := c_isSkipped (skipsOf s3) hrow i
      rw [skipM_contains _ _ (skipsOf_sorted s3), hsk] at this
      exact this
     have HPI := Lib.hid (c_parseId w0 wr st.p b pb mb fb sb vl0 vd vf vc ⟨uv, row⟩ site HPP.out HSC.out hfit.out comp s3 i st.lastDot numDots false (fun hc => by rw [hps.out]; exact hinv.out.id hc) hinv.out.pinv.1 hinv.out.pinv.2)
     clear hrow hd hsk hstep
     go_wp2_with fail
     refine HK.out.mono ?_; rintro e w' ⟨rfl, rfl⟩
     go_wp2_with fail
     refine HPI.out.mono ?_; rintro e w6 ⟨rfl, hsc6⟩
     replace hsc6 := Lib.hid hsc6
     go_wp2_with fail
     go_roundw
     case rel => exact ⟨i, { st with p := PathS.parseId site comp st.p i st.lastDot numDots false, lastDot := i }, by omega, rfl, rfl, by go_num, hsc6.out, hinv2.out, hslc2.out, hfin2.out⟩
     case measure => (simp [intOf]; try omega)
   ·by_cases hsl : s3[i]? = some 47
    ·as_aux_lemma =>
     have b47 := byte_yes hil 47 47 rfl hsl
     have b46 := byte_no hil 46 46 rfl hd
     have hstep := Lib.hid (step_slash (site := site) (comp := comp) (skips := skipsOf s3) (numDots := numDots) (hps.out ▸ hsl : st.p.s[i]? = some 47))
     have hinv2 := hinv1.out
     rw [hstep.out] at hinv2
     replace hinv2 := Lib.hid hinv2
     have hfin2 : Hid (FIN = ScanM.down site comp (skipsOf s3) numDots i { st with slashes := st.slashes + 1, p := if 0 < i then { slash1 site comp numDots st i with sHigh := (i : Int) } else slash1 site comp numDots st i }) := by show _ = _; rw [hfin.out]; show ScanM.down site comp (skipsOf s3) numDots i (ScanM.step site comp (skipsOf s3) numDots st i) = _; rw [hstep.out]
     have hslw : IntKind.i64.wrap (st.slashes + 1) = st.slashes + 1 := by rw [IntKind.wrap_i64]; omega
     clear hstep hd hsl
     by_cases hc : st.p.cHigh = -1
     ·by_cases hlast : 0 < st.lastDot
      ·have HPI := Lib.hid (c_parseId w0 wr st.p b pb mb fb sb vl0 vd vf vc ⟨uv, row⟩ site HPP.out HSC.out hfit.out comp s3 i st.lastDot numDots true (fun hc => by rw [hps.out]; exact hinv.out.id hc) hinv.out.pinv.1 hinv.out.pinv.2)
       have hs1 : Hid (slash1 site comp numDots st i = { PathS.parseId site comp st.p i st.lastDot numDots true with cHigh := (i : Int) + 1 }) := by show _ = _; unfold slash1; rw [if_pos hc, if_pos hlast]
       have hlast' : (0 : Int) < (st.lastDot : Int) := by omega
       have k2 : wr.cell? ⟨b, 2, none⟩ = some (.int .i64 st.p.cHigh) := by obtain ⟨_, _, _, h, _⟩ := HSC.out; exact h.cell 2 (.int .i64 st.p.cHigh) rfl
       have hcb : (st.p.cHigh == -1) = true := by rw [hc]; rfl
       generalize PathS.parseId site comp st.p i st.lastDot numDots true = pq at HPI hs1
       clear hc hlast
       go_wp2_with fail
       refine HPI.out.mono ?_; rintro e w6 ⟨rfl, hsc6⟩
       clear k2 hcb HPI
       obtain ⟨vk6, vu6, vl6, h6, hb6⟩ := hsc6
       have k2 := h6.cell 2 (.int .i64 pq.cHigh) rfl
       have f2 := h6.free 2
       obtain ⟨h7, hb7⟩ := h6.set 2 (i64 ((i : Int) + 1)) { pq with cHigh := (i : Int) + 1 } rfl rfl rfl rfl
       replace h7 := Lib.hid h7
       replace hb7 := Lib.hid (hb6.trans hb7)
       clear h6 hb6
       go_upto_if 125 with fail
       clear k2 f2
       have hwv : i64 ((i : Int) + 1) = .int .i64 ((i : Int) + 1) := rfl
       rw [hwv] at h7 hb7
       generalize w6.setCell ⟨b, 2, none⟩ (.int .i64 ((i : Int) + 1)) = w7 at h7 hb7 |-
       by_cases hi0 : 0 < i
       ·have hpe : Hid ((if 0 < i then { slash1 site comp numDots st i with sHigh := (i : Int) } else slash1 site comp numDots st i) = { ({ pq with cHigh := (i : Int) + 1 } : PathS) with sHigh := (i : Int) }) := by show _ = _; rw [if_pos hi0, hs1.out]
        have hi0' : (0 : Int) < (i : Int) := by omega
        have k3 := h7.out.cell 3 (.int .i64 ({ pq with cHigh := (i : Int) + 1 } : PathS).sHigh) rfl
        have f3 := h7.out.free 3
        obtain ⟨h8, hb8⟩ := h7.out.set 3 (i64 i) { ({ pq with cHigh := (i : Int) + 1 } : PathS) with sHigh := (i : Int) } rfl rfl rfl rfl
        replace h8 := Lib.hid h8
        replace hb8 := Lib.hid (hb7.out.trans hb8)
        rw [hpe.out] at hinv2 hfin2
        clear h7 hb7 hi0 hs1 hpe
        go_wp2_with fail
        go_roundw
        case rel => exact ⟨i, { st with slashes := st.slashes + 1, p := { ({ pq with cHigh := (i : Int) + 1 } : PathS) with sHigh := (i : Int) } }, by omega, by go_num, rfl, by go_num, ⟨_, _, _, h8.out, hb8.out⟩, hinv2.out, hslc3.out, hfin2.out⟩
        case measure => (simp [intOf]; try omega)
       ·have hpe : Hid ((if 0 < i then { slash1 site comp numDots st i with sHigh := (i : Int) } else slash1 site comp numDots st i) = ({ pq with cHigh := (i : Int) + 1 } : PathS)) := by show _ = _; rw [if_neg hi0, hs1.out]
        have hi0' : ¬ (0 : Int) < (i : Int) := by omega
        replace h7 := Lib.hid h7.out
        rw [hpe.out] at hinv2 hfin2
        clear hi0 hs1 hpe
        go_wp2_with fail
        go_roundw
        case rel => exact ⟨i, { st with slashes := st.slashes + 1, p := ({ pq with cHigh := (i : Int) + 1 } : PathS) }, by omega, by go_num, rfl, by go_num, ⟨_, _, _, h7.out, hb7.out⟩, hinv2.out, hslc3.out, hfin2.out⟩
        case measure => (simp [intOf]; try omega)
      ·have hs1 : Hid (slash1 site comp numDots st i = { st.p with cHigh := (i : Int) + 1 }) := by show _ = _; unfold slash1; rw [if_pos hc, if_neg hlast]
       have hlast' : ¬ (0 : Int) < (st.lastDot : Int) := by omega
       obtain ⟨vk6, vu6, vl6, h6, hb6⟩ := HSC.out
       have k2 := h6.cell 2 (.int .i64 st.p.cHigh) rfl
       have f2 := h6.free 2
       have hcb : (st.p.cHigh == -1) = true := by rw [hc]; rfl
       obtain ⟨h7, hb7⟩ := h6.set 2 (i64 ((i : Int) + 1)) { st.p with cHigh := (i : Int) + 1 } rfl rfl rfl rfl
       replace h7 := Lib.hid h7
       replace hb7 := Lib.hid (hb6.trans hb7)
       clear h6 hb6 hc hlast
       go_upto_if 125 with fail
       clear k2 f2 hcb
       have hwv : i64 ((i : Int) + 1) = .int .i64 ((i : Int) + 1) := rfl
       rw [hwv] at h7 hb7
       generalize wr.setCell ⟨b, 2, none⟩ (.int .i64 ((i : Int) + 1)) = w7 at h7 hb7 |-
       by_cases hi0 : 0 < i
       ·have hpe : Hid ((if 0 < i then { slash1 site comp numDots st i with sHigh := (i : Int) } else slash1 site comp numDots st i) = { ({ st.p with cHigh := (i : Int) + 1 } : PathS) with sHigh := (i : Int) }) := by show _ = _; rw [if_pos hi0, hs1.out]
        have hi0' : (0 : Int) < (i : Int) := by omega
        have k3 := h7.out.cell 3 (.int .i64 ({ st.p with cHigh := (i : Int) + 1 } : PathS).sHigh) rfl
        have f3 := h7.out.free 3
        obtain ⟨h8, hb8⟩ := h7.out.set 3 (i64 i) { ({ st.p with cHigh := (i : Int) + 1 } : PathS) with sHigh := (i : Int) } rfl rfl rfl rfl
        replace h8 := Lib.hid h8
        replace hb8 := Lib.hid (hb7.out.trans hb8)
        rw [hpe.out] at hinv2 hfin2
        clear h7 hb7 hi0 hs1 hpe
        go_wp2_with fail
        go_roundw
        case rel => exact ⟨i, { st with slashes := st.slashes + 1, p := { ({ st.p with cHigh := (i : Int) + 1 } : PathS) with sHigh := (i : Int) } }, by omega, by go_num, rfl, by go_num, ⟨_, _, _, h8.out, hb8.out⟩, hinv2.out, hslc3.out, hfin2.out⟩
        case measure => (simp [intOf]; try omega)
       ·have hpe : Hid ((if 0 < i then { slash1 site comp numDots st i with sHigh := (i : Int) } else slash1 site comp numDots st i) = ({ st.p with cHigh := (i : Int) + 1 } : PathS)) := by show _ = _; rw [if_neg hi0, hs1.out]
        have hi0' : ¬ (0 : Int) < (i : Int) := by omega
        replace h7 := Lib.hid h7.out
        rw [hpe.out] at hinv2 hfin2
        clear hi0 hs1 hpe
        go_wp2_with fail
        go_roundw
        case rel => exact ⟨i, { st with slashes := st.slashes + 1, p := ({ st.p with cHigh := (i : Int) + 1 } : PathS) }, by omega, by go_num, rfl, by go_num, ⟨_, _, _, h7.out, hb7.out⟩, hinv2.out, hslc3.out, hfin2.out⟩
        case measure => (simp [intOf]; try omega)
     ·have hcb : (st.p.cHigh == -1) = false := by rw [beq_eq_false_iff_ne]; exact hc
      obtain ⟨vk6, vu6, vl6, h6, hb6⟩ := HSC.out
      have k2 := h6.cell 2 (.int .i64 st.p.cHigh) rfl
      have k1 := h6.cell 1 (.int .i64 st.p.cLow) rfl
      have f1 := h6.free 1
      by_cases hw : st.p.cLow = -1
      ·have hs1 : Hid (slash1 site comp numDots st i = { st.p with cLow := (i : Int) + 1 }) := by show _ = _; unfold slash1; rw [if_neg hc, if_pos hw]
       have hwb : (st.p.cLow == -1) = true := by rw [hw]; rfl
       obtain ⟨h7, hb7⟩ := h6.set 1 (i64 ((i : Int) + 1)) { st.p with cLow := (i : Int) + 1 } rfl rfl rfl rfl
       replace h7 := Lib.hid h7
       replace hb7 := Lib.hid (hb6.trans hb7)
       clear h6 hb6 hc hw
       go_upto_if 125 with fail
       clear k2 k1 f1 hcb hwb
       have hwv : i64 ((i : Int) + 1) = .int .i64 ((i : Int) + 1) := rfl
       rw [hwv] at h7 hb7
       generalize wr.setCell ⟨b, 1, none⟩ (.int .i64 ((i : Int) + 1)) = w7 at h7 hb7 |-
       by_cases hi0 : 0 < i
       ·have hpe : Hid ((if 0 < i then { slash1 site comp numDots st i with sHigh := (i : Int) } else slash1 site comp numDots st i) = { ({ st.p with cLow := (i : Int) + 1 } : PathS) with sHigh := (i : Int) }) := by show _ = _; rw [if_pos hi0, hs1.out]
        have hi0' : (0 : Int) < (i : Int) := by omega
        have k3 := h7.out.cell 3 (.int .i64 ({ st.p with cLow := (i : Int) + 1 } : PathS).sHigh) rfl
        have f3 := h7.out.free 3
        obtain ⟨h8, hb8⟩ := h7.out.set 3 (i64 i) { ({ st.p with cLow := (i : Int) + 1 } : PathS) with sHigh := (i : Int) } rfl rfl rfl rfl
        replace h8 := Lib.hid h8
        replace hb8 := Lib.hid (hb7.out.trans hb8)
        rw [hpe.out] at hinv2 hfin2
        clear h7 hb7 hi0 hs1 hpe
        go_wp2_with fail
        go_roundw
        case rel => exact ⟨i, { st with slashes := st.slashes + 1, p := { ({ st.p with cLow := (i : Int) + 1 } : PathS) with sHigh := (i : Int) } }, by omega, by go_num, rfl, by go_num, ⟨_, _, _, h8.out, hb8.out⟩, hinv2.out, hslc3.out, hfin2.out⟩
        case measure => (simp [intOf]; try omega)
       ·have hpe : Hid ((if 0 < i then { slash1 site comp numDots st i with sHigh := (i : Int) } else slash1 site comp numDots st i) = ({ st.p with cLow := (i : Int) + 1 } : PathS)) := by show _ = _; rw [if_neg hi0, hs1.out]
        have hi0' : ¬ (0 : Int) < (i : Int) := by omega
        replace h7 := Lib.hid h7.out
        rw [hpe.out] at hinv2 hfin2
        clear hi0 hs1 hpe
        go_wp2_with fail
        go_roundw
        case rel => exact ⟨i, { st with slashes := st.slashes + 1, p := ({ st.p with cLow := (i : Int) + 1 } : PathS) }, by omega, by go_num, rfl, by go_num, ⟨_, _, _, h7.out, hb7.out⟩, hinv2.out, hslc3.out, hfin2.out⟩
        case measure => (simp [intOf]; try omega)
      ·have hs1 : Hid (slash1 site comp numDots st i = st.p) := by show _ = _; unfold slash1; rw [if_neg hc, if_neg hw]
       have hwb : (st.p.cLow == -1) = false := by rw [beq_eq_false_iff_ne]; exact hw
       replace h6 := Lib.hid h6
       replace hb6 := Lib.hid hb6
       clear hc hw
       go_upto_if 125 with fail
       clear k2 k1 f1 hcb hwb
       by_cases hi0 : 0 < i
       ·have hpe : Hid ((if 0 < i then { slash1 site comp numDots st i with sHigh := (i : Int) } else slash1 site comp numDots st i) = { (st.p : PathS) with sHigh := (i : Int) }) := by show _ = _; rw [if_pos hi0, hs1.out]
        have hi0' : (0 : Int) < (i : Int) := by omega
        have k3 := h6.out.cell 3 (.int .i64 (st.p : PathS).sHigh) rfl
        have f3 := h6.out.free 3
        obtain ⟨h8, hb8⟩ := h6.out.set 3 (i64 i) { (st.p : PathS) with sHigh := (i : Int) } rfl rfl rfl rfl
        replace h8 := Lib.hid h8
        replace hb8 := Lib.hid (hb6.out.trans hb8)
        rw [hpe.out] at hinv2 hfin2
        clear h6 hb6 hi0 hs1 hpe
        go_wp2_with fail
        go_roundw
        case rel => exact ⟨i, { st with slashes := st.slashes + 1, p := { (st.p : PathS) with sHigh := (i : Int) } }, by omega, by go_num, rfl, by go_num, ⟨_, _, _, h8.out, hb8.out⟩, hinv2.out, hslc3.out, hfin2.out⟩
        case measure => (simp [intOf]; try omega)
       ·have hpe : Hid ((if 0 < i then { slash1 site comp numDots st i with sHigh := (i : Int) } else slash1 site comp numDots st i) = (st.p : PathS)) := by show _ = _; rw [if_neg hi0, hs1.out]
        have hi0' : ¬ (0 : Int) < (i : Int) := by omega
        replace h6 := Lib.hid h6.out
        rw [hpe.out] at hinv2 hfin2
        clear hi0 hs1 hpe
        go_wp2_with fail
        go_roundw
        case rel => exact ⟨i, { st with slashes := st.slashes + 1, p := (st.p : PathS) }, by omega, by go_num, rfl, by go_num, ⟨_, _, _, h6.out, hb6.out⟩, hinv2.out, hslc3.out, hfin2.out⟩
        case measure => (simp [intOf]; try omega)
    ·as_aux_lemma =>
     have b47 := byte_no hil 47 47 rfl hsl
     have b46 := byte_no hil 46 46 rfl hd
     have hstep := Lib.hid (step_other (site := site) (comp := comp) (skips := skipsOf s3) (numDots := numDots) (hps.out ▸ hd : st.p.s[i]? ≠ some 46) (hps.out ▸ hsl : st.p.s[i]? ≠ some 47))
     have hinv2 : Hid (SInv s3 i st) := by show SInv _ _ _; have := hinv1.out; rw [hstep.out] at this; exact this
     have hfin2 : Hid (FIN = ScanM.down site comp (skipsOf s3) numDots i st) := by show _ = _; rw [hfin.out]; show ScanM.down site comp (skipsOf s3) numDots i (ScanM.step site comp (skipsOf s3) numDots st i) = _; rw [hstep.out]
     clear hd hsl hstep
     go_wp2_with fail
     go_roundw
     case rel => exact ⟨i, st, by omega, rfl, rfl, by go_num, HSC.out, hinv2.out, hslc2.out, hfin2.out⟩
     case measure => (simp [intOf]; try omega)

end Go.Proofs.YtjkecadfakjanaaGreatDoor
