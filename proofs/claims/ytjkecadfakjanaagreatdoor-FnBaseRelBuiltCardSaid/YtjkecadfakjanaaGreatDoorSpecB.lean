/- The reference's tests of a site and of a path walked: PathOf, siteWords, SiteKnown, cutPoints. Conditions: texts of at most 900000 bytes; lists in memory that read as given. -/
import Derived.Test.YtjkecadfakjanaaGreatDoorSpecA
import Derived.Test.YtjkecadfakjanaaGreatDoorLow
set_option maxRecDepth 100000
set_option linter.unusedVariables false
set_option linter.unusedSimpArgs false
namespace Go.Proofs.YtjkecadfakjanaaGreatDoor
open Go.RowKit
attribute [local go_sem] B_extract B_toList B_append

def ownL (s : Str) (own : Bool) : Str := if own then s else normL s
theorem pathOf_empty {s : Str} {own : Bool} (h : ownL s own = []) : pathOf s own = [47] := by
 unfold pathOf
 show (if ownL s own = [] then _ else _) = _
 rw [if_pos h]
theorem pathOf_some {s : Str} {own : Bool} (h : ownL s own ≠ []) : pathOf s own = trimEnd (slashed (ownL s own)) := by
 unfold pathOf
 show (if ownL s own = [] then _ else trimEnd (slashed (ownL s own))) = _
 rw [if_neg h]
def endSl (s : Str) : Bool := decide (1 < s.length /\ s.getLast? = some 47)

set_option maxHeartbeats 2000000 in
theorem c_PathOf (s : Str) (own : Bool) (w : World) (hs : s.length <= 70368744170000) :
  Calls Tryz.prog 40 #[.string (B s), .bool own] w fun e w' => e = .returned (.string (B (pathOf s own))) /\ Below w.heap.size w w' := by
 have HN := Lib.hid (c_Normalize s w (by omega))
 have hnl : (ownL s own).length = s.length := by unfold ownL; split <;> simp [normL, Lib.toLowerA]
 obtain ⟨R, hR⟩ : ∃ R, R = pathOf s own := ⟨_, rfl⟩
 rw [<- hR]
 have H1 : Hid (ownL s own = [] -> R = [47]) := fun h => hR.trans (pathOf_empty h)
 have H2 : Hid (ownL s own ≠ [] -> R = trimEnd (slashed (ownL s own))) := fun h => hR.trans (pathOf_some h)
 have H0 : Hid (own = true -> ownL s own = s) := fun h => by unfold ownL; rw [if_pos h]
 have H0' : Hid (own = false -> ownL s own = normL s) := fun h => by unfold ownL; rw [if_neg (by rw [h]; simp)]
 generalize ownL s own = t at hnl H1 H2 H0 H0'
 clear hR
 go_enter Tryz.func40, Tryz.ntmps40
 go_upto_if 6 with fail
 go_cut [0] from 5 to 8 (fun s0 wx => s0 = .string (B t) /\ Below w.heap.size w wx)
 case first =>
  cases own with
  | true =>
   have e := Lib.hid (H0.out rfl)
   go_wp2_with fail
   go_meet
   exact ⟨by rw [e.out], Below.refl _ _⟩
  | false =>
   have e := Lib.hid (H0'.out rfl)
   go_wp2_with fail
   refine HN.out.mono ?_; rintro e2 w' ⟨rfl, hb⟩
   go_wp2_with fail
   go_meet
   exact ⟨by rw [e.out], hb⟩
 case rest =>
 obtain ⟨rfl, hb⟩ := hcut
 replace hb := Lib.hid hb
 clear HN H0 H0'
 cases he : t.isEmpty with
 | true =>
  have e := Lib.hid (H1.out (List.isEmpty_iff.1 he))
  go_wp2_with fail
  go_ret
  exact ⟨by rw [e.out]; rfl, hb.out⟩
 | false =>
  have hne : t ≠ [] := List.isEmpty_eq_false_iff.1 he
  have e := Lib.hid (H2.out hne)
  have hpos : 0 < t.length := List.length_pos_iff.2 hne
  clear H1 H2 hne
  go_upto_if 13 with fail
  go_cut [0] from 9 to 15 (fun s0 wx => s0 = .string (B (slashed t)) /\ wx = wc)
  case first =>
   by_cases h1 : t[0]? = some 47
   ·have b1 := byte_yes hpos 47 47 rfl h1
    have q : Hid (slashed t = t) := by show _ = _; unfold slashed; rw [if_pos (by rw [List.head?_eq_getElem?]; exact h1)]
    clear h1
    go_wp2_with fail
    go_meet
    exact ⟨by rw [q.out], rfl⟩
   ·have b1 := byte_no hpos 47 47 rfl h1
    have b1' : ((((B t)[0]'(by rw [B_size]; exact hpos)).toNat : Int) != 47) = true := by rw [bne, b1]; rfl
    have q : Hid (slashed t = [47] ++ t) := by show _ = _; unfold slashed; rw [if_neg (by rw [List.head?_eq_getElem?]; exact h1)]; rfl
    clear h1
    go_wp2_with fail
    go_meet
    exact ⟨by rw [q.out]; try rfl, rfl⟩
  case rest =>
  obtain ⟨rfl, rfl⟩ := hcut
  have hsl : (slashed t).length <= t.length + 1 /\ 0 < (slashed t).length := by
   unfold slashed
   split
   ·exact ⟨by omega, hpos⟩
   ·rw [List.length_cons]; omega
  generalize slashed t = u at e hsl |-
  obtain ⟨hul, hupos⟩ := hsl
  have hidx : (u.length : Int) - 1 = ((u.length - 1 : Nat) : Int) := by omega
  have hwr : IntKind.i64.wrap ((u.length : Int) - 1) = (u.length : Int) - 1 := by rw [IntKind.wrap_i64]; omega
  have hlt : u.length - 1 < u.length := by omega
  by_cases h1 : 1 < u.length
  ·have h1' : (1 : Int) < (u.length : Int) := by omega
   by_cases h2 : u[u.length - 1]? = some 47
   ·have f1 := byte_yes hlt 47 47 rfl h2
    have q : Hid (trimEnd u = u.take (u.length - 1)) := by show _ = _; unfold trimEnd; rw [if_pos ⟨h1, by rw [List.getLast?_eq_getElem?]; exact h2⟩, List.dropLast_eq_take]
    clear h2
    go_wp2_with fail
    go_ret
    exact ⟨ret_str (by rw [e.out, q.out]), hb.out⟩
   ·have f1 := byte_no hlt 47 47 rfl h2
    have q : Hid (trimEnd u = u) := by show _ = _; unfold trimEnd; rw [if_neg (by rintro ⟨_, a⟩; rw [List.getLast?_eq_getElem?] at a; exact h2 a)]
    clear h2
    go_wp2_with fail
    go_ret
    exact ⟨ret_str (by rw [e.out, q.out]), hb.out⟩
  ·have h1' : ¬ (1 : Int) < (u.length : Int) := by omega
   have q : Hid (trimEnd u = u) := by show _ = _; unfold trimEnd; rw [if_neg (by rintro ⟨a, _⟩; exact h1 a)]
   go_wp2_with fail
   go_ret
   exact ⟨ret_str (by rw [e.out, q.out]), hb.out⟩

/-- A slice's length is within its capacity. -/
def CapOK (v : Value) : Prop := ∀ a n c, v = .slice a n c -> n <= c

/-! ### The words of a site -/
theorem siteWordsFrom_step {l : List Str} {k : Nat} (h : k < l.length) : siteWordsFrom (l.take k) (l.drop k) = (siteWord l[k] && !amongL (l.take k) l[k] && siteWordsFrom (l.take (k + 1)) (l.drop (k + 1))) := by
 rw [drop_cons h, siteWordsFrom, List.take_succ_eq_append_getElem h]
theorem StrsAt.take {w : World} {a : Option Addr} {n cap : Nat} {l : List Str} (h : StrsAt w (.slice a n cap) l) (k : Nat) (hk : k <= l.length) : StrsAt w (.slice a k cap) (l.take k) := by
 obtain ⟨h0, a', cap', e, hc⟩ := h
 obtain ⟨rfl, -, rfl⟩ := Value.slice.inj e
 refine ⟨by simp; omega, a, cap, by rw [List.length_take, Nat.min_eq_left hk], fun i hi => ?_⟩
 have hi' : i < l.length := by simp at hi; omega
 obtain ⟨b, off, e1, e2⟩ := hc i hi'
 refine ⟨b, off, e1, ?_⟩
 rw [e2]; simp

set_option maxHeartbeats 4000000 in
theorem c_siteWords (l : List Str) (v : Value) (w : World) (hv : StrsAt w v l) (hcap : CapOK v) (hf : fits2 l = true) :
  Calls Tryz.prog 104 #[v] w fun e w' => e = .returned (.bool (siteWords l)) /\ Below w.heap.size w w' := by
 obtain ⟨hlen, hlens⟩ := fits2_get hf
 have HV := Lib.hid hv
 obtain ⟨h0, a, cap, rfl, hc⟩ := hv
 have HC := Lib.hid hc
 have hcp : l.length <= cap := hcap _ _ _ rfl
 clear hc hf hcap
 obtain ⟨R, hR⟩ : ∃ R, R = siteWords l := ⟨_, rfl⟩
 rw [<- hR]
 have HR : Hid (R = (siteWordsFrom (l.take 0) (l.drop 0) && decide (l.length <= 12))) := hR
 clear hR
 go_enter Tryz.func104, Tryz.ntmps104
 go_wp2_with fail
 go_loopw [3] (fun i wr => ∃ k : Nat, k <= l.length /\ i = .int .i64 k /\ Below w.heap.size w wr /\ Hid (R = (siteWordsFrom (l.take k) (l.drop k) && decide (l.length <= 12)))) (fun i _ => l.length - (intOf i).toNat)
 case atStart => exact ⟨0, Nat.zero_le _, rfl, Below.refl _ _, HR.out⟩
 case round =>
  obtain ⟨k, hk, rfl, hb, hall⟩ := hrel
  by_cases hlt : k < l.length
  ·obtain ⟨b, off, rfl, hcell⟩ := HC.out k hlt
   have HB := Lib.hid hb
   have hcw : wr.cell? ⟨b, off + k, none⟩ = some (.string (B l[k])) := (hb.cell (p := ⟨b, off + k, none⟩) (cell_lt hcell)).trans hcell
   have HS := Lib.hid (siteWordsFrom_step hlt)
   have HSW : Hid (∀ w2, Calls Tryz.prog 106 #[.string (B l[k])] w2 fun e w' => e = .returned (.bool (siteWord l[k])) /\ w2 = w') := fun w2 => c_siteWord l[k] w2 (by have := hlens k hlt; omega)
   have HAM : Hid (∀ n, Calls Tryz.prog 105 #[.slice (some ⟨b, off, none⟩) k cap, .string (B l[k])] (wr.drewN n) fun e w' => e = .returned (.bool (amongL (l.take k) l[k])) /\ wr.drewN n = w') := fun n => c_among (l.take k) l[k] _ _ (((HV.out.below HB.out).below (Below_drewN (Below.refl _ _) n)).take k hk)
   have hkc : (k : Int) <= (cap : Int) := by omega
   clear hb hcell hlens
   generalize l[k] = x at HS HSW HAM hcw
   cases h1 : siteWord x with
   | false =>
    rw [h1] at HSW
    have HM : Hid (R = false) := by show _ = _; rw [hall.out, HS.out, h1]; rfl
    go_upto_region 4 with fail
    go_quiet ((go_at_call 106; exact Calls.quiet_of_same ((HSW.out _).mono fun _ _ ⟨he, hw⟩ => ⟨he, hw.symm⟩)))
    go_wp2_with fail
    go_ret
    exact ⟨ret_bool HM.out.symm, Below_drewN HB.out _⟩
   | true =>
    rw [h1] at HSW
    cases h2 : amongL (l.take k) x with
    | true =>
     rw [h2] at HAM
     have HM : Hid (R = false) := by show _ = _; rw [hall.out, HS.out, h1, h2]; rfl
     go_upto_region 4 with fail
     go_quiet (first | (go_at_call 106; exact Calls.quiet_of_same ((HSW.out _).mono fun _ _ ⟨he, hw⟩ => ⟨he, hw.symm⟩)) | (go_at_call 105; exact Calls.quiet_of_same ((HAM.out _).mono fun _ _ ⟨he, hw⟩ => ⟨he, hw.symm⟩)))
     go_wp2_with fail
     go_ret
     exact ⟨ret_bool HM.out.symm, Below_drewN HB.out _⟩
    | false =>
     rw [h2] at HAM
     have HM : Hid (R = (siteWordsFrom (l.take (k + 1)) (l.drop (k + 1)) && decide (l.length <= 12))) := by show _ = _; rw [hall.out, HS.out, h1, h2]; rfl
     go_upto_region 4 with fail
     go_quiet (first | (go_at_call 106; exact Calls.quiet_of_same ((HSW.out _).mono fun _ _ ⟨he, hw⟩ => ⟨he, hw.symm⟩)) | (go_at_call 105; exact Calls.quiet_of_same ((HAM.out _).mono fun _ _ ⟨he, hw⟩ => ⟨he, hw.symm⟩)))
     go_wp2_with fail
     go_roundw
     case rel => exact ⟨k + 1, by omega, by go_num, Below_drewN HB.out _, HM.out⟩
     case measure => (simp [intOf]; try omega)
  ·have HM : Hid (R = decide (l.length <= 12)) := by show _ = _; rw [hall.out, List.drop_of_length_le (by omega)]; rfl
   by_cases h12 : l.length <= 12
   ·go_wp2_with fail
    go_ret
    refine ⟨ret_bool ?_, hb⟩
    rw [HM.out, decide_eq_true h12]
    first | rfl | exact decide_eq_true (by omega)
   ·go_wp2_with fail
    go_ret
    refine ⟨ret_bool ?_, hb⟩
    rw [HM.out, decide_eq_false h12]
    first | rfl | exact decide_eq_false (by omega)

theorem siteKnown_eq (site : SiteM) : siteKnown site = (siteWords site.languages && siteWords site.disabled && siteWords site.content && decide (site.formats.length <= 12) && site.disabled.all (fun d => !amongL site.languages d) && site.formats.all (fun f => siteWord f.1 && siteWord f.2)) := rfl

set_option maxHeartbeats 4000000 in
theorem c_SiteKnown (site : SiteM) (vl vd vf vc : Value) (w : World) (hv : SiteAt w vl vd vf vc site) (hcl : CapOK vl) (hcd : CapOK vd) (hcc : CapOK vc) (hf : siteFits site = true) :
  Calls Tryz.prog 56 #[.agg #[vl, vd, vf, vc]] w fun e w' => e = .returned (.bool (siteKnown site)) /\ Below w.heap.size w w' := by
 have hf' : fits2 site.languages = true /\ fits2 site.disabled = true /\ fits3 site.formats = true /\ fits2 site.content = true := by
  have : siteFits site = (fits2 site.languages && fits2 site.disabled && fits3 site.formats && fits2 site.content) := rfl
  rw [hf] at this
  have := this.symm
  simp only [Bool.and_eq_true] at this
  exact ⟨this.1.1.1, this.1.1.2, this.1.2, this.2⟩
 obtain ⟨hf1, hf2, hf3, hf4⟩ := hf'
 obtain ⟨R, hR⟩ : ∃ R, R = siteKnown site := ⟨_, rfl⟩
 rw [<- hR]
 rw [siteKnown_eq] at hR
 have HR := Lib.hid hR
 clear hR
 have hflen : site.formats.length <= 140737488355328 := hv.f.1
 have hdlen : site.disabled.length <= 140737488355328 := hv.d.1
 obtain ⟨obj, ho⟩ : ∃ o : Obj, o = .cells #[vl, vd, vf, vc] 25 := ⟨_, rfl⟩
 have hb0 := Lib.hid (Below_alloc w obj)
 have hblk : Hid ((w.alloc obj).heap[w.heap.size]? = some (.cells #[vl, vd, vf, vc] 25 (0, 0))) := by show _ = _; rw [ho]; exact blk_new w _
 have HV := Lib.hid (hv.alloc obj)
 have W1 : Hid (∀ wx, Below w.heap.size.succ (w.alloc obj) wx -> Calls Tryz.prog 104 #[vl] wx fun e w' => e = .returned (.bool (siteWords site.languages)) /\ Below wx.heap.size wx w') := fun wx hb => c_siteWords _ _ wx (HV.out.l.below (hb.mono (by simp))) hcl hf1
 have W2 : Hid (∀ wx, Below w.heap.size.succ (w.alloc obj) wx -> Calls Tryz.prog 104 #[vd] wx fun e w' => e = .returned (.bool (siteWords site.disabled)) /\ Below wx.heap.size wx w') := fun wx hb => c_siteWords _ _ wx (HV.out.d.below (hb.mono (by simp))) hcd hf2
 have W3 : Hid (∀ wx, Below w.heap.size.succ (w.alloc obj) wx -> Calls Tryz.prog 104 #[vc] wx fun e w' => e = .returned (.bool (siteWords site.content)) /\ Below wx.heap.size wx w') := fun wx hb => c_siteWords _ _ wx (HV.out.c.below (hb.mono (by simp))) hcc hf4
 have hff := Lib.hid (fits3_get hf3)
 have hfd := Lib.hid (fits2_get hf2)
 clear hf hf1 hf2 hf3 hf4 hcl hcd hcc
 have KC : Hid (∀ wx, Below w.heap.size.succ (w.alloc obj) wx -> (wx.cell? ⟨w.heap.size, 0, none⟩ = some vl /\ wx.cell? ⟨w.heap.size, 1, none⟩ = some vd /\ wx.cell? ⟨w.heap.size, 2, none⟩ = some vf /\ wx.cell? ⟨w.heap.size, 3, none⟩ = some vc)) := fun wx hb => by
  have h := blk_below hblk.out (hb.mono (by simp))
  exact ⟨cell_blk h 0, cell_blk h 1, cell_blk h 2, cell_blk h 3⟩
 have hfin : Hid (∀ wx, Below w.heap.size.succ (w.alloc obj) wx -> Below w.heap.size w wx) := fun wx hb => hb0.out.trans (hb.mono (by simp))
 have hstep : Hid (∀ wx wy, Below w.heap.size.succ (w.alloc obj) wx -> Below wx.heap.size wx wy -> Below w.heap.size.succ (w.alloc obj) wy) := fun wx wy h1 h2 => belowThen h1 h2 (by simp)
 have h00 : Hid (Below w.heap.size.succ (w.alloc obj) (w.alloc obj)) := Below.refl _ _
 obtain ⟨_, ad, capd, rfl, hcd⟩ := hv.d
 obtain ⟨_, af, capf, rfl, hcf⟩ := hv.f
 have HCD := Lib.hid hcd
 have HCF := Lib.hid hcf
 clear hcd hcf hv
 go_enter Tryz.func56, Tryz.ntmps56
 go_wp2_with fail
 rw [<- ho]
 refine (W1.out _ h00.out).mono ?_; rintro e w1 ⟨rfl, b1⟩
 have hb1 := Lib.hid (hstep.out _ _ h00.out b1)
 obtain ⟨c0, c1, c2, c3⟩ := KC.out w1 hb1.out
 clear b1 W1
 cases h1 : siteWords site.languages with
 | false =>
  go_wp2_with fail
  go_ret
  exact ⟨ret_bool (by rw [HR.out, h1]; rfl), hfin.out _ hb1.out⟩
 | true =>
 go_wp2_with fail
 refine (W2.out _ hb1.out).mono ?_; rintro e w2 ⟨rfl, b2⟩
 have hb2 := Lib.hid (hstep.out _ _ hb1.out b2)
 clear c0 c1 c2 c3
 obtain ⟨c0, c1, c2, c3⟩ := KC.out w2 hb2.out
 clear b2 W2
 cases h2 : siteWords site.disabled with
 | false =>
  go_wp2_with fail
  go_ret
  exact ⟨ret_bool (by rw [HR.out, h1, h2]; rfl), hfin.out _ hb2.out⟩
 | true =>
 go_wp2_with fail
 refine (W3.out _ hb2.out).mono ?_; rintro e w3 ⟨rfl, b3⟩
 have hb3 := Lib.hid (hstep.out _ _ hb2.out b3)
 clear c0 c1 c2 c3
 obtain ⟨c0, c1, c2, c3⟩ := KC.out w3 hb3.out
 clear b3 W3
 cases h3 : siteWords site.content with
 | false =>
  go_wp2_with fail
  go_ret
  exact ⟨ret_bool (by rw [HR.out, h1, h2, h3]; rfl), hfin.out _ hb3.out⟩
 | true =>
 by_cases h4 : site.formats.length <= 12
 ·have HR2 : Hid (R = ((site.disabled.drop 0).all (fun d => !amongL site.languages d) && site.formats.all (fun f => siteWord f.1 && siteWord f.2))) := by
   show _ = _
   rw [HR.out, h1, h2, h3, decide_eq_true h4]; rfl
  have h4' : ¬ (12 : Int) < (site.formats.length : Int) := by omega
  clear h1 h2 h3 h4 HR
  go_wp2_with fail
  clear h4' c0 c1 c2 c3
  go_loopw [3] (fun i wr => ∃ k : Nat, k <= site.disabled.length /\ i = .int .i64 k /\ Below w.heap.size.succ (w.alloc obj) wr /\ Hid (R = ((site.disabled.drop k).all (fun d => !amongL site.languages d) && site.formats.all (fun f => siteWord f.1 && siteWord f.2)))) (fun i _ => site.disabled.length - (intOf i).toNat)
  case atStart => exact ⟨0, Nat.zero_le _, rfl, hb3.out, HR2.out⟩
  case round =>
   obtain ⟨k, hk, rfl, hb, hall⟩ := hrel
   replace hb := Lib.hid hb
   obtain ⟨c0, c1, c2, c3⟩ := KC.out wr hb.out
   by_cases hlt : k < site.disabled.length
   ·obtain ⟨b, off, rfl, hcell⟩ := HCD.out k hlt
    have hcw : wr.cell? ⟨b, off + k, none⟩ = some (.string (B site.disabled[k])) := ((hfin.out _ hb.out).cell (p := ⟨b, off + k, none⟩) (cell_lt hcell)).trans hcell
    have HAM : Hid (∀ n, Calls Tryz.prog 105 #[vl, .string (B site.disabled[k])] (wr.drewN n) fun e w' => e = .returned (.bool (amongL site.languages site.disabled[k])) /\ wr.drewN n = w') := fun n => c_among site.languages site.disabled[k] vl _ ((HV.out.l.below (hb.out.mono (by simp))).below (Below_drewN (Below.refl _ _) n))
    have hmis := @all_miss Str (fun d => !amongL site.languages d) site.disabled k hlt
    have hhit := @all_hit Str (fun d => !amongL site.languages d) site.disabled k hlt
    replace hmis := Lib.hid hmis
    replace hhit := Lib.hid hhit
    clear hcell
    cases he : amongL site.languages site.disabled[k] with
    | true =>
     have HM : Hid (R = false) := by show _ = _; rw [hall.out, hhit.out (by rw [he]; rfl)]; rfl
     rw [he] at HAM
     clear he hmis hhit
     generalize site.disabled[k] = x at HAM hcw
     go_upto_region 6 with fail
     go_quiet ((go_at_call 105; exact Calls.quiet_of_same ((HAM.out _).mono fun _ _ ⟨he, hw⟩ => ⟨he, hw.symm⟩)))
     go_wp2_with fail
     go_ret
     exact ⟨ret_bool HM.out.symm, hfin.out _ (Below_drewN hb.out _)⟩
    | false =>
     have HM : Hid (R = ((site.disabled.drop (k + 1)).all (fun d => !amongL site.languages d) && site.formats.all (fun f => siteWord f.1 && siteWord f.2))) := by show _ = _; rw [hall.out, hmis.out (by rw [he]; rfl)]
     rw [he] at HAM
     clear he hmis hhit
     generalize site.disabled[k] = x at HAM hcw
     go_upto_region 6 with fail
     go_quiet ((go_at_call 105; exact Calls.quiet_of_same ((HAM.out _).mono fun _ _ ⟨he, hw⟩ => ⟨he, hw.symm⟩)))
     go_wp2_with fail
     go_roundw
     case rel => exact ⟨k + 1, by omega, by go_num, Below_drewN hb.out _, HM.out⟩
     case measure => (simp [intOf]; try omega)
   ·have HR3 : Hid (R = (site.formats.drop 0).all (fun f => siteWord f.1 && siteWord f.2)) := by
     show _ = _
     rw [hall.out, List.drop_of_length_le (by omega)]; rfl
    clear hall
    go_wp2_with fail
    clear c0 c1 c2 c3
    go_loopw [4] (fun i wy => ∃ k : Nat, k <= site.formats.length /\ i = .int .i64 k /\ Below w.heap.size.succ (w.alloc obj) wy /\ Hid (R = (site.formats.drop k).all (fun f => siteWord f.1 && siteWord f.2))) (fun i _ => site.formats.length - (intOf i).toNat)
    case atStart => exact ⟨0, Nat.zero_le _, rfl, hb.out, HR3.out⟩
    case round =>
     obtain ⟨j, hj, rfl, hbj, hallj⟩ := hrel
     replace hbj := Lib.hid hbj
     obtain ⟨c0, c1, c2, c3⟩ := KC.out wr hbj.out
     by_cases hjl : j < site.formats.length
     ·obtain ⟨b, off, rfl, hcell, hcell2⟩ := HCF.out j hjl
      have hcw : wr.cell? ⟨b, off + j * 2, none⟩ = some (.string (B site.formats[j].1)) := ((hfin.out _ hbj.out).cell (p := ⟨b, off + j * 2, none⟩) (cell_lt hcell)).trans hcell
      have hcw2 : wr.cell? ⟨b, off + j * 2 + 1, none⟩ = some (.string (B site.formats[j].2)) := ((hfin.out _ hbj.out).cell (p := ⟨b, off + j * 2 + 1, none⟩) (cell_lt hcell2)).trans hcell2
      obtain ⟨-, hln⟩ := hff.out
      obtain ⟨l1, l2⟩ := hln j hjl
      have HS1 : Hid (∀ w2, Calls Tryz.prog 106 #[.string (B site.formats[j].1)] w2 fun e w' => e = .returned (.bool (siteWord site.formats[j].1)) /\ w2 = w') := fun w2 => c_siteWord _ w2 (by omega)
      have HS2 : Hid (∀ w2, Calls Tryz.prog 106 #[.string (B site.formats[j].2)] w2 fun e w' => e = .returned (.bool (siteWord site.formats[j].2)) /\ w2 = w') := fun w2 => c_siteWord _ w2 (by omega)
      have hmis := Lib.hid (@all_miss (Str × Str) (fun f => siteWord f.1 && siteWord f.2) site.formats j hjl)
      have hhit := Lib.hid (@all_hit (Str × Str) (fun f => siteWord f.1 && siteWord f.2) site.formats j hjl)
      clear hcell hcell2 hln l1 l2
      generalize site.formats[j] = x at HS1 HS2 hcw hcw2 hmis hhit
      obtain ⟨x1, x2⟩ := x
      cases e1 : siteWord x1 with
      | false =>
       have HM : Hid (R = false) := by show _ = _; rw [hallj.out, hhit.out (by show (siteWord x1 && siteWord x2) = false; rw [e1]; rfl)]
       replace HS1 : Hid (∀ w2, Calls Tryz.prog 106 #[.string (B x1)] w2 fun e w' => e = .returned (.bool false) /\ w2 = w') := by have := HS1.out; rw [e1] at this; exact this
       go_wp2_with fail
       refine (HS1.out _).mono ?_; rintro e w' ⟨rfl, rfl⟩
       go_wp2_with fail
       go_ret
       exact ⟨ret_bool HM.out.symm, hfin.out _ hbj.out⟩
      | true =>
       replace HS1 : Hid (∀ w2, Calls Tryz.prog 106 #[.string (B x1)] w2 fun e w' => e = .returned (.bool true) /\ w2 = w') := by have := HS1.out; rw [e1] at this; exact this
       cases e2 : siteWord x2 with
       | false =>
        have HM : Hid (R = false) := by show _ = _; rw [hallj.out, hhit.out (by show (siteWord x1 && siteWord x2) = false; rw [e1, e2]; rfl)]
        replace HS2 : Hid (∀ w2, Calls Tryz.prog 106 #[.string (B x2)] w2 fun e w' => e = .returned (.bool false) /\ w2 = w') := by have := HS2.out; rw [e2] at this; exact this
        go_wp2_with fail
        refine (HS1.out _).mono ?_; rintro e w' ⟨rfl, rfl⟩
        go_wp2_with fail
        refine (HS2.out _).mono ?_; rintro e w' ⟨rfl, rfl⟩
        go_wp2_with fail
        go_ret
        exact ⟨ret_bool HM.out.symm, hfin.out _ hbj.out⟩
       | true =>
        have HM : Hid (R = (site.formats.drop (j + 1)).all (fun f => siteWord f.1 && siteWord f.2)) := by show _ = _; rw [hallj.out, hmis.out (by show (siteWord x1 && siteWord x2) = true; rw [e1, e2]; rfl)]
        replace HS2 : Hid (∀ w2, Calls Tryz.prog 106 #[.string (B x2)] w2 fun e w' => e = .returned (.bool true) /\ w2 = w') := by have := HS2.out; rw [e2] at this; exact this
        go_wp2_with fail
        refine (HS1.out _).mono ?_; rintro e w' ⟨rfl, rfl⟩
        go_wp2_with fail
        refine (HS2.out _).mono ?_; rintro e w' ⟨rfl, rfl⟩
        go_wp2_with fail
        go_roundw
        case rel => exact ⟨j + 1, by omega, by go_num, hbj.out, HM.out⟩
        case measure => (simp [intOf]; try omega)
     ·have HM : Hid (R = true) := by show _ = _; rw [hallj.out, List.drop_of_length_le (by omega)]; rfl
      go_wp2_with fail
      go_ret
      exact ⟨ret_bool HM.out.symm, hfin.out _ hbj.out⟩
 ·have HM : Hid (R = false) := by show _ = _; rw [HR.out, decide_eq_false h4]; simp
  have h4' : (12 : Int) < (site.formats.length : Int) := by omega
  go_wp2_with fail
  go_ret
  exact ⟨ret_bool HM.out.symm, hfin.out _ hb3.out⟩

end Go.Proofs.YtjkecadfakjanaaGreatDoor
