/- What one identifier makes of a path: parseIdentifier walked. Conditions: a path in memory that is being parsed (Scan), small enough (Fits), the identifier's bounds. -/
import Derived.Test.YtjkecadfakjanaaGreatDoorWord
import Derived.Test.YtjkecadfakjanaaGreatDoorGrow2
import Derived.Test.YtjkecadfakjanaaGreatDoorWord2
import Derived.Test.YtjkecadfakjanaaGreatDoorRegionG
import Derived.Deep.RegionHeld3
set_option maxRecDepth 100000
set_option linter.unusedVariables false
set_option linter.unusedSimpArgs false
namespace Go.Proofs.YtjkecadfakjanaaGreatDoor
open Go.RowKit
attribute [local go_sem] B_extract B_toList B_append

set_option maxHeartbeats 16000000 in
theorem c_parseId_E (w0 w : World) (p : PathS) (b pb mb fb sb : Nat) (vl0 vd vf vc : Value) (un : Un) (site : SiteM) (hpp : PPAt w0 pb mb fb sb vl0 vd vf vc site) (hs : Scan w0 w b p un) (f : Fits p) (comp s : Str) (i lastDot : Nat) (numDots : Int) (isLast : Bool) (hc : (p.cHigh == -1) = true)
  (id : Nat × Nat) (hid : id = (i + 1, if p.known = [] then p.s.length else lastDot)) (hlo : id.1 <= id.2) (hhi : id.2 <= p.s.length) (hkw : Within p.s p.known) (hly : p.lay = -1 \/ 1 <= p.lay /\ p.lay < (p.known.length : Int)) (hwf0 : (wrapStep site comp p id).2 = false) (hgk : p.known ≠ []) (hgl : (langStep site (mayL comp p numDots) (sub p.s id) id p).2 = false) (hgt : (baseStep (sub p.s id) id (kindStep (mayK comp p) (sub p.s id) id (fmtStep site (comp == kLayouts) (sub p.s id) id (p, false)))).2 = false) (hgy : mayY comp p isLast = true) (hgz : (p.lay != -1) = false) :
  Calls Tryz.prog 146 #[.pointer (some ⟨pb, 0, none⟩), .string (B comp), .string (B s), .pointer (some ⟨b, 0, none⟩), .int .i64 i, .int .i64 lastDot, .int .i64 numDots, .bool isLast] w
   fun e w' => e = .returned (.tuple #[]) /\ Scan w0 w' b (PathS.parseId site comp p i lastDot numDots isLast) un := by
 obtain ⟨vk, vu, vl, h, hB⟩ := hs
 have hc' : (p.cHigh != -1) = false := by rw [bne, hc]; rfl
 have hlen := f.len
 have hkl := f.kl
 have hul := f.ul
 have hh := Lib.hid h
 have HB := Lib.hid hB
 have HP := Lib.hid (hpp.below hB)
 have HPP := Lib.hid hpp
 have hF := Lib.hid f
 have HWF := Lib.hid hwf0
 have HGK0 := Lib.hid hgk
 have HGL := Lib.hid hgl
 have HGT := Lib.hid hgt
 clear hwf0 hgk hgl hgt
 have HGY := Lib.hid hgy
 clear hgy
 have HGZ := Lib.hid hgz
 clear hgz
 have HKW := Lib.hid hkw
 have HLY := Lib.hid hly
 clear hkw hly
 have HQ : Hid (PathS.parseId site comp p i lastDot numDots isLast = finId (PathS.word site comp p id numDots isLast) i lastDot isLast) := by
  show _ = _
  rw [parseId_open site comp p i lastDot numDots isLast (by simpa using hc), hid]
 have HWE := Lib.hid (word_eq site comp p id numDots isLast)
 generalize PathS.parseId site comp p i lastDot numDots isLast = fin at HQ |-
 have HID := Lib.hid hid
 have c2 := h.cell 2 (.int .i64 p.cHigh) rfl
 have c8 := h.cell 8 (.int .i64 p.lang) rfl
 have m0 : w.cell? ⟨pb, 0, none⟩ = some (.map (some mb)) := cell_blk HP.out.pp 0
 have hne := run_mapNe mb
 clear h hB hpp f hid
 go_enter Tryz.func146, Tryz.ntmps146
 go_upto_region 1 with fail
 go_cut [16] from 34 to 49 (fun s16 wx => s16 = .bool (decide (1 < numDots) && (p.lang == -1)) /\ w = wx)
 case first =>
  by_cases h1 : 1 < numDots
  ·by_cases h2 : p.lang = -1
   ·have h3 : (p.lang == -1) = true := by rw [h2]; rfl
    go_wp2_with fail
    go_meet
    exact ⟨by simp [h1, h2], rfl⟩
   ·have h3 : (p.lang == -1) = false := by rw [beq_eq_false_iff_ne]; exact h2
    go_wp2_with fail
    go_meet
    exact ⟨by simp [h1, h2], rfl⟩
  ·go_wp2_with fail
   go_meet
   exact ⟨by rw [decide_eq_false (by omega)]; rfl, rfl⟩
 case rest =>
  obtain ⟨rfl, rfl⟩ := hcut
  clear c8 m0 hne c2
  have HL : Hid (mayL comp p numDots = ((decide (1 < numDots) && (p.lang == -1)) && (comp == kContent || comp == kLayouts))) := rfl
  generalize (decide (1 < numDots) && (p.lang == -1)) = l1 at HL |-
  generalize hmL : mayL comp p numDots = mL at HL
  have HmL := Lib.hid hmL
  clear hmL
  go_upto_region 2 with fail
  go_cut [16] from 50 to 58 (fun s16 wx => s16 = .bool mL /\ w = wx)
  case first =>
   cases l1
   ·go_wp2_with fail
    go_meet
    exact ⟨by rw [HL.out]; rfl, rfl⟩
   ·cases h1 : (comp == kContent)
    ·cases h2 : (comp == kLayouts)
     ·go_wp2_with fail
      go_meet
      exact ⟨by rw [HL.out, h1, h2]; rfl, rfl⟩
     ·go_wp2_with fail
      go_meet
      exact ⟨by rw [HL.out, h1, h2]; rfl, rfl⟩
    ·go_wp2_with fail
     go_meet
     exact ⟨by rw [HL.out, h1]; rfl, rfl⟩
  case rest =>
   obtain ⟨rfl, rfl⟩ := hcut
   clear HL l1
   have c10 := hh.out.cell 10 (.int .i64 p.kind) rfl
   have HK : Hid (mayK comp p = ((p.kind == -1) && (comp == kLayouts))) := rfl
   generalize hmK : mayK comp p = mK at HK
   have HmK := Lib.hid hmK
   clear hmK
   go_upto_region 4 with fail
   go_cut [18] from 61 to 68 (fun s18 wx => s18 = .bool mK /\ w = wx)
   case first =>
    by_cases h2 : p.kind = -1
    ·have h3 : (p.kind == -1) = true := by rw [h2]; rfl
     go_wp2_with fail
     go_meet
     exact ⟨by rw [HK.out, h3]; rfl, rfl⟩
    ·have h3 : (p.kind == -1) = false := by rw [beq_eq_false_iff_ne]; exact h2
     go_wp2_with fail
     go_meet
     exact ⟨by rw [HK.out, h3]; rfl, rfl⟩
   case rest =>
    obtain ⟨rfl, rfl⟩ := hcut
    clear c10 HK
    have c5 := hh.out.cell 5 (.int .i64 p.typ) rfl
    have HY : Hid (mayY comp p isLast = if p.typ = 7 then !isLast && (comp == kLayouts) else comp == kLayouts) := rfl
    generalize hmY : mayY comp p isLast = mY at HY
    have HmY := Lib.hid hmY
    clear hmY
    go_upto_if 73 with fail
    go_cut [19] from 69 to 81 (fun s19 wx => s19 = .bool mY /\ w = wx)
    case first =>
     by_cases h2 : p.typ = 7
     ·have h3 : (p.typ == 7) = true := by rw [h2]; rfl
      cases isLast
      ·go_wp2_with fail
       go_meet
       exact ⟨by rw [HY.out, if_pos h2]; rfl, rfl⟩
      ·go_wp2_with fail
       go_meet
       exact ⟨by rw [HY.out, if_pos h2]; rfl, rfl⟩
     ·have h3 : (p.typ == 7) = false := by rw [beq_eq_false_iff_ne]; exact h2
      go_wp2_with fail
      go_meet
      exact ⟨by rw [HY.out, if_neg h2], rfl⟩
    case rest =>
     obtain ⟨rfl, rfl⟩ := hcut
     clear c5 HY
     have c6 := hh.out.cell 6 vk rfl
     have c0 := hh.out.cell 0 (.string (B p.s)) rfl
     obtain ⟨ak, capk, ek, _⟩ := pairs_read hh.out.kn
     rw [ek] at c6
     have EK := Lib.hid ek
     clear ek
     go_upto_if 87 with fail
     go_cut [21] from 82 to 93 (fun s21 wx => s21 = .int .i64 id.2 /\ w = wx)
     case first =>
      by_cases hk0 : 0 < p.known.length
      ·have h2 : id.2 = lastDot := by rw [HID.out, if_neg (by intro e; rw [e] at hk0; simp at hk0)]
       go_wp2_with fail
       go_meet
       exact ⟨by rw [h2], rfl⟩
      ·have h2 : id.2 = p.s.length := by rw [HID.out, if_pos (List.length_eq_zero_iff.1 (by omega))]
       go_wp2_with fail
       go_meet
       exact ⟨by rw [h2], rfl⟩
     case rest =>
      obtain ⟨rfl, rfl⟩ := hcut
      clear c6 EK
      have hi1 : (i : Int) + 1 = ((id.1 : Nat) : Int) := by rw [HID.out]; simp
      have g1 : (id.1 : Int) <= (id.2 : Int) := by omega
      have g2 : (id.2 : Int) <= (p.s.length : Int) := by omega
      have c0 := hh.out.acell 0 (.string (B p.s)) rfl
      obtain ⟨o1, ho⟩ : ∃ o : Obj, o = .cells #[.int .i64 id.1, .int .i64 id.2] 80 := ⟨_, rfl⟩
      have hb1 := Lib.hid (Below_alloc w o1)
      have hn := Lib.hid (blk_new w o1)
      go_upto_region 15 with fail
      go_quiet (fail)
      have bw := Below_drewN hb1.out nq
      rw [ho] at bw hn
      have hh1 := Lib.hid (hh.out.below bw)
      have HB1 := Lib.hid (belowThen HB.out bw (Nat.le_refl _))
      have hn1 : Hid (((w.alloc (.cells #[.int .i64 id.1, .int .i64 id.2] 80)).drewN nq).heap[w.heap.size]? = some (.cells #[.int .i64 id.1, .int .i64 id.2] 80 (0, 0))) := hn.out
      have hsz : w.heap.size < ((w.alloc (.cells #[.int .i64 id.1, .int .i64 id.2] 80)).drewN nq).heap.size := by show _ < (w.alloc _).heap.size; simp
      have hsz0 := HB.out.size
      have HGK : Hid (∀ k, vk.ownBlock = some k -> k < w.heap.size) := fun k hk => (ownsRow_blk hh.out.kn hk).choose_spec.2.2
      have HGV : Hid (∀ k, vu.ownBlock = some k -> k < w.heap.size) := fun k hk => (ownsRow_blk hh.out.uk hk).choose_spec.2.2
      clear bw hb1 ho hn c0 hh HB HP
      generalize ((w.alloc (.cells #[.int .i64 id.1, .int .i64 id.2] 80)).drewN nq) = w1 at hh1 HB1 hn1 hsz |-
      generalize w.heap.size = gi at hn1 hsz hsz0 HGV HGK |-
      have hsid : Hid (sub p.s id = (p.s.drop id.1).take (id.2 - id.1)) := rfl
      generalize hsd : (p.s.drop id.1).take (id.2 - id.1) = sid at hsid |-
      have hsl : sid.length <= p.s.length := by rw [<- hsd]; simp; omega
      have HW := Lib.hid (c_isWrap sid w1 (by omega))
      go_wp2_with fail
      refine HW.out.mono ?_; rintro e w' ⟨rfl, rfl⟩
      go_upto_if 108 with fail
      go_cut [20, 24, 25, 26] from 107 to 154 (fun s20 s24 s25 s26 wx => s20 = .bool (wrapStep site comp p id).2 /\ Scan w0 wx b (wrapStep site comp p id).1 un /\ ((wrapStep site comp p id).2 = false -> w1 = wx))
      case first =>
       clear HID hi1 c0 hsd g1 g2 HQ HWE
       cases hw : isWrap sid with
       | false =>
        have hws : wrapStep site comp p id = (p, false) := by unfold wrapStep; rw [if_neg (by rw [hsid.out, hw]; simp)]
        have hws := Lib.hid hws
        go_wp2_with fail
        go_meet
        rw [hws.out]
        exact ⟨rfl, ⟨_, _, _, hh1.out, HB1.out⟩, fun _ => rfl⟩
       | true =>
        exact absurd HWF.out (by rw [wrap_true (by rw [hsid.out]; exact hw)]; simp)
      case rest =>
       obtain ⟨h20, hsc, hsame⟩ := hcut
       have hsc := Lib.hid hsc
       have hsame := Lib.hid hsame
       cases hwf : (wrapStep site comp p id).2 with
       | true =>
        rw [HWF.out] at hwf
        cases hwf
       | false =>
        have hw1 := hsame.out hwf
        subst hw1
        rw [hwf] at h20
        obtain rfl : _ = Value.bool false := h20
        have HF : Hid (fin = finId (restStep site comp p id numDots isLast) i lastDot isLast) := by
         show _ = _
         rw [HQ.out, HWE.out, if_neg (by rw [hwf]; simp)]
        have HR : Hid (restStep site comp p id numDots isLast = if p.known = [] then extStep site (comp == kLayouts) sid id p else unkStep id (layStep mY id (baseStep sid id (kindStep mK sid id (fmtStep site (comp == kLayouts) sid id (langStep site mL sid id p)))))) := by
         show _ = _
         unfold restStep
         rw [hsid.out, HmL.out, HmK.out, HmY.out]
        generalize restStep site comp p id numDots isLast = RS at HF HR
        have HG4 : Hid ((baseStep sid id (kindStep mK sid id (fmtStep site (comp == kLayouts) sid id (p, false)))).2 = false) := by
         show _ = _
         rw [<- hsid.out, <- HmK.out]; exact HGT.out
        have HYM : Hid (mY = true) := HmY.out.symm.trans HGY.out
        have HSA : Hid (asciiL sid = true) := by show _ = _; rw [<- hsid.out]; exact asciiL_sub hF.out.asc id
        generalize (comp == kLayouts) = lay at HR HG4 |-
        clear hsame HQ HWE hwf HID hi1 c0 hsd g1 g2 hsc
        obtain ⟨ak, capk, ek, hdel⟩ := pairs_read hh1.out.kn
        clear hdel
        have c6 : w1.cell? ⟨b, 6, none⟩ = some (.slice ak p.known.length capk) := by rw [<- ek]; exact hh1.out.cell 6 vk rfl
        clear ek
        go_upto_if 155 with fail
        go_cut [20, 27, 28] from 155 to 387 (fun s20 s27 s28 wx => s20 = .bool RS.2 /\ Scan w0 wx b RS.1 un)
        case first =>
         clear HF
         have hk0 : ¬ p.known.length = 0 := fun e => HGK0.out (List.length_eq_zero_iff.1 e)
         have hkb : ((p.known.length : Int) == 0) = false := by rw [beq_eq_false_iff_ne]; omega
         have HG1 : Hid ((langStep site mL sid id p).2 = false) := by
          show _ = _
          rw [<- hsid.out, <- HmL.out]; exact HGL.out
         have HR : Hid (RS = unkStep id (layStep mY id (baseStep sid id (kindStep mK sid id (fmtStep site lay sid id (langStep site mL sid id p)))))) := by
          show _ = _
          rw [HR.out, if_neg (by intro e; rw [e] at hk0; exact hk0 rfl)]
         rw [lang_old HG1.out] at HR
         have HG3' : (kindStep mK sid id (fmtStep site lay sid id (p, false))).2 = false := kind_of_base HG4.out
         have HG2 := Lib.hid (fmt_of_kind HG3')
         rw [fmt_old HG2.out] at HG3' HG4 HR
         have HG3 := Lib.hid HG3'
         rw [kind_old HG3'] at HG4 HR
         rw [base_old HG4.out] at HR
         clear HG3'
         go_upto_if 184 with fail
         clear c6 hkb
         go_cut [20, 27, 28] from 184 to 233 (fun s20 s27 s28 wx => s20 = .bool false /\ Below w1.heap.size w1 wx)
         case first =>
          cases mL with
          | false =>
           go_wp2_with fail
           go_meet
           exact ⟨rfl, Below.refl _ _⟩
          | true =>
           obtain ⟨nl, hlk⟩ := (HPP.out.below HB1.out).map.lookup sid
           have m0 : w1.cell? ⟨pb, 0, none⟩ = some (.map (some mb)) := cell_blk (HPP.out.below HB1.out).pp 0
           cases ha : amongL site.languages sid with
           | true =>
            rw [ha] at hlk
            have hN : Hid (langStep site true sid id p = ({ p.addKnown id with lang := p.known.length }, true)) := by
             show _ = _
             unfold langStep
             rw [ha]
             simp
             rfl

            exact absurd HG1.out (by rw [hN.out]; simp)
           | false =>
            rw [ha] at hlk
            have m1 : w1.cell? ⟨pb, 1, none⟩ = some (.func (.func 94) #[] #[.pointer (some ⟨fb, 0, none⟩), .pointer (some ⟨sb, 0, none⟩)]) := cell_blk (HPP.out.below HB1.out).pp 1
            have hnf := run_fnNe
            have HD : Hid (Calls Tryz.prog 94 #[.string (B sid), .pointer (some ⟨fb, 0, none⟩), .pointer (some ⟨sb, 0, none⟩)] w1 fun e w' => e = .returned (.bool (amongL site.disabled sid)) /\ w1 = w') := let q := HPP.out.below HB1.out; c_isDisabled site sid vl0 vd vf vc fb sb w1 q.read q.fn q.st
            cases hd : amongL site.disabled sid with
            | false =>
             rw [hd] at HD
             go_wp2_with (refine HD.out.mono ?_; rintro e w' ⟨rfl, rfl⟩)
             go_meet
             exact ⟨rfl, Below.refl _ _⟩
            | true =>
             rw [hd] at HD
             have hN : Hid (langStep site true sid id p = ({ ({ p with disabled := true } : PathS).addKnown id with lang := p.known.length }, true)) := by
              show _ = _
              unfold langStep
              rw [ha, hd]
              simp [PathS.addKnown]

             exact absurd HG1.out (by rw [hN.out]; simp)
         case rest =>
          obtain ⟨rfl, hb⟩ := hcut
          replace hb := Lib.hid hb
          go_upto_if 238 with fail
          go_cut [20] from 234 to 265 (fun s20 wx => s20 = .bool false /\ Below w1.heap.size w1 wx)
          case first =>
           clear HR
           have hh2 := Lib.hid (hh1.out.below hb.out)
           have HB2 : Hid (Below w0.heap.size w0 wc) := belowThen HB1.out hb.out (Nat.le_refl _)
           have hn2 := Lib.hid (blk_below hn1.out hb.out)
           clear hh1 HB1 hn1
           cases lay with
           | false =>
            go_wp2_with fail
            go_meet
            exact ⟨rfl, hb.out⟩
           | true =>
            have m2 : wc.cell? ⟨pb, 2, none⟩ = some (.func (.func 95) #[] #[.pointer (some ⟨sb, 0, none⟩)]) := cell_blk (HPP.out.below HB2.out).pp 2
            have HFm : Hid (∀ w', Below wc.heap.size wc w' -> Calls Tryz.prog 95 #[.string (B sid), .string (B (p.idStr 0)), .pointer (some ⟨sb, 0, none⟩)] w' fun e w'' => e = .returned (.bool (isFormat site sid (p.idStr 0))) /\ Below w'.heap.size w' w'') := fun w' hb => let q := HPP.out.below (belowThen HB2.out hb (Nat.le_refl _)); c_isFormat site sid (p.idStr 0) vl0 vd vf vc sb w' q.read q.st
            have HEx : Hid (∀ w', Below wc.heap.size wc w' -> Calls Tryz.prog 77 #[.pointer (some ⟨b, 0, none⟩)] w' fun e w'' => e = .returned (.string (B (p.idStr 0))) /\ Below w'.heap.size w' w'') := fun w' hb => c_ExtW (hh2.out.below hb) HKW.out (by omega)
            have KS : Hid (∀ w' w'', (w'.cell? ⟨pb, 2, none⟩ = some (.func (.func 95) #[] #[.pointer (some ⟨sb, 0, none⟩)]) /\ Below wc.heap.size wc w') -> Below w'.heap.size w' w'' -> (w''.cell? ⟨pb, 2, none⟩ = some (.func (.func 95) #[] #[.pointer (some ⟨sb, 0, none⟩)]) /\ Below wc.heap.size wc w'')) := fun w' w'' h1 h2 => ⟨cell_blk (HPP.out.below (belowThen HB2.out (belowThen h1.2 h2 (Nat.le_refl _)) (Nat.le_refl _))).pp 2, belowThen h1.2 h2 (Nat.le_refl _)⟩
            go_upto_region 47 with fail
            go_cut [246] from 239 to 246 (fun s246 wx => s246 = .bool (isFormat site sid (p.idStr 0)) /\ Below wc.heap.size wc wx)
            case first =>
             go_region_held3 (fun w' => w'.cell? ⟨pb, 2, none⟩ = some (.func (.func 95) #[] #[.pointer (some ⟨sb, 0, none⟩)]) /\ Below wc.heap.size wc w') (first | exact ⟨m2, Below_drewN (Below.refl _ _) 1⟩ | exact KS.out _ _ ‹_› ‹_›)
              (first | (go_at_call 77; refine (HEx.out _ ?_).mono ?_; (exact (And.right ‹_›)); rintro e w' ⟨rfl, hb5⟩) | (go_at_call 95; refine (HFm.out _ ?_).mono ?_; (exact (And.right ‹_›)); rintro e w' ⟨rfl, hb5⟩))
             all_goals
              rename_i hS
              replace hS := Lib.hid hS.2
              go_wp2_with fail
              go_meet
              exact ⟨rfl, hS.out⟩
            case rest =>
             obtain ⟨rfl, hb6⟩ := hcut
             clear m2 HFm HEx KS
             have hh3 := Lib.hid (hh2.out.below hb6)
             have HB3 : Hid (Below w0.heap.size w0 wc) := belowThen HB2.out hb6 (Nat.le_refl _)
             have hn3 := Lib.hid (blk_below hn2.out hb6)
             replace hb6 : Hid (Below w1.heap.size w1 wc) := belowThen hb.out hb6 (Nat.le_refl _)
             clear hb hh2 HB2 hn2
             cases hf : isFormat site sid (p.idStr 0) with
             | false =>
              go_wp2_with fail
              go_meet
              exact ⟨rfl, hb6.out⟩
             | true =>
              have hN : Hid (fmtStep site true sid id (p, false) = ({ p.addKnown id with fmt := p.known.length }, true)) := by
               show _ = _
               unfold fmtStep
               rw [hf]
               rfl

              exact absurd HG2.out (by rw [hN.out]; simp)
          case rest =>
           clear hb
           obtain ⟨rfl, hb⟩ := hcut
           replace hb := Lib.hid hb
           go_upto_if 270 with fail
           go_cut [20] from 266 to 292 (fun s20 wx => s20 = .bool false /\ Below w1.heap.size w1 wx)
           case first =>
            clear HR
            have hh2 := Lib.hid (hh1.out.below hb.out)
            have HB2 : Hid (Below w0.heap.size w0 wc) := belowThen HB1.out hb.out (Nat.le_refl _)
            have hn2 := Lib.hid (blk_below hn1.out hb.out)
            clear hh1 HB1 hn1
            cases mK with
            | false =>
             go_wp2_with fail
             go_meet
             exact ⟨rfl, hb.out⟩
            | true =>
             have HKd : Hid (Calls Tryz.prog 166 #[.string (B sid)] wc fun e w' => e = .returned (.string (B (kindOf sid))) /\ Below wc.heap.size wc w') := c_getKind sid wc (by omega) HSA.out
             go_wp2_with fail
             refine HKd.out.mono ?_; rintro e w6 ⟨rfl, hb6⟩
             clear HKd
             have hh3 := Lib.hid (hh2.out.below hb6)
             have HB3 : Hid (Below w0.heap.size w0 w6) := belowThen HB2.out hb6 (Nat.le_refl _)
             have hn3 := Lib.hid (blk_below hn2.out hb6)
             replace hb6 : Hid (Below w1.heap.size w1 w6) := belowThen hb.out hb6 (Nat.le_refl _)
             clear hb hh2 HB2 hn2
             cases hf : (kindOf sid).isEmpty with
             | true =>
              go_wp2_with fail
              go_meet
              exact ⟨rfl, hb6.out⟩
             | false =>
              have hN : Hid (kindStep true sid id (p, false) = ({ p.addKnown id with kind := p.known.length }, true)) := by
               show _ = _
               unfold kindStep
               rw [hf]
               rfl

              exact absurd HG3.out (by rw [hN.out]; simp)
           case rest =>
            clear hb
            obtain ⟨rfl, hb⟩ := hcut
            replace hb := Lib.hid hb
            go_upto_if 298 with fail
            obtain ⟨t, ht⟩ : ∃ t, t = (sid == kBaseof) := ⟨_, rfl⟩
            have ht2 : (sid == [98, 97, 115, 101, 111, 102]) = t := ht.symm
            rw [ht2]
            clear ht2
            replace ht := Lib.hid ht
            go_cut [20] from 293 to 317 (fun s20 wx => s20 = .bool false /\ Below w1.heap.size w1 wx)
            case first =>
             clear HR
             have hh2 := Lib.hid (hh1.out.below hb.out)
             have HB2 : Hid (Below w0.heap.size w0 wc) := belowThen HB1.out hb.out (Nat.le_refl _)
             have hn2 := Lib.hid (blk_below hn1.out hb.out)
             clear hh1 HB1 hn1
             have ht2 : Hid (t = (sid == kBaseof)) := ht.out
             clear ht
             cases t with
             | false =>
              go_wp2_with fail
              go_meet
              exact ⟨rfl, hb.out⟩
             | true =>
              have hN : Hid (baseStep sid id (p, false) = ({ p.addKnown id with baseof := p.known.length }, true)) := by
               show _ = _
               unfold baseStep; rw [<- ht2.out]; rfl

              exact absurd HG4.out (by rw [hN.out]; simp)
            case rest =>
             clear hb
             obtain ⟨rfl, hb⟩ := hcut
             replace hb := Lib.hid hb
             go_upto_if 322 with fail
             go_cut [20] from 318 to 375 (fun s20 wx => s20 = .bool (layStep mY id (p, false)).2 /\ Scan w0 wx b (layStep mY id (p, false)).1 un /\ ((layStep mY id (p, false)).2 = false -> (layStep mY id (p, false)).1 = p /\ Below w1.heap.size w1 wx))
             case first =>
              clear HR
              have hh2 := Lib.hid (hh1.out.below hb.out)
              have HB2 : Hid (Below w0.heap.size w0 wc) := belowThen HB1.out hb.out (Nat.le_refl _)
              have hn2 := Lib.hid (blk_below hn1.out hb.out)
              clear hh1 HB1 hn1
              cases mY with
              | false =>
               exact absurd HYM.out (by decide)
              | true =>
               obtain ⟨tl, htl⟩ : ∃ t, t = (p.lay != -1) := ⟨_, rfl⟩
               replace htl := Lib.hid htl
               have c11 := hh2.out.cell 11 (.int .i64 p.lay) rfl
               go_upto_region 61 with fail
               go_cut [327] from 323 to 327 (fun sT wx => sT = .bool tl /\ wx = wc)
               case first =>
                by_cases hl1 : p.lay = -1
                ·have hlb : (p.lay == -1) = true := by rw [hl1]; rfl
                 go_wp2_with fail
                 go_meet
                 exact ⟨by rw [htl.out, hl1]; rfl, rfl⟩
                ·have hlb : (p.lay == -1) = false := by rw [beq_eq_false_iff_ne]; exact hl1
                 go_wp2_with fail
                 go_meet
                 exact ⟨by rw [htl.out, bne, hlb]; try rfl, rfl⟩
               case rest =>
               obtain ⟨rfl, rfl⟩ := hcut
               clear c11
               cases tl with
               | false =>
                have hl1 : p.lay = -1 := by
                 have e := htl.out
                 rw [eq_comm, bne_eq_false_iff_eq] at e
                 exact e
                have hN : Hid (layStep true id (p, false) = ({ p.addKnown id with lay := p.known.length }, true)) := by
                 show _ = _
                 unfold layStep
                 rw [if_pos (show (!(p, false).2 && true) = true from rfl)]
                 exact if_pos hl1
                clear hl1 htl
                go_upto_region 64 with fail
                clear hb HKW HLY
                obtain ⟨iL, hi0, hz0, hz1, hz2⟩ := info_split Tryz.infoLH
                have hbase : ∀ o, w0.heap.size <= ((wc.alloc o).drew).heap.size := fun o => by have := HB2.out.size; simp; omega
                have k6 : ∀ o, (wc.alloc o).cell? ⟨b, 6, none⟩ = some vk := fun o => hh2.out.acell 6 vk rfl o
                have k6' := hh2.out.cell 6 vk rfl
                obtain ⟨n0, n1⟩ : wc.cell? ⟨gi, 0, none⟩ = some (.int .i64 id.1) /\ wc.cell? ⟨gi, 1, none⟩ = some (.int .i64 id.2) := ⟨cell_blk hn2.out 0, cell_blk hn2.out 1⟩
                have hwa : Hid (∀ o, Below wc.heap.size wc ((wc.alloc o).drew)) := fun o => Below_drewN (Below_alloc _ o) 1
                have HAN : Hid (∀ o, (wc.alloc o).heap[gi]? = some (.cells #[.int .i64 id.1, .int .i64 id.2] 80 (0, 0))) := fun o => blk_old _ _ hn2.out
                have HWN : Hid (∀ o w3, ((wc.alloc o).drew).grownBy w3 vk.ownBlock -> w3.heap[gi]? = some (.cells #[.int .i64 id.1, .int .i64 id.2] 80 (0, 0))) := fun o w3 hg => (hg.block gi (Nat.lt_of_lt_of_le (lt_of_block hn2.out) (hwa.out o).size) (fun e => Nat.lt_irrefl _ (HGK.out gi e.symm))).trans (((hwa.out o).block gi (lt_of_block hn2.out)).trans hn2.out)
                have hmx : p.known.length + 1 <= maxLen := by have : (2000000 : Nat) <= maxLen := (by decide); omega
                go_cut [] from 357 to 366 (fun wx => ∃ vk', PathAt wx w0.heap.size b (p.addKnown id) vk' vu vl un /\ Below w0.heap.size w0 wx)
                case first =>
                 refine wp_region_G (fun w2 => w2.cell? ⟨b, 6, none⟩ = some vk /\ w2.cell? ⟨gi, 0, none⟩ = some (.int .i64 id.1) /\ w2.cell? ⟨gi, 1, none⟩ = some (.int .i64 id.2)) 8 (by kernel_rfl) (fun inv => ?_)
                 have hS : wc.drew.cell? ⟨b, 6, none⟩ = some vk /\ wc.drew.cell? ⟨gi, 0, none⟩ = some (.int .i64 id.1) /\ wc.drew.cell? ⟨gi, 1, none⟩ = some (.int .i64 id.2) := ⟨k6', n0, n1⟩
                 refine wpAnyG_take (i := 0) (v := ?_) rfl (by kernel_rfl) (by kernel_rfl) (by kernel_rfl) (fun _ _ _ h => h) (Or.inl ⟨by rfl, ?_⟩) hS inv (fun inv => ?_)
                 rotate_left 1
                 ·(intro w2 hSw; go_simp <;> with_reducible rfl)
                 try simp only [Act.put, List.setIfInBounds_toArray, List.set_cons_zero, List.set_cons_succ]
                 refine wpAnyG_take (i := 1) (v := ?_) rfl (by kernel_rfl) (by kernel_rfl) (by kernel_rfl) (fun _ _ _ h => h) (Or.inl ⟨by rfl, ?_⟩) hS inv (fun inv => ?_)
                 rotate_left 1
                 ·(intro w2 hSw; go_simp <;> with_reducible rfl)
                 try simp only [Act.put, List.setIfInBounds_toArray, List.set_cons_zero, List.set_cons_succ]
                 refine wpAnyG_take (i := 2) (v := ?_) rfl (by kernel_rfl) (by kernel_rfl) (by kernel_rfl) (fun _ _ _ h => h) (Or.inl ⟨by rfl, ?_⟩) hS inv (fun inv => ?_)
                 rotate_left 1
                 ·(intro w2 hSw; go_simp <;> with_reducible rfl)
                 try simp only [Act.put, List.setIfInBounds_toArray, List.set_cons_zero, List.set_cons_succ]
                 refine wpAnyG_take (i := 3) (v := ?_) rfl (by kernel_rfl) (by kernel_rfl) (by kernel_rfl) (fun _ _ _ h => h) (Or.inl ⟨by rfl, ?_⟩) hS inv (fun inv => ?_)
                 rotate_left 1
                 ·(intro w2 hSw; go_simp <;> with_reducible rfl)
                 try simp only [Act.put, List.setIfInBounds_toArray, List.set_cons_zero, List.set_cons_succ]
                 refine wpAnyG_take (i := 4) (v := ?_) rfl (by kernel_rfl) (by kernel_rfl) (by kernel_rfl) (fun _ _ _ h => h) (Or.inl ⟨by rfl, ?_⟩) hS inv (fun inv => ?_)
                 rotate_left 1
                 ·(intro w2 hSw; go_simp <;> with_reducible rfl)
                 try simp only [Act.put, List.setIfInBounds_toArray, List.set_cons_zero, List.set_cons_succ]
                 refine wpAnyG_take (i := 5) (v := ?_) rfl (by kernel_rfl) (by kernel_rfl) (by kernel_rfl) (fun _ _ _ h => h) (Or.inl ⟨by rfl, ?_⟩) hS inv (fun inv => ?_)
                 rotate_left 1
                 ·(intro w2 hSw; go_simp <;> with_reducible rfl)
                 try simp only [Act.put, List.setIfInBounds_toArray, List.set_cons_zero, List.set_cons_succ]
                 refine wpAnyG_one (i := 6) rfl (by kernel_rfl) (fun K hK => ?_)
                 go_simp
                 refine hK _ _ (fun _ => ⟨k6 _, cell_blk (HAN.out _) 0, cell_blk (HAN.out _) 1⟩) ?_
                 clear hK K hS
                 try simp only [Act.put, List.setIfInBounds_toArray, List.set_cons_zero, List.set_cons_succ]
                 refine wpAnyG_one (i := 7) rfl (by kernel_rfl) (fun K hK => ?_)
                 refine step_append_lies _ (by rfl) (.tmp 361) (.tmp 363) 77 (by rfl) w0.heap.size 80 iL _ 2 16 Tryz.underlying77 hi0 hz0 hz1 hz2 rfl (by decide) vk p.known.length (pairCells p.known) (by rfl) (hh2.out.kn.alloc _).drew _ 1 1 [.int .i64 id.1, .int .i64 id.2] (by rfl) rfl (World.news_of_block (blk_new _ _)) (by simp [Value.oneCell']) (by decide) hmx (by omega) (hbase _) _ rfl ?_
                 intro g cap w3 hown2 hgrow hat hlt
                 have q6 : w3.cell? ⟨b, 6, none⟩ = some vk := (hh2.out.behind (hwa.out _) hgrow (.inl rfl)).1 6
                 have q6f := (hh2.out.behind (hwa.out _) hgrow (.inl rfl)).2 6
                 refine hK _ _ (fun _ => ⟨q6, cell_blk (HWN.out _ _ hgrow) 0, cell_blk (HWN.out _ _ hgrow) 1⟩) ?_
                 clear hK K
                 try simp only [Act.put, List.setIfInBounds_toArray, List.set_cons_zero, List.set_cons_succ]
                 refine wpAnyG_one (i := 8) rfl (by kernel_rfl) (fun K hK => ?_)
                 go_simp
                 refine hK _ _ (fun h => absurd h (by decide)) ?_
                 clear hK K
                 try simp only [Act.put, List.setIfInBounds_toArray, List.set_cons_zero, List.set_cons_succ]
                 refine wpAnyG_one (i := 9) rfl (by kernel_rfl) (fun K hK => ?_)
                 go_simp
                 refine hK _ _ (fun h => absurd h (by decide)) ?_
                 clear hK K
                 try simp only [Act.put, List.setIfInBounds_toArray, List.set_cons_zero, List.set_cons_succ]
                 refine wpAnyG_one (i := 10) rfl (by kernel_rfl) (fun K hK => ?_)
                 go_simp
                 refine hK _ _ (fun h => absurd h (by decide)) ?_
                 clear hK K
                 try simp only [Act.put, List.setIfInBounds_toArray, List.set_cons_zero, List.set_cons_succ]
                 refine wpAnyG_done (by kernel_rfl) ?_ _
                 go_wp2_with fail
                 go_meet
                 obtain ⟨q1, q2⟩ := hh2.out.pushKnown (hwa.out _) id hown2 hgrow hat
                 exact ⟨_, q1, HB2.out.trans q2⟩
                case rest =>
                 obtain ⟨vk2, h2, hb2⟩ := hcut
                 clear n0 n1 k6 k6' hbase hwa hmx hh2 HB2 hn2 HAN HWN
                 obtain ⟨a2, cap2, e2, hdel⟩ := pairs_read h2.kn
                 clear hdel
                 have hl2 : (p.addKnown id).known.length = p.known.length + 1 := by simp [PathS.addKnown]
                 rw [hl2] at e2
                 have k6' : wc.cell? ⟨b, 6, none⟩ = some (.slice a2 (p.known.length + 1) cap2) := by rw [<- e2]; exact h2.cell 6 vk2 rfl
                 have hwr : IntKind.i64.wrap (p.known.length : Int) = (p.known.length : Int) := by rw [IntKind.wrap_i64]; omega
                 have kf := h2.cell 11 (.int .i64 (p).lay) rfl
                 have ff := h2.free 11
                 obtain ⟨h4, hb4⟩ := h2.set 11 (i64 p.known.length) { (p).addKnown id with lay := p.known.length } rfl rfl rfl rfl
                 have h4 := Lib.hid h4
                 have hb4 := Lib.hid (hb2.trans hb4)
                 clear h2 hb2 e2 hl2
                 go_wp2_with fail
                 go_meet

                 rw [show layStep true id (p, false) = ({ p.addKnown id with lay := p.known.length }, true) from hN.out]
                 exact ⟨rfl, ⟨_, _, _, h4.out, hb4.out⟩, fun h => by cases h⟩
               | true =>
                exact absurd (htl.out.trans HGZ.out) (by decide)
             case rest =>
              clear hb
              obtain ⟨h20, hsc, hsame⟩ := hcut
              have HQB : Hid ((layStep mY id (p, false)).2 = true) := by
               show _ = _
               rw [HYM.out]
               unfold layStep
               rw [if_pos (show (!(p, false).2 && true) = true from rfl)]
               split <;> rfl
              generalize layStep mY id (p, false) = q at h20 hsc hsame HR HQB
              obtain ⟨qa, qb⟩ := q
              replace HQB : Hid (qb = true) := HQB
              replace hsc : Hid (Scan w0 wc b qa un) := hsc
              replace hsame : Hid (qb = false -> qa = p /\ Below w1.heap.size w1 wc) := hsame
              obtain rfl : _ = Value.bool qb := h20
              go_upto_if 377 with fail
              go_cut [20] from 376 to 387 (fun s20 wx => s20 = .bool (unkStep id (qa, qb)).2 /\ Scan w0 wx b (unkStep id (qa, qb)).1 un)
              case first =>
               clear HR
               cases qb with
               | true =>
                skip
                have hN : Hid (unkStep id (qa, true) = (qa, true)) := rfl
                go_wp2_with fail
                go_meet
                rw [hN.out]
                exact ⟨rfl, hsc.out⟩
               | false =>
                exact absurd HQB.out (by decide)
              case rest =>
               clear hsc hsame
               obtain ⟨h20, hsc⟩ := hcut
               replace hsc := Lib.hid hsc
               obtain rfl := h20
               go_wp2_with fail
               go_meet
               rw [HR.out]
               exact ⟨rfl, hsc.out⟩
        case rest =>
         obtain ⟨h20, hsc⟩ := hcut
         replace hsc := Lib.hid hsc
         clear HR HLY HKW
         cases hqf : RS.2 with
         | true =>
          rw [hqf] at h20
          obtain rfl : _ = Value.bool true := h20
          have HF : Hid (fin = finId (RS.1, true) i lastDot isLast) := by
           show _ = _
           rw [HF.out, <- hqf]
          clear hqf
          generalize RS.1 = q at HF hsc
          obtain ⟨vkE, vuE, vlE, hE, hbE⟩ := hsc.out
          have kE := hE.cell 22 (.int .i64 (q).nameHigh) rfl
          have fE := hE.free 22
          cases isLast with
          | false =>
           obtain ⟨h5, hb5⟩ := hE.set 22 (i64 i) { (q) with nameHigh := (i : Int) } rfl rfl rfl rfl
           have h5 := Lib.hid h5
           have hb5 := Lib.hid (hbE.trans hb5)
           clear hE hbE
           go_wp2_with fail
           go_end0
           exact ⟨rfl, by rw [HF.out, finId_mid]; exact ⟨_, _, _, h5.out, hb5.out⟩⟩
          | true =>
           by_cases hnh : (q).nameHigh <= 0
           ·obtain ⟨h5, hb5⟩ := hE.set 22 (i64 lastDot) { (q) with nameHigh := (lastDot : Int) } rfl rfl rfl rfl
            have h5 := Lib.hid h5
            have hb5 := Lib.hid (hbE.trans hb5)
            clear hE hbE
            go_wp2_with fail
            go_end0
            exact ⟨rfl, by rw [HF.out, finId_last _ _ _ hnh]; exact ⟨_, _, _, h5.out, hb5.out⟩⟩
           ·have h5 := Lib.hid hE
            have hb5 := Lib.hid hbE
            clear hE hbE
            go_wp2_with fail
            go_end0
            exact ⟨rfl, by rw [HF.out, finId_old _ _ _ (by omega)]; exact ⟨_, _, _, h5.out, hb5.out⟩⟩
         | false =>
          rw [hqf] at h20
          obtain rfl : _ = Value.bool false := h20
          have HF : Hid (fin = RS.1) := by
           show _ = _
           rw [HF.out]
           unfold finId
           rw [hqf]
           rfl
          clear hqf
          go_wp2_with fail
          go_end0
          exact ⟨rfl, by rw [HF.out]; exact hsc.out⟩

end Go.Proofs.YtjkecadfakjanaaGreatDoor
