/- What one identifier makes of a path: parseIdentifier walked. Conditions: a path in memory that is being parsed (Scan), small enough (Fits), the identifier's bounds. -/
import Derived.Test.YtjkecadfakjanaaGreatDoorWord
import Derived.Test.YtjkecadfakjanaaGreatDoorGrow2
import Derived.Test.YtjkecadfakjanaaGreatDoorWord2
import Derived.Test.YtjkecadfakjanaaGreatDoorRegionG
import Derived.Deep.RegionHeld3
set_option maxRecDepth 100000
set_option linter.unusedVariables false
set_option linter.unusedSimpArgs false
namespace Go.Proofs.YtjkecadfakjanaaGreatDoor
open Go.RowKit
attribute [local go_sem] B_extract B_toList B_append

theorem c_parseId_shut (w0 w : World) (p : PathS) (b pb mb fb sb : Nat) (vl0 vd vf vc : Value) (un : Un) (site : SiteM) (hpp : PPAt w0 pb mb fb sb vl0 vd vf vc site) (hs : Scan w0 w b p un) (comp s : Str) (i lastDot numDots : Int) (isLast : Bool) (hc : (p.cHigh == -1) = false) :
  Calls Tryz.prog 146 #[.pointer (some ⟨pb, 0, none⟩), .string (B comp), .string (B s), .pointer (some ⟨b, 0, none⟩), .int .i64 i, .int .i64 lastDot, .int .i64 numDots, .bool isLast] w
   fun e w' => e = .returned (.tuple #[]) /\ Scan w0 w' b p un := by
 have hsc := Lib.hid hs
 obtain ⟨vk, vu, vl, h, hB⟩ := hs
 have c2 := h.cell 2 (.int .i64 p.cHigh) rfl
 clear h hB hpp
 go_enter Tryz.func146, Tryz.ntmps146
 go_wp2_with fail
 exact bodyPost_ret (v := .tuple #[]) (by simp [results, Tryz.results146, go_sem]) rfl ⟨rfl, hsc.out⟩

set_option maxHeartbeats 16000000 in
theorem c_parseId_A (w0 w : World) (p : PathS) (b pb mb fb sb : Nat) (vl0 vd vf vc : Value) (un : Un) (site : SiteM) (hpp : PPAt w0 pb mb fb sb vl0 vd vf vc site) (hs : Scan w0 w b p un) (f : Fits p) (comp s : Str) (i lastDot : Nat) (numDots : Int) (isLast : Bool) (hc : (p.cHigh == -1) = true)
  (id : Nat × Nat) (hid : id = (i + 1, if p.known = [] then p.s.length else lastDot)) (hlo : id.1 <= id.2) (hhi : id.2 <= p.s.length) (hkw : Within p.s p.known) (hly : p.lay = -1 \/ 1 <= p.lay /\ p.lay < (p.known.length : Int)) (hwf0 : (wrapStep site comp p id).2 = true) :
  Calls Tryz.prog 146 #[.pointer (some ⟨pb, 0, none⟩), .string (B comp), .string (B s), .pointer (some ⟨b, 0, none⟩), .int .i64 i, .int .i64 lastDot, .int .i64 numDots, .bool isLast] w
   fun e w' => e = .returned (.tuple #[]) /\ Scan w0 w' b (PathS.parseId site comp p i lastDot numDots isLast) un := by
 obtain ⟨vk, vu, vl, h, hB⟩ := hs
 have hc' : (p.cHigh != -1) = false := by rw [bne, hc]; rfl
 have hlen := f.len
 have hkl := f.kl
 have hul := f.ul
 have hh := Lib.hid h
 have HB := Lib.hid hB
 have HP := Lib.hid (hpp.below hB)
 have HPP := Lib.hid hpp
 have hF := Lib.hid f
 have HWF := Lib.hid hwf0
 clear hwf0
 have HKW := Lib.hid hkw
 have HLY := Lib.hid hly
 clear hkw hly
 have HQ : Hid (PathS.parseId site comp p i lastDot numDots isLast = finId (PathS.word site comp p id numDots isLast) i lastDot isLast) := by
  show _ = _
  rw [parseId_open site comp p i lastDot numDots isLast (by simpa using hc), hid]
 have HWE := Lib.hid (word_eq site comp p id numDots isLast)
 generalize PathS.parseId site comp p i lastDot numDots isLast = fin at HQ |-
 have HID := Lib.hid hid
 have c2 := h.cell 2 (.int .i64 p.cHigh) rfl
 have c8 := h.cell 8 (.int .i64 p.lang) rfl
 have m0 : w.cell? ⟨pb, 0, none⟩ = some (.map (some mb)) := cell_blk HP.out.pp 0
 have hne := run_mapNe mb
 clear h hB hpp f hid
 go_enter Tryz.func146, Tryz.ntmps146
 go_upto_region 1 with fail
 go_cut [16] from 34 to 49 (fun s16 wx => s16 = .bool (decide (1 < numDots) && (p.lang == -1)) /\ w = wx)
 case first =>
  by_cases h1 : 1 < numDots
  ·by_cases h2 : p.lang = -1
   ·have h3 : (p.lang == -1) = true := by rw [h2]; rfl
    go_wp2_with fail
    go_meet
    exact ⟨by simp [h1, h2], rfl⟩
   ·have h3 : (p.lang == -1) = false := by rw [beq_eq_false_iff_ne]; exact h2
    go_wp2_with fail
    go_meet
    exact ⟨by simp [h1, h2], rfl⟩
  ·go_wp2_with fail
   go_meet
   exact ⟨by rw [decide_eq_false (by omega)]; rfl, rfl⟩
 case rest =>
  obtain ⟨rfl, rfl⟩ := hcut
  clear c8 m0 hne c2
  have HL : Hid (mayL comp p numDots = ((decide (1 < numDots) && (p.lang == -1)) && (comp == kContent || comp == kLayouts))) := rfl
  generalize (decide (1 < numDots) && (p.lang == -1)) = l1 at HL |-
  generalize hmL : mayL comp p numDots = mL at HL
  have HmL := Lib.hid hmL
  clear hmL
  go_upto_region 2 with fail
  go_cut [16] from 50 to 58 (fun s16 wx => s16 = .bool mL /\ w = wx)
  case first =>
   cases l1
   ·go_wp2_with fail
    go_meet
    exact ⟨by rw [HL.out]; rfl, rfl⟩
   ·cases h1 : (comp == kContent)
    ·cases h2 : (comp == kLayouts)
     ·go_wp2_with fail
      go_meet
      exact ⟨by rw [HL.out, h1, h2]; rfl, rfl⟩
     ·go_wp2_with fail
      go_meet
      exact ⟨by rw [HL.out, h1, h2]; rfl, rfl⟩
    ·go_wp2_with fail
     go_meet
     exact ⟨by rw [HL.out, h1]; rfl, rfl⟩
  case rest =>
   obtain ⟨rfl, rfl⟩ := hcut
   clear HL l1
   have c10 := hh.out.cell 10 (.int .i64 p.kind) rfl
   have HK : Hid (mayK comp p = ((p.kind == -1) && (comp == kLayouts))) := rfl
   generalize hmK : mayK comp p = mK at HK
   have HmK := Lib.hid hmK
   clear hmK
   go_upto_region 4 with fail
   go_cut [18] from 61 to 68 (fun s18 wx => s18 = .bool mK /\ w = wx)
   case first =>
    by_cases h2 : p.kind = -1
    ·have h3 : (p.kind == -1) = true := by rw [h2]; rfl
     go_wp2_with fail
     go_meet
     exact ⟨by rw [HK.out, h3]; rfl, rfl⟩
    ·have h3 : (p.kind == -1) = false := by rw [beq_eq_false_iff_ne]; exact h2
     go_wp2_with fail
     go_meet
     exact ⟨by rw [HK.out, h3]; rfl, rfl⟩
   case rest =>
    obtain ⟨rfl, rfl⟩ := hcut
    clear c10 HK
    have c5 := hh.out.cell 5 (.int .i64 p.typ) rfl
    have HY : Hid (mayY comp p isLast = if p.typ = 7 then !isLast && (comp == kLayouts) else comp == kLayouts) := rfl
    generalize hmY : mayY comp p isLast = mY at HY
    have HmY := Lib.hid hmY
    clear hmY
    go_upto_if 73 with fail
    go_cut [19] from 69 to 81 (fun s19 wx => s19 = .bool mY /\ w = wx)
    case first =>
     by_cases h2 : p.typ = 7
     ·have h3 : (p.typ == 7) = true := by rw [h2]; rfl
      cases isLast
      ·go_wp2_with fail
       go_meet
       exact ⟨by rw [HY.out, if_pos h2]; rfl, rfl⟩
      ·go_wp2_with fail
       go_meet
       exact ⟨by rw [HY.out, if_pos h2]; rfl, rfl⟩
     ·have h3 : (p.typ == 7) = false := by rw [beq_eq_false_iff_ne]; exact h2
      go_wp2_with fail
      go_meet
      exact ⟨by rw [HY.out, if_neg h2], rfl⟩
    case rest =>
     obtain ⟨rfl, rfl⟩ := hcut
     clear c5 HY
     have c6 := hh.out.cell 6 vk rfl
     have c0 := hh.out.cell 0 (.string (B p.s)) rfl
     obtain ⟨ak, capk, ek, _⟩ := pairs_read hh.out.kn
     rw [ek] at c6
     have EK := Lib.hid ek
     clear ek
     go_upto_if 87 with fail
     go_cut [21] from 82 to 93 (fun s21 wx => s21 = .int .i64 id.2 /\ w = wx)
     case first =>
      by_cases hk0 : 0 < p.known.length
      ·have h2 : id.2 = lastDot := by rw [HID.out, if_neg (by intro e; rw [e] at hk0; simp at hk0)]
       go_wp2_with fail
       go_meet
       exact ⟨by rw [h2], rfl⟩
      ·have h2 : id.2 = p.s.length := by rw [HID.out, if_pos (List.length_eq_zero_iff.1 (by omega))]
       go_wp2_with fail
       go_meet
       exact ⟨by rw [h2], rfl⟩
     case rest =>
      obtain ⟨rfl, rfl⟩ := hcut
      clear c6 EK
      have hi1 : (i : Int) + 1 = ((id.1 : Nat) : Int) := by rw [HID.out]; simp
      have g1 : (id.1 : Int) <= (id.2 : Int) := by omega
      have g2 : (id.2 : Int) <= (p.s.length : Int) := by omega
      have c0 := hh.out.acell 0 (.string (B p.s)) rfl
      obtain ⟨o1, ho⟩ : ∃ o : Obj, o = .cells #[.int .i64 id.1, .int .i64 id.2] 80 := ⟨_, rfl⟩
      have hb1 := Lib.hid (Below_alloc w o1)
      have hn := Lib.hid (blk_new w o1)
      go_upto_region 15 with fail
      go_quiet (fail)
      have bw := Below_drewN hb1.out nq
      rw [ho] at bw hn
      have hh1 := Lib.hid (hh.out.below bw)
      have HB1 := Lib.hid (belowThen HB.out bw (Nat.le_refl _))
      have hn1 : Hid (((w.alloc (.cells #[.int .i64 id.1, .int .i64 id.2] 80)).drewN nq).heap[w.heap.size]? = some (.cells #[.int .i64 id.1, .int .i64 id.2] 80 (0, 0))) := hn.out
      have hsz : w.heap.size < ((w.alloc (.cells #[.int .i64 id.1, .int .i64 id.2] 80)).drewN nq).heap.size := by show _ < (w.alloc _).heap.size; simp
      have hsz0 := HB.out.size
      have HGK : Hid (∀ k, vk.ownBlock = some k -> k < w.heap.size) := fun k hk => (ownsRow_blk hh.out.kn hk).choose_spec.2.2
      have HGV : Hid (∀ k, vu.ownBlock = some k -> k < w.heap.size) := fun k hk => (ownsRow_blk hh.out.uk hk).choose_spec.2.2
      clear bw hb1 ho hn c0 hh HB HP
      generalize ((w.alloc (.cells #[.int .i64 id.1, .int .i64 id.2] 80)).drewN nq) = w1 at hh1 HB1 hn1 hsz |-
      generalize w.heap.size = gi at hn1 hsz hsz0 HGV HGK |-
      have hsid : Hid (sub p.s id = (p.s.drop id.1).take (id.2 - id.1)) := rfl
      generalize hsd : (p.s.drop id.1).take (id.2 - id.1) = sid at hsid |-
      have hsl : sid.length <= p.s.length := by rw [<- hsd]; simp; omega
      have HW := Lib.hid (c_isWrap sid w1 (by omega))
      go_wp2_with fail
      refine HW.out.mono ?_; rintro e w' ⟨rfl, rfl⟩
      go_upto_if 108 with fail
      go_cut [20, 24, 25, 26] from 107 to 154 (fun s20 s24 s25 s26 wx => s20 = .bool (wrapStep site comp p id).2 /\ Scan w0 wx b (wrapStep site comp p id).1 un /\ ((wrapStep site comp p id).2 = false -> w1 = wx))
      case first =>
       clear HID hi1 c0 hsd g1 g2 HQ HWE
       cases hw : isWrap sid with
       | false =>
        exact absurd HWF.out (by unfold wrapStep; rw [if_neg (by rw [hsid.out, hw]; simp)]; simp)
       | true =>
        have hl2 : 2 < sid.length := by
         have : isWrap sid = (decide (2 < sid.length) && List.isPrefixOf [95] sid && List.isSuffixOf [95] sid) := rfl
         rw [hw] at this
         by_cases h : 2 < sid.length
         ·exact h
         ·rw [decide_eq_false h] at this; simp at this
        have hwr1 : IntKind.i64.wrap ((sid.length : Int) - 1) = (sid.length : Int) - 1 := by rw [IntKind.wrap_i64]; omega
        have hasc := Lib.hid (asciiL_sub hF.out.asc id)
        have hin : Hid (innerOf sid = (sid.tail).take (sid.length - 1 - 1)) := by
         show (sid.drop 1).take (sid.length - 2) = _
         rw [List.drop_one, Nat.sub_sub]
        have hial : Hid (asciiL (innerOf sid) = true) := by
         show _ = _
         have := hasc.out
         rw [hsid.out] at this
         unfold asciiL at this |-
         rw [List.all_eq_true] at this |-
         exact fun x hx => this x (List.mem_of_mem_drop (List.mem_of_mem_take hx))
        have HPX := Lib.hid (fun (t : Str) (ht : t.length <= 70368744177664) (ha : asciiL t = true) => c_parsePrefix t w1 ht ha)
        go_wp2_with fail
        rw [<- hin.out]
        refine (HPX.out _ (by simp [innerOf]; omega) hial.out).mono ?_; rintro e w2 ⟨rfl, b2⟩
        have hh2 := Lib.hid (hh1.out.below b2)
        have HB2 : Hid (Below w0.heap.size w0 w2) := belowThen HB1.out b2 (Nat.le_refl _)
        have hn2 := Lib.hid (blk_below hn1.out b2)
        clear hh1 HB1 hn1 b2 HPX HW hin
        obtain ⟨X, hX⟩ : ∃ X : Option PathS, X = (if parsePrefixM (innerOf sid) ≠ [] then PathS.applyPrefix site comp (parsePrefixM (innerOf sid)) p (id.1 + 1 + (parsePrefixM (innerOf sid)).length, id.2 - 1) else none) := ⟨_, rfl⟩
        have hws : Hid (wrapStep site comp p id = wrapFin p id X) := by
         show _ = _
         unfold wrapStep
         rw [if_pos (by rw [hsid.out, hw]), hsid.out]
         rw [hX]
        have hX := Lib.hid hX
        have hps := Lib.hid (parsePrefix_spec (innerOf sid))
        have hil : (innerOf sid).length = sid.length - 2 := by simp [innerOf]; omega
        have hsl2 : sid.length = id.2 - id.1 := by rw [<- hsid.out]; simp [sub]; omega
        generalize parsePrefixM (innerOf sid) = pf at hX hps |-
        go_upto_if 117 with fail
        go_cut [20, 26] from 116 to 133 (fun s20 s26 wx => s20 = .bool X.isSome /\ Scan w0 wx b (X.getD p) un /\ (X = none -> Below w2.heap.size w2 wx))
        case first =>
         cases hpe : pf.isEmpty with
         | true =>
          have hX0 : X = none := by rw [hX.out, if_neg (by simp [List.isEmpty_iff.1 hpe])]
          have hX0 := Lib.hid hX0
          go_wp2_with fail
          go_meet
          rw [hX0.out]
          exact ⟨rfl, ⟨_, _, _, hh2.out, HB2.out⟩, fun _ => Below.refl _ _⟩
         | false =>
          have hpn : pf ≠ [] := List.isEmpty_eq_false_iff.1 hpe
          obtain ⟨hp1, hp2⟩ := hps.out hpn
          have hX0 : X = PathS.applyPrefix site comp pf p (id.1 + 1 + pf.length, id.2 - 1) := by rw [hX.out, if_pos hpn]
          have hX0 := Lib.hid hX0
          have HA : Hid (∀ w3, Below w2.heap.size w2 w3 -> Calls Tryz.prog 165 #[.pointer (some ⟨pb, 0, none⟩), .string (B comp), .string (B pf), .pointer (some ⟨b, 0, none⟩), .agg #[.int .i64 ((id.1 : Int) + 1 + (pf.length : Int)), .int .i64 ((id.2 : Int) - 1)]] w3
            fun e w' => e = .returned (.bool X.isSome) /\ Scan w0 w' b (X.getD p) un /\ (X = none -> Below w3.heap.size w3 w')) := by
           intro w3 h3
           have := c_apply w0 w3 p b pb mb fb sb vl0 vd vf vc un site HPP.out ⟨_, _, _, hh2.out.below h3, belowThen HB2.out h3 (Nat.le_refl _)⟩ hF.out comp (id.1 + 1 + pf.length) (id.2 - 1) (by omega) (by omega) pf hp1
           rw [<- hX0.out, show ((id.1 + 1 + pf.length : Nat) : Int) = (id.1 : Int) + 1 + (pf.length : Int) by omega, show ((id.2 - 1 : Nat) : Int) = (id.2 : Int) - 1 by omega] at this
           exact this
          obtain ⟨n0, n1⟩ : w2.cell? ⟨gi, 0, none⟩ = some (.int .i64 id.1) /\ w2.cell? ⟨gi, 1, none⟩ = some (.int .i64 id.2) := ⟨cell_blk hn2.out 0, cell_blk hn2.out 1⟩
          have hb3 : Hid (∀ o, Below w2.heap.size w2 (w2.alloc o)) := fun o => Below_alloc _ o
          clear hp1 hpn hX hps hX0 hws hial hasc
          go_wp2_with fail
          refine (HA.out _ (hb3.out _)).mono ?_; rintro e w4 ⟨rfl, h4, h5⟩
          have h4 := Lib.hid h4
          have h5 : Hid (X = none -> Below w2.heap.size w2 w4) := fun hx => belowThen (hb3.out _) (h5 hx) (Nat.le_refl _)
          cases hxs : X.isSome with
          | true =>
           go_wp2_with fail
           go_meet
           exact ⟨by rw [hxs], h4.out, h5.out⟩
          | false =>
           go_wp2_with fail
           go_meet
           exact ⟨by rw [hxs], h4.out, h5.out⟩
        case rest =>
         obtain ⟨h20, hsX, hbX⟩ := hcut
         have hsX := Lib.hid hsX
         have hbX := Lib.hid hbX
         clear hil hsl2 hl2 hwr1 hsl hw
         cases X with
         | some p' =>
          obtain rfl : _ = Value.bool true := h20
          go_wp2_with fail
          go_meet
          rw [hws.out]
          exact ⟨rfl, hsX.out, fun h => by cases h⟩
         | none =>
          obtain rfl : _ = Value.bool false := h20
          have hb3 := hbX.out rfl
          have hh1 := Lib.hid (hh2.out.below hb3)
          have HB1 : Hid (Below w0.heap.size w0 wc) := belowThen HB2.out hb3 (Nat.le_refl _)
          have hn1 := Lib.hid (blk_below hn2.out hb3)
          clear hb3 hbX hsX hh2 HB2 hn2 hX hps hial hasc
          obtain ⟨iL, hi0, hz0, hz1, hz2⟩ := info_split Tryz.infoLH
          have hbase : ∀ o, w0.heap.size <= ((wc.alloc o).drew).heap.size := fun o => by have := HB1.out.size; simp; omega
          have k6 : ∀ o, (wc.alloc o).cell? ⟨b, 6, none⟩ = some vk := fun o => hh1.out.acell 6 vk rfl o
          have k6' := hh1.out.cell 6 vk rfl
          obtain ⟨n0, n1⟩ : wc.cell? ⟨gi, 0, none⟩ = some (.int .i64 id.1) /\ wc.cell? ⟨gi, 1, none⟩ = some (.int .i64 id.2) := ⟨cell_blk hn1.out 0, cell_blk hn1.out 1⟩
          have hwa : Hid (∀ o, Below wc.heap.size wc ((wc.alloc o).drew)) := fun o => Below_drewN (Below_alloc _ o) 1
          have hmx : p.known.length + 1 <= maxLen := by have : (2000000 : Nat) <= maxLen := (by decide); omega
          go_upto_region 24 with fail
          go_cut [] from 136 to 145 (fun wx => ∃ vk', PathAt wx w0.heap.size b (p.addKnown id) vk' vu vl un /\ Below w0.heap.size w0 wx)
          case first =>
           go_region_law (refine step_append_lies _ (by rfl) (.tmp 140) (.tmp 142) 77 (by rfl) w0.heap.size 80 iL _ 2 16 Tryz.underlying77 hi0 hz0 hz1 hz2 rfl (by decide) vk p.known.length (pairCells p.known) (by rfl) (hh1.out.kn.alloc _).drew _ 1 1 [.int .i64 id.1, .int .i64 id.2] (by rfl) rfl (World.news_of_block (blk_new _ _)) (by simp [Value.oneCell']) (by decide) hmx (by omega) (hbase _) _ rfl ?_; intro g cap w3 hown2 hgrow hat hlt; have q6 : w3.cell? ⟨b, 6, none⟩ = some vk := (hh1.out.behind (hwa.out _) hgrow (.inl rfl)).1 6; have q6f := (hh1.out.behind (hwa.out _) hgrow (.inl rfl)).2 6)
           all_goals
            go_wp2_with fail
            go_meet
            obtain ⟨q1, q2⟩ := hh1.out.pushKnown (hwa.out _) id hown2 hgrow hat
            exact ⟨_, q1, HB1.out.trans q2⟩
          case rest =>
           obtain ⟨vk2, h2, hb2⟩ := hcut
           clear n0 n1 k6 k6' hbase hwa hmx hh1 HB1 hn1
           obtain ⟨a2, cap2, e2, _⟩ := pairs_read h2.kn
           have hl2 : (p.addKnown id).known.length = p.known.length + 1 := by simp [PathS.addKnown]
           rw [hl2] at e2
           have k6' : wc.cell? ⟨b, 6, none⟩ = some (.slice a2 (p.known.length + 1) cap2) := by rw [<- e2]; exact h2.cell 6 vk2 rfl
           have hwr : IntKind.i64.wrap (p.known.length : Int) = (p.known.length : Int) := by rw [IntKind.wrap_i64]; omega
           have k13 := h2.cell 13 (.int .i64 p.custom) rfl
           have f13 := h2.free 13
           obtain ⟨h4, hb4⟩ := h2.set 13 (i64 p.known.length) { p.addKnown id with custom := p.known.length } rfl rfl rfl rfl
           have h4 := Lib.hid h4
           have hb4 := Lib.hid (hb2.trans hb4)
           clear h2 hb2 e2 hl2
           go_wp2_with fail
           go_meet
           rw [hws.out]
           exact ⟨rfl, ⟨_, _, _, h4.out, hb4.out⟩, fun h => by cases h⟩
      case rest =>
       obtain ⟨h20, hsc, hsame⟩ := hcut
       have hsc := Lib.hid hsc
       have hsame := Lib.hid hsame
       cases hwf : (wrapStep site comp p id).2 with
       | true =>
        rw [hwf] at h20
        obtain rfl : _ = Value.bool true := h20
        have HF : Hid (fin = finId ((wrapStep site comp p id).1, true) i lastDot isLast) := by
         show _ = _
         rw [HQ.out, HWE.out, if_pos hwf, <- hwf]
        clear hsame HQ HWE hwf HID hi1 c0 hsd g1 g2
        generalize (wrapStep site comp p id).1 = q at HF hsc
        obtain ⟨vkE, vuE, vlE, hE, hbE⟩ := hsc.out
        have kE := hE.cell 22 (.int .i64 (q).nameHigh) rfl
        have fE := hE.free 22
        cases isLast with
        | false =>
         obtain ⟨h5, hb5⟩ := hE.set 22 (i64 i) { (q) with nameHigh := (i : Int) } rfl rfl rfl rfl
         have h5 := Lib.hid h5
         have hb5 := Lib.hid (hbE.trans hb5)
         clear hE hbE
         go_wp2_with fail
         go_end0
         exact ⟨rfl, by rw [HF.out, finId_mid]; exact ⟨_, _, _, h5.out, hb5.out⟩⟩
        | true =>
         by_cases hnh : (q).nameHigh <= 0
         ·obtain ⟨h5, hb5⟩ := hE.set 22 (i64 lastDot) { (q) with nameHigh := (lastDot : Int) } rfl rfl rfl rfl
          have h5 := Lib.hid h5
          have hb5 := Lib.hid (hbE.trans hb5)
          clear hE hbE
          go_wp2_with fail
          go_end0
          exact ⟨rfl, by rw [HF.out, finId_last _ _ _ hnh]; exact ⟨_, _, _, h5.out, hb5.out⟩⟩
         ·have h5 := Lib.hid hE
          have hb5 := Lib.hid hbE
          clear hE hbE
          go_wp2_with fail
          go_end0
          exact ⟨rfl, by rw [HF.out, finId_old _ _ _ (by omega)]; exact ⟨_, _, _, h5.out, hb5.out⟩⟩
       | false =>
        rw [HWF.out] at hwf
        cases hwf

end Go.Proofs.YtjkecadfakjanaaGreatDoor
