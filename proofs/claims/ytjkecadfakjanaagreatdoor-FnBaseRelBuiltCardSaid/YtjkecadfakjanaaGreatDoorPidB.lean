/- What one identifier makes of a path: parseIdentifier walked. Conditions: a path in memory that is being parsed (Scan), small enough (Fits), the identifier's bounds. -/
import Derived.Test.YtjkecadfakjanaaGreatDoorWord
import Derived.Test.YtjkecadfakjanaaGreatDoorGrow2
import Derived.Test.YtjkecadfakjanaaGreatDoorWord2
import Derived.Test.YtjkecadfakjanaaGreatDoorRegionG
import Derived.Deep.RegionHeld3
set_option maxRecDepth 100000
set_option linter.unusedVariables false
set_option linter.unusedSimpArgs false
namespace Go.Proofs.YtjkecadfakjanaaGreatDoor
open Go.RowKit
attribute [local go_sem] B_extract B_toList B_append

set_option maxHeartbeats 16000000 in
theorem c_parseId_B (w0 w : World) (p : PathS) (b pb mb fb sb : Nat) (vl0 vd vf vc : Value) (un : Un) (site : SiteM) (hpp : PPAt w0 pb mb fb sb vl0 vd vf vc site) (hs : Scan w0 w b p un) (f : Fits p) (comp s : Str) (i lastDot : Nat) (numDots : Int) (isLast : Bool) (hc : (p.cHigh == -1) = true)
  (id : Nat × Nat) (hid : id = (i + 1, if p.known = [] then p.s.length else lastDot)) (hlo : id.1 <= id.2) (hhi : id.2 <= p.s.length) (hkw : Within p.s p.known) (hly : p.lay = -1 \/ 1 <= p.lay /\ p.lay < (p.known.length : Int)) (hwf0 : (wrapStep site comp p id).2 = false) (hgb : p.known = [] \/ (langStep site (mayL comp p numDots) (sub p.s id) id p).2 = true) :
  Calls Tryz.prog 146 #[.pointer (some ⟨pb, 0, none⟩), .string (B comp), .string (B s), .pointer (some ⟨b, 0, none⟩), .int .i64 i, .int .i64 lastDot, .int .i64 numDots, .bool isLast] w
   fun e w' => e = .returned (.tuple #[]) /\ Scan w0 w' b (PathS.parseId site comp p i lastDot numDots isLast) un := by
 obtain ⟨vk, vu, vl, h, hB⟩ := hs
 have hc' : (p.cHigh != -1) = false := by rw [bne, hc]; rfl
 have hlen := f.len
 have hkl := f.kl
 have hul := f.ul
 have hh := Lib.hid h
 have HB := Lib.hid hB
 have HP := Lib.hid (hpp.below hB)
 have HPP := Lib.hid hpp
 have hF := Lib.hid f
 have HWF := Lib.hid hwf0
 have HGB := Lib.hid hgb
 clear hwf0 hgb
 have HKW := Lib.hid hkw
 have HLY := Lib.hid hly
 clear hkw hly
 have HQ : Hid (PathS.parseId site comp p i lastDot numDots isLast = finId (PathS.word site comp p id numDots isLast) i lastDot isLast) := by
  show _ = _
  rw [parseId_open site comp p i lastDot numDots isLast (by simpa using hc), hid]
 have HWE := Lib.hid (word_eq site comp p id numDots isLast)
 generalize PathS.parseId site comp p i lastDot numDots isLast = fin at HQ |-
 have HID := Lib.hid hid
 have c2 := h.cell 2 (.int .i64 p.cHigh) rfl
 have c8 := h.cell 8 (.int .i64 p.lang) rfl
 have m0 : w.cell? ⟨pb, 0, none⟩ = some (.map (some mb)) := cell_blk HP.out.pp 0
 have hne := run_mapNe mb
 clear h hB hpp f hid
 go_enter Tryz.func146, Tryz.ntmps146
 go_upto_region 1 with fail
 go_cut [16] from 34 to 49 (fun s16 wx => s16 = .bool (decide (1 < numDots) && (p.lang == -1)) /\ w = wx)
 case first =>
  by_cases h1 : 1 < numDots
  ·by_cases h2 : p.lang = -1
   ·have h3 : (p.lang == -1) = true := by rw [h2]; rfl
    go_wp2_with fail
    go_meet
    exact ⟨by simp [h1, h2], rfl⟩
   ·have h3 : (p.lang == -1) = false := by rw [beq_eq_false_iff_ne]; exact h2
    go_wp2_with fail
    go_meet
    exact ⟨by simp [h1, h2], rfl⟩
  ·go_wp2_with fail
   go_meet
   exact ⟨by rw [decide_eq_false (by omega)]; rfl, rfl⟩
 case rest =>
  obtain ⟨rfl, rfl⟩ := hcut
  clear c8 m0 hne c2
  have HL : Hid (mayL comp p numDots = ((decide (1 < numDots) && (p.lang == -1)) && (comp == kContent || comp == kLayouts))) := rfl
  generalize (decide (1 < numDots) && (p.lang == -1)) = l1 at HL |-
  generalize hmL : mayL comp p numDots = mL at HL
  have HmL := Lib.hid hmL
  clear hmL
  go_upto_region 2 with fail
  go_cut [16] from 50 to 58 (fun s16 wx => s16 = .bool mL /\ w = wx)
  case first =>
   cases l1
   ·go_wp2_with fail
    go_meet
    exact ⟨by rw [HL.out]; rfl, rfl⟩
   ·cases h1 : (comp == kContent)
    ·cases h2 : (comp == kLayouts)
     ·go_wp2_with fail
      go_meet
      exact ⟨by rw [HL.out, h1, h2]; rfl, rfl⟩
     ·go_wp2_with fail
      go_meet
      exact ⟨by rw [HL.out, h1, h2]; rfl, rfl⟩
    ·go_wp2_with fail
     go_meet
     exact ⟨by rw [HL.out, h1]; rfl, rfl⟩
  case rest =>
   obtain ⟨rfl, rfl⟩ := hcut
   clear HL l1
   have c10 := hh.out.cell 10 (.int .i64 p.kind) rfl
   have HK : Hid (mayK comp p = ((p.kind == -1) && (comp == kLayouts))) := rfl
   generalize hmK : mayK comp p = mK at HK
   have HmK := Lib.hid hmK
   clear hmK
   go_upto_region 4 with fail
   go_cut [18] from 61 to 68 (fun s18 wx => s18 = .bool mK /\ w = wx)
   case first =>
    by_cases h2 : p.kind = -1
    ·have h3 : (p.kind == -1) = true := by rw [h2]; rfl
     go_wp2_with fail
     go_meet
     exact ⟨by rw [HK.out, h3]; rfl, rfl⟩
    ·have h3 : (p.kind == -1) = false := by rw [beq_eq_false_iff_ne]; exact h2
     go_wp2_with fail
     go_meet
     exact ⟨by rw [HK.out, h3]; rfl, rfl⟩
   case rest =>
    obtain ⟨rfl, rfl⟩ := hcut
    clear c10 HK
    have c5 := hh.out.cell 5 (.int .i64 p.typ) rfl
    have HY : Hid (mayY comp p isLast = if p.typ = 7 then !isLast && (comp == kLayouts) else comp == kLayouts) := rfl
    generalize hmY : mayY comp p isLast = mY at HY
    have HmY := Lib.hid hmY
    clear hmY
    go_upto_if 73 with fail
    go_cut [19] from 69 to 81 (fun s19 wx => s19 = .bool mY /\ w = wx)
    case first =>
     by_cases h2 : p.typ = 7
     ·have h3 : (p.typ == 7) = true := by rw [h2]; rfl
      cases isLast
      ·go_wp2_with fail
       go_meet
       exact ⟨by rw [HY.out, if_pos h2]; rfl, rfl⟩
      ·go_wp2_with fail
       go_meet
       exact ⟨by rw [HY.out, if_pos h2]; rfl, rfl⟩
     ·have h3 : (p.typ == 7) = false := by rw [beq_eq_false_iff_ne]; exact h2
      go_wp2_with fail
      go_meet
      exact ⟨by rw [HY.out, if_neg h2], rfl⟩
    case rest =>
     obtain ⟨rfl, rfl⟩ := hcut
     clear c5 HY
     have c6 := hh.out.cell 6 vk rfl
     have c0 := hh.out.cell 0 (.string (B p.s)) rfl
     obtain ⟨ak, capk, ek, _⟩ := pairs_read hh.out.kn
     rw [ek] at c6
     have EK := Lib.hid ek
     clear ek
     go_upto_if 87 with fail
     go_cut [21] from 82 to 93 (fun s21 wx => s21 = .int .i64 id.2 /\ w = wx)
     case first =>
      by_cases hk0 : 0 < p.known.length
      ·have h2 : id.2 = lastDot := by rw [HID.out, if_neg (by intro e; rw [e] at hk0; simp at hk0)]
       go_wp2_with fail
       go_meet
       exact ⟨by rw [h2], rfl⟩
      ·have h2 : id.2 = p.s.length := by rw [HID.out, if_pos (List.length_eq_zero_iff.1 (by omega))]
       go_wp2_with fail
       go_meet
       exact ⟨by rw [h2], rfl⟩
     case rest =>
      obtain ⟨rfl, rfl⟩ := hcut
      clear c6 EK
      have hi1 : (i : Int) + 1 = ((id.1 : Nat) : Int) := by rw [HID.out]; simp
      have g1 : (id.1 : Int) <= (id.2 : Int) := by omega
      have g2 : (id.2 : Int) <= (p.s.length : Int) := by omega
      have c0 := hh.out.acell 0 (.string (B p.s)) rfl
      obtain ⟨o1, ho⟩ : ∃ o : Obj, o = .cells #[.int .i64 id.1, .int .i64 id.2] 80 := ⟨_, rfl⟩
      have hb1 := Lib.hid (Below_alloc w o1)
      have hn := Lib.hid (blk_new w o1)
      go_upto_region 15 with fail
      go_quiet (fail)
      have bw := Below_drewN hb1.out nq
      rw [ho] at bw hn
      have hh1 := Lib.hid (hh.out.below bw)
      have HB1 := Lib.hid (belowThen HB.out bw (Nat.le_refl _))
      have hn1 : Hid (((w.alloc (.cells #[.int .i64 id.1, .int .i64 id.2] 80)).drewN nq).heap[w.heap.size]? = some (.cells #[.int .i64 id.1, .int .i64 id.2] 80 (0, 0))) := hn.out
      have hsz : w.heap.size < ((w.alloc (.cells #[.int .i64 id.1, .int .i64 id.2] 80)).drewN nq).heap.size := by show _ < (w.alloc _).heap.size; simp
      have hsz0 := HB.out.size
      have HGK : Hid (∀ k, vk.ownBlock = some k -> k < w.heap.size) := fun k hk => (ownsRow_blk hh.out.kn hk).choose_spec.2.2
      have HGV : Hid (∀ k, vu.ownBlock = some k -> k < w.heap.size) := fun k hk => (ownsRow_blk hh.out.uk hk).choose_spec.2.2
      clear bw hb1 ho hn c0 hh HB HP
      generalize ((w.alloc (.cells #[.int .i64 id.1, .int .i64 id.2] 80)).drewN nq) = w1 at hh1 HB1 hn1 hsz |-
      generalize w.heap.size = gi at hn1 hsz hsz0 HGV HGK |-
      have hsid : Hid (sub p.s id = (p.s.drop id.1).take (id.2 - id.1)) := rfl
      generalize hsd : (p.s.drop id.1).take (id.2 - id.1) = sid at hsid |-
      have hsl : sid.length <= p.s.length := by rw [<- hsd]; simp; omega
      have HW := Lib.hid (c_isWrap sid w1 (by omega))
      go_wp2_with fail
      refine HW.out.mono ?_; rintro e w' ⟨rfl, rfl⟩
      go_upto_if 108 with fail
      go_cut [20, 24, 25, 26] from 107 to 154 (fun s20 s24 s25 s26 wx => s20 = .bool (wrapStep site comp p id).2 /\ Scan w0 wx b (wrapStep site comp p id).1 un /\ ((wrapStep site comp p id).2 = false -> w1 = wx))
      case first =>
       clear HID hi1 c0 hsd g1 g2 HQ HWE
       cases hw : isWrap sid with
       | false =>
        have hws : wrapStep site comp p id = (p, false) := by unfold wrapStep; rw [if_neg (by rw [hsid.out, hw]; simp)]
        have hws := Lib.hid hws
        go_wp2_with fail
        go_meet
        rw [hws.out]
        exact ⟨rfl, ⟨_, _, _, hh1.out, HB1.out⟩, fun _ => rfl⟩
       | true =>
        exact absurd HWF.out (by rw [wrap_true (by rw [hsid.out]; exact hw)]; simp)
      case rest =>
       obtain ⟨h20, hsc, hsame⟩ := hcut
       have hsc := Lib.hid hsc
       have hsame := Lib.hid hsame
       cases hwf : (wrapStep site comp p id).2 with
       | true =>
        rw [HWF.out] at hwf
        cases hwf
       | false =>
        have hw1 := hsame.out hwf
        subst hw1
        rw [hwf] at h20
        obtain rfl : _ = Value.bool false := h20
        have HF : Hid (fin = finId (restStep site comp p id numDots isLast) i lastDot isLast) := by
         show _ = _
         rw [HQ.out, HWE.out, if_neg (by rw [hwf]; simp)]
        have HR : Hid (restStep site comp p id numDots isLast = if p.known = [] then extStep site (comp == kLayouts) sid id p else unkStep id (layStep mY id (baseStep sid id (kindStep mK sid id (fmtStep site (comp == kLayouts) sid id (langStep site mL sid id p)))))) := by
         show _ = _
         unfold restStep
         rw [hsid.out, HmL.out, HmK.out, HmY.out]
        generalize restStep site comp p id numDots isLast = RS at HF HR
        have HSA : Hid (asciiL sid = true) := by show _ = _; rw [<- hsid.out]; exact asciiL_sub hF.out.asc id
        generalize (comp == kLayouts) = lay at HR |-
        clear hsame HQ HWE hwf HID hi1 c0 hsd g1 g2 hsc
        obtain ⟨ak, capk, ek, hdel⟩ := pairs_read hh1.out.kn
        clear hdel
        have c6 : w1.cell? ⟨b, 6, none⟩ = some (.slice ak p.known.length capk) := by rw [<- ek]; exact hh1.out.cell 6 vk rfl
        clear ek
        go_upto_if 155 with fail
        go_cut [20, 27, 28] from 155 to 387 (fun s20 s27 s28 wx => s20 = .bool RS.2 /\ Scan w0 wx b RS.1 un)
        case first =>
         clear HF
         by_cases hk0 : p.known.length = 0
         ·skip
          have hkb : ((p.known.length : Int) == 0) = true := by rw [hk0]; rfl
          have hnil := Lib.hid (List.length_eq_zero_iff.1 hk0)
          clear hk0 HLY HKW
          go_upto_region 29 with fail
          clear c6 hkb

          obtain ⟨iL, hi0, hz0, hz1, hz2⟩ := info_split Tryz.infoLH
          have hbase : ∀ o, w0.heap.size <= ((w1.alloc o).drew).heap.size := fun o => by have := HB1.out.size; simp; omega
          have k6 : ∀ o, (w1.alloc o).cell? ⟨b, 6, none⟩ = some vk := fun o => hh1.out.acell 6 vk rfl o
          have k6' := hh1.out.cell 6 vk rfl
          obtain ⟨n0, n1⟩ : w1.cell? ⟨gi, 0, none⟩ = some (.int .i64 id.1) /\ w1.cell? ⟨gi, 1, none⟩ = some (.int .i64 id.2) := ⟨cell_blk hn1.out 0, cell_blk hn1.out 1⟩
          have hwa : Hid (∀ o, Below w1.heap.size w1 ((w1.alloc o).drew)) := fun o => Below_drewN (Below_alloc _ o) 1
          have HAN : Hid (∀ o, (w1.alloc o).heap[gi]? = some (.cells #[.int .i64 id.1, .int .i64 id.2] 80 (0, 0))) := fun o => blk_old _ _ hn1.out
          have HWN : Hid (∀ o w3, ((w1.alloc o).drew).grownBy w3 vk.ownBlock -> w3.heap[gi]? = some (.cells #[.int .i64 id.1, .int .i64 id.2] 80 (0, 0))) := fun o w3 hg => (hg.block gi (Nat.lt_of_lt_of_le (lt_of_block hn1.out) (hwa.out o).size) (fun e => Nat.lt_irrefl _ (HGK.out gi e.symm))).trans (((hwa.out o).block gi (lt_of_block hn1.out)).trans hn1.out)
          have hmx : p.known.length + 1 <= maxLen := by have : (2000000 : Nat) <= maxLen := (by decide); omega
          go_cut [] from 162 to 171 (fun wx => ∃ vk', PathAt wx w0.heap.size b (p.addKnown id) vk' vu vl un /\ Below w0.heap.size w0 wx)
          case first =>
           refine wp_region_G (fun w2 => w2.cell? ⟨b, 6, none⟩ = some vk /\ w2.cell? ⟨gi, 0, none⟩ = some (.int .i64 id.1) /\ w2.cell? ⟨gi, 1, none⟩ = some (.int .i64 id.2)) 8 (by kernel_rfl) (fun inv => ?_)
           have hS : w1.drew.cell? ⟨b, 6, none⟩ = some vk /\ w1.drew.cell? ⟨gi, 0, none⟩ = some (.int .i64 id.1) /\ w1.drew.cell? ⟨gi, 1, none⟩ = some (.int .i64 id.2) := ⟨k6', n0, n1⟩
           refine wpAnyG_take (i := 0) (v := ?_) rfl (by kernel_rfl) (by kernel_rfl) (by kernel_rfl) (fun _ _ _ h => h) (Or.inl ⟨by rfl, ?_⟩) hS inv (fun inv => ?_)
           rotate_left 1
           ·(intro w2 hSw; go_simp <;> with_reducible rfl)
           try simp only [Act.put, List.setIfInBounds_toArray, List.set_cons_zero, List.set_cons_succ]
           refine wpAnyG_take (i := 1) (v := ?_) rfl (by kernel_rfl) (by kernel_rfl) (by kernel_rfl) (fun _ _ _ h => h) (Or.inl ⟨by rfl, ?_⟩) hS inv (fun inv => ?_)
           rotate_left 1
           ·(intro w2 hSw; go_simp <;> with_reducible rfl)
           try simp only [Act.put, List.setIfInBounds_toArray, List.set_cons_zero, List.set_cons_succ]
           refine wpAnyG_take (i := 2) (v := ?_) rfl (by kernel_rfl) (by kernel_rfl) (by kernel_rfl) (fun _ _ _ h => h) (Or.inl ⟨by rfl, ?_⟩) hS inv (fun inv => ?_)
           rotate_left 1
           ·(intro w2 hSw; go_simp <;> with_reducible rfl)
           try simp only [Act.put, List.setIfInBounds_toArray, List.set_cons_zero, List.set_cons_succ]
           refine wpAnyG_take (i := 3) (v := ?_) rfl (by kernel_rfl) (by kernel_rfl) (by kernel_rfl) (fun _ _ _ h => h) (Or.inl ⟨by rfl, ?_⟩) hS inv (fun inv => ?_)
           rotate_left 1
           ·(intro w2 hSw; go_simp <;> with_reducible rfl)
           try simp only [Act.put, List.setIfInBounds_toArray, List.set_cons_zero, List.set_cons_succ]
           refine wpAnyG_take (i := 4) (v := ?_) rfl (by kernel_rfl) (by kernel_rfl) (by kernel_rfl) (fun _ _ _ h => h) (Or.inl ⟨by rfl, ?_⟩) hS inv (fun inv => ?_)
           rotate_left 1
           ·(intro w2 hSw; go_simp <;> with_reducible rfl)
           try simp only [Act.put, List.setIfInBounds_toArray, List.set_cons_zero, List.set_cons_succ]
           refine wpAnyG_take (i := 5) (v := ?_) rfl (by kernel_rfl) (by kernel_rfl) (by kernel_rfl) (fun _ _ _ h => h) (Or.inl ⟨by rfl, ?_⟩) hS inv (fun inv => ?_)
           rotate_left 1
           ·(intro w2 hSw; go_simp <;> with_reducible rfl)
           try simp only [Act.put, List.setIfInBounds_toArray, List.set_cons_zero, List.set_cons_succ]
           refine wpAnyG_one (i := 6) rfl (by kernel_rfl) (fun K hK => ?_)
           go_simp
           refine hK _ _ (fun _ => ⟨k6 _, cell_blk (HAN.out _) 0, cell_blk (HAN.out _) 1⟩) ?_
           clear hK K hS
           try simp only [Act.put, List.setIfInBounds_toArray, List.set_cons_zero, List.set_cons_succ]
           refine wpAnyG_one (i := 7) rfl (by kernel_rfl) (fun K hK => ?_)
           refine step_append_lies _ (by rfl) (.tmp 166) (.tmp 168) 77 (by rfl) w0.heap.size 80 iL _ 2 16 Tryz.underlying77 hi0 hz0 hz1 hz2 rfl (by decide) vk p.known.length (pairCells p.known) (by rfl) (hh1.out.kn.alloc _).drew _ 1 1 [.int .i64 id.1, .int .i64 id.2] (by rfl) rfl (World.news_of_block (blk_new _ _)) (by simp [Value.oneCell']) (by decide) hmx (by omega) (hbase _) _ rfl ?_
           intro g cap w3 hown2 hgrow hat hlt
           have q6 : w3.cell? ⟨b, 6, none⟩ = some vk := (hh1.out.behind (hwa.out _) hgrow (.inl rfl)).1 6
           have q6f := (hh1.out.behind (hwa.out _) hgrow (.inl rfl)).2 6
           refine hK _ _ (fun _ => ⟨q6, cell_blk (HWN.out _ _ hgrow) 0, cell_blk (HWN.out _ _ hgrow) 1⟩) ?_
           clear hK K
           try simp only [Act.put, List.setIfInBounds_toArray, List.set_cons_zero, List.set_cons_succ]
           refine wpAnyG_one (i := 8) rfl (by kernel_rfl) (fun K hK => ?_)
           go_simp
           refine hK _ _ (fun h => absurd h (by decide)) ?_
           clear hK K
           try simp only [Act.put, List.setIfInBounds_toArray, List.set_cons_zero, List.set_cons_succ]
           refine wpAnyG_one (i := 9) rfl (by kernel_rfl) (fun K hK => ?_)
           go_simp
           refine hK _ _ (fun h => absurd h (by decide)) ?_
           clear hK K
           try simp only [Act.put, List.setIfInBounds_toArray, List.set_cons_zero, List.set_cons_succ]
           refine wpAnyG_one (i := 10) rfl (by kernel_rfl) (fun K hK => ?_)
           go_simp
           refine hK _ _ (fun h => absurd h (by decide)) ?_
           clear hK K
           try simp only [Act.put, List.setIfInBounds_toArray, List.set_cons_zero, List.set_cons_succ]
           refine wpAnyG_done (by kernel_rfl) ?_ _
           go_wp2_with fail
           go_meet
           obtain ⟨q1, q2⟩ := hh1.out.pushKnown (hwa.out _) id hown2 hgrow hat
           exact ⟨_, q1, HB1.out.trans q2⟩
          case rest =>
           obtain ⟨vk2, h2, hb2⟩ := hcut
           clear n0 n1 k6 k6' hbase hwa hmx hh1 HB1 hn1 HAN HWN
           have hb2 := Lib.hid hb2
           have h2 := Lib.hid h2
           have HFm : Hid (∀ w', Below w0.heap.size w0 w' -> Calls Tryz.prog 95 #[.string (B sid), .string (B []), .pointer (some ⟨sb, 0, none⟩)] w' fun e w'' => e = .returned (.bool (isFormat site sid [])) /\ Below w'.heap.size w' w'') := fun w' hb => let q := HPP.out.below hb; c_isFormat site sid [] vl0 vd vf vc sb w' q.read q.st
           cases lay with
           | false =>
            go_wp2_with fail
            go_meet
            rw [HR.out, if_pos hnil.out]
            exact ⟨rfl, ⟨_, _, _, h2.out, hb2.out⟩⟩
           | true =>
            have m2 : wc.cell? ⟨pb, 2, none⟩ = some (.func (.func 95) #[] #[.pointer (some ⟨sb, 0, none⟩)]) := cell_blk (HPP.out.below hb2.out).pp 2
            go_wp2_with fail
            refine (HFm.out _ hb2.out).mono ?_; rintro e w5 ⟨rfl, b5⟩
            have h3 := Lib.hid (h2.out.below b5)
            have hb3 : Hid (Below w0.heap.size w0 w5) := belowThen hb2.out b5 (Nat.le_refl _)
            clear h2 hb2 b5 m2 HFm
            cases hf : isFormat site sid [] with
            | false =>
             go_wp2_with fail
             go_meet
             rw [HR.out, if_pos hnil.out]
             have hN : extStep site true sid id p = (p.addKnown id, true) := by unfold extStep; rw [hf]; rfl
             rw [hN]
             exact ⟨rfl, ⟨_, _, _, h3.out, hb3.out⟩⟩
            | true =>
             have kf := h3.out.cell 9 (.int .i64 p.fmt) rfl
             have ff := h3.out.free 9
             obtain ⟨h4, hb4⟩ := h3.out.set 9 (i64 0) { p.addKnown id with fmt := 0 } rfl rfl rfl rfl
             have h4 := Lib.hid h4
             have hb4 := Lib.hid (hb3.out.trans hb4)
             clear h3 hb3
             go_wp2_with fail
             go_meet
             rw [HR.out, if_pos hnil.out]
             have hN : extStep site true sid id p = ({ p.addKnown id with fmt := 0 }, true) := by unfold extStep; rw [hf]; rfl
             rw [hN]
             exact ⟨rfl, ⟨_, _, _, h4.out, hb4.out⟩⟩
         ·skip
          have hkb : ((p.known.length : Int) == 0) = false := by rw [beq_eq_false_iff_ne]; omega
          have HG1 : Hid ((langStep site mL sid id p).2 = true) := by
           rcases HGB.out with h | h
           ·exact absurd (by rw [h]; rfl) hk0
           ·show _ = _
            rw [<- hsid.out, <- HmL.out]; exact h
          have HR : Hid (RS = unkStep id (layStep mY id (baseStep sid id (kindStep mK sid id (fmtStep site lay sid id (langStep site mL sid id p)))))) := by
           show _ = _
           rw [HR.out, if_neg (by intro e; rw [e] at hk0; exact hk0 rfl)]
          replace HR : Hid (RS = langStep site mL sid id p) := by
           show _ = _
           rw [HR.out]
           exact chain_true HG1.out
          go_upto_if 184 with fail
          clear c6 hkb
          go_cut [20, 27, 28] from 184 to 233 (fun s20 s27 s28 wx => s20 = .bool true /\ Scan w0 wx b (langStep site mL sid id p).1 un)
          case first =>
           cases mL with
           | false =>
            have hN : Hid (langStep site false sid id p = (p, false)) := by
             show _ = _
             rfl

            exact absurd HG1.out (by rw [hN.out]; simp)
           | true =>
            obtain ⟨nl, hlk⟩ := (HPP.out.below HB1.out).map.lookup sid
            have m0 : w1.cell? ⟨pb, 0, none⟩ = some (.map (some mb)) := cell_blk (HPP.out.below HB1.out).pp 0
            cases ha : amongL site.languages sid with
            | true =>
             rw [ha] at hlk
             have hN : Hid (langStep site true sid id p = ({ p.addKnown id with lang := p.known.length }, true)) := by
              show _ = _
              unfold langStep
              rw [ha]
              simp
              rfl

             clear HR HKW HLY
             go_upto_region 44 with fail
             clear hlk m0

             obtain ⟨iL, hi0, hz0, hz1, hz2⟩ := info_split Tryz.infoLH
             have hbase : ∀ o, w0.heap.size <= ((w1.alloc o).drew).heap.size := fun o => by have := HB1.out.size; simp; omega
             have k6 : ∀ o, (w1.alloc o).cell? ⟨b, 6, none⟩ = some vk := fun o => hh1.out.acell 6 vk rfl o
             have k6' := hh1.out.cell 6 vk rfl
             obtain ⟨n0, n1⟩ : w1.cell? ⟨gi, 0, none⟩ = some (.int .i64 id.1) /\ w1.cell? ⟨gi, 1, none⟩ = some (.int .i64 id.2) := ⟨cell_blk hn1.out 0, cell_blk hn1.out 1⟩
             have hwa : Hid (∀ o, Below w1.heap.size w1 ((w1.alloc o).drew)) := fun o => Below_drewN (Below_alloc _ o) 1
             have HAN : Hid (∀ o, (w1.alloc o).heap[gi]? = some (.cells #[.int .i64 id.1, .int .i64 id.2] 80 (0, 0))) := fun o => blk_old _ _ hn1.out
             have HWN : Hid (∀ o w3, ((w1.alloc o).drew).grownBy w3 vk.ownBlock -> w3.heap[gi]? = some (.cells #[.int .i64 id.1, .int .i64 id.2] 80 (0, 0))) := fun o w3 hg => (hg.block gi (Nat.lt_of_lt_of_le (lt_of_block hn1.out) (hwa.out o).size) (fun e => Nat.lt_irrefl _ (HGK.out gi e.symm))).trans (((hwa.out o).block gi (lt_of_block hn1.out)).trans hn1.out)
             have hmx : p.known.length + 1 <= maxLen := by have : (2000000 : Nat) <= maxLen := (by decide); omega
             go_cut [] from 215 to 224 (fun wx => ∃ vk', PathAt wx w0.heap.size b (p.addKnown id) vk' vu vl un /\ Below w0.heap.size w0 wx)
             case first =>
              refine wp_region_G (fun w2 => w2.cell? ⟨b, 6, none⟩ = some vk /\ w2.cell? ⟨gi, 0, none⟩ = some (.int .i64 id.1) /\ w2.cell? ⟨gi, 1, none⟩ = some (.int .i64 id.2)) 8 (by kernel_rfl) (fun inv => ?_)
              have hS : w1.drew.cell? ⟨b, 6, none⟩ = some vk /\ w1.drew.cell? ⟨gi, 0, none⟩ = some (.int .i64 id.1) /\ w1.drew.cell? ⟨gi, 1, none⟩ = some (.int .i64 id.2) := ⟨k6', n0, n1⟩
              refine wpAnyG_take (i := 0) (v := ?_) rfl (by kernel_rfl) (by kernel_rfl) (by kernel_rfl) (fun _ _ _ h => h) (Or.inl ⟨by rfl, ?_⟩) hS inv (fun inv => ?_)
              rotate_left 1
              ·(intro w2 hSw; go_simp <;> with_reducible rfl)
              try simp only [Act.put, List.setIfInBounds_toArray, List.set_cons_zero, List.set_cons_succ]
              refine wpAnyG_take (i := 1) (v := ?_) rfl (by kernel_rfl) (by kernel_rfl) (by kernel_rfl) (fun _ _ _ h => h) (Or.inl ⟨by rfl, ?_⟩) hS inv (fun inv => ?_)
              rotate_left 1
              ·(intro w2 hSw; go_simp <;> with_reducible rfl)
              try simp only [Act.put, List.setIfInBounds_toArray, List.set_cons_zero, List.set_cons_succ]
              refine wpAnyG_take (i := 2) (v := ?_) rfl (by kernel_rfl) (by kernel_rfl) (by kernel_rfl) (fun _ _ _ h => h) (Or.inl ⟨by rfl, ?_⟩) hS inv (fun inv => ?_)
              rotate_left 1
              ·(intro w2 hSw; go_simp <;> with_reducible rfl)
              try simp only [Act.put, List.setIfInBounds_toArray, List.set_cons_zero, List.set_cons_succ]
              refine wpAnyG_take (i := 3) (v := ?_) rfl (by kernel_rfl) (by kernel_rfl) (by kernel_rfl) (fun _ _ _ h => h) (Or.inl ⟨by rfl, ?_⟩) hS inv (fun inv => ?_)
              rotate_left 1
              ·(intro w2 hSw; go_simp <;> with_reducible rfl)
              try simp only [Act.put, List.setIfInBounds_toArray, List.set_cons_zero, List.set_cons_succ]
              refine wpAnyG_take (i := 4) (v := ?_) rfl (by kernel_rfl) (by kernel_rfl) (by kernel_rfl) (fun _ _ _ h => h) (Or.inl ⟨by rfl, ?_⟩) hS inv (fun inv => ?_)
              rotate_left 1
              ·(intro w2 hSw; go_simp <;> with_reducible rfl)
              try simp only [Act.put, List.setIfInBounds_toArray, List.set_cons_zero, List.set_cons_succ]
              refine wpAnyG_take (i := 5) (v := ?_) rfl (by kernel_rfl) (by kernel_rfl) (by kernel_rfl) (fun _ _ _ h => h) (Or.inl ⟨by rfl, ?_⟩) hS inv (fun inv => ?_)
              rotate_left 1
              ·(intro w2 hSw; go_simp <;> with_reducible rfl)
              try simp only [Act.put, List.setIfInBounds_toArray, List.set_cons_zero, List.set_cons_succ]
              refine wpAnyG_one (i := 6) rfl (by kernel_rfl) (fun K hK => ?_)
              go_simp
              refine hK _ _ (fun _ => ⟨k6 _, cell_blk (HAN.out _) 0, cell_blk (HAN.out _) 1⟩) ?_
              clear hK K hS
              try simp only [Act.put, List.setIfInBounds_toArray, List.set_cons_zero, List.set_cons_succ]
              refine wpAnyG_one (i := 7) rfl (by kernel_rfl) (fun K hK => ?_)
              refine step_append_lies _ (by rfl) (.tmp 219) (.tmp 221) 77 (by rfl) w0.heap.size 80 iL _ 2 16 Tryz.underlying77 hi0 hz0 hz1 hz2 rfl (by decide) vk p.known.length (pairCells p.known) (by rfl) (hh1.out.kn.alloc _).drew _ 1 1 [.int .i64 id.1, .int .i64 id.2] (by rfl) rfl (World.news_of_block (blk_new _ _)) (by simp [Value.oneCell']) (by decide) hmx (by omega) (hbase _) _ rfl ?_
              intro g cap w3 hown2 hgrow hat hlt
              have q6 : w3.cell? ⟨b, 6, none⟩ = some vk := (hh1.out.behind (hwa.out _) hgrow (.inl rfl)).1 6
              have q6f := (hh1.out.behind (hwa.out _) hgrow (.inl rfl)).2 6
              refine hK _ _ (fun _ => ⟨q6, cell_blk (HWN.out _ _ hgrow) 0, cell_blk (HWN.out _ _ hgrow) 1⟩) ?_
              clear hK K
              try simp only [Act.put, List.setIfInBounds_toArray, List.set_cons_zero, List.set_cons_succ]
              refine wpAnyG_one (i := 8) rfl (by kernel_rfl) (fun K hK => ?_)
              go_simp
              refine hK _ _ (fun h => absurd h (by decide)) ?_
              clear hK K
              try simp only [Act.put, List.setIfInBounds_toArray, List.set_cons_zero, List.set_cons_succ]
              refine wpAnyG_one (i := 9) rfl (by kernel_rfl) (fun K hK => ?_)
              go_simp
              refine hK _ _ (fun h => absurd h (by decide)) ?_
              clear hK K
              try simp only [Act.put, List.setIfInBounds_toArray, List.set_cons_zero, List.set_cons_succ]
              refine wpAnyG_one (i := 10) rfl (by kernel_rfl) (fun K hK => ?_)
              go_simp
              refine hK _ _ (fun h => absurd h (by decide)) ?_
              clear hK K
              try simp only [Act.put, List.setIfInBounds_toArray, List.set_cons_zero, List.set_cons_succ]
              refine wpAnyG_done (by kernel_rfl) ?_ _
              go_wp2_with fail
              go_meet
              obtain ⟨q1, q2⟩ := hh1.out.pushKnown (hwa.out _) id hown2 hgrow hat
              exact ⟨_, q1, HB1.out.trans q2⟩
             case rest =>
              obtain ⟨vk2, h2, hb2⟩ := hcut
              clear n0 n1 k6 k6' hbase hwa hmx hh1 HB1 hn1 HAN HWN
              obtain ⟨a2, cap2, e2, hdel⟩ := pairs_read h2.kn
              clear hdel
              have hl2 : (p.addKnown id).known.length = p.known.length + 1 := by simp [PathS.addKnown]
              rw [hl2] at e2
              have k6' : wc.cell? ⟨b, 6, none⟩ = some (.slice a2 (p.known.length + 1) cap2) := by rw [<- e2]; exact h2.cell 6 vk2 rfl
              have hwr : IntKind.i64.wrap (p.known.length : Int) = (p.known.length : Int) := by rw [IntKind.wrap_i64]; omega
              have kf := h2.cell 8 (.int .i64 (p).lang) rfl
              have ff := h2.free 8
              obtain ⟨h4, hb4⟩ := h2.set 8 (i64 p.known.length) { (p).addKnown id with lang := p.known.length } rfl rfl rfl rfl
              have h4 := Lib.hid h4
              have hb4 := Lib.hid (hb2.trans hb4)
              clear h2 hb2 e2 hl2
              go_wp2_with fail
              go_meet

              rw [show langStep site true sid id p = ({ p.addKnown id with lang := p.known.length }, true) from hN.out]
              exact ⟨rfl, ⟨_, _, _, h4.out, hb4.out⟩⟩
            | false =>
             rw [ha] at hlk
             have m1 : w1.cell? ⟨pb, 1, none⟩ = some (.func (.func 94) #[] #[.pointer (some ⟨fb, 0, none⟩), .pointer (some ⟨sb, 0, none⟩)]) := cell_blk (HPP.out.below HB1.out).pp 1
             have hnf := run_fnNe
             have HD : Hid (Calls Tryz.prog 94 #[.string (B sid), .pointer (some ⟨fb, 0, none⟩), .pointer (some ⟨sb, 0, none⟩)] w1 fun e w' => e = .returned (.bool (amongL site.disabled sid)) /\ w1 = w') := let q := HPP.out.below HB1.out; c_isDisabled site sid vl0 vd vf vc fb sb w1 q.read q.fn q.st
             cases hd : amongL site.disabled sid with
             | false =>
              rw [hd] at HD
              have hN : Hid (langStep site true sid id p = (p, false)) := by
               show _ = _
               unfold langStep
               rw [ha, hd]
               rfl

              exact absurd HG1.out (by rw [hN.out]; simp)
             | true =>
              rw [hd] at HD
              have hN : Hid (langStep site true sid id p = ({ ({ p with disabled := true } : PathS).addKnown id with lang := p.known.length }, true)) := by
               show _ = _
               unfold langStep
               rw [ha, hd]
               simp [PathS.addKnown]

              have k23 := hh1.out.cell 23 (.bool p.disabled) rfl
              have f23 := hh1.out.free 23
              have hgb : gi ≠ b := blk_ne hn1.out hh1.out.blk lh_path
              obtain ⟨hs1, hs2⟩ := hh1.out.set 23 (.bool true) { p with disabled := true } rfl rfl rfl rfl
              have hh2 := Lib.hid hs1
              have HB2 := Lib.hid (HB1.out.trans hs2)
              have hn2 : Hid ((w1.setCell ⟨b, 23, none⟩ (.bool true)).heap[gi]? = some (.cells #[.int .i64 id.1, .int .i64 id.2] 80 (0, 0))) := (heap_set_far _ hgb).trans hn1.out
              clear hs1 hs2 hgb HR HKW HLY
              go_upto_region 44 with (refine HD.out.mono ?_; rintro e w' ⟨rfl, rfl⟩)
              clear hlk m0 m1 hnf HD k23 f23 hh1 HB1 hn1
              generalize w1.setCell ⟨b, 23, none⟩ (.bool true) = w2 at hh2 HB2 hn2 |-
              go_upto_region 44 with fail

              obtain ⟨iL, hi0, hz0, hz1, hz2⟩ := info_split Tryz.infoLH
              have hbase : ∀ o, w0.heap.size <= ((w2.alloc o).drew).heap.size := fun o => by have := HB2.out.size; simp; omega
              have k6 : ∀ o, (w2.alloc o).cell? ⟨b, 6, none⟩ = some vk := fun o => hh2.out.acell 6 vk rfl o
              have k6' := hh2.out.cell 6 vk rfl
              obtain ⟨n0, n1⟩ : w2.cell? ⟨gi, 0, none⟩ = some (.int .i64 id.1) /\ w2.cell? ⟨gi, 1, none⟩ = some (.int .i64 id.2) := ⟨cell_blk hn2.out 0, cell_blk hn2.out 1⟩
              have hwa : Hid (∀ o, Below w2.heap.size w2 ((w2.alloc o).drew)) := fun o => Below_drewN (Below_alloc _ o) 1
              have HAN : Hid (∀ o, (w2.alloc o).heap[gi]? = some (.cells #[.int .i64 id.1, .int .i64 id.2] 80 (0, 0))) := fun o => blk_old _ _ hn2.out
              have HWN : Hid (∀ o w3, ((w2.alloc o).drew).grownBy w3 vk.ownBlock -> w3.heap[gi]? = some (.cells #[.int .i64 id.1, .int .i64 id.2] 80 (0, 0))) := fun o w3 hg => (hg.block gi (Nat.lt_of_lt_of_le (lt_of_block hn2.out) (hwa.out o).size) (fun e => Nat.lt_irrefl _ (HGK.out gi e.symm))).trans (((hwa.out o).block gi (lt_of_block hn2.out)).trans hn2.out)
              have hmx : p.known.length + 1 <= maxLen := by have : (2000000 : Nat) <= maxLen := (by decide); omega
              go_cut [] from 215 to 224 (fun wx => ∃ vk', PathAt wx w0.heap.size b (({ p with disabled := true } : PathS).addKnown id) vk' vu vl un /\ Below w0.heap.size w0 wx)
              case first =>
               refine wp_region_G (fun w2 => w2.cell? ⟨b, 6, none⟩ = some vk /\ w2.cell? ⟨gi, 0, none⟩ = some (.int .i64 id.1) /\ w2.cell? ⟨gi, 1, none⟩ = some (.int .i64 id.2)) 8 (by kernel_rfl) (fun inv => ?_)
               have hS : w2.drew.cell? ⟨b, 6, none⟩ = some vk /\ w2.drew.cell? ⟨gi, 0, none⟩ = some (.int .i64 id.1) /\ w2.drew.cell? ⟨gi, 1, none⟩ = some (.int .i64 id.2) := ⟨k6', n0, n1⟩
               refine wpAnyG_take (i := 0) (v := ?_) rfl (by kernel_rfl) (by kernel_rfl) (by kernel_rfl) (fun _ _ _ h => h) (Or.inl ⟨by rfl, ?_⟩) hS inv (fun inv => ?_)
               rotate_left 1
               ·(intro w2 hSw; go_simp <;> with_reducible rfl)
               try simp only [Act.put, List.setIfInBounds_toArray, List.set_cons_zero, List.set_cons_succ]
               refine wpAnyG_take (i := 1) (v := ?_) rfl (by kernel_rfl) (by kernel_rfl) (by kernel_rfl) (fun _ _ _ h => h) (Or.inl ⟨by rfl, ?_⟩) hS inv (fun inv => ?_)
               rotate_left 1
               ·(intro w2 hSw; go_simp <;> with_reducible rfl)
               try simp only [Act.put, List.setIfInBounds_toArray, List.set_cons_zero, List.set_cons_succ]
               refine wpAnyG_take (i := 2) (v := ?_) rfl (by kernel_rfl) (by kernel_rfl) (by kernel_rfl) (fun _ _ _ h => h) (Or.inl ⟨by rfl, ?_⟩) hS inv (fun inv => ?_)
               rotate_left 1
               ·(intro w2 hSw; go_simp <;> with_reducible rfl)
               try simp only [Act.put, List.setIfInBounds_toArray, List.set_cons_zero, List.set_cons_succ]
               refine wpAnyG_take (i := 3) (v := ?_) rfl (by kernel_rfl) (by kernel_rfl) (by kernel_rfl) (fun _ _ _ h => h) (Or.inl ⟨by rfl, ?_⟩) hS inv (fun inv => ?_)
               rotate_left 1
               ·(intro w2 hSw; go_simp <;> with_reducible rfl)
               try simp only [Act.put, List.setIfInBounds_toArray, List.set_cons_zero, List.set_cons_succ]
               refine wpAnyG_take (i := 4) (v := ?_) rfl (by kernel_rfl) (by kernel_rfl) (by kernel_rfl) (fun _ _ _ h => h) (Or.inl ⟨by rfl, ?_⟩) hS inv (fun inv => ?_)
               rotate_left 1
               ·(intro w2 hSw; go_simp <;> with_reducible rfl)
               try simp only [Act.put, List.setIfInBounds_toArray, List.set_cons_zero, List.set_cons_succ]
               refine wpAnyG_take (i := 5) (v := ?_) rfl (by kernel_rfl) (by kernel_rfl) (by kernel_rfl) (fun _ _ _ h => h) (Or.inl ⟨by rfl, ?_⟩) hS inv (fun inv => ?_)
               rotate_left 1
               ·(intro w2 hSw; go_simp <;> with_reducible rfl)
               try simp only [Act.put, List.setIfInBounds_toArray, List.set_cons_zero, List.set_cons_succ]
               refine wpAnyG_one (i := 6) rfl (by kernel_rfl) (fun K hK => ?_)
               go_simp
               refine hK _ _ (fun _ => ⟨k6 _, cell_blk (HAN.out _) 0, cell_blk (HAN.out _) 1⟩) ?_
               clear hK K hS
               try simp only [Act.put, List.setIfInBounds_toArray, List.set_cons_zero, List.set_cons_succ]
               refine wpAnyG_one (i := 7) rfl (by kernel_rfl) (fun K hK => ?_)
               refine step_append_lies _ (by rfl) (.tmp 219) (.tmp 221) 77 (by rfl) w0.heap.size 80 iL _ 2 16 Tryz.underlying77 hi0 hz0 hz1 hz2 rfl (by decide) vk p.known.length (pairCells p.known) (by rfl) (hh2.out.kn.alloc _).drew _ 1 1 [.int .i64 id.1, .int .i64 id.2] (by rfl) rfl (World.news_of_block (blk_new _ _)) (by simp [Value.oneCell']) (by decide) hmx (by omega) (hbase _) _ rfl ?_
               intro g cap w3 hown2 hgrow hat hlt
               have q6 : w3.cell? ⟨b, 6, none⟩ = some vk := (hh2.out.behind (hwa.out _) hgrow (.inl rfl)).1 6
               have q6f := (hh2.out.behind (hwa.out _) hgrow (.inl rfl)).2 6
               refine hK _ _ (fun _ => ⟨q6, cell_blk (HWN.out _ _ hgrow) 0, cell_blk (HWN.out _ _ hgrow) 1⟩) ?_
               clear hK K
               try simp only [Act.put, List.setIfInBounds_toArray, List.set_cons_zero, List.set_cons_succ]
               refine wpAnyG_one (i := 8) rfl (by kernel_rfl) (fun K hK => ?_)
               go_simp
               refine hK _ _ (fun h => absurd h (by decide)) ?_
               clear hK K
               try simp only [Act.put, List.setIfInBounds_toArray, List.set_cons_zero, List.set_cons_succ]
               refine wpAnyG_one (i := 9) rfl (by kernel_rfl) (fun K hK => ?_)
               go_simp
               refine hK _ _ (fun h => absurd h (by decide)) ?_
               clear hK K
               try simp only [Act.put, List.setIfInBounds_toArray, List.set_cons_zero, List.set_cons_succ]
               refine wpAnyG_one (i := 10) rfl (by kernel_rfl) (fun K hK => ?_)
               go_simp
               refine hK _ _ (fun h => absurd h (by decide)) ?_
               clear hK K
               try simp only [Act.put, List.setIfInBounds_toArray, List.set_cons_zero, List.set_cons_succ]
               refine wpAnyG_done (by kernel_rfl) ?_ _
               go_wp2_with fail
               go_meet
               obtain ⟨q1, q2⟩ := hh2.out.pushKnown (hwa.out _) id hown2 hgrow hat
               exact ⟨_, q1, HB2.out.trans q2⟩
              case rest =>
               obtain ⟨vk2, h2, hb2⟩ := hcut
               clear n0 n1 k6 k6' hbase hwa hmx hh2 HB2 hn2 HAN HWN
               obtain ⟨a2, cap2, e2, hdel⟩ := pairs_read h2.kn
               clear hdel
               have hl2 : (({ p with disabled := true } : PathS).addKnown id).known.length = p.known.length + 1 := by simp [PathS.addKnown]
               rw [hl2] at e2
               have k6' : wc.cell? ⟨b, 6, none⟩ = some (.slice a2 (p.known.length + 1) cap2) := by rw [<- e2]; exact h2.cell 6 vk2 rfl
               have hwr : IntKind.i64.wrap (p.known.length : Int) = (p.known.length : Int) := by rw [IntKind.wrap_i64]; omega
               have kf := h2.cell 8 (.int .i64 (({ p with disabled := true } : PathS)).lang) rfl
               have ff := h2.free 8
               obtain ⟨h4, hb4⟩ := h2.set 8 (i64 p.known.length) { (({ p with disabled := true } : PathS)).addKnown id with lang := p.known.length } rfl rfl rfl rfl
               have h4 := Lib.hid h4
               have hb4 := Lib.hid (hb2.trans hb4)
               clear h2 hb2 e2 hl2
               go_wp2_with fail
               go_meet

               rw [show langStep site true sid id p = ({ ({ p with disabled := true } : PathS).addKnown id with lang := p.known.length }, true) from hN.out]
               exact ⟨rfl, ⟨_, _, _, h4.out, hb4.out⟩⟩
          case rest =>
           obtain ⟨rfl, hsc⟩ := hcut
           replace hsc := Lib.hid hsc
           go_wp2_with fail
           go_meet
           rw [HR.out]
           exact ⟨by rw [HG1.out], hsc.out⟩
        case rest =>
         obtain ⟨h20, hsc⟩ := hcut
         replace hsc := Lib.hid hsc
         clear HR HLY HKW
         cases hqf : RS.2 with
         | true =>
          rw [hqf] at h20
          obtain rfl : _ = Value.bool true := h20
          have HF : Hid (fin = finId (RS.1, true) i lastDot isLast) := by
           show _ = _
           rw [HF.out, <- hqf]
          clear hqf
          generalize RS.1 = q at HF hsc
          obtain ⟨vkE, vuE, vlE, hE, hbE⟩ := hsc.out
          have kE := hE.cell 22 (.int .i64 (q).nameHigh) rfl
          have fE := hE.free 22
          cases isLast with
          | false =>
           obtain ⟨h5, hb5⟩ := hE.set 22 (i64 i) { (q) with nameHigh := (i : Int) } rfl rfl rfl rfl
           have h5 := Lib.hid h5
           have hb5 := Lib.hid (hbE.trans hb5)
           clear hE hbE
           go_wp2_with fail
           go_end0
           exact ⟨rfl, by rw [HF.out, finId_mid]; exact ⟨_, _, _, h5.out, hb5.out⟩⟩
          | true =>
           by_cases hnh : (q).nameHigh <= 0
           ·obtain ⟨h5, hb5⟩ := hE.set 22 (i64 lastDot) { (q) with nameHigh := (lastDot : Int) } rfl rfl rfl rfl
            have h5 := Lib.hid h5
            have hb5 := Lib.hid (hbE.trans hb5)
            clear hE hbE
            go_wp2_with fail
            go_end0
            exact ⟨rfl, by rw [HF.out, finId_last _ _ _ hnh]; exact ⟨_, _, _, h5.out, hb5.out⟩⟩
           ·have h5 := Lib.hid hE
            have hb5 := Lib.hid hbE
            clear hE hbE
            go_wp2_with fail
            go_end0
            exact ⟨rfl, by rw [HF.out, finId_old _ _ _ (by omega)]; exact ⟨_, _, _, h5.out, hb5.out⟩⟩
         | false =>
          rw [hqf] at h20
          obtain rfl : _ = Value.bool false := h20
          have HF : Hid (fin = RS.1) := by
           show _ = _
           rw [HF.out]
           unfold finId
           rw [hqf]
           rfl
          clear hqf
          go_wp2_with fail
          go_end0
          exact ⟨rfl, by rw [HF.out]; exact hsc.out⟩

end Go.Proofs.YtjkecadfakjanaaGreatDoor
