/- A path without its leading slash: impl.Trimmed, spec.TrimmedKnown, spec.Trimmed, words walked. Conditions: a site in memory that names each language once; a path of ASCII of at most 100000 bytes. Printed by gen_trim.py. -/
import Derived.Test.YtjkecadfakjanaaGreatDoorAnsD
import Derived.Test.YtjkecadfakjanaaGreatDoorParse
import Derived.Test.YtjkecadfakjanaaGreatDoorKnowA
import Derived.Test.YtjkecadfakjanaaGreatDoorRep
import Derived.Test.YtjkecadfakjanaaGreatDoorGet
import Derived.Deep.DeepCutAuto
import Derived.Deep.MidRow
import Derived.BigFrame
import Derived.Test.YtjkecadfakjanaaGreatDoorTwice
import Derived.Test.YtjkecadfakjanaaGreatDoorTwoT
import Derived.Test.YtjkecadfakjanaaGreatDoorEqM
import Derived.Test.YtjkecadfakjanaaGreatDoorOpen
import Derived.Test.YtjkecadfakjanaaGreatDoorRows
import Derived.Test.YtjkecadfakjanaaGreatDoorCards
import Derived.Test.YtjkecadfakjanaaGreatDoorTie
import Derived.ProofKit
import Derived.OpenShut
import Derived.ShutString
import Derived.ChangeOld
import Derived.SizedLaws
import Derived.LaidMore
import Derived.Lay
import Derived.SevenTiedAt
import Derived.Stop.Joined
import Derived.Carry
set_option maxRecDepth 100000
set_option linter.unusedVariables false
set_option linter.unusedSimpArgs false
namespace Go.Proofs.YtjkecadfakjanaaGreatDoor
open Go.RowKit
attribute [local go_sem] B_extract B_toList B_append

theorem wpList_load_g {P : Program} {ops : Array Oper} {rest : List Oper} {op : Oper} {a : Act} {w : World} {Q : Exit -> Act -> World -> Prop} (hw : Region.wanted op (yielded ops a.tmps) = true) (ty : TypeId) (x : Operand) (ho : op.op = .load ty x)
  (b o : Nat) (hx : a.eval x = .pointer (some ⟨b, o, none⟩)) (cs : List Value) (d : TypeDesc) (hc : w.rangeAt b o cs) (hu : P.underlying ty = some d) (hd : d.isRow = true) (hi : (P.info? ty).map (·.size) = some cs.length)
  (h : wpList P ops Q rest (a.put op.dst (.agg cs.toArray)) w) : wpList P ops Q (op :: rest) a w :=
 BigFrame.wpList_want hw fun _ hK => wp_load_mid ty x ho b o hx cs d hc hu hd hi (hK _ _ h)
theorem range_blk {w : World} {g : Nat} {cs : Array Value} {t : TypeId} (h : w.heap[g]? = some (.cells cs t (0, 0))) : w.rangeAt g 0 cs.toList := by
 intro j v hj
 rw [Nat.zero_add, cell_blk h, <- hj, Array.getElem?_toList]
theorem blk_snd (w : World) (a b : Obj) : ((w.alloc a).alloc b).heap[w.heap.size + 1]? = some b := by
 have := blk_new (w.alloc a) b
 rw [show (w.alloc a).heap.size = w.heap.size + 1 by simp] at this
 exact this

/-- Two lists that read alike are equal. -/
theorem c_texts (l : List Str) (v v' : Value) (w : World) (hv : StrsAt w v l) (hv' : StrsAt w v' l) :
  Calls Tryz.prog 18 #[v, v'] w fun e w' => e = .returned (.bool true) /\ ∃ n, w' = w.drewN n := by
 obtain ⟨h0, a, cap, rfl, hc⟩ := hv
 obtain ⟨_, a', cap', rfl, hc'⟩ := hv'
 have HC := Lib.hid hc
 have HC' := Lib.hid hc'
 clear hc hc'
 go_enter Tryz.func18, Tryz.ntmps18
 go_wp2
 go_loopw [13] (fun i wr => ∃ k n : Nat, k <= l.length /\ i = .int .i64 k /\ w.drewN n = wr) (fun i _ => l.length - (intOf i).toNat)
 case atStart => exact ⟨0, 0, Nat.zero_le _, rfl, rfl⟩
 case round =>
  obtain ⟨k, n, hk, rfl, rfl⟩ := hrel
  by_cases hlt : k < l.length
  ·obtain ⟨b, off, rfl, hcell⟩ := HC.out k hlt
   obtain ⟨b', off', rfl, hcell'⟩ := HC'.out k hlt
   have he : (l[k] != l[k]) = false := by simp
   have h1 : (0 : Int) <= (k : Int) := by omega
   have h2 : (k : Int) < (l.length : Int) := by omega
   go_upto_region 6 with fail
   go_quiet (fail)
   go_wp2_with fail
   go_roundw
   case rel => exact ⟨k + 1, _, by omega, by go_num, rfl⟩
   case measure => simp [intOf]; omega
  ·go_wp2
   go_ret
   exact ⟨rfl, n, rfl⟩

theorem PathOK.trimmed {p : PathS} (h : PathOK p) : PathOK { p with trim := true } := ⟨h.len, h.pos, h.hc, h.lc, h.sc, h.nm, h.kw, h.uw, h.kl, h.ul, h.ll, h.fm, h.la, h.k0⟩
/-- A path is copied: its lists are the same, its own cells are new. -/
theorem PathAt.copied {w w' : World} {base b b' : Nat} {p q : PathS} {vk vu vl : Value} {un : Un} (h : PathAt w base b p vk vu vl un) (hb : Below w.heap.size w w') (hblk : w'.heap[b']? = some (.cells (pcells q vk vu vl un) 82 (0, 0))) (hk : q.known = p.known) (hu : q.unknown = p.unknown) (hl : q.langs = p.langs) (hbb : w.heap.size <= b') : PathAt w' base b' q vk vu vl un := by
 have h' := h.below hb
 refine ⟨hblk, by rw [hk]; exact h'.kn, by rw [hu]; exact h'.uk, by rw [hl]; exact h'.lg, h'.ne, h'.kp, ?_⟩
 have := lt_of_block h.blk
 have := h.lb
 omega
theorem c_trimLead (p : PathS) (vk vu vl : Value) (b2 : Nat) (w : World) (base b : Nat) (h : PathAt w base b p vk vu vl ⟨.pointer (some ⟨b2, 0, none⟩), none⟩) :
  Calls Tryz.prog 44 #[.agg (pcells p vk vu vl ⟨.pointer (some ⟨b2, 0, none⟩), none⟩)] w fun e w' => ∃ b', e = .returned (.pointer (some ⟨b', 0, none⟩)) /\ PathAt w' base b' { p with trim := true } vk vu vl ⟨.pointer (some ⟨b2, 0, none⟩), none⟩ /\ Below w.heap.size w w' := by
 have hh := Lib.hid h
 obtain ⟨a1, c1, rfl, _⟩ := pairs_read h.kn
 obtain ⟨a2, c2, rfl, _⟩ := pairs_read h.uk
 obtain ⟨a3, c3, rfl, _⟩ := nats_read h.lg
 clear h
 unfold pcells
 go_enter Tryz.func44, Tryz.ntmps44
 go_wp2_with fail
 go_ret
 exact ⟨w.heap.size, rfl, hh.out.copied (Below_alloc w _) (blk_new w _) rfl rfl rfl (Nat.le_refl _), Below_alloc w _⟩

set_option maxHeartbeats 4000000 in
theorem c_implTrimmed (w : World) (site : SiteM) (comp s : Str) (vl vd vf vc : Value) (hs : SiteAt w vl vd vf vc site) (hn : Once site.languages) (hl : s.length <= 900000) (ha : asciiL s = true) :
  Calls Tryz.prog 15 #[.agg #[vl, vd, vf, vc], .string (B comp), .string (B s)] w
   fun e w' => ∃ v, e = .returned v /\ ToldAtN w.heap.size w' v (toldM { (doParseM site comp (normL s)) with trim := true }) /\ Below w.heap.size w w' := by
 have HS := Lib.hid hs
 have HPR : Hid (∀ wx, SiteAt wx vl vd vf vc site -> Calls Tryz.prog 42 #[.agg #[vl, vd, vf, vc]] wx fun e w' => ∃ pb mb fb sb, e = .returned (.pointer (some ⟨pb, 0, none⟩)) /\ PPAt w' pb mb fb sb vl vd vf vc site /\ wx.heap.size <= pb /\ Below wx.heap.size wx w') := fun wx h => c_parser site vl vd vf vc wx h hn
 have HPA : Hid (∀ wx pb mb fb sb, PPAt wx pb mb fb sb vl vd vf vc site -> Calls Tryz.prog 43 #[.pointer (some ⟨pb, 0, none⟩), .string (B comp), .string (B s)] wx
   fun e w' => ∃ b b2, e = .returned (.pointer (some ⟨b, 0, none⟩)) /\ PathHere w' wx.heap.size b b2 (doParseM site comp (normL s)) /\ SomePath w' b2 (doParseM site comp s) /\ Below wx.heap.size wx w') := fun wx pb mb fb sb h => c_Parse wx comp s pb mb fb sb vl vd vf vc site h hl ha
 have ok : PathOK (doParseM site comp (normL s)) := doParse_ok site comp (normL s) (by rw [normL_len]; omega)
 have HTD : Hid (∀ wx base b vk vu vl1 un, PathAt wx base b { (doParseM site comp (normL s)) with trim := true } vk vu vl1 un -> Calls Tryz.prog 41 #[.pointer (some ⟨b, 0, none⟩)] wx fun e w' => ∃ v, e = .returned v /\ ToldAtN wx.heap.size w' v (toldM { (doParseM site comp (normL s)) with trim := true }) /\ Below wx.heap.size wx w') := fun wx base b vk vu vl1 un h => c_told _ wx base b vk vu vl1 un h ok.trimmed
 have HFT : Hid (∀ wx base b vk vu vl1 b2, PathAt wx base b (doParseM site comp (normL s)) vk vu vl1 ⟨.pointer (some ⟨b2, 0, none⟩), none⟩ -> Calls Tryz.prog 44 #[.agg (pcells (doParseM site comp (normL s)) vk vu vl1 ⟨.pointer (some ⟨b2, 0, none⟩), none⟩)] wx fun e w' => ∃ b', e = .returned (.pointer (some ⟨b', 0, none⟩)) /\ PathAt w' base b' { (doParseM site comp (normL s)) with trim := true } vk vu vl1 ⟨.pointer (some ⟨b2, 0, none⟩), none⟩ /\ Below wx.heap.size wx w') := fun wx base b vk vu vl1 b2 h => c_trimLead _ vk vu vl1 b2 wx base b h
 generalize doParseM site comp (normL s) = P1 at HPA HTD HFT |-
 generalize doParseM site comp s = P2 at HPA
 obtain ⟨obj, ho⟩ : ∃ o : Obj, o = .cells #[.string (B []), .string (B []), .string (B []), .string (B []), .string (B []), .string (B []), .string (B []), .string (B []), .string (B []), .string (B []), .string (B []), .string (B []), .string (B []), .string (B []), .string (B []), .string (B []), .string (B []), .string (B []), .string (B []), .string (B []), .string (B []), .slice none 0 0, .slice none 0 0, .slice none 0 0, .bool false, .bool false, .bool false, .bool false, .bool false, .bool false, .int .i64 0] 29 := ⟨_, rfl⟩
 obtain ⟨obs, hobs⟩ : ∃ o : Obj, o = .cells #[vl, vd, vf, vc] 25 := ⟨_, rfl⟩
 have hb1 := Lib.hid (Below_alloc w obs)
 have hb2 := Lib.hid (Below_alloc (w.alloc obs) obj)
 have hz1 : (w.alloc obs).heap.size = w.heap.size + 1 := by simp
 have hz2 : ((w.alloc obs).alloc obj).heap.size = w.heap.size + 2 := by simp
 have hblk : Hid (((w.alloc obs).alloc obj).heap[w.heap.size + 1]? = some (.cells #[.string (B []), .string (B []), .string (B []), .string (B []), .string (B []), .string (B []), .string (B []), .string (B []), .string (B []), .string (B []), .string (B []), .string (B []), .string (B []), .string (B []), .string (B []), .string (B []), .string (B []), .string (B []), .string (B []), .string (B []), .string (B []), .slice none 0 0, .slice none 0 0, .slice none 0 0, .bool false, .bool false, .bool false, .bool false, .bool false, .bool false, .int .i64 0] 29)) := by
  have := blk_new (w.alloc obs) obj
  rw [hz1, ho] at this
  rw [ho]; exact this
 have hsb : Hid (((w.alloc obs).alloc obj).heap[w.heap.size]? = some (.cells #[vl, vd, vf, vc] 25)) := by
  have := blk_old (w.alloc obs) obj (blk_new w obs)
  rw [hobs] at this |-; exact this
 clear hs hn ha ok
 go_enter Tryz.func15, Tryz.ntmps15
 go_wp2_with fail
 rw [<- ho, <- hobs]
 have hsi2 : Hid (SiteAt ((w.alloc obs).alloc obj) vl vd vf vc site) := (HS.out.alloc obs).alloc obj
 generalize (w.alloc obs).alloc obj = w2 at hb2 hz2 hblk hsb hsi2 |-
 have hB2 : Hid (Below w.heap.size w w2) := hb1.out.trans (hb2.out.mono (by omega))
 clear hb1 hb2 HS
 refine (HPR.out _ hsi2.out).mono ?_; rintro e w3 ⟨pb, mb, fb, sb, rfl, hpp, hpb, hb3⟩
 replace hpp := Lib.hid hpp
 replace hpb := Lib.hid hpb
 have hB3 := Lib.hid (belowThen hB2.out hb3 (Nat.le_refl _))
 have hblk3 := Lib.hid (blk_below hblk.out hb3)
 clear HPR hsi2 hB2 hb3 hblk hsb
 go_wp2_with fail
 refine (HPA.out _ pb mb fb sb hpp.out).mono ?_; rintro e w4 ⟨b, b2, rfl, h1, h2, hb4⟩
 clear h2
 obtain ⟨vk, vu, vl1, hat⟩ := h1
 replace hat := Lib.hid hat
 have hB4 := Lib.hid (belowThen hB3.out hb4 (Nat.le_refl _))
 have hblk4 := Lib.hid (blk_below hblk3.out hb4)
 clear HPA hb4 hblk3 hpp hpb hB3
 obtain ⟨pc, hpc⟩ : ∃ c : List Value, c = (pcells P1 vk vu vl1 ⟨.pointer (some ⟨b2, 0, none⟩), none⟩).toList := ⟨_, rfl⟩
 have hr4 : Hid (w4.rangeAt b 0 pc) := by show World.rangeAt _ _ _ _; rw [hpc]; exact range_blk hat.out.blk
 have hpl : Hid (pc.length = 26) := by show _ = _; rw [hpc]; rfl
 have hpa : Hid (pc.toArray = pcells P1 vk vu vl1 ⟨.pointer (some ⟨b2, 0, none⟩), none⟩) := by show _ = _; rw [hpc]
 clear hpc
 go_wp2_with (refine wpList_load_g (by rfl) 82 (.tmp 12) rfl b 0 rfl pc _ hr4.out Tryz.underlying82 rfl (by rw [hpl.out]; kernel_rfl) (Hid.out ?_))
 refine Lib.hid ?_
 go_wp2_with fail
 rw [hpa.out]
 refine (HFT.out _ _ _ _ _ _ _ hat.out).mono ?_; rintro e w4' ⟨b', rfl, hat', hb4'⟩
 replace hat := Lib.hid hat'
 replace hB4 := Lib.hid (belowThen hB4.out hb4' (Nat.le_refl _))
 replace hblk4 := Lib.hid (blk_below hblk4.out hb4')
 clear HFT hb4' hat' hr4 hpl hpa
 go_wp2_with fail
 refine (HTD.out _ _ _ _ _ _ _ hat.out).mono ?_; rintro e w5 ⟨v, rfl, ⟨ql, qi, qu, rfl, ⟨s1, n1⟩, ⟨s2, n2⟩, ⟨s3, n3⟩⟩, hb5⟩
 have hsz4 : w.heap.size + 2 <= w4'.heap.size := by have := lt_of_block hblk4.out; omega
 have hB5 := Lib.hid (belowThen hB4.out hb5 (Nat.le_refl _))
 have hblk5 := Lib.hid (blk_below hblk4.out hb5)
 obtain ⟨a1, l1, c1, rfl⟩ := s1.slice
 obtain ⟨a2, l2, c2, rfl⟩ := s2.slice
 obtain ⟨a3, l3, c3, rfl⟩ := s3.slice
 obtain ⟨cs, hcs, hsz, hone⟩ := told_cells (toldM { P1 with trim := true }) a1 a2 a3 l1 l2 l3 c1 c2 c3
 rw [hcs]
 replace hcs := Lib.hid hcs
 replace s1 := Lib.hid s1
 replace s2 := Lib.hid s2
 replace s3 := Lib.hid s3
 replace n1 : Hid (NewRow (w.heap.size + 2) _) := n1.mono hsz4
 replace n2 : Hid (NewRow (w.heap.size + 2) _) := n2.mono hsz4
 replace n3 : Hid (NewRow (w.heap.size + 2) _) := n3.mono hsz4
 clear HTD hb5 hat hblk4 hB4 hsz4
 rename_i hK
 refine hK _ _ ?_
 refine wpList_store_row rfl 29 (.tmp 6) (.tmp 15) rfl (w.heap.size + 1) cs ?_ ?_ 29 _ hblk5.out ?_ ?_ ?_ ?_
 ·rfl
 ·rfl
 ·rw [hsz]; kernel_rfl
 ·rw [hsz]; rfl
 ·exact hone
 have hrow := Lib.hid (setRow_heap w5 (w.heap.size + 1) _ cs _ _ hblk5.out)
 have hbel : Hid (Below w.heap.size w (w5.setRow (w.heap.size + 1) cs)) := hB5.out.trans ⟨rfl, rfl, rfl, by simp, fun k hk => setRow_other _ _ _ _ (by omega)⟩
 have t1 := Lib.hid (s1.out.setRow (g := w.heap.size + 1) (cs := cs) n1.out (by omega))
 have t2 := Lib.hid (s2.out.setRow (g := w.heap.size + 1) (cs := cs) n2.out (by omega))
 have t3 := Lib.hid (s3.out.setRow (g := w.heap.size + 1) (cs := cs) n3.out (by omega))
 generalize w5.setRow _ _ = wf at hrow hbel t1 t2 t3 |-
 go_wp2_with fail
 refine bodyPost_ret (results_cell (w.heap.size + 1) rfl rfl (run_loadVar_row wf (w.heap.size + 1) _ 29 cs _ _ hrow.out Tryz.underlying29 rfl (by rw [hsz]; kernel_rfl))) rfl ?_
 exact ⟨_, rfl, ⟨_, _, _, hcs.out.symm, ⟨t1.out, n1.out.mono (by omega)⟩, ⟨t2.out, n2.out.mono (by omega)⟩, ⟨t3.out, n3.out.mono (by omega)⟩⟩, hbel.out⟩



theorem c_TrimKnown (site : SiteM) (comp s : Str) (vl vd vf vc : Value) (w : World) (hv : SiteAt w vl vd vf vc site) (hcl : CapOK vl) (hcd : CapOK vd) (hcc : CapOK vc) (hf : siteFits site = true) (hc : comp.length <= 2147483647) (hs : s.length <= 2147483647) :
  Calls Tryz.prog 14 #[.agg #[vl, vd, vf, vc], .string (B comp), .string (B s)] w fun e w' => e = .returned (.bool (pathKnown site comp s && (pathOf s false != [47]))) /\ Below w.heap.size w w' := by
 have HPK : Hid (∀ wx, SiteAt wx vl vd vf vc site -> Calls Tryz.prog 39 #[.agg #[vl, vd, vf, vc], .string (B comp), .string (B s)] wx fun e w' => e = .returned (.bool (pathKnown site comp s)) /\ Below wx.heap.size wx w') := fun wx h => c_PathKnown site comp s vl vd vf vc wx h hcl hcd hcc hf hc hs
 have HPO : Hid (∀ wx, Calls Tryz.prog 40 #[.string (B s), .bool false] wx fun e w' => e = .returned (.string (B (pathOf s false))) /\ Below wx.heap.size wx w') := fun wx => c_PathOf s false wx (by omega)
 generalize pathOf s false = PO at HPO |-
 obtain ⟨obs, hobs⟩ : ∃ o : Obj, o = .cells #[vl, vd, vf, vc] 25 := ⟨_, rfl⟩
 have hB1 : Hid (Below w.heap.size w (w.alloc obs)) := Below_alloc w obs
 have HV1 : Hid (SiteAt (w.alloc obs) vl vd vf vc site) := hv.alloc obs
 clear hv hcl hcd hcc
 cases hk : pathKnown site comp s with
 | false =>
  rw [hk] at HPK
  go_enter Tryz.func14, Tryz.ntmps14
  go_wp2_with fail
  rw [<- hobs]
  generalize w.alloc obs = w1 at hB1 HV1 |-
  refine (HPK.out _ HV1.out).mono ?_; rintro e w2 ⟨rfl, b2⟩
  have hB2 := Lib.hid (belowThen hB1.out b2 (Nat.le_refl _))
  go_wp2_with fail
  go_ret
  exact ⟨rfl, hB2.out⟩
 | true =>
  rw [hk] at HPK
  go_enter Tryz.func14, Tryz.ntmps14
  go_wp2_with fail
  rw [<- hobs]
  generalize w.alloc obs = w1 at hB1 HV1 |-
  refine (HPK.out _ HV1.out).mono ?_; rintro e w2 ⟨rfl, b2⟩
  have hB2 := Lib.hid (belowThen hB1.out b2 (Nat.le_refl _))
  clear b2 hB1
  go_wp2_with fail
  refine (HPO.out _).mono ?_; rintro e w3 ⟨rfl, b3⟩
  have hB3 := Lib.hid (belowThen hB2.out b3 (Nat.le_refl _))
  go_wp2_with fail
  go_ret
  exact ⟨ret_bool (by simp [bne]), hB3.out⟩

def bareS (s : Str) : Str := if s.head? = some 47 then s.drop 1 else s
theorem c_bare (s : Str) (w : World) (hl : s.length <= 70368744177664) :
  Calls Tryz.prog 46 #[.string (B s)] w fun e w' => e = .returned (.string (B (bareS s))) /\ w = w' := by
 by_cases h0 : s = []
 ·subst h0
  go_enter Tryz.func46, Tryz.ntmps46
  go_wp2_with fail
  go_ret
  exact ⟨rfl, rfl⟩
 have hlt : 0 < s.length := List.length_pos_iff.2 h0
 have he : s.isEmpty = false := List.isEmpty_eq_false_iff.2 h0
 by_cases hd : s[0]? = some 47
 ·have b1 := byte_yes (s := s) (k := 0) hlt 47 47 rfl hd
  have HR : Hid (bareS s = s.drop 1) := by show _ = _; unfold bareS; rw [List.head?_eq_getElem?, if_pos hd]
  have hi : (1 : Int) <= (s.length : Int) := by omega
  clear hd h0
  go_enter Tryz.func46, Tryz.ntmps46
  go_wp2_with fail
  go_ret
  exact ⟨ret_str (by rw [HR.out]; simp; exact List.take_of_length_le (by simp)), rfl⟩
 ·have b1 := byte_no (s := s) (k := 0) hlt 47 47 rfl hd
  have HR : Hid (bareS s = s) := by show _ = _; unfold bareS; rw [List.head?_eq_getElem?, if_neg hd]
  clear hd h0
  go_enter Tryz.func46, Tryz.ntmps46
  go_wp2_with fail
  go_ret
  exact ⟨ret_str HR.out.symm, rfl⟩

set_option maxHeartbeats 4000000 in
theorem c_words2 (T T' : ToldM) (h : SameWords T T') (vl vi vu vl' vi' vu' : Value) (w : World) :
  Calls Tryz.prog 17 #[toldVal T vl vi vu, toldVal T' vl' vi' vu'] w fun e w' => e = .returned (.bool true) /\ Below w.heap.size w w' := by
 obtain ⟨h1, h2, h3, h4, h5, h6, h7⟩ := h
 unfold toldVal
 rw [<- h1, <- h2, <- h3, <- h4, <- h5, <- h6, <- h7]
 clear h1 h2 h3 h4 h5 h6 h7
 go_enter Tryz.func17, Tryz.ntmps17
 go_wp2_with fail
 go_ret
 exact ⟨ret_bool (by simp), (Below_alloc w _).trans ((Below_alloc _ _).mono (by simp))⟩


/-! ### The reference's answer without leading slashes -/
def tr2 (t : ToldM) : ToldM := { t with path := bareS t.path, dir := bareS t.dir, containerDir := bareS t.containerDir }
def tr3 (t : ToldM) : ToldM := { t with pathNoLang := bareS t.pathNoLang, pathNoId := bareS t.pathNoId, pathBefore := bareS t.pathBefore }
def tr4 (t : ToldM) : ToldM := { t with base := bareS t.base, idBase := bareS t.idBase }
def trimS (t : ToldM) : ToldM := tr4 (tr3 (tr2 t))
/-- While the slashes go: the answer's cell is the first new one of w. -/
structure TrIn (w wx : World) (T : ToldM) (x y z : Value) : Prop where
 td : wx.heap[w.heap.size]? = some (.cells (tcel T x y z) 29 (0, 0))
 bel : Below w.heap.size w wx
section
variable {w wx : World} {T : ToldM} {x y z : Value}
theorem TrIn.below {w' : World} (h : TrIn w wx T x y z) (hb : Below wx.heap.size wx w') : TrIn w w' T x y z := ⟨blk_below h.td hb, belowThen h.bel hb (Nat.le_refl _)⟩
theorem TrIn.lt (h : TrIn w wx T x y z) : w.heap.size < wx.heap.size := (Array.getElem?_eq_some_iff.1 h.td).1
theorem TrIn.tc (h : TrIn w wx T x y z) (k : Nat) (v : Value) (hk : (tcel T x y z)[k]? = some v) : wx.cell? ⟨w.heap.size, k, none⟩ = some v := by rw [cell_blk h.td]; exact hk
theorem TrIn.tf (h : TrIn w wx T x y z) (k : Nat) : wx.frozen? ⟨w.heap.size, k, none⟩ = false := free_blk h.td k
theorem TrIn.set (h : TrIn w wx T x y z) (k : Nat) (v : Value) (T' : ToldM) (he : (tcel T x y z).setIfInBounds k v = tcel T' x y z) : TrIn w (wx.setCell ⟨w.heap.size, k, none⟩ v) T' x y z := ⟨by rw [blk_set v h.td, he], h.bel.setCell (Nat.le_refl _) v⟩
end
theorem con_le (T : WordsM) (n : Nat) (hp : T.path.length <= n) (hn : T.name.length <= n) (hx : T.ext.length <= n) : (answers T).path.length <= 4 * n + 4 /\ (answers T).dir.length <= 4 * n + 4 /\ (answers T).containerDir.length <= 4 * n + 4 /\ (answers T).pathNoLang.length <= 4 * n + 4 /\ (answers T).pathNoId.length <= 4 * n + 4 /\ (answers T).pathBefore.length <= 4 * n + 4 /\ (answers T).base.length <= 4 * n + 4 /\ (answers T).idBase.length <= 4 * n + 4 := by
 have hd : ∀ p : Str, (dirOf p).length <= p.length + 1 := fun p => by
  unfold dirOf
  split
  ·simp
  ·rw [List.length_take]; omega
 have h1 := hd T.path
 have h2 : (headOf T).length <= n := by unfold headOf; rw [List.length_take]; omega
 have h3 : (T.name.take T.nameEnd).length <= n := by rw [List.length_take]; omega
 have h4 : (noIdentifier T).length <= 2 * n := by
  unfold noIdentifier
  split
  ·omega
  ·rw [List.length_append]; omega
 have h5 : (baseOf T).length <= 3 * n + 1 := by
  unfold baseOf
  repeat' split
  all_goals try simp only [List.length_append, List.length_cons, List.length_nil]
  all_goals omega
 refine ⟨by show T.path.length <= _; omega, by show (dirOf T.path).length <= _; omega, ?_, ?_, by show (noIdentifier T).length <= _; omega, ?_, by show (baseOf T).length <= _; omega, ?_⟩
 ·show (if isBundleT T.typ /\ containerOf T.path ≠ [] then (dirOf T.path).take (slashB (dirOf T.path) (dirOf T.path).length).toNat else dirOf T.path).length <= _
  split
  ·rw [List.length_take]; omega
  ·omega
 ·show (noLang T).length <= _
  unfold noLang
  split
  ·omega
  ·simp only [List.length_append, List.length_cons, List.length_nil]; omega
 ·show (beforeExt T T.path).length <= _
  unfold beforeExt
  split
  ·omega
  ·rw [List.length_take]; omega
 ·show (if T.component = kLayouts then T.path else baseOf T).length <= _
  split <;> omega

set_option maxHeartbeats 16000000 in
theorem c_specTrimmed (site : SiteM) (comp s : Str) (vl vd vf vc : Value) (w : World) (hv : SiteAt w vl vd vf vc site) (hcl : comp.length <= 2147483647) (hsl : s.length <= 100000) :
  Calls Tryz.prog 16 #[.agg #[vl, vd, vf, vc], .string (B comp), .string (B s)] w fun e w' => ∃ v, e = .returned v /\ ToldAtN w.heap.size w' v (trimS (specParse site comp s)) /\ Below w.heap.size w w' := by
 have HSP : Hid (∀ wx, SiteAt wx vl vd vf vc site -> Calls Tryz.prog 45 #[.agg #[vl, vd, vf, vc], .string (B comp), .string (B s)] wx fun e w' => ∃ v, e = .returned v /\ ToldAtN wx.heap.size w' v (specParse site comp s) /\ Below wx.heap.size wx w') := fun wx h => c_specParse site comp s vl vd vf vc wx h hcl hsl
 have HLn : Hid ((specParse site comp s).path.length <= 70368744177664 /\ (specParse site comp s).dir.length <= 70368744177664 /\ (specParse site comp s).containerDir.length <= 70368744177664 /\ (specParse site comp s).pathNoLang.length <= 70368744177664 /\ (specParse site comp s).pathNoId.length <= 70368744177664 /\ (specParse site comp s).pathBefore.length <= 70368744177664 /\ (specParse site comp s).base.length <= 70368744177664 /\ (specParse site comp s).idBase.length <= 70368744177664) := by
  have hw := words_like site comp s false
  have h1 := hw.plen
  have h2 := hw.nlen
  have h3 := hw.xlen
  obtain ⟨j1, j2, j3, j4, j5, j6, j7, j8⟩ := con_le (wordsOf site comp s false) 100001 (by omega) (by omega) (by omega)
  exact ⟨Nat.le_trans j1 (by decide), Nat.le_trans j2 (by decide), Nat.le_trans j3 (by decide), Nat.le_trans j4 (by decide), Nat.le_trans j5 (by decide), Nat.le_trans j6 (by decide), Nat.le_trans j7 (by decide), Nat.le_trans j8 (by decide)⟩
 generalize specParse site comp s = T at HSP HLn |-
 have C0 : Hid (∀ wx, Calls Tryz.prog 46 #[.string (B T.path)] wx fun e w' => e = .returned (.string (B (bareS T.path))) /\ wx = w') := fun wx => c_bare _ wx HLn.out.1
 have C1 : Hid (∀ wx, Calls Tryz.prog 46 #[.string (B T.dir)] wx fun e w' => e = .returned (.string (B (bareS T.dir))) /\ wx = w') := fun wx => c_bare _ wx HLn.out.2.1
 have C2 : Hid (∀ wx, Calls Tryz.prog 46 #[.string (B T.containerDir)] wx fun e w' => e = .returned (.string (B (bareS T.containerDir))) /\ wx = w') := fun wx => c_bare _ wx HLn.out.2.2.1
 have C3 : Hid (∀ wx, Calls Tryz.prog 46 #[.string (B T.pathNoLang)] wx fun e w' => e = .returned (.string (B (bareS T.pathNoLang))) /\ wx = w') := fun wx => c_bare _ wx HLn.out.2.2.2.1
 have C4 : Hid (∀ wx, Calls Tryz.prog 46 #[.string (B T.pathNoId)] wx fun e w' => e = .returned (.string (B (bareS T.pathNoId))) /\ wx = w') := fun wx => c_bare _ wx HLn.out.2.2.2.2.1
 have C5 : Hid (∀ wx, Calls Tryz.prog 46 #[.string (B T.pathBefore)] wx fun e w' => e = .returned (.string (B (bareS T.pathBefore))) /\ wx = w') := fun wx => c_bare _ wx HLn.out.2.2.2.2.2.1
 have C6 : Hid (∀ wx, Calls Tryz.prog 46 #[.string (B T.base)] wx fun e w' => e = .returned (.string (B (bareS T.base))) /\ wx = w') := fun wx => c_bare _ wx HLn.out.2.2.2.2.2.2.1
 have C7 : Hid (∀ wx, Calls Tryz.prog 46 #[.string (B T.idBase)] wx fun e w' => e = .returned (.string (B (bareS T.idBase))) /\ wx = w') := fun wx => c_bare _ wx HLn.out.2.2.2.2.2.2.2
 clear HLn hcl hsl
 obtain ⟨obs, hobs⟩ : ∃ o : Obj, o = .cells #[vl, vd, vf, vc] 25 := ⟨_, rfl⟩
 obtain ⟨oz, hoz⟩ : ∃ o : Obj, o = .cells zeroCells 29 := ⟨_, rfl⟩
 have hB1 : Hid (Below w.heap.size w ((w.alloc obs).alloc oz)) := (Below_alloc w obs).trans ((Below_alloc (w.alloc obs) oz).mono (by simp))
 have hz1 : Hid (((w.alloc obs).alloc oz).heap.size = w.heap.size + 2) := by show _ = _; simp
 have HV1 : Hid (SiteAt ((w.alloc obs).alloc oz) vl vd vf vc site) := (hv.alloc obs).alloc oz
 have hrs : Hid (((w.alloc obs).alloc oz).heap[w.heap.size + 1]? = some (.cells zeroCells 29)) := by
  have := blk_new (w.alloc obs) oz
  rw [show (w.alloc obs).heap.size = w.heap.size + 1 by simp, hoz] at this
  rw [hoz]; exact this
 clear hv
 go_enter Tryz.func16, Tryz.ntmps16
 go_wp2_with fail
 rw [<- hobs, <- hoz]
 generalize (w.alloc obs).alloc oz = w1 at hB1 hz1 hrs HV1 |-
 refine (HSP.out _ HV1.out).mono ?_; rintro ex w2 ⟨v, rfl, ⟨ql, qi, qu, rfl, ⟨s1, n1⟩, ⟨s2, n2⟩, ⟨s3, n3⟩⟩, b2⟩
 obtain ⟨a1, l1, c1, rfl⟩ := s1.slice
 obtain ⟨a2, l2, c2, rfl⟩ := s2.slice
 obtain ⟨a3, l3, c3, rfl⟩ := s3.slice
 rw [toldVal_eq]
 have hB2 := Lib.hid (belowThen hB1.out b2 (Nat.le_refl _))
 have hrs2 := Lib.hid (blk_below hrs.out b2)
 have hz2 := hz1.out
 rw [hz2] at n1 n2 n3
 replace s1 := Lib.hid s1
 replace s2 := Lib.hid s2
 replace s3 := Lib.hid s3
 replace n1 := Lib.hid n1
 replace n2 := Lib.hid n2
 replace n3 := Lib.hid n3
 obtain ⟨cs0, hcs0⟩ : ∃ c, c = tcel T (.slice a1 l1 c1) (.slice a2 l2 c2) (.slice a3 l3 c3) := ⟨_, rfl⟩
 have hsz0 : Hid (cs0.size = 31) := by show _ = _; rw [hcs0]; rfl
 have hone0 : Hid (cs0.all (·.oneCell') = true) := by show _ = _; rw [hcs0]; kernel_rfl
 rw [<- hcs0]
 replace hcs0 := Lib.hid hcs0
 clear b2 hB1 hrs HV1 HSP hz1 hz2 hobs hoz
 go_wp2_with (refine wpList_store_row rfl 29 (.tmp 7) (.tmp 11) rfl w2.heap.size cs0 rfl rfl 29 _ (blk_new w2 _) (by rw [hsz0.out]; kernel_rfl) (by rw [hsz0.out]; rfl) hone0.out (Hid.out ?_))
 have A1 : Hid (TrIn w2 ((w2.alloc (.cells zeroCells 29)).setRow w2.heap.size cs0) T (.slice a1 l1 c1) (.slice a2 l2 c2) (.slice a3 l3 c3)) := ⟨by rw [<- hcs0.out]; exact setRow_heap (w2.alloc (.cells zeroCells 29)) w2.heap.size _ cs0 _ _ (blk_new w2 _), (Below_alloc w2 _).trans ⟨rfl, rfl, rfl, by simp, fun k hk => setRow_other _ _ _ _ (by omega)⟩⟩
 generalize (w2.alloc _).setRow _ _ = w3 at A1 |-
 clear hcs0 hsz0 hone0
 refine Lib.hid ?_
 go_upto_region 2 with fail
 have z9 := fun z => Fam.cell (A1.out.tc 9 (.string (B T.path)) rfl) A1.out.lt z
 have z8 := fun z => Fam.cell (A1.out.tc 8 (.string (B T.dir)) rfl) A1.out.lt z
 have z2 := fun z => Fam.cell (A1.out.tc 2 (.string (B T.containerDir)) rfl) A1.out.lt z
 have q0 : Hid (∀ z : Fam w3, Calls Tryz.prog 46 #[.string (B T.path)] z.val fun e w'' => e = .returned (.string (B (bareS T.path))) /\ ∃ z' : Fam w3, w'' = z'.val) := fun z => Fam.callS (fun wx => C0.out wx) z
 have q1 : Hid (∀ z : Fam w3, Calls Tryz.prog 46 #[.string (B T.dir)] z.val fun e w'' => e = .returned (.string (B (bareS T.dir))) /\ ∃ z' : Fam w3, w'' = z'.val) := fun z => Fam.callS (fun wx => C1.out wx) z
 have q2 : Hid (∀ z : Fam w3, Calls Tryz.prog 46 #[.string (B T.containerDir)] z.val fun e w'' => e = .returned (.string (B (bareS T.containerDir))) /\ ∃ z' : Fam w3, w'' = z'.val) := fun z => Fam.callS (fun wx => C2.out wx) z
 refine wp_family (Z := Fam w3) Fam.val (Fam.mk0 w3) rfl 10 (by kernel_rfl) (by kernel_rfl) ?_
 simp only [List.take_succ_cons, List.take_zero, List.drop_succ_cons, List.drop_zero]
 quiet_step (fail)
 quiet_step (fail)
 quiet_step ((go_at_call 46; exact q0.out _))
 quiet_step (fail)
 quiet_step (fail)
 quiet_step ((go_at_call 46; exact q1.out _))
 quiet_step (fail)
 quiet_step (fail)
 quiet_step ((go_at_call 46; exact q2.out _))
 quiet_step (fail)
 refine wpQuiet_nil ?_
 intro z
 have Az := Lib.hid (A1.out.below z.bel)
 clear z9 z8 z2 q0 q1 q2 A1
 generalize z.val = wz at Az |-
 have t9 := Az.out.tc 9 (.string (B T.path)) rfl
 have f9 := Az.out.tf 9
 have t8 := Az.out.tc 8 (.string (B T.dir)) rfl
 have f8 := Az.out.tf 8
 have t2 := Az.out.tc 2 (.string (B T.containerDir)) rfl
 have f2 := Az.out.tf 2
 have S0 := TrIn.set (Az.out) 9 (.string (B (bareS T.path))) ({ T with path := bareS T.path }) rfl
 have S1 := TrIn.set (S0) 8 (.string (B (bareS T.dir))) ({ T with path := bareS T.path, dir := bareS T.dir }) rfl
 have S2 := TrIn.set (S1) 2 (.string (B (bareS T.containerDir))) (tr2 T) rfl
 have A2 := Lib.hid S2
 clear S0 S1 S2
 go_upto_region 3 with fail
 generalize (World.setCell (World.setCell (World.setCell wz ⟨w2.heap.size, 9, none⟩ (.string (B (bareS T.path)))) ⟨w2.heap.size, 8, none⟩ (.string (B (bareS T.dir)))) ⟨w2.heap.size, 2, none⟩ (.string (B (bareS T.containerDir)))) = w4 at A2 |-
 clear t9 f9 t8 f8 t2 f2 Az
 have z10 := fun z => Fam.cell (A2.out.tc 10 (.string (B T.pathNoLang)) rfl) A2.out.lt z
 have z11 := fun z => Fam.cell (A2.out.tc 11 (.string (B T.pathNoId)) rfl) A2.out.lt z
 have z12 := fun z => Fam.cell (A2.out.tc 12 (.string (B T.pathBefore)) rfl) A2.out.lt z
 have q0 : Hid (∀ z : Fam w4, Calls Tryz.prog 46 #[.string (B T.pathNoLang)] z.val fun e w'' => e = .returned (.string (B (bareS T.pathNoLang))) /\ ∃ z' : Fam w4, w'' = z'.val) := fun z => Fam.callS (fun wx => C3.out wx) z
 have q1 : Hid (∀ z : Fam w4, Calls Tryz.prog 46 #[.string (B T.pathNoId)] z.val fun e w'' => e = .returned (.string (B (bareS T.pathNoId))) /\ ∃ z' : Fam w4, w'' = z'.val) := fun z => Fam.callS (fun wx => C4.out wx) z
 have q2 : Hid (∀ z : Fam w4, Calls Tryz.prog 46 #[.string (B T.pathBefore)] z.val fun e w'' => e = .returned (.string (B (bareS T.pathBefore))) /\ ∃ z' : Fam w4, w'' = z'.val) := fun z => Fam.callS (fun wx => C5.out wx) z
 refine wp_family (Z := Fam w4) Fam.val (Fam.mk0 w4) rfl 10 (by kernel_rfl) (by kernel_rfl) ?_
 simp only [List.take_succ_cons, List.take_zero, List.drop_succ_cons, List.drop_zero]
 quiet_step (fail)
 quiet_step (fail)
 quiet_step ((go_at_call 46; exact q0.out _))
 quiet_step (fail)
 quiet_step (fail)
 quiet_step ((go_at_call 46; exact q1.out _))
 quiet_step (fail)
 quiet_step (fail)
 quiet_step ((go_at_call 46; exact q2.out _))
 quiet_step (fail)
 refine wpQuiet_nil ?_
 intro z
 have Az := Lib.hid (A2.out.below z.bel)
 clear z10 z11 z12 q0 q1 q2 A2
 generalize z.val = wz at Az |-
 have t10 := Az.out.tc 10 (.string (B T.pathNoLang)) rfl
 have f10 := Az.out.tf 10
 have t11 := Az.out.tc 11 (.string (B T.pathNoId)) rfl
 have f11 := Az.out.tf 11
 have t12 := Az.out.tc 12 (.string (B T.pathBefore)) rfl
 have f12 := Az.out.tf 12
 have S0 := TrIn.set (Az.out) 10 (.string (B (bareS T.pathNoLang))) ({ tr2 T with pathNoLang := bareS T.pathNoLang }) rfl
 have S1 := TrIn.set (S0) 11 (.string (B (bareS T.pathNoId))) ({ tr2 T with pathNoLang := bareS T.pathNoLang, pathNoId := bareS T.pathNoId }) rfl
 have S2 := TrIn.set (S1) 12 (.string (B (bareS T.pathBefore))) (tr3 (tr2 T)) rfl
 have A3 := Lib.hid S2
 clear S0 S1 S2
 go_upto_region 4 with fail
 generalize (World.setCell (World.setCell (World.setCell wz ⟨w2.heap.size, 10, none⟩ (.string (B (bareS T.pathNoLang)))) ⟨w2.heap.size, 11, none⟩ (.string (B (bareS T.pathNoId)))) ⟨w2.heap.size, 12, none⟩ (.string (B (bareS T.pathBefore)))) = w5 at A3 |-
 clear t10 f10 t11 f11 t12 f12 Az
 have z13 := fun z => Fam.cell (A3.out.tc 13 (.string (B T.base)) rfl) A3.out.lt z
 have z14 := fun z => Fam.cell (A3.out.tc 14 (.string (B T.idBase)) rfl) A3.out.lt z
 have q0 : Hid (∀ z : Fam w5, Calls Tryz.prog 46 #[.string (B T.base)] z.val fun e w'' => e = .returned (.string (B (bareS T.base))) /\ ∃ z' : Fam w5, w'' = z'.val) := fun z => Fam.callS (fun wx => C6.out wx) z
 have q1 : Hid (∀ z : Fam w5, Calls Tryz.prog 46 #[.string (B T.idBase)] z.val fun e w'' => e = .returned (.string (B (bareS T.idBase))) /\ ∃ z' : Fam w5, w'' = z'.val) := fun z => Fam.callS (fun wx => C7.out wx) z
 refine wp_family (Z := Fam w5) Fam.val (Fam.mk0 w5) rfl 7 (by kernel_rfl) (by kernel_rfl) ?_
 simp only [List.take_succ_cons, List.take_zero, List.drop_succ_cons, List.drop_zero]
 quiet_step (fail)
 quiet_step (fail)
 quiet_step ((go_at_call 46; exact q0.out _))
 quiet_step (fail)
 quiet_step (fail)
 quiet_step ((go_at_call 46; exact q1.out _))
 quiet_step (fail)
 refine wpQuiet_nil ?_
 intro z
 have Az := Lib.hid (A3.out.below z.bel)
 clear z13 z14 q0 q1 A3
 generalize z.val = wz at Az |-
 have t13 := Az.out.tc 13 (.string (B T.base)) rfl
 have f13 := Az.out.tf 13
 have t14 := Az.out.tc 14 (.string (B T.idBase)) rfl
 have f14 := Az.out.tf 14
 have S0 := TrIn.set (Az.out) 13 (.string (B (bareS T.base))) ({ tr3 (tr2 T) with base := bareS T.base }) rfl
 have S1 := TrIn.set (S0) 14 (.string (B (bareS T.idBase))) (trimS T) rfl
 have A4 := Lib.hid S1
 clear S0 S1
 go_upto_region 5 with fail
 generalize (World.setCell (World.setCell wz ⟨w2.heap.size, 13, none⟩ (.string (B (bareS T.base)))) ⟨w2.heap.size, 14, none⟩ (.string (B (bareS T.idBase)))) = w6 at A4 |-
 clear t13 f13 t14 f14 Az
 clear C0 C1 C2 C3 C4 C5 C6 C7
 obtain ⟨cs, hcs⟩ : ∃ c : List Value, c = (tcel (trimS T) (.slice a1 l1 c1) (.slice a2 l2 c2) (.slice a3 l3 c3)).toList := ⟨_, rfl⟩
 have hsz : cs.length = 31 := by rw [hcs]; rfl
 have hone : cs.toArray.all (·.oneCell') = true := by rw [hcs]; kernel_rfl
 have hrg : Hid (w6.rangeAt w2.heap.size 0 cs) := by
  intro j v hj
  rw [Nat.zero_add, cell_blk A4.out.td, <- hj, hcs, Array.getElem?_toList]
 have hB6 := Lib.hid (belowThen hB2.out A4.out.bel (Nat.le_refl _))
 have hrs6 := Lib.hid (blk_below hrs2.out A4.out.bel)
 replace s1 := Lib.hid (s1.out.below A4.out.bel)
 replace s2 := Lib.hid (s2.out.below A4.out.bel)
 replace s3 := Lib.hid (s3.out.below A4.out.bel)
 replace hcs := Lib.hid hcs
 replace hsz := Lib.hid hsz
 replace hone := Lib.hid hone
 clear A4 hB2 hrs2
 go_wp2_with (refine wpList_load_mid rfl 29 (.tmp 7) rfl w2.heap.size 0 rfl cs _ hrg.out Tryz.underlying29 rfl (by rw [hsz.out]; kernel_rfl) (Hid.out ?_))
 refine Lib.hid ?_
 go_wp2_with (refine wpList_store_row rfl 29 (.tmp 6) (.tmp 44) rfl (w.heap.size + 1) cs.toArray rfl rfl 29 _ hrs6.out (by rw [List.size_toArray, hsz.out]; kernel_rfl) hsz.out.symm hone.out (Hid.out ?_))
 have hrow := Lib.hid (setRow_heap w6 (w.heap.size + 1) _ cs.toArray _ _ hrs6.out)
 have hbel : Hid (Below w.heap.size w (w6.setRow (w.heap.size + 1) cs.toArray)) := hB6.out.trans ⟨rfl, rfl, rfl, by simp, fun k hk => setRow_other _ _ _ _ (by omega)⟩
 have t1 := Lib.hid (s1.out.setRow (g := w.heap.size + 1) (cs := cs.toArray) n1.out (by omega))
 have t2 := Lib.hid (s2.out.setRow (g := w.heap.size + 1) (cs := cs.toArray) n2.out (by omega))
 have t3 := Lib.hid (s3.out.setRow (g := w.heap.size + 1) (cs := cs.toArray) n3.out (by omega))
 generalize w6.setRow _ _ = wf at hrow hbel t1 t2 t3 |-
 refine Lib.hid ?_
 go_wp2_with fail
 refine bodyPost_ret (results_cell (w.heap.size + 1) rfl rfl (run_loadVar_row wf (w.heap.size + 1) _ 29 cs.toArray _ _ hrow.out Tryz.underlying29 rfl (by rw [List.size_toArray, hsz.out]; kernel_rfl))) rfl ?_
 exact ⟨_, rfl, ⟨_, _, _, by rw [hcs.out]; rfl, ⟨t1.out, n1.out.mono (by omega)⟩, ⟨t2.out, n2.out.mono (by omega)⟩, ⟨t3.out, n3.out.mono (by omega)⟩⟩, hbel.out⟩

end Go.Proofs.YtjkecadfakjanaaGreatDoor

namespace Go.Proofs.YtjkecadfakjanaaGreatDoor
open Go.RowKit

/-- The list's cells keep off block g. -/
def NotIn (v : Value) (l : List Str) (g : Nat) : Prop := ∀ a n c, v = .slice (some a) n c -> l ≠ [] -> a.block ≠ g
theorem StrsAt.notIn {w : World} {v : Value} {l : List Str} (h : StrsAt w v l) {g : Nat} (hg : w.heap.size <= g) : NotIn v l g := by
 intro a n c e hl q
 obtain ⟨_, a', cap, e', h1⟩ := h
 have hlt : 0 < l.length := List.length_pos_iff.2 hl
 obtain ⟨b, off, ea, hc⟩ := h1 0 hlt
 have e2 : some a = a' := (Value.slice.inj (e.symm.trans e')).1
 have e3 : a = ⟨b, off, none⟩ := Option.some.inj (e2.trans ea)
 have hb := cell_lt hc
 rw [e3] at q
 have q : b = g := q
 omega
theorem NewRow.notIn {n : Nat} {v : Value} {l : List Str} {g : Nat} (h : NewRow n v) (hg : g < n) : NotIn v l g := fun a m c e _ q => by have := h a m c e; omega
theorem StrsAt.setRow2 {w : World} {v : Value} {l : List Str} {g : Nat} {cs : Array Value} (h : StrsAt w v l) (hn : NotIn v l g) : StrsAt (w.setRow g cs) v l := by
 obtain ⟨h0, a, cap, rfl, h1⟩ := h
 refine ⟨h0, a, cap, rfl, fun i hi => ?_⟩
 obtain ⟨b, off, e, hc⟩ := h1 i hi
 refine ⟨b, off, e, ?_⟩
 subst e
 have := hn _ _ _ rfl (by intro q; rw [q] at hi; simp at hi)
 rw [cell_setRow_other _ _ _ _ (show b ≠ g from this)]
 exact hc
/-- An answer that reads as T, its lists in memory, each keeping off the blocks of which G says so. -/
def ReadsT (T : ToldM) (w : World) (G : Nat -> Prop) (v : Value) : Prop := ∃ vl vi vu, v = toldVal T vl vi vu /\ (StrsAt w vl T.langs /\ ∀ g, G g -> NotIn vl T.langs g) /\ (StrsAt w vi T.ids /\ ∀ g, G g -> NotIn vi T.ids g) /\ (StrsAt w vu T.unknown /\ ∀ g, G g -> NotIn vu T.unknown g)
theorem ReadsT.below {T : ToldM} {w w' : World} {G : Nat -> Prop} {v : Value} (h : ReadsT T w G v) (hb : Below w.heap.size w w') : ReadsT T w' G v := by
 obtain ⟨vl, vi, vu, e, h1, h2, h3⟩ := h
 exact ⟨vl, vi, vu, e, ⟨h1.1.below hb, h1.2⟩, ⟨h2.1.below hb, h2.2⟩, ⟨h3.1.below hb, h3.2⟩⟩
theorem ReadsT.more {T : ToldM} {w : World} {G : Nat -> Prop} {v : Value} (h : ReadsT T w G v) : ReadsT T w (fun g => G g \/ w.heap.size <= g) v := by
 obtain ⟨vl, vi, vu, e, h1, h2, h3⟩ := h
 exact ⟨vl, vi, vu, e, ⟨h1.1, fun g hg => hg.elim (h1.2 g) h1.1.notIn⟩, ⟨h2.1, fun g hg => hg.elim (h2.2 g) h2.1.notIn⟩, ⟨h3.1, fun g hg => hg.elim (h3.2 g) h3.1.notIn⟩⟩
theorem ReadsT.imp {T : ToldM} {w : World} {G G' : Nat -> Prop} {v : Value} (h : ReadsT T w G v) (hi : ∀ g, G' g -> G g) : ReadsT T w G' v := by
 obtain ⟨vl, vi, vu, e, h1, h2, h3⟩ := h
 exact ⟨vl, vi, vu, e, ⟨h1.1, fun g hg => h1.2 g (hi g hg)⟩, ⟨h2.1, fun g hg => h2.2 g (hi g hg)⟩, ⟨h3.1, fun g hg => h3.2 g (hi g hg)⟩⟩
theorem told_reads {n : Nat} {w : World} {v : Value} {T : ToldM} (h : ToldAtN n w v T) : ReadsT T w (fun g => g < n) v := by
 obtain ⟨vl, vi, vu, e, h1, h2, h3⟩ := h
 exact ⟨vl, vi, vu, e, ⟨h1.1, fun g hg => h1.2.notIn hg⟩, ⟨h2.1, fun g hg => h2.2.notIn hg⟩, ⟨h3.1, fun g hg => h3.2.notIn hg⟩⟩
/-- The blocks of the new cells. -/
def Cells (b1 b2 : Option Value) (g : Nat) : Prop := b1 = some (.pointer (some ⟨g, 0, none⟩)) \/ b2 = some (.pointer (some ⟨g, 0, none⟩))
/-- While the two are asked: as Asks; and the lists keep off the new cells. -/
structure AsksV (w : World) (vl vd vf vc : Value) (T U : ToldM) (r1 r2 b1 b2 : Option Value) (w' : World) : Prop where
 a : Asks w vl vd vf vc T none none b1 b2 w'
 f1 : ∀ v, r1 = some v -> ReadsT T w' (Cells b1 b2) v
 f2 : ∀ v, r2 = some v -> ReadsT U w' (Cells b1 b2) v
theorem AsksV.lt {w : World} {vl vd vf vc : Value} {T U : ToldM} {r1 r2 b1 b2 : Option Value} {w1 : World} (h : AsksV w vl vd vf vc T U r1 r2 b1 b2 w1) (g : Nat) (hg : Cells b1 b2 g) : g < w1.heap.size := by
 have key : ∀ {v : Value}, NewTold w.heap.size w1 v -> v = .pointer (some ⟨g, 0, none⟩) -> g < w1.heap.size := fun {v} hn e => by
  obtain ⟨g', e', _, h2⟩ := hn
  rw [e'] at e
  have : g' = g := (Addr.mk.inj (Option.some.inj (Value.pointer.inj e))).1
  rw [<- this]
  exact (Array.getElem?_eq_some_iff.1 h2).1
 rcases hg with hg | hg
 ·exact key (h.a.g1 _ hg) rfl
 ·exact key (h.a.g2 _ hg) rfl
theorem AsksV.tell1 {w : World} {vl vd vf vc : Value} {T U : ToldM} {b1 b2 : Option Value} {w1 w2 : World} {v : Value} (h : AsksV w vl vd vf vc T U none none b1 b2 w1) (hb : Below w1.heap.size w1 w2) (ht : ToldAtN w1.heap.size w2 v T) : AsksV w vl vd vf vc T U (some v) none b1 b2 w2 :=
 ⟨h.a.tell hb none none (fun _ e => by cases e) (fun _ e => by cases e), fun v' e => by cases e; exact (told_reads ht).imp h.lt, fun v' e => by cases e⟩
theorem AsksV.tell2 {w : World} {vl vd vf vc : Value} {T U : ToldM} {b1 b2 : Option Value} {w1 w2 : World} {u v : Value} (h : AsksV w vl vd vf vc T U (some u) none b1 b2 w1) (hb : Below w1.heap.size w1 w2) (ht : ToldAtN w1.heap.size w2 v U) : AsksV w vl vd vf vc T U (some u) (some v) b1 b2 w2 :=
 ⟨h.a.tell hb none none (fun _ e => by cases e) (fun _ e => by cases e), fun v' e => (h.f1 v' e).below hb, fun v' e => by cases e; exact (told_reads ht).imp h.lt⟩
theorem AsksV.new1 {w : World} {vl vd vf vc : Value} {T U : ToldM} {r1 r2 b2 : Option Value} {w1 : World} (h : AsksV w vl vd vf vc T U r1 r2 none b2 w1) :
  AsksV w vl vd vf vc T U r1 r2 (some (.pointer (some ⟨w1.heap.size, 0, none⟩))) b2 (w1.alloc (.cells zeroCells 29)) := by
 have hb := Below_alloc w1 (.cells zeroCells 29)
 have hi : ∀ g, Cells (some (.pointer (some ⟨w1.heap.size, 0, none⟩))) b2 g -> Cells none b2 g \/ w1.heap.size <= g := fun g hg => by
  rcases hg with hg | hg
  ·right
   have := (Addr.mk.inj (Option.some.inj (Value.pointer.inj (Option.some.inj hg)))).1
   omega
  ·exact .inl (.inr hg)
 exact ⟨h.a.new1, fun v e => ((h.f1 v e).more.imp hi).below hb, fun v e => ((h.f2 v e).more.imp hi).below hb⟩
theorem AsksV.new2 {w : World} {vl vd vf vc : Value} {T U : ToldM} {r1 r2 b1 : Option Value} {w1 : World} (h : AsksV w vl vd vf vc T U r1 r2 b1 none w1) :
  AsksV w vl vd vf vc T U r1 r2 b1 (some (.pointer (some ⟨w1.heap.size, 0, none⟩))) (w1.alloc (.cells zeroCells 29)) := by
 have hb := Below_alloc w1 (.cells zeroCells 29)
 have hi : ∀ g, Cells b1 (some (.pointer (some ⟨w1.heap.size, 0, none⟩))) g -> Cells b1 none g \/ w1.heap.size <= g := fun g hg => by
  rcases hg with hg | hg
  ·exact .inl (.inl hg)
  ·right
   have := (Addr.mk.inj (Option.some.inj (Value.pointer.inj (Option.some.inj hg)))).1
   omega
 exact ⟨h.a.new2, fun v e => ((h.f1 v e).more.imp hi).below hb, fun v e => ((h.f2 v e).more.imp hi).below hb⟩
theorem ReadsT.setRow {T : ToldM} {w : World} {G : Nat -> Prop} {v : Value} (h : ReadsT T w G v) {g : Nat} (hg : G g) (cs : Array Value) : ReadsT T (w.setRow g cs) G v := by
 obtain ⟨vl, vi, vu, e, h1, h2, h3⟩ := h
 exact ⟨vl, vi, vu, e, ⟨h1.1.setRow2 (h1.2 g hg), h1.2⟩, ⟨h2.1.setRow2 (h2.2 g hg), h2.2⟩, ⟨h3.1.setRow2 (h3.2 g hg), h3.2⟩⟩

end Go.Proofs.YtjkecadfakjanaaGreatDoor

namespace Go.Proofs.YtjkecadfakjanaaGreatDoor
open Go.RowKit
attribute [local go_sem] B_extract B_toList B_append

set_option maxHeartbeats 16000000 in
theorem w_FnTrimmedWords (site : SiteM) (comp s : Str) (vl vd vf vc : Value) (w : World) (hv : SiteAt w vl vd vf vc site) (hcl : CapOK vl) (hcd : CapOK vd) (hcc : CapOK vc) (hc0 : comp.length <= 140737488351232) (hs0 : s.length <= 140737488351232) :
  Calls Tryz.prog 3 #[.agg #[vl, vd, vf, vc], .string (B comp), .string (B s)] w fun e w' => e = .returned (.bool true) /\ Below w.heap.size w w' := by
 have HZ : Hid (∀ wx, SiteAt wx vl vd vf vc site -> Calls Tryz.prog 12 #[.agg #[vl, vd, vf, vc]] wx fun e w' => e = .returned (.bool (siteFits site)) /\ Below wx.heap.size wx w') := fun wx h => c_zzFits1 site vl vd vf vc wx h
 have HSH : Hid (siteFits site = true -> comp.length <= 2147483647 -> s.length <= 2147483647 -> ∀ wx, SiteAt wx vl vd vf vc site -> Calls Tryz.prog 13 #[.agg #[vl, vd, vf, vc], .string (B comp), .string (B s)] wx fun e w' => e = .returned (.bool (shortL site comp s)) /\ Below wx.heap.size wx w') := fun hf hc hs wx h => c_short site comp s vl vd vf vc wx h hf hc hs
 have HPK : Hid (siteFits site = true -> comp.length <= 2147483647 -> s.length <= 2147483647 -> ∀ wx, SiteAt wx vl vd vf vc site -> Calls Tryz.prog 14 #[.agg #[vl, vd, vf, vc], .string (B comp), .string (B s)] wx fun e w' => e = .returned (.bool (pathKnown site comp s && (pathOf s false != [47]))) /\ Below wx.heap.size wx w') := fun hf hc hs wx h => c_TrimKnown site comp s vl vd vf vc wx h hcl hcd hcc hf hc hs
 obtain ⟨TT, hTT⟩ : ∃ T, T = toldM { (doParseM site comp (normL s)) with trim := true } := ⟨_, rfl⟩
 obtain ⟨TU, hTU⟩ : ∃ T, T = trimS (specParse site comp s) := ⟨_, rfl⟩
 have HSW : Hid (pathKnown site comp s = true -> SameWords TT TU /\ TU.langs = TT.langs /\ TU.ids = TT.ids /\ TU.unknown = TT.unknown) := fun hk => by
  rw [hTT, hTU, <- parse_eq hk]
  exact ⟨⟨rfl, rfl, rfl, rfl, rfl, rfl, rfl⟩, rfl, rfl, rfl⟩
 have HIU : Hid (pathKnown site comp s = true -> ∀ wx, Below w.heap.size w wx -> Calls Tryz.prog 15 #[.agg #[vl, vd, vf, vc], .string (B comp), .string (B s)] wx fun e w' => ∃ v, e = .returned v /\ ToldAtN wx.heap.size w' v TT /\ Below wx.heap.size wx w') := fun hk wx h => by
  obtain ⟨h1, h2, h3, h4, h5⟩ := pathKnown_site hk
  rw [hTT]
  exact c_implTrimmed wx site comp s vl vd vf vc (hv.below h) (siteKnown_once h1) (by omega) h3
 have HSU : Hid (comp.length <= 2147483647 -> pathKnown site comp s = true -> ∀ wx, Below w.heap.size w wx -> Calls Tryz.prog 16 #[.agg #[vl, vd, vf, vc], .string (B comp), .string (B s)] wx fun e w' => ∃ v, e = .returned v /\ ToldAtN wx.heap.size w' v TU /\ Below wx.heap.size wx w') := fun hc hk wx h => by
  obtain ⟨h1, h2, h3, h4, h5⟩ := pathKnown_site hk
  rw [hTU]
  exact c_specTrimmed site comp s vl vd vf vc wx (hv.below h) hc (by omega)
 clear hTT hTU
 obtain ⟨obs, hobs⟩ : ∃ o : Obj, o = .cells #[vl, vd, vf, vc] 25 := ⟨_, rfl⟩
 have hB1 : Hid (Below w.heap.size w (w.alloc obs)) := Below_alloc w obs
 have hsb : Hid ((w.alloc obs).heap[w.heap.size]? = some (.cells #[vl, vd, vf, vc] 25)) := by show _ = _; rw [hobs]; exact blk_new w _
 have HV1 : Hid (SiteAt (w.alloc obs) vl vd vf vc site) := hv.alloc obs
 clear hv hcl hcd hcc
 cases h1 : siteFits site with
 | false =>
  rw [h1] at HZ
  go_enter Tryz.func3, Tryz.ntmps3
  go_wp2_with fail
  rw [<- hobs]
  generalize w.alloc obs = w1 at hB1 hsb HV1 |-
  refine (HZ.out _ HV1.out).mono ?_; rintro e w2 ⟨rfl, b2⟩
  have hB2 := Lib.hid (belowThen hB1.out b2 (Nat.le_refl _))
  go_wp2_with fail
  go_ret
  exact ⟨rfl, hB2.out⟩
 | true =>
 rw [h1] at HZ
 by_cases h2 : comp.length <= 2147483647
 rotate_left 1
 ·skip
  go_enter Tryz.func3, Tryz.ntmps3
  go_wp2_with fail
  rw [<- hobs]
  generalize w.alloc obs = w1 at hB1 hsb HV1 |-
  refine (HZ.out _ HV1.out).mono ?_; rintro e w2 ⟨rfl, b2⟩
  have hB2 := Lib.hid (belowThen hB1.out b2 (Nat.le_refl _))
  go_wp2_with fail
  go_ret
  exact ⟨rfl, hB2.out⟩
 by_cases h3 : s.length <= 2147483647
 rotate_left 1
 ·skip
  go_enter Tryz.func3, Tryz.ntmps3
  go_wp2_with fail
  rw [<- hobs]
  generalize w.alloc obs = w1 at hB1 hsb HV1 |-
  refine (HZ.out _ HV1.out).mono ?_; rintro e w2 ⟨rfl, b2⟩
  have hB2 := Lib.hid (belowThen hB1.out b2 (Nat.le_refl _))
  go_wp2_with fail
  go_ret
  exact ⟨rfl, hB2.out⟩
 go_enter Tryz.func3, Tryz.ntmps3
 go_wp2_with fail
 rw [<- hobs]
 generalize w.alloc obs = w1 at hB1 hsb HV1 |-
 refine (HZ.out _ HV1.out).mono ?_; rintro e w2 ⟨rfl, b2⟩
 have hB2 := Lib.hid (belowThen hB1.out b2 (Nat.le_refl _))
 have hsb2 := Lib.hid (blk_below hsb.out b2)
 have HV2 := Lib.hid (HV1.out.below b2)
 obtain ⟨k0, k1, k2, k3⟩ : w2.cell? ⟨w.heap.size, 0, none⟩ = some vl /\ w2.cell? ⟨w.heap.size, 1, none⟩ = some vd /\ w2.cell? ⟨w.heap.size, 2, none⟩ = some vf /\ w2.cell? ⟨w.heap.size, 3, none⟩ = some vc := ⟨cell_blk hsb2.out 0, cell_blk hsb2.out 1, cell_blk hsb2.out 2, cell_blk hsb2.out 3⟩
 clear b2 hsb HV1 hB1 HZ hobs
 go_wp2_with fail
 refine (HSH.out h1 h2 h3 _ HV2.out).mono ?_; rintro e w3 ⟨rfl, b3⟩
 have hB3 := Lib.hid (belowThen hB2.out b3 (Nat.le_refl _))
 have hsb3 := Lib.hid (blk_below hsb2.out b3)
 have HV3 := Lib.hid (HV2.out.below b3)
 clear k0 k1 k2 k3 b3 hsb2 HV2 HSH hB2
 obtain ⟨k0, k1, k2, k3⟩ : w3.cell? ⟨w.heap.size, 0, none⟩ = some vl /\ w3.cell? ⟨w.heap.size, 1, none⟩ = some vd /\ w3.cell? ⟨w.heap.size, 2, none⟩ = some vf /\ w3.cell? ⟨w.heap.size, 3, none⟩ = some vc := ⟨cell_blk hsb3.out 0, cell_blk hsb3.out 1, cell_blk hsb3.out 2, cell_blk hsb3.out 3⟩
 cases h4 : shortL site comp s with
 | false =>
  go_wp2_with fail
  go_ret
  exact ⟨rfl, hB3.out⟩
 | true =>
 go_wp2_with fail
 refine (HPK.out h1 h2 h3 _ HV3.out).mono ?_; rintro e w4 ⟨rfl, b4⟩
 have hB4 := Lib.hid (belowThen hB3.out b4 (Nat.le_refl _))
 have hsb4 := Lib.hid (blk_below hsb3.out b4)
 clear k0 k1 k2 k3 b4 hsb3 HV3 HPK hB3
 obtain ⟨k0, k1, k2, k3⟩ : w4.cell? ⟨w.heap.size, 0, none⟩ = some vl /\ w4.cell? ⟨w.heap.size, 1, none⟩ = some vd /\ w4.cell? ⟨w.heap.size, 2, none⟩ = some vf /\ w4.cell? ⟨w.heap.size, 3, none⟩ = some vc := ⟨cell_blk hsb4.out 0, cell_blk hsb4.out 1, cell_blk hsb4.out 2, cell_blk hsb4.out 3⟩
 cases h5 : (pathKnown site comp s && (pathOf s false != [47])) with
 | false =>
  go_wp2_with fail
  go_ret
  exact ⟨rfl, hB4.out⟩
 | true =>
 go_upto_region 5 with fail
 have hz4 : w.heap.size < w4.drew.heap.size := lt_of_block hsb4.out
 have hS0 : (w4.drew.cell? ⟨w.heap.size, 0, none⟩ = some vl /\ w4.drew.cell? ⟨w.heap.size, 1, none⟩ = some vd /\ w4.drew.cell? ⟨w.heap.size, 2, none⟩ = some vf /\ w4.drew.cell? ⟨w.heap.size, 3, none⟩ = some vc) /\ Below w.heap.size w w4.drew := ⟨⟨k0, k1, k2, k3⟩, hB4.out.trans ((Below_drewN (Below.refl _ _) 1).mono hB4.out.size)⟩
 refine wp_region_held (S := fun w' => (w'.cell? ⟨w.heap.size, 0, none⟩ = some vl /\ w'.cell? ⟨w.heap.size, 1, none⟩ = some vd /\ w'.cell? ⟨w.heap.size, 2, none⟩ = some vf /\ w'.cell? ⟨w.heap.size, 3, none⟩ = some vc) /\ Below w.heap.size w w') (by kernel_rfl) ?_
 change wpAnyH _ _ _ _ _ _ _ _ w4.drew
 clear k0 k1 k2 k3 hB4 hsb4
 generalize w4.drew = w5 at hS0 hz4 |-
 have hk5 : pathKnown site comp s = true := (Bool.and_eq_true _ _ ▸ h5).1
 have HI2 := Lib.hid (HIU.out hk5)
 have HS2 := Lib.hid (HSU.out h2 hk5)
 obtain ⟨HW1, HW2, HW3, HW4⟩ := HSW.out hk5
 replace HW1 := Lib.hid HW1
 replace HW2 := Lib.hid HW2
 replace HW3 := Lib.hid HW3
 replace HW4 := Lib.hid HW4
 clear HIU HSU HSW h1 h2 h3 hc0 hs0 h4 h5 hk5
 refine wpAnyH_take (i := 0) (v := .agg #[vl, vd, vf, vc]) rfl (by kernel_rfl) (by kernel_rfl) (by kernel_rfl) (fun _ _ _ h => h) (Or.inl ⟨by rfl, fun w' hw' => by obtain ⟨⟨j0, j1, j2, j3⟩, -⟩ := hw'; go_simp⟩) hS0 ?_
 try simp only [List.getElem_toArray, List.getElem_cons_succ, List.getElem_cons_zero, Act.put, List.setIfInBounds_toArray, List.set_cons_zero, List.set_cons_succ]
 refine wpAnyH_take (i := 1) (v := .string (B comp)) rfl (by kernel_rfl) (by kernel_rfl) (by kernel_rfl) (fun _ _ _ h => h) (Or.inl ⟨by rfl, fun w' hw' => by go_simp⟩) hS0 ?_
 try simp only [List.getElem_toArray, List.getElem_cons_succ, List.getElem_cons_zero, Act.put, List.setIfInBounds_toArray, List.set_cons_zero, List.set_cons_succ]
 refine wpAnyH_take (i := 2) (v := .string (B s)) rfl (by kernel_rfl) (by kernel_rfl) (by kernel_rfl) (fun _ _ _ h => h) (Or.inl ⟨by rfl, fun w' hw' => by go_simp⟩) hS0 ?_
 try simp only [List.getElem_toArray, List.getElem_cons_succ, List.getElem_cons_zero, Act.put, List.setIfInBounds_toArray, List.set_cons_zero, List.set_cons_succ]
 refine wpAnyH_take (i := 4) (v := .agg #[vl, vd, vf, vc]) rfl (by kernel_rfl) (by kernel_rfl) (by kernel_rfl) (fun _ _ _ h => h) (Or.inl ⟨by rfl, fun w' hw' => by obtain ⟨⟨j0, j1, j2, j3⟩, -⟩ := hw'; go_simp⟩) hS0 ?_
 try simp only [List.getElem_toArray, List.getElem_cons_succ, List.getElem_cons_zero, Act.put, List.setIfInBounds_toArray, List.set_cons_zero, List.set_cons_succ]
 refine wpAnyH_take (i := 5) (v := .string (B comp)) rfl (by kernel_rfl) (by kernel_rfl) (by kernel_rfl) (fun _ _ _ h => h) (Or.inl ⟨by rfl, fun w' hw' => by go_simp⟩) hS0 ?_
 try simp only [List.getElem_toArray, List.getElem_cons_succ, List.getElem_cons_zero, Act.put, List.setIfInBounds_toArray, List.set_cons_zero, List.set_cons_succ]
 refine wpAnyH_take (i := 6) (v := .string (B s)) rfl (by kernel_rfl) (by kernel_rfl) (by kernel_rfl) (fun _ _ _ h => h) (Or.inl ⟨by rfl, fun w' hw' => by go_simp⟩) hS0 ?_
 try simp only [List.getElem_toArray, List.getElem_cons_succ, List.getElem_cons_zero, Act.put, List.setIfInBounds_toArray, List.set_cons_zero, List.set_cons_succ]
 change wpAnyH _ _ _ _ _ 6 (Two.l0 ⟨3, 7, 8, 9, #[true, true, true, false, true, true, true, false, false, false, false, false]⟩) _ _
 refine two_start ⟨3, 7, 8, 9, #[true, true, true, false, true, true, true, false, false, false, false, false]⟩ _ (some 37) (some 41) (some 7) (some 8) (fun r1 r2 b1 b2 w' => AsksV w vl vd vf vc TT TU r1 r2 b1 b2 w') (by simp) (by simp) (by simp) (by simp) (by simp) (by simp) (by kernel_rfl) (fun _ _ _ _ _ g => g.a.st) ?hc1 ?hc2 ?ha1 ?ha2 ?hfin w5 ⟨⟨hz4, hS0, fun v h => (by cases h), fun v h => (by cases h), fun v h => (by cases h), fun v h => (by cases h), fun v v' h => (by cases h)⟩, fun v h => (by cases h), fun v h => (by cases h)⟩
 case hc1 =>
  intro b1 b2 wx g
  refine wpOp_enter rfl rfl 15 #[.agg #[vl, vd, vf, vc], .string (B comp), .string (B s)] (run_call3 rfl ((eval_actT (by decide) (by decide) (by decide) (by decide)).trans rfl) ((eval_actT (by decide) (by decide) (by decide) (by decide)).trans rfl) ((eval_actT (by decide) (by decide) (by decide) (by decide)).trans rfl) (by kernel_rfl)) ?_
  refine (HI2.out _ g.a.st.2).mono ?_; rintro ex wy ⟨v, rfl, hT, by_⟩
  exact ⟨v, rfl, v, rfl, g.tell1 by_ hT⟩
 case hc2 =>
  intro v1 b1 b2 wx g
  refine wpOp_enter rfl rfl 16 #[.agg #[vl, vd, vf, vc], .string (B comp), .string (B s)] (run_call3 rfl ((eval_actT (by decide) (by decide) (by decide) (by decide)).trans rfl) ((eval_actT (by decide) (by decide) (by decide) (by decide)).trans rfl) ((eval_actT (by decide) (by decide) (by decide) (by decide)).trans rfl) (by kernel_rfl)) ?_
  refine (HS2.out _ g.a.st.2).mono ?_; rintro ex wy ⟨v, rfl, hT, by_⟩
  exact ⟨v, rfl, v, rfl, g.tell2 by_ hT⟩
 case ha1 =>
  intro r1 r2 b2 wx g
  exact wpOp_run rfl rfl _ _ run_newTold ⟨_, rfl, g.new1⟩
 case ha2 =>
  intro r1 r2 b1 wx g
  exact wpOp_run rfl rfl _ _ run_newTold ⟨_, rfl, g.new2⟩
 case hfin =>
  intro v u b b' wx g
  obtain ⟨⟨-, ⟨⟨k0, k1, k2, k3⟩, hB⟩, -, -, g1, g2, ne⟩, f1, f2⟩ := g
  have F1 := f1 v rfl
  have F2 := f2 u rfl
  obtain ⟨p, rfl, hp, hpb⟩ := g1 b rfl
  obtain ⟨q, rfl, hq, hqb⟩ := g2 b' rfl
  have hpq : p ≠ q := fun e => ne _ _ rfl rfl (by rw [e])
  clear g1 g2 f1 f2 ne
  obtain ⟨vl1, vi1, vu1, rfl, x1, x2, x3⟩ := F1
  obtain ⟨vl2, vi2, vu2, rfl, y1, y2, y3⟩ := F2
  obtain ⟨a1, l1, c1, rfl⟩ := x1.1.slice
  obtain ⟨a2, l2, c2, rfl⟩ := x2.1.slice
  obtain ⟨a3, l3, c3, rfl⟩ := x3.1.slice
  obtain ⟨d1, m1, e1, rfl⟩ := y1.1.slice
  obtain ⟨d2, m2, e2, rfl⟩ := y2.1.slice
  obtain ⟨d3, m3, e3, rfl⟩ := y3.1.slice
  obtain ⟨cs, hcs, hsz, hone⟩ := told_cells TT a1 a2 a3 l1 l2 l3 c1 c2 c3
  obtain ⟨ds, hds, hdz, hdone⟩ := told_cells TU d1 d2 d3 m1 m2 m3 e1 e2 e3
  rw [hcs, hds]
  have hcl : Hid (cs = cs) := rfl
  try simp only [List.getElem_toArray, List.getElem_cons_succ, List.getElem_cons_zero, Act.put, List.setIfInBounds_toArray, List.set_cons_zero, List.set_cons_succ]
  refine wpAnyH_all (rs := [10]) (by kernel_rfl) (by simp) ?_
  intro i hi
  obtain rfl := List.mem_singleton.1 hi
  have p1 := setRow_heap wx p _ cs _ _ hpb
  have p2 : (wx.setRow p cs).heap[q]? = _ := (setRow_other wx p q cs (by omega)).trans hqb
  have pb : Below w.heap.size w (wx.setRow p cs) := hB.trans ⟨rfl, rfl, rfl, by simp, fun k hk => setRow_other _ _ _ _ (by omega)⟩
  have pk : ∀ o, (wx.setRow p cs).cell? ⟨w.heap.size, o, none⟩ = wx.cell? ⟨w.heap.size, o, none⟩ := fun o => by unfold World.cell?; rw [setRow_other wx p w.heap.size cs (by omega)]
  have hS1 : ((wx.setRow p cs).cell? ⟨w.heap.size, 0, none⟩ = some vl /\ (wx.setRow p cs).cell? ⟨w.heap.size, 1, none⟩ = some vd /\ (wx.setRow p cs).cell? ⟨w.heap.size, 2, none⟩ = some vf /\ (wx.setRow p cs).cell? ⟨w.heap.size, 3, none⟩ = some vc) /\ Below w.heap.size w (wx.setRow p cs) := ⟨⟨(pk 0).trans k0, (pk 1).trans k1, (pk 2).trans k2, (pk 3).trans k3⟩, pb⟩
  have cp : Cells (some (.pointer (some ⟨p, 0, none⟩))) (some (.pointer (some ⟨q, 0, none⟩))) p := .inl rfl
  have cq : Cells (some (.pointer (some ⟨p, 0, none⟩))) (some (.pointer (some ⟨q, 0, none⟩))) q := .inr rfl
  have X1 := (x1.1.setRow2 (cs := cs) (x1.2 p cp)).setRow2 (cs := ds) (x1.2 q cq)
  have X2 := (x2.1.setRow2 (cs := cs) (x2.2 p cp)).setRow2 (cs := ds) (x2.2 q cq)
  have X3 := (x3.1.setRow2 (cs := cs) (x3.2 p cp)).setRow2 (cs := ds) (x3.2 q cq)
  have Y1 := (y1.1.setRow2 (cs := cs) (y1.2 p cp)).setRow2 (cs := ds) (y1.2 q cq)
  have Y2 := (y2.1.setRow2 (cs := cs) (y2.2 p cp)).setRow2 (cs := ds) (y2.2 q cq)
  have Y3 := (y3.1.setRow2 (cs := cs) (y3.2 p cp)).setRow2 (cs := ds) (y3.2 q cq)
  clear x1 x2 x3 y1 y2 y3 cp cq
  refine wpOp_storeRow rfl rfl 29 (.tmp 7) (.tmp 37) rfl rfl p cs rfl rfl 29 _ hpb (by rw [hsz]; kernel_rfl) (by rw [hsz]; rfl) hone ⟨hS1, ?_⟩
  clear k0 k1 k2 k3 pk hpb hqb hB
  generalize wx.setRow p cs = wy at p1 p2 pb hS1 X1 X2 X3 Y1 Y2 Y3 |-
  obtain ⟨⟨k0, k1, k2, k3⟩, -⟩ := hS1
  refine wpAnyH_all (rs := [11]) (by kernel_rfl) (by simp) ?_
  intro i hi
  obtain rfl := List.mem_singleton.1 hi
  have q1 : (wy.setRow q ds).heap[p]? = _ := (setRow_other wy q p ds (by omega)).trans p1
  have q2 := setRow_heap wy q _ ds _ _ p2
  have qb : Below w.heap.size w (wy.setRow q ds) := pb.trans ⟨rfl, rfl, rfl, by simp, fun k hk => setRow_other _ _ _ _ (by omega)⟩
  have pk : ∀ o, (wy.setRow q ds).cell? ⟨w.heap.size, o, none⟩ = wy.cell? ⟨w.heap.size, o, none⟩ := fun o => by unfold World.cell?; rw [setRow_other wy q w.heap.size ds (by omega)]
  have hS2 : ((wy.setRow q ds).cell? ⟨w.heap.size, 0, none⟩ = some vl /\ (wy.setRow q ds).cell? ⟨w.heap.size, 1, none⟩ = some vd /\ (wy.setRow q ds).cell? ⟨w.heap.size, 2, none⟩ = some vf /\ (wy.setRow q ds).cell? ⟨w.heap.size, 3, none⟩ = some vc) /\ Below w.heap.size w (wy.setRow q ds) := ⟨⟨(pk 0).trans k0, (pk 1).trans k1, (pk 2).trans k2, (pk 3).trans k3⟩, qb⟩
  refine wpOp_storeRow rfl rfl 29 (.tmp 8) (.tmp 41) rfl rfl q ds rfl rfl 29 _ p2 (by rw [hdz]; kernel_rfl) (by rw [hdz]; rfl) hdone ⟨hS2, ?_⟩
  clear k0 k1 k2 k3 pk p1 p2 pb hS2
  generalize wy.setRow q ds = wf at q1 q2 qb X1 X2 X3 Y1 Y2 Y3 |-
  refine wpAnyH_done (by kernel_rfl) ?_ _
  replace q1 := Lib.hid q1
  replace q2 := Lib.hid q2
  have hbel := Lib.hid qb
  replace X1 := Lib.hid X1
  replace X2 := Lib.hid X2
  replace X3 := Lib.hid X3
  replace Y1 := Lib.hid Y1
  replace Y2 := Lib.hid Y2
  replace Y3 := Lib.hid Y3
  replace hcs := Lib.hid hcs
  replace hds := Lib.hid hds
  replace hsz := Lib.hid hsz
  replace hdz := Lib.hid hdz
  clear qb hpq hp hq hone hdone hcl
  go_wp2_with (refine wpList_load_mid rfl 29 (.tmp 7) rfl p 0 rfl cs.toList _ (range_blk q1.out) Tryz.underlying29 rfl (by rw [Array.length_toList, hsz.out]; kernel_rfl) (Hid.out ?_))
  refine Lib.hid ?_
  go_wp2_with (refine wpList_load_mid rfl 29 (.tmp 8) rfl q 0 rfl ds.toList _ (range_blk q2.out) Tryz.underlying29 rfl (by rw [Array.length_toList, hdz.out]; kernel_rfl) (Hid.out ?_))
  refine Lib.hid ?_
  go_wp2_with fail
  rw [<- hcs.out, <- hds.out]
  refine (c_words2 TT TU HW1.out _ _ _ _ _ _ wf).mono ?_; rintro ex wg ⟨rfl, bg⟩
  have hbel2 := Lib.hid (belowThen hbel.out bg (Nat.le_refl _))
  have r1 := blk_below q1.out bg
  have r2 := blk_below q2.out bg
  have z1 : wg.cell? ⟨p, 21, none⟩ = some (.slice a1 l1 c1) := by rw [cell_blk r1, <- Value.agg.inj hcs.out]; rfl
  have z2 : wg.cell? ⟨p, 22, none⟩ = some (.slice a2 l2 c2) := by rw [cell_blk r1, <- Value.agg.inj hcs.out]; rfl
  have z3 : wg.cell? ⟨p, 23, none⟩ = some (.slice a3 l3 c3) := by rw [cell_blk r1, <- Value.agg.inj hcs.out]; rfl
  have u1 : wg.cell? ⟨q, 21, none⟩ = some (.slice d1 m1 e1) := by rw [cell_blk r2, <- Value.agg.inj hds.out]; rfl
  have u2 : wg.cell? ⟨q, 22, none⟩ = some (.slice d2 m2 e2) := by rw [cell_blk r2, <- Value.agg.inj hds.out]; rfl
  have u3 : wg.cell? ⟨q, 23, none⟩ = some (.slice d3 m3 e3) := by rw [cell_blk r2, <- Value.agg.inj hds.out]; rfl
  replace X1 := Lib.hid (X1.out.below bg)
  replace X2 := Lib.hid (X2.out.below bg)
  replace X3 := Lib.hid (X3.out.below bg)
  replace Y1 := Lib.hid (HW2.out ▸ Y1.out.below bg)
  replace Y2 := Lib.hid (HW3.out ▸ Y2.out.below bg)
  replace Y3 := Lib.hid (HW4.out ▸ Y3.out.below bg)
  clear r1 r2 q1 q2 bg hbel hcs hds hsz hdz
  go_wp2_with fail
  refine (c_texts TT.langs _ _ _ X1.out Y1.out).mono ?_; rintro ex w7 ⟨rfl, n7, rfl⟩
  go_wp2_with fail
  refine (c_texts TT.ids _ _ (wg.drewN n7) X2.out Y2.out).mono ?_; rintro ex w8 ⟨rfl, n8, rfl⟩
  go_wp2_with fail
  refine (c_texts TT.unknown _ _ (wg.drewN (n7 + n8)) X3.out Y3.out).mono ?_; rintro ex w9 ⟨rfl, n9, rfl⟩
  go_wp2_with fail
  go_ret
  exact ⟨rfl, Below_drewN hbel2.out (n7 + n8 + n9)⟩

end Go.Proofs.YtjkecadfakjanaaGreatDoor

namespace Go.Proofs.YtjkecadfakjanaaGreatDoor
open Go.ChangeShapes Go.WideShapes Go.ChangeAt Go.RowKit
open Go.ChangeMaps (open_string shut_string)

theorem own : ownKnob Tryz.prog.godebug = none := by kernel_rfl
theorem laidOut : laidOutB Tryz.prog = true := by kernel_rfl
theorem siteReads : Tryz.prog.readableRec 25 = true := by kernel_rfl
theorem siteRow : 25 < Tryz.prog.types.size := of_decide_eq_true (by kernel_rfl)

def laidAll' : List (String × DataW Unit) := Rows.fnTrimmedWordsRow.laid

set_option maxRecDepth 100000 in
theorem lifted1 (os : Os) (started : os.Started) (H : Type) (enc : TypeId × Value -> H) :
  ReturnsInHanded {} Tryz.checked os 3 .any (fun w args => (Rows.fnTrimmedWordsSpec.pre enc Tryz.prog Tryz.f3 Rows.fnTrimmedWordsRow.domain false w args /\ laidMetH Tryz.prog laidAll' w) /\ sizedMet enc Tryz.prog Tryz.f3 (OpenSpec.ofChange Rows.fnTrimmedWordsSpec) false w args)
   (Rows.fnTrimmedWordsSpec.post enc Tryz.prog Tryz.f3 false true false false) := by
 refine returnsInHanded_of_change_and (C := Tryz.checked) (X := fun w _ => laidMetH Tryz.prog laidAll' w) (fun _ _ _ hh h => h.of_heap hh) own started (by kernel_rfl) Tryz.func3
  (ChangeSpec.witness_shaped (enc := enc) (C := Tryz.checked) (os := os) (X := fun w _ => laidMetH Tryz.prog laidAll' w) false (World.laidAll Tryz.prog os laidAll') #[.agg #[.slice none 0 0, .slice none 0 0, .slice none 0 0, .slice none 0 0], .string ByteArray.empty, .string ByteArray.empty] 8 (World.laidAll_os _ _ _)
   (World.shaped_of_ZipB (by kernel_rfl) (by kernel_rfl)) (by kernel_rfl) (by kernel_rfl) (by kernel_rfl)
   (by rw [MakeChecks.laidMetH_plain _ _ _ (by kernel_rfl)]; exact laidMet_laidAll _ (by kernel_rfl) (by kernel_rfl))) ?_
 intro W base args ds gs before hval0 hW hc hsz0 _ _
 have hsz : (DataW.weightsEach Tryz.prog (Tryz.f3.params.toList ++ Rows.fnTrimmedWordsSpec.plain.varTypes Tryz.prog) (ds ++ gs)).all (· <= reachBytes) = true := hsz0
 have hval : ∀ (j : Nat) t v, Tryz.f3.params[j]? = some t -> args[j]? = some v -> Value.okWide Tryz.prog W .any base t v := hval0
 have hW' := hW
 obtain ⟨p, q, hA0, hV, rfl, _, _⟩ := hW
 have hA : DataW.TrodAll enc Tryz.prog W 0 (fun _ => true) true Tryz.f3.params.toList args.toList ds p := hA0
 rw [Tryz.params3] at hA hval hsz
 obtain ⟨v0, v1, v2, d0, d1, d2, p0, p1, p2, rfl, rfl, rfl, h0, h1, h2⟩ := trodAll_three hA
 obtain ⟨rfl, rfl⟩ := trodVars_none hV
 obtain ⟨a1, rfl, rfl, rfl, y1⟩ := open_string Tryz.underlying9 (hval 1 9 v1 rfl rfl) h1
 obtain ⟨a2, rfl, rfl, rfl, y2⟩ := open_string Tryz.underlying9 (hval 2 9 v2 rfl rfl) h2
 have w1 : a1.size <= 140737488351232 := by
  have z := sized_string hsz (j := 1) (t := 9) rfl rfl
  rw [Array.length_toList] at z
  exact z
 have w2 : a2.size <= 140737488351232 := by
  have z := sized_string hsz (j := 2) (t := 9) rfl rfl
  rw [Array.length_toList] at z
  exact z
 have w0 : ∀ n ∈ d0.weights Tryz.prog 25, n <= reachBytes := fun n hn => by
  have := List.all_eq_true.1 hsz n (DataW.weights_mem_each (j := 0) (t := 25) rfl rfl n hn)
  simpa using this
 obtain ⟨vl, vd, vf, vc, site, rfl, hs, cl, cd, cc⟩ := open_site h0 (hval 0 25 v0 rfl rfl) w0
 have hlt : ∀ x ∈ p0, x.block < W.heap.size := fun x hx => hW'.lt x (by simp [hx])
 obtain ⟨l1, rfl⟩ := B_surj a1
 obtain ⟨l2, rfl⟩ := B_surj a2
 rw [B_size] at w1 w2
 refine (w_FnTrimmedWords site l1 l2 vl vd vf vc W hs cl cd cc w1 w2).mono fun e W' ⟨he, bel⟩ => ?_
 subst he
 refine ⟨_, rfl, _, _, _, [], _, [], hW', trodAll_mk1 (shut_bool Tryz.underlying4 _), trodAll_mk3 (Below.trod laidOut siteReads siteRow h0 bel hlt) (shut_string Tryz.underlying9 y1) (shut_string Tryz.underlying9 y2), rfl, bel.frame _, fun h => by cases h⟩

theorem over1 : Rows.FnTrimmedWordsSaid :=
 OpenClaim.holds_of_wide 3 Tryz.f3 rfl rfl rfl rfl rfl rfl rfl ⟨rfl, rfl, rfl, rfl, rfl⟩ rfl rfl rfl rfl rfl (by kernel_rfl) Tryz.func3 (by kernel_rfl)
  (of_decide_eq_true (by kernel_rfl)) (by unfold Func.isWrapper; first | (rw [if_pos (by decide +kernel)]; kernel_rfl) | (rw [if_neg (by decide +kernel)]; exact ⟨rfl, rfl⟩))
  (fun os started H enc _ => lifted1 os started H enc)

theorem fnTrimmedWords_holds : Rows.FnTrimmedWordsCardSaid :=
 Claim7.holds_tied_plain_at .later [] [.data, .pinned, .pinned] true Rows.fnTrimmedWordsCard.stood.harness false over1 (fun _ h => by cases h) (by kernel_rfl) (fun _ h => by cases h) fnTrimmedWords_row_tie rfl ⟨rfl, rfl⟩ (by kernel_rfl) rfl
  (fun f fn hf hfn => by
   obtain rfl : f = 3 := Option.some.inj ((show Tryz.prog.funcNamed Rows.fnTrimmedWordsRow.func = some 3 by kernel_rfl).symm.trans hf) |>.symm
   obtain rfl : fn = Tryz.f3 := (Option.some.inj (Tryz.func3.symm.trans hfn)).symm
   exact ⟨by kernel_rfl, fun j t ht => by
    rw [Tryz.params3] at ht
    have hm : t ∈ [25, 9, 9] := by simpa using Array.mem_of_getElem? ht
    have hall : ([25, 9].all fun u => !Tryz.prog.wantsStandIn u) = true := by kernel_rfl
    exact (show Tryz.prog.wantsStandIn t = false by simpa using List.all_eq_true.1 hall t (by simp at hm |-; exact hm))⟩)
  (by kernel_rfl)
#print axioms fnTrimmedWords_holds
end Go.Proofs.YtjkecadfakjanaaGreatDoor
