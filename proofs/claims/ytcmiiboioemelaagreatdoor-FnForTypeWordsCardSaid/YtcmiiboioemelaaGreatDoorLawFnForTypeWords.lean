/- A path as one of another type, and without its leading slash: Path.ForType, Path.TrimLeadingSlash, impl.ForType, impl.Trimmed walked. Conditions: a site in memory that names each language once; a path of ASCII of at most 900000 bytes. Printed by gen_viewt.py. -/
import Derived.Test.YtcmiiboioemelaaGreatDoorParse
import Derived.Test.YtcmiiboioemelaaGreatDoorHelpM
import Derived.Test.YtcmiiboioemelaaGreatDoorSpecP
import Derived.Test.YtcmiiboioemelaaGreatDoorViewR
import Derived.Test.YtcmiiboioemelaaGreatDoorTwoT
import Derived.Test.YtcmiiboioemelaaGreatDoorEqM
import Derived.Test.YtcmiiboioemelaaGreatDoorOpen
import Derived.Test.YtcmiiboioemelaaGreatDoorRows
import Derived.Test.YtcmiiboioemelaaGreatDoorCards
import Derived.Test.YtcmiiboioemelaaGreatDoorTie
import Derived.ProofKit
import Derived.OpenShut
import Derived.ShutString
import Derived.ChangeOld
import Derived.SizedLaws
import Derived.LaidMore
import Derived.Lay
import Derived.SevenTiedAt
import Derived.Stop.Joined
import Derived.Carry
set_option maxRecDepth 100000
set_option linter.unusedVariables false
set_option linter.unusedSimpArgs false
namespace Go.Proofs.YtcmiiboioemelaaGreatDoor
open Go.RowKit
attribute [local go_sem] B_extract B_toList B_append

theorem PathOK.typed {p : PathS} (h : PathOK p) (t : Int) : PathOK { p with typ := t } := ⟨h.len, h.pos, h.hc, h.lc, h.sc, h.nm, h.kw, h.uw, h.kl, h.ul, h.ll, h.fm, h.la, h.k0⟩
theorem PathOK.trimmed {p : PathS} (h : PathOK p) : PathOK { p with trim := true } := ⟨h.len, h.pos, h.hc, h.lc, h.sc, h.nm, h.kw, h.uw, h.kl, h.ul, h.ll, h.fm, h.la, h.k0⟩
/-- A path is copied: its lists are the same, its own cells are new. -/
theorem PathAt.copied {w w' : World} {base b b' : Nat} {p q : PathS} {vk vu vl : Value} {un : Un} (h : PathAt w base b p vk vu vl un) (hb : Below w.heap.size w w') (hblk : w'.heap[b']? = some (.cells (pcells q vk vu vl un) 89 (0, 0))) (hk : q.known = p.known) (hu : q.unknown = p.unknown) (hl : q.langs = p.langs) (hbb : w.heap.size <= b') : PathAt w' base b' q vk vu vl un := by
 have h' := h.below hb
 refine ⟨hblk, by rw [hk]; exact h'.kn, by rw [hu]; exact h'.uk, by rw [hl]; exact h'.lg, h'.ne, h'.kp, ?_⟩
 have := lt_of_block h.blk
 have := h.lb
 omega
theorem c_forType (p : PathS) (vk vu vl : Value) (b2 : Nat) (t : Int) (w : World) (base b : Nat) (h : PathAt w base b p vk vu vl ⟨.pointer (some ⟨b2, 0, none⟩), none⟩) :
  Calls Tryz.prog 62 #[.agg (pcells p vk vu vl ⟨.pointer (some ⟨b2, 0, none⟩), none⟩), .int .i64 t] w fun e w' => ∃ b', e = .returned (.pointer (some ⟨b', 0, none⟩)) /\ PathAt w' base b' { p with typ := t } vk vu vl ⟨.pointer (some ⟨b2, 0, none⟩), none⟩ /\ Below w.heap.size w w' := by
 have hh := Lib.hid h
 obtain ⟨a1, c1, rfl, _⟩ := pairs_read h.kn
 obtain ⟨a2, c2, rfl, _⟩ := pairs_read h.uk
 obtain ⟨a3, c3, rfl, _⟩ := nats_read h.lg
 clear h
 unfold pcells
 go_enter Tryz.func62, Tryz.ntmps62
 go_wp2_with fail
 go_ret
 exact ⟨w.heap.size, rfl, hh.out.copied (Below_alloc w _) (blk_new w _) rfl rfl rfl (Nat.le_refl _), Below_alloc w _⟩
theorem c_trimLead (p : PathS) (vk vu vl : Value) (b2 : Nat) (w : World) (base b : Nat) (h : PathAt w base b p vk vu vl ⟨.pointer (some ⟨b2, 0, none⟩), none⟩) :
  Calls Tryz.prog 64 #[.agg (pcells p vk vu vl ⟨.pointer (some ⟨b2, 0, none⟩), none⟩)] w fun e w' => ∃ b', e = .returned (.pointer (some ⟨b', 0, none⟩)) /\ PathAt w' base b' { p with trim := true } vk vu vl ⟨.pointer (some ⟨b2, 0, none⟩), none⟩ /\ Below w.heap.size w w' := by
 have hh := Lib.hid h
 obtain ⟨a1, c1, rfl, _⟩ := pairs_read h.kn
 obtain ⟨a2, c2, rfl, _⟩ := pairs_read h.uk
 obtain ⟨a3, c3, rfl, _⟩ := nats_read h.lg
 clear h
 unfold pcells
 go_enter Tryz.func64, Tryz.ntmps64
 go_wp2_with fail
 go_ret
 exact ⟨w.heap.size, rfl, hh.out.copied (Below_alloc w _) (blk_new w _) rfl rfl rfl (Nat.le_refl _), Below_alloc w _⟩

set_option maxHeartbeats 4000000 in
theorem c_implForType (w : World) (site : SiteM) (comp s : Str) (vl vd vf vc : Value) (hs : SiteAt w vl vd vf vc site) (t : Int) (hn : Once site.languages) (hl : s.length <= 900000) (ha : asciiL s = true) :
  Calls Tryz.prog 31 #[.agg #[vl, vd, vf, vc], .string (B comp), .string (B s), .int .i64 t] w
   fun e w' => ∃ v, e = .returned v /\ ToldAtN w.heap.size w' v (toldM { (doParseM site comp (normL s)) with typ := t }) /\ Below w.heap.size w w' := by
 have HS := Lib.hid hs
 have HPR : Hid (∀ wx, SiteAt wx vl vd vf vc site -> Calls Tryz.prog 46 #[.agg #[vl, vd, vf, vc]] wx fun e w' => ∃ pb mb fb sb, e = .returned (.pointer (some ⟨pb, 0, none⟩)) /\ PPAt w' pb mb fb sb vl vd vf vc site /\ wx.heap.size <= pb /\ Below wx.heap.size wx w') := fun wx h => c_parser site vl vd vf vc wx h hn
 have HPA : Hid (∀ wx pb mb fb sb, PPAt wx pb mb fb sb vl vd vf vc site -> Calls Tryz.prog 57 #[.pointer (some ⟨pb, 0, none⟩), .string (B comp), .string (B s)] wx
   fun e w' => ∃ b b2, e = .returned (.pointer (some ⟨b, 0, none⟩)) /\ PathHere w' wx.heap.size b b2 (doParseM site comp (normL s)) /\ SomePath w' b2 (doParseM site comp s) /\ Below wx.heap.size wx w') := fun wx pb mb fb sb h => c_Parse wx comp s pb mb fb sb vl vd vf vc site h hl ha
 have ok : PathOK (doParseM site comp (normL s)) := doParse_ok site comp (normL s) (by rw [normL_len]; omega)
 have HTD : Hid (∀ wx base b vk vu vl1 un, PathAt wx base b { (doParseM site comp (normL s)) with typ := t } vk vu vl1 un -> Calls Tryz.prog 56 #[.pointer (some ⟨b, 0, none⟩)] wx fun e w' => ∃ v, e = .returned v /\ ToldAtN wx.heap.size w' v (toldM { (doParseM site comp (normL s)) with typ := t }) /\ Below wx.heap.size wx w') := fun wx base b vk vu vl1 un h => c_told _ wx base b vk vu vl1 un h (ok.typed t)
 have HFT : Hid (∀ wx base b vk vu vl1 b2, PathAt wx base b (doParseM site comp (normL s)) vk vu vl1 ⟨.pointer (some ⟨b2, 0, none⟩), none⟩ -> Calls Tryz.prog 62 #[.agg (pcells (doParseM site comp (normL s)) vk vu vl1 ⟨.pointer (some ⟨b2, 0, none⟩), none⟩), .int .i64 t] wx fun e w' => ∃ b', e = .returned (.pointer (some ⟨b', 0, none⟩)) /\ PathAt w' base b' { (doParseM site comp (normL s)) with typ := t } vk vu vl1 ⟨.pointer (some ⟨b2, 0, none⟩), none⟩ /\ Below wx.heap.size wx w') := fun wx base b vk vu vl1 b2 h => c_forType _ vk vu vl1 b2 t wx base b h
 generalize doParseM site comp (normL s) = P1 at HPA HTD HFT |-
 generalize doParseM site comp s = P2 at HPA
 obtain ⟨obj, ho⟩ : ∃ o : Obj, o = .cells #[.string (B []), .string (B []), .string (B []), .string (B []), .string (B []), .string (B []), .string (B []), .string (B []), .string (B []), .string (B []), .string (B []), .string (B []), .string (B []), .string (B []), .string (B []), .string (B []), .string (B []), .string (B []), .string (B []), .string (B []), .string (B []), .slice none 0 0, .slice none 0 0, .slice none 0 0, .bool false, .bool false, .bool false, .bool false, .bool false, .bool false, .int .i64 0] 28 := ⟨_, rfl⟩
 obtain ⟨obs, hobs⟩ : ∃ o : Obj, o = .cells #[vl, vd, vf, vc] 25 := ⟨_, rfl⟩
 have hb1 := Lib.hid (Below_alloc w obs)
 have hb2 := Lib.hid (Below_alloc (w.alloc obs) obj)
 have hz1 : (w.alloc obs).heap.size = w.heap.size + 1 := by simp
 have hz2 : ((w.alloc obs).alloc obj).heap.size = w.heap.size + 2 := by simp
 have hblk : Hid (((w.alloc obs).alloc obj).heap[w.heap.size + 1]? = some (.cells #[.string (B []), .string (B []), .string (B []), .string (B []), .string (B []), .string (B []), .string (B []), .string (B []), .string (B []), .string (B []), .string (B []), .string (B []), .string (B []), .string (B []), .string (B []), .string (B []), .string (B []), .string (B []), .string (B []), .string (B []), .string (B []), .slice none 0 0, .slice none 0 0, .slice none 0 0, .bool false, .bool false, .bool false, .bool false, .bool false, .bool false, .int .i64 0] 28)) := by
  have := blk_new (w.alloc obs) obj
  rw [hz1, ho] at this
  rw [ho]; exact this
 have hsb : Hid (((w.alloc obs).alloc obj).heap[w.heap.size]? = some (.cells #[vl, vd, vf, vc] 25)) := by
  have := blk_old (w.alloc obs) obj (blk_new w obs)
  rw [hobs] at this |-; exact this
 clear hs hn ha ok
 go_enter Tryz.func31, Tryz.ntmps31
 go_wp2_with fail
 rw [<- ho, <- hobs]
 have hsi2 : Hid (SiteAt ((w.alloc obs).alloc obj) vl vd vf vc site) := (HS.out.alloc obs).alloc obj
 generalize (w.alloc obs).alloc obj = w2 at hb2 hz2 hblk hsb hsi2 |-
 have hB2 : Hid (Below w.heap.size w w2) := hb1.out.trans (hb2.out.mono (by omega))
 clear hb1 hb2 HS
 refine (HPR.out _ hsi2.out).mono ?_; rintro e w3 ⟨pb, mb, fb, sb, rfl, hpp, hpb, hb3⟩
 replace hpp := Lib.hid hpp
 replace hpb := Lib.hid hpb
 have hB3 := Lib.hid (belowThen hB2.out hb3 (Nat.le_refl _))
 have hblk3 := Lib.hid (blk_below hblk.out hb3)
 clear HPR hsi2 hB2 hb3 hblk hsb
 go_wp2_with fail
 refine (HPA.out _ pb mb fb sb hpp.out).mono ?_; rintro e w4 ⟨b, b2, rfl, h1, h2, hb4⟩
 clear h2
 obtain ⟨vk, vu, vl1, hat⟩ := h1
 replace hat := Lib.hid hat
 have hB4 := Lib.hid (belowThen hB3.out hb4 (Nat.le_refl _))
 have hblk4 := Lib.hid (blk_below hblk3.out hb4)
 clear HPA hb4 hblk3 hpp hpb hB3
 obtain ⟨pc, hpc⟩ : ∃ c : List Value, c = (pcells P1 vk vu vl1 ⟨.pointer (some ⟨b2, 0, none⟩), none⟩).toList := ⟨_, rfl⟩
 have hr4 : Hid (w4.rangeAt b 0 pc) := by show World.rangeAt _ _ _ _; rw [hpc]; exact range_blk hat.out.blk
 have hpl : Hid (pc.length = 26) := by show _ = _; rw [hpc]; rfl
 have hpa : Hid (pc.toArray = pcells P1 vk vu vl1 ⟨.pointer (some ⟨b2, 0, none⟩), none⟩) := by show _ = _; rw [hpc]
 clear hpc
 go_wp2_with (refine wpList_load_g (by rfl) 89 (.tmp 14) rfl b 0 rfl pc _ hr4.out Tryz.underlying89 rfl (by rw [hpl.out]; kernel_rfl) (Hid.out ?_))
 refine Lib.hid ?_
 go_wp2_with fail
 rw [hpa.out]
 refine (HFT.out _ _ _ _ _ _ _ hat.out).mono ?_; rintro e w4' ⟨b', rfl, hat', hb4'⟩
 replace hat := Lib.hid hat'
 replace hB4 := Lib.hid (belowThen hB4.out hb4' (Nat.le_refl _))
 replace hblk4 := Lib.hid (blk_below hblk4.out hb4')
 clear HFT hb4' hat' hr4 hpl hpa
 go_wp2_with fail
 refine (HTD.out _ _ _ _ _ _ _ hat.out).mono ?_; rintro e w5 ⟨v, rfl, ⟨ql, qi, qu, rfl, ⟨s1, n1⟩, ⟨s2, n2⟩, ⟨s3, n3⟩⟩, hb5⟩
 have hsz4 : w.heap.size + 2 <= w4'.heap.size := by have := lt_of_block hblk4.out; omega
 have hB5 := Lib.hid (belowThen hB4.out hb5 (Nat.le_refl _))
 have hblk5 := Lib.hid (blk_below hblk4.out hb5)
 obtain ⟨a1, l1, c1, rfl⟩ := s1.slice
 obtain ⟨a2, l2, c2, rfl⟩ := s2.slice
 obtain ⟨a3, l3, c3, rfl⟩ := s3.slice
 obtain ⟨cs, hcs, hsz, hone⟩ := told_cells (toldM { P1 with typ := t }) a1 a2 a3 l1 l2 l3 c1 c2 c3
 rw [hcs]
 replace hcs := Lib.hid hcs
 replace s1 := Lib.hid s1
 replace s2 := Lib.hid s2
 replace s3 := Lib.hid s3
 replace n1 : Hid (NewRow (w.heap.size + 2) _) := n1.mono hsz4
 replace n2 : Hid (NewRow (w.heap.size + 2) _) := n2.mono hsz4
 replace n3 : Hid (NewRow (w.heap.size + 2) _) := n3.mono hsz4
 clear HTD hb5 hat hblk4 hB4 hsz4
 rename_i hK
 refine hK _ _ ?_
 refine wpList_store_row rfl 28 (.tmp 8) (.tmp 18) rfl (w.heap.size + 1) cs ?_ ?_ 28 _ hblk5.out ?_ ?_ ?_ ?_
 ·rfl
 ·rfl
 ·rw [hsz]; kernel_rfl
 ·rw [hsz]; rfl
 ·exact hone
 have hrow := Lib.hid (setRow_heap w5 (w.heap.size + 1) _ cs _ _ hblk5.out)
 have hbel : Hid (Below w.heap.size w (w5.setRow (w.heap.size + 1) cs)) := hB5.out.trans ⟨rfl, rfl, rfl, by simp, fun k hk => setRow_other _ _ _ _ (by omega)⟩
 have t1 := Lib.hid (s1.out.setRow (g := w.heap.size + 1) (cs := cs) n1.out (by omega))
 have t2 := Lib.hid (s2.out.setRow (g := w.heap.size + 1) (cs := cs) n2.out (by omega))
 have t3 := Lib.hid (s3.out.setRow (g := w.heap.size + 1) (cs := cs) n3.out (by omega))
 generalize w5.setRow _ _ = wf at hrow hbel t1 t2 t3 |-
 go_wp2_with fail
 refine bodyPost_ret (results_cell (w.heap.size + 1) rfl rfl (run_loadVar_row wf (w.heap.size + 1) _ 28 cs _ _ hrow.out Tryz.underlying28 rfl (by rw [hsz]; kernel_rfl))) rfl ?_
 exact ⟨_, rfl, ⟨_, _, _, hcs.out.symm, ⟨t1.out, n1.out.mono (by omega)⟩, ⟨t2.out, n2.out.mono (by omega)⟩, ⟨t3.out, n3.out.mono (by omega)⟩⟩, hbel.out⟩


set_option maxHeartbeats 4000000 in
theorem c_implTrimmed (w : World) (site : SiteM) (comp s : Str) (vl vd vf vc : Value) (hs : SiteAt w vl vd vf vc site) (hn : Once site.languages) (hl : s.length <= 900000) (ha : asciiL s = true) :
  Calls Tryz.prog 36 #[.agg #[vl, vd, vf, vc], .string (B comp), .string (B s)] w
   fun e w' => ∃ v, e = .returned v /\ ToldAtN w.heap.size w' v (toldM { (doParseM site comp (normL s)) with trim := true }) /\ Below w.heap.size w w' := by
 have HS := Lib.hid hs
 have HPR : Hid (∀ wx, SiteAt wx vl vd vf vc site -> Calls Tryz.prog 46 #[.agg #[vl, vd, vf, vc]] wx fun e w' => ∃ pb mb fb sb, e = .returned (.pointer (some ⟨pb, 0, none⟩)) /\ PPAt w' pb mb fb sb vl vd vf vc site /\ wx.heap.size <= pb /\ Below wx.heap.size wx w') := fun wx h => c_parser site vl vd vf vc wx h hn
 have HPA : Hid (∀ wx pb mb fb sb, PPAt wx pb mb fb sb vl vd vf vc site -> Calls Tryz.prog 57 #[.pointer (some ⟨pb, 0, none⟩), .string (B comp), .string (B s)] wx
   fun e w' => ∃ b b2, e = .returned (.pointer (some ⟨b, 0, none⟩)) /\ PathHere w' wx.heap.size b b2 (doParseM site comp (normL s)) /\ SomePath w' b2 (doParseM site comp s) /\ Below wx.heap.size wx w') := fun wx pb mb fb sb h => c_Parse wx comp s pb mb fb sb vl vd vf vc site h hl ha
 have ok : PathOK (doParseM site comp (normL s)) := doParse_ok site comp (normL s) (by rw [normL_len]; omega)
 have HTD : Hid (∀ wx base b vk vu vl1 un, PathAt wx base b { (doParseM site comp (normL s)) with trim := true } vk vu vl1 un -> Calls Tryz.prog 56 #[.pointer (some ⟨b, 0, none⟩)] wx fun e w' => ∃ v, e = .returned v /\ ToldAtN wx.heap.size w' v (toldM { (doParseM site comp (normL s)) with trim := true }) /\ Below wx.heap.size wx w') := fun wx base b vk vu vl1 un h => c_told _ wx base b vk vu vl1 un h ok.trimmed
 have HFT : Hid (∀ wx base b vk vu vl1 b2, PathAt wx base b (doParseM site comp (normL s)) vk vu vl1 ⟨.pointer (some ⟨b2, 0, none⟩), none⟩ -> Calls Tryz.prog 64 #[.agg (pcells (doParseM site comp (normL s)) vk vu vl1 ⟨.pointer (some ⟨b2, 0, none⟩), none⟩)] wx fun e w' => ∃ b', e = .returned (.pointer (some ⟨b', 0, none⟩)) /\ PathAt w' base b' { (doParseM site comp (normL s)) with trim := true } vk vu vl1 ⟨.pointer (some ⟨b2, 0, none⟩), none⟩ /\ Below wx.heap.size wx w') := fun wx base b vk vu vl1 b2 h => c_trimLead _ vk vu vl1 b2 wx base b h
 generalize doParseM site comp (normL s) = P1 at HPA HTD HFT |-
 generalize doParseM site comp s = P2 at HPA
 obtain ⟨obj, ho⟩ : ∃ o : Obj, o = .cells #[.string (B []), .string (B []), .string (B []), .string (B []), .string (B []), .string (B []), .string (B []), .string (B []), .string (B []), .string (B []), .string (B []), .string (B []), .string (B []), .string (B []), .string (B []), .string (B []), .string (B []), .string (B []), .string (B []), .string (B []), .string (B []), .slice none 0 0, .slice none 0 0, .slice none 0 0, .bool false, .bool false, .bool false, .bool false, .bool false, .bool false, .int .i64 0] 28 := ⟨_, rfl⟩
 obtain ⟨obs, hobs⟩ : ∃ o : Obj, o = .cells #[vl, vd, vf, vc] 25 := ⟨_, rfl⟩
 have hb1 := Lib.hid (Below_alloc w obs)
 have hb2 := Lib.hid (Below_alloc (w.alloc obs) obj)
 have hz1 : (w.alloc obs).heap.size = w.heap.size + 1 := by simp
 have hz2 : ((w.alloc obs).alloc obj).heap.size = w.heap.size + 2 := by simp
 have hblk : Hid (((w.alloc obs).alloc obj).heap[w.heap.size + 1]? = some (.cells #[.string (B []), .string (B []), .string (B []), .string (B []), .string (B []), .string (B []), .string (B []), .string (B []), .string (B []), .string (B []), .string (B []), .string (B []), .string (B []), .string (B []), .string (B []), .string (B []), .string (B []), .string (B []), .string (B []), .string (B []), .string (B []), .slice none 0 0, .slice none 0 0, .slice none 0 0, .bool false, .bool false, .bool false, .bool false, .bool false, .bool false, .int .i64 0] 28)) := by
  have := blk_new (w.alloc obs) obj
  rw [hz1, ho] at this
  rw [ho]; exact this
 have hsb : Hid (((w.alloc obs).alloc obj).heap[w.heap.size]? = some (.cells #[vl, vd, vf, vc] 25)) := by
  have := blk_old (w.alloc obs) obj (blk_new w obs)
  rw [hobs] at this |-; exact this
 clear hs hn ha ok
 go_enter Tryz.func36, Tryz.ntmps36
 go_wp2_with fail
 rw [<- ho, <- hobs]
 have hsi2 : Hid (SiteAt ((w.alloc obs).alloc obj) vl vd vf vc site) := (HS.out.alloc obs).alloc obj
 generalize (w.alloc obs).alloc obj = w2 at hb2 hz2 hblk hsb hsi2 |-
 have hB2 : Hid (Below w.heap.size w w2) := hb1.out.trans (hb2.out.mono (by omega))
 clear hb1 hb2 HS
 refine (HPR.out _ hsi2.out).mono ?_; rintro e w3 ⟨pb, mb, fb, sb, rfl, hpp, hpb, hb3⟩
 replace hpp := Lib.hid hpp
 replace hpb := Lib.hid hpb
 have hB3 := Lib.hid (belowThen hB2.out hb3 (Nat.le_refl _))
 have hblk3 := Lib.hid (blk_below hblk.out hb3)
 clear HPR hsi2 hB2 hb3 hblk hsb
 go_wp2_with fail
 refine (HPA.out _ pb mb fb sb hpp.out).mono ?_; rintro e w4 ⟨b, b2, rfl, h1, h2, hb4⟩
 clear h2
 obtain ⟨vk, vu, vl1, hat⟩ := h1
 replace hat := Lib.hid hat
 have hB4 := Lib.hid (belowThen hB3.out hb4 (Nat.le_refl _))
 have hblk4 := Lib.hid (blk_below hblk3.out hb4)
 clear HPA hb4 hblk3 hpp hpb hB3
 obtain ⟨pc, hpc⟩ : ∃ c : List Value, c = (pcells P1 vk vu vl1 ⟨.pointer (some ⟨b2, 0, none⟩), none⟩).toList := ⟨_, rfl⟩
 have hr4 : Hid (w4.rangeAt b 0 pc) := by show World.rangeAt _ _ _ _; rw [hpc]; exact range_blk hat.out.blk
 have hpl : Hid (pc.length = 26) := by show _ = _; rw [hpc]; rfl
 have hpa : Hid (pc.toArray = pcells P1 vk vu vl1 ⟨.pointer (some ⟨b2, 0, none⟩), none⟩) := by show _ = _; rw [hpc]
 clear hpc
 go_wp2_with (refine wpList_load_g (by rfl) 89 (.tmp 12) rfl b 0 rfl pc _ hr4.out Tryz.underlying89 rfl (by rw [hpl.out]; kernel_rfl) (Hid.out ?_))
 refine Lib.hid ?_
 go_wp2_with fail
 rw [hpa.out]
 refine (HFT.out _ _ _ _ _ _ _ hat.out).mono ?_; rintro e w4' ⟨b', rfl, hat', hb4'⟩
 replace hat := Lib.hid hat'
 replace hB4 := Lib.hid (belowThen hB4.out hb4' (Nat.le_refl _))
 replace hblk4 := Lib.hid (blk_below hblk4.out hb4')
 clear HFT hb4' hat' hr4 hpl hpa
 go_wp2_with fail
 refine (HTD.out _ _ _ _ _ _ _ hat.out).mono ?_; rintro e w5 ⟨v, rfl, ⟨ql, qi, qu, rfl, ⟨s1, n1⟩, ⟨s2, n2⟩, ⟨s3, n3⟩⟩, hb5⟩
 have hsz4 : w.heap.size + 2 <= w4'.heap.size := by have := lt_of_block hblk4.out; omega
 have hB5 := Lib.hid (belowThen hB4.out hb5 (Nat.le_refl _))
 have hblk5 := Lib.hid (blk_below hblk4.out hb5)
 obtain ⟨a1, l1, c1, rfl⟩ := s1.slice
 obtain ⟨a2, l2, c2, rfl⟩ := s2.slice
 obtain ⟨a3, l3, c3, rfl⟩ := s3.slice
 obtain ⟨cs, hcs, hsz, hone⟩ := told_cells (toldM { P1 with trim := true }) a1 a2 a3 l1 l2 l3 c1 c2 c3
 rw [hcs]
 replace hcs := Lib.hid hcs
 replace s1 := Lib.hid s1
 replace s2 := Lib.hid s2
 replace s3 := Lib.hid s3
 replace n1 : Hid (NewRow (w.heap.size + 2) _) := n1.mono hsz4
 replace n2 : Hid (NewRow (w.heap.size + 2) _) := n2.mono hsz4
 replace n3 : Hid (NewRow (w.heap.size + 2) _) := n3.mono hsz4
 clear HTD hb5 hat hblk4 hB4 hsz4
 rename_i hK
 refine hK _ _ ?_
 refine wpList_store_row rfl 28 (.tmp 6) (.tmp 15) rfl (w.heap.size + 1) cs ?_ ?_ 28 _ hblk5.out ?_ ?_ ?_ ?_
 ·rfl
 ·rfl
 ·rw [hsz]; kernel_rfl
 ·rw [hsz]; rfl
 ·exact hone
 have hrow := Lib.hid (setRow_heap w5 (w.heap.size + 1) _ cs _ _ hblk5.out)
 have hbel : Hid (Below w.heap.size w (w5.setRow (w.heap.size + 1) cs)) := hB5.out.trans ⟨rfl, rfl, rfl, by simp, fun k hk => setRow_other _ _ _ _ (by omega)⟩
 have t1 := Lib.hid (s1.out.setRow (g := w.heap.size + 1) (cs := cs) n1.out (by omega))
 have t2 := Lib.hid (s2.out.setRow (g := w.heap.size + 1) (cs := cs) n2.out (by omega))
 have t3 := Lib.hid (s3.out.setRow (g := w.heap.size + 1) (cs := cs) n3.out (by omega))
 generalize w5.setRow _ _ = wf at hrow hbel t1 t2 t3 |-
 go_wp2_with fail
 refine bodyPost_ret (results_cell (w.heap.size + 1) rfl rfl (run_loadVar_row wf (w.heap.size + 1) _ 28 cs _ _ hrow.out Tryz.underlying28 rfl (by rw [hsz]; kernel_rfl))) rfl ?_
 exact ⟨_, rfl, ⟨_, _, _, hcs.out.symm, ⟨t1.out, n1.out.mono (by omega)⟩, ⟨t2.out, n2.out.mono (by omega)⟩, ⟨t3.out, n3.out.mono (by omega)⟩⟩, hbel.out⟩



end Go.Proofs.YtcmiiboioemelaaGreatDoor

namespace Go.Proofs.YtcmiiboioemelaaGreatDoor
open Go.RowKit
attribute [local go_sem] B_extract B_toList B_append

theorem c_TrimKnown (site : SiteM) (comp s : Str) (vl vd vf vc : Value) (w : World) (hv : SiteAt w vl vd vf vc site) (hcl : CapOK vl) (hcd : CapOK vd) (hcc : CapOK vc) (hf : siteFits site = true) (hc : comp.length <= 2147483647) (hs : s.length <= 2147483647) :
  Calls Tryz.prog 35 #[.agg #[vl, vd, vf, vc], .string (B comp), .string (B s)] w fun e w' => e = .returned (.bool (pathKnown site comp s && (pathOf s false != [47]))) /\ Below w.heap.size w w' := by
 have HPK : Hid (∀ wx, SiteAt wx vl vd vf vc site -> Calls Tryz.prog 20 #[.agg #[vl, vd, vf, vc], .string (B comp), .string (B s)] wx fun e w' => e = .returned (.bool (pathKnown site comp s)) /\ Below wx.heap.size wx w') := fun wx h => c_PathKnown site comp s vl vd vf vc wx h hcl hcd hcc hf hc hs
 have HPO : Hid (∀ wx, Calls Tryz.prog 54 #[.string (B s), .bool false] wx fun e w' => e = .returned (.string (B (pathOf s false))) /\ Below wx.heap.size wx w') := fun wx => c_PathOf s false wx (by omega)
 generalize pathOf s false = PO at HPO |-
 obtain ⟨obs, hobs⟩ : ∃ o : Obj, o = .cells #[vl, vd, vf, vc] 25 := ⟨_, rfl⟩
 have hB1 : Hid (Below w.heap.size w (w.alloc obs)) := Below_alloc w obs
 have HV1 : Hid (SiteAt (w.alloc obs) vl vd vf vc site) := hv.alloc obs
 clear hv hcl hcd hcc
 cases hk : pathKnown site comp s with
 | false =>
  rw [hk] at HPK
  go_enter Tryz.func35, Tryz.ntmps35
  go_wp2_with fail
  rw [<- hobs]
  generalize w.alloc obs = w1 at hB1 HV1 |-
  refine (HPK.out _ HV1.out).mono ?_; rintro e w2 ⟨rfl, b2⟩
  have hB2 := Lib.hid (belowThen hB1.out b2 (Nat.le_refl _))
  go_wp2_with fail
  go_ret
  exact ⟨rfl, hB2.out⟩
 | true =>
  rw [hk] at HPK
  go_enter Tryz.func35, Tryz.ntmps35
  go_wp2_with fail
  rw [<- hobs]
  generalize w.alloc obs = w1 at hB1 HV1 |-
  refine (HPK.out _ HV1.out).mono ?_; rintro e w2 ⟨rfl, b2⟩
  have hB2 := Lib.hid (belowThen hB1.out b2 (Nat.le_refl _))
  clear b2 hB1
  go_wp2_with fail
  refine (HPO.out _).mono ?_; rintro e w3 ⟨rfl, b3⟩
  have hB3 := Lib.hid (belowThen hB2.out b3 (Nat.le_refl _))
  go_wp2_with fail
  go_ret
  exact ⟨ret_bool (by simp [bne]), hB3.out⟩

def typeIn (t : Int) : Bool := decide (0 <= t) && decide (t <= 9)
theorem c_ForKnown (site : SiteM) (comp s : Str) (t : Int) (vl vd vf vc : Value) (w : World) (hv : SiteAt w vl vd vf vc site) (hcl : CapOK vl) (hcd : CapOK vd) (hcc : CapOK vc) (hf : siteFits site = true) (hc : comp.length <= 2147483647) (hs : s.length <= 2147483647) :
  Calls Tryz.prog 30 #[.agg #[vl, vd, vf, vc], .string (B comp), .string (B s), .int .i64 t] w fun e w' => e = .returned (.bool (pathKnown site comp s && typeIn t)) /\ Below w.heap.size w w' := by
 have HPK : Hid (∀ wx, SiteAt wx vl vd vf vc site -> Calls Tryz.prog 20 #[.agg #[vl, vd, vf, vc], .string (B comp), .string (B s)] wx fun e w' => e = .returned (.bool (pathKnown site comp s)) /\ Below wx.heap.size wx w') := fun wx h => c_PathKnown site comp s vl vd vf vc wx h hcl hcd hcc hf hc hs
 obtain ⟨obs, hobs⟩ : ∃ o : Obj, o = .cells #[vl, vd, vf, vc] 25 := ⟨_, rfl⟩
 have hB1 : Hid (Below w.heap.size w (w.alloc obs)) := Below_alloc w obs
 have HV1 : Hid (SiteAt (w.alloc obs) vl vd vf vc site) := hv.alloc obs
 clear hv hcl hcd hcc
 have HR : Hid (typeIn t = (decide (0 <= t) && decide (t <= 9))) := rfl
 generalize typeIn t = ti at HR |-
 by_cases h1 : 0 <= t
 ·by_cases h2 : t <= 9
  ·have hti : ti = true := by rw [HR.out, decide_eq_true h1, decide_eq_true h2]; rfl
   subst hti
   clear HR
   cases hk : pathKnown site comp s
   all_goals
    rw [hk] at HPK
    go_enter Tryz.func30, Tryz.ntmps30
    go_wp2_with fail
    rw [<- hobs]
    generalize w.alloc obs = w1 at hB1 HV1 |-
    refine (HPK.out _ HV1.out).mono ?_; rintro e w2 ⟨rfl, b2⟩
    have hB2 := Lib.hid (belowThen hB1.out b2 (Nat.le_refl _))
    go_wp2_with fail
    go_ret
    exact ⟨ret_bool (by first | rfl | (simp; omega)), hB2.out⟩
  ·have hti : ti = false := by rw [HR.out, decide_eq_false h2, Bool.and_false]
   subst hti
   clear HR
   cases hk : pathKnown site comp s
   all_goals
    rw [hk] at HPK
    go_enter Tryz.func30, Tryz.ntmps30
    go_wp2_with fail
    rw [<- hobs]
    generalize w.alloc obs = w1 at hB1 HV1 |-
    refine (HPK.out _ HV1.out).mono ?_; rintro e w2 ⟨rfl, b2⟩
    have hB2 := Lib.hid (belowThen hB1.out b2 (Nat.le_refl _))
    go_wp2_with fail
    go_ret
    exact ⟨ret_bool (by first | rfl | (simp; omega)), hB2.out⟩
 ·have hti : ti = false := by rw [HR.out, decide_eq_false h1]; rfl
  subst hti
  clear HR
  cases hk : pathKnown site comp s
  all_goals
   rw [hk] at HPK
   go_enter Tryz.func30, Tryz.ntmps30
   go_wp2_with fail
   rw [<- hobs]
   generalize w.alloc obs = w1 at hB1 HV1 |-
   refine (HPK.out _ HV1.out).mono ?_; rintro e w2 ⟨rfl, b2⟩
   have hB2 := Lib.hid (belowThen hB1.out b2 (Nat.le_refl _))
   go_wp2_with fail
   go_ret
   exact ⟨ret_bool (by first | rfl | (simp; omega)), hB2.out⟩

end Go.Proofs.YtcmiiboioemelaaGreatDoor

namespace Go.Proofs.YtcmiiboioemelaaGreatDoor
open Go.RowKit
attribute [local go_sem] B_extract B_toList B_append

set_option maxHeartbeats 8000000 in
theorem c_specFor (site : SiteM) (comp s : Str) (t : Int) (vl vd vf vc : Value) (w : World) (hv : SiteAt w vl vd vf vc site) (hcl : comp.length <= 2147483647) (hsl : s.length <= 100000) :
  Calls Tryz.prog 32 #[.agg #[vl, vd, vf, vc], .string (B comp), .string (B s), .int .i64 t] w fun e w' => ∃ v, e = .returned v /\ ToldAtN w.heap.size w' v (typedL (wordsOf site comp s false) t) /\ Below w.heap.size w w' := by
 have HWO : Hid (∀ wx, SiteAt wx vl vd vf vc site -> Calls Tryz.prog 61 #[.agg #[vl, vd, vf, vc], .string (B comp), .string (B s), .bool false] wx fun e w' => ∃ v, e = .returned v /\ WordsAtN wx.heap.size w' v (wordsOf site comp s false) /\ Below wx.heap.size wx w') := fun wx h => c_WordsOf site comp s false vl vd vf vc wx h hcl hsl
 have HL := words_like site comp s false
 generalize wordsOf site comp s false = W at HWO HL |-
 have HT0 : Hid (∀ (t : Int) (a1 a2 a3 : Option Addr) (c1 c2 c3 : Nat) (wx : World), Calls Tryz.prog 63 #[.agg #[.string (B W.component), .string (B W.path), .string (B W.name), .int .i64 W.nameEnd, .slice a1 W.ids.length c1, .slice a2 W.unknown.length c2, .slice a3 W.langs.length c3, .string (B W.ext), .string (B W.format), .string (B W.kind), .string (B W.layout), .string (B W.lang), .string (B W.custom), .bool W.disabled, .int .i64 W.typ], .int .i64 t] wx fun e w' => e = .returned (toldVal (typedL W t) (.slice a3 W.langs.length c3) (.slice a1 W.ids.length c1) (.slice a2 W.unknown.length c2)) /\ Below wx.heap.size wx w') := fun t a1 a2 a3 c1 c2 c3 wx => by
  have h1 := HL.plen
  have h2 := HL.nlen
  have h3 := HL.xlen
  exact c_typed W t a1 a2 a3 c1 c2 c3 wx (by omega) h2 HL.nend HL.ext (by omega) HL.head
 clear HL
 obtain ⟨obs, hobs⟩ : ∃ o : Obj, o = .cells #[vl, vd, vf, vc] 25 := ⟨_, rfl⟩
 obtain ⟨oz, hoz⟩ : ∃ o : Obj, o = .cells zeroCells 28 := ⟨_, rfl⟩
 have hB1 : Hid (Below w.heap.size w ((w.alloc obs).alloc oz)) := (Below_alloc w obs).trans ((Below_alloc (w.alloc obs) oz).mono (by simp))
 have hz1 : Hid (((w.alloc obs).alloc oz).heap.size = w.heap.size + 2) := by show _ = _; simp
 have HV1 : Hid (SiteAt ((w.alloc obs).alloc oz) vl vd vf vc site) := (hv.alloc obs).alloc oz
 have hrs : Hid (((w.alloc obs).alloc oz).heap[w.heap.size + 1]? = some (.cells zeroCells 28)) := by show _ = _; rw [hoz]; exact blk_snd _ _ _
 clear hv
 go_enter Tryz.func32, Tryz.ntmps32
 go_wp2_with fail
 rw [<- hobs, <- hoz]
 generalize (w.alloc obs).alloc oz = w1 at hB1 hz1 hrs HV1 |-
 refine (HWO.out _ HV1.out).mono ?_; rintro ex w2 ⟨v, rfl, ⟨vi, vu, vg, rfl, ⟨s1, n1⟩, ⟨s2, n2⟩, ⟨s3, n3⟩⟩, b2⟩
 obtain ⟨a1, c1, rfl⟩ : ∃ a c, vi = .slice a W.ids.length c := by obtain ⟨_, a, c, e, _⟩ := s1; exact ⟨a, c, e⟩
 obtain ⟨a2, c2, rfl⟩ : ∃ a c, vu = .slice a W.unknown.length c := by obtain ⟨_, a, c, e, _⟩ := s2; exact ⟨a, c, e⟩
 obtain ⟨a3, c3, rfl⟩ : ∃ a c, vg = .slice a W.langs.length c := by obtain ⟨_, a, c, e, _⟩ := s3; exact ⟨a, c, e⟩
 obtain ⟨wl, hwl⟩ : ∃ l : List Value, l = wcells W (.slice a1 W.ids.length c1) (.slice a2 W.unknown.length c2) (.slice a3 W.langs.length c3) := ⟨_, rfl⟩
 have HTY : Hid (∀ wx, Calls Tryz.prog 63 #[.agg wl.toArray, .int .i64 t] wx fun e w' => e = .returned (toldVal (typedL W t) (.slice a3 W.langs.length c3) (.slice a1 W.ids.length c1) (.slice a2 W.unknown.length c2)) /\ Below wx.heap.size wx w') := fun wx => by rw [hwl]; exact HT0.out t a1 a2 a3 c1 c2 c3 wx
 rw [<- hwl]
 have hB2 := Lib.hid (belowThen hB1.out b2 (Nat.le_refl _))
 have hrs2 := Lib.hid (blk_below hrs.out b2)
 have hz2 := hz1.out
 rw [hz2] at n1 n2 n3
 replace s1 := Lib.hid s1
 replace s2 := Lib.hid s2
 replace s3 := Lib.hid s3
 replace n1 := Lib.hid n1
 replace n2 := Lib.hid n2
 replace n3 := Lib.hid n3
 clear b2 hB1 hrs HV1 HWO hz1 hz2 hobs hoz hwl HT0
 go_wp2_with fail
 refine (HTY.out _).mono ?_; rintro ex w4 ⟨rfl, b4⟩
 obtain ⟨cs, hcs, hsz, hone⟩ := told_cells (typedL W t) a3 a1 a2 W.langs.length W.ids.length W.unknown.length c3 c1 c2
 rw [hcs]
 replace hcs := Lib.hid hcs
 replace hsz := Lib.hid hsz
 have hB4 := Lib.hid (belowThen hB2.out b4 (Nat.le_refl _))
 have hrs4 := Lib.hid (blk_below hrs2.out b4)
 have r1 := Lib.hid (s1.out.below b4)
 have r2 := Lib.hid (s2.out.below b4)
 have r3 := Lib.hid (s3.out.below b4)
 clear b4 hB2 hrs2 s1 s2 s3 HTY
 go_wp2_with (refine wpList_store_row rfl 28 (.tmp 8) (.tmp 14) rfl (w.heap.size + 1) cs rfl rfl 28 _ hrs4.out (by rw [hsz.out]; kernel_rfl) (by rw [hsz.out]; rfl) hone (Hid.out ?_))
 have hrow := Lib.hid (setRow_heap w4 (w.heap.size + 1) _ cs _ _ hrs4.out)
 have hbel : Hid (Below w.heap.size w (w4.setRow (w.heap.size + 1) cs)) := hB4.out.trans ⟨rfl, rfl, rfl, by simp, fun k hk => setRow_other _ _ _ _ (by omega)⟩
 have t1 := Lib.hid (r1.out.setRow (g := w.heap.size + 1) (cs := cs) n1.out (by omega))
 have t2 := Lib.hid (r2.out.setRow (g := w.heap.size + 1) (cs := cs) n2.out (by omega))
 have t3 := Lib.hid (r3.out.setRow (g := w.heap.size + 1) (cs := cs) n3.out (by omega))
 clear r1 r2 r3 hrs4 hB4
 generalize w4.setRow _ _ = wf at hrow hbel t1 t2 t3 |-
 refine Lib.hid ?_
 go_wp2_with fail
 refine bodyPost_ret (results_cell (w.heap.size + 1) rfl rfl (run_loadVar_row wf (w.heap.size + 1) _ 28 cs _ _ hrow.out Tryz.underlying28 rfl (by rw [hsz.out]; kernel_rfl))) rfl ?_
 exact ⟨_, rfl, ⟨_, _, _, hcs.out.symm, ⟨t3.out, n3.out.mono (by omega)⟩, ⟨t1.out, n1.out.mono (by omega)⟩, ⟨t2.out, n2.out.mono (by omega)⟩⟩, hbel.out⟩

end Go.Proofs.YtcmiiboioemelaaGreatDoor

namespace Go.Proofs.YtcmiiboioemelaaGreatDoor
open Go.RowKit

/-- The list's cells keep off block g. -/
def NotIn (v : Value) (l : List Str) (g : Nat) : Prop := ∀ a n c, v = .slice (some a) n c -> l ≠ [] -> a.block ≠ g
theorem StrsAt.notIn {w : World} {v : Value} {l : List Str} (h : StrsAt w v l) {g : Nat} (hg : w.heap.size <= g) : NotIn v l g := by
 intro a n c e hl q
 obtain ⟨_, a', cap, e', h1⟩ := h
 have hlt : 0 < l.length := List.length_pos_iff.2 hl
 obtain ⟨b, off, ea, hc⟩ := h1 0 hlt
 have e2 : some a = a' := (Value.slice.inj (e.symm.trans e')).1
 have e3 : a = ⟨b, off, none⟩ := Option.some.inj (e2.trans ea)
 have hb := cell_lt hc
 rw [e3] at q
 have q : b = g := q
 omega
theorem NewRow.notIn {n : Nat} {v : Value} {l : List Str} {g : Nat} (h : NewRow n v) (hg : g < n) : NotIn v l g := fun a m c e _ q => by have := h a m c e; omega
theorem StrsAt.setRow2 {w : World} {v : Value} {l : List Str} {g : Nat} {cs : Array Value} (h : StrsAt w v l) (hn : NotIn v l g) : StrsAt (w.setRow g cs) v l := by
 obtain ⟨h0, a, cap, rfl, h1⟩ := h
 refine ⟨h0, a, cap, rfl, fun i hi => ?_⟩
 obtain ⟨b, off, e, hc⟩ := h1 i hi
 refine ⟨b, off, e, ?_⟩
 subst e
 have := hn _ _ _ rfl (by intro q; rw [q] at hi; simp at hi)
 rw [cell_setRow_other _ _ _ _ (show b ≠ g from this)]
 exact hc
/-- An answer that reads as T, its lists in memory, each keeping off the blocks of which G says so. -/
def ReadsT (T : ToldM) (w : World) (G : Nat -> Prop) (v : Value) : Prop := ∃ vl vi vu, v = toldVal T vl vi vu /\ (StrsAt w vl T.langs /\ ∀ g, G g -> NotIn vl T.langs g) /\ (StrsAt w vi T.ids /\ ∀ g, G g -> NotIn vi T.ids g) /\ (StrsAt w vu T.unknown /\ ∀ g, G g -> NotIn vu T.unknown g)
theorem ReadsT.below {T : ToldM} {w w' : World} {G : Nat -> Prop} {v : Value} (h : ReadsT T w G v) (hb : Below w.heap.size w w') : ReadsT T w' G v := by
 obtain ⟨vl, vi, vu, e, h1, h2, h3⟩ := h
 exact ⟨vl, vi, vu, e, ⟨h1.1.below hb, h1.2⟩, ⟨h2.1.below hb, h2.2⟩, ⟨h3.1.below hb, h3.2⟩⟩
theorem ReadsT.more {T : ToldM} {w : World} {G : Nat -> Prop} {v : Value} (h : ReadsT T w G v) : ReadsT T w (fun g => G g \/ w.heap.size <= g) v := by
 obtain ⟨vl, vi, vu, e, h1, h2, h3⟩ := h
 exact ⟨vl, vi, vu, e, ⟨h1.1, fun g hg => hg.elim (h1.2 g) h1.1.notIn⟩, ⟨h2.1, fun g hg => hg.elim (h2.2 g) h2.1.notIn⟩, ⟨h3.1, fun g hg => hg.elim (h3.2 g) h3.1.notIn⟩⟩
theorem ReadsT.imp {T : ToldM} {w : World} {G G' : Nat -> Prop} {v : Value} (h : ReadsT T w G v) (hi : ∀ g, G' g -> G g) : ReadsT T w G' v := by
 obtain ⟨vl, vi, vu, e, h1, h2, h3⟩ := h
 exact ⟨vl, vi, vu, e, ⟨h1.1, fun g hg => h1.2 g (hi g hg)⟩, ⟨h2.1, fun g hg => h2.2 g (hi g hg)⟩, ⟨h3.1, fun g hg => h3.2 g (hi g hg)⟩⟩
theorem told_reads {n : Nat} {w : World} {v : Value} {T : ToldM} (h : ToldAtN n w v T) : ReadsT T w (fun g => g < n) v := by
 obtain ⟨vl, vi, vu, e, h1, h2, h3⟩ := h
 exact ⟨vl, vi, vu, e, ⟨h1.1, fun g hg => h1.2.notIn hg⟩, ⟨h2.1, fun g hg => h2.2.notIn hg⟩, ⟨h3.1, fun g hg => h3.2.notIn hg⟩⟩
/-- The blocks of the new cells. -/
def Cells (b1 b2 : Option Value) (g : Nat) : Prop := b1 = some (.pointer (some ⟨g, 0, none⟩)) \/ b2 = some (.pointer (some ⟨g, 0, none⟩))
/-- While the two are asked: as Asks; and the lists keep off the new cells. -/
structure AsksW (w : World) (vl vd vf vc : Value) (T : ToldM) (r1 r2 b1 b2 : Option Value) (w' : World) : Prop where
 a : Asks w vl vd vf vc T none none b1 b2 w'
 f1 : ∀ v, r1 = some v -> ReadsT T w' (Cells b1 b2) v
 f2 : ∀ v, r2 = some v -> ReadsT T w' (Cells b1 b2) v
theorem AsksW.lt {w : World} {vl vd vf vc : Value} {T : ToldM} {r1 r2 b1 b2 : Option Value} {w1 : World} (h : AsksW w vl vd vf vc T r1 r2 b1 b2 w1) (g : Nat) (hg : Cells b1 b2 g) : g < w1.heap.size := by
 have key : ∀ {v : Value}, NewTold w.heap.size w1 v -> v = .pointer (some ⟨g, 0, none⟩) -> g < w1.heap.size := fun {v} hn e => by
  obtain ⟨g', e', _, h2⟩ := hn
  rw [e'] at e
  have : g' = g := (Addr.mk.inj (Option.some.inj (Value.pointer.inj e))).1
  rw [<- this]
  exact (Array.getElem?_eq_some_iff.1 h2).1
 rcases hg with hg | hg
 ·exact key (h.a.g1 _ hg) rfl
 ·exact key (h.a.g2 _ hg) rfl
theorem AsksW.tell1 {w : World} {vl vd vf vc : Value} {T : ToldM} {b1 b2 : Option Value} {w1 w2 : World} {v : Value} (h : AsksW w vl vd vf vc T none none b1 b2 w1) (hb : Below w1.heap.size w1 w2) (ht : ToldAtN w1.heap.size w2 v T) : AsksW w vl vd vf vc T (some v) none b1 b2 w2 :=
 ⟨h.a.tell hb none none (fun _ e => by cases e) (fun _ e => by cases e), fun v' e => by cases e; exact (told_reads ht).imp h.lt, fun v' e => by cases e⟩
theorem AsksW.tell2 {w : World} {vl vd vf vc : Value} {T : ToldM} {b1 b2 : Option Value} {w1 w2 : World} {u v : Value} (h : AsksW w vl vd vf vc T (some u) none b1 b2 w1) (hb : Below w1.heap.size w1 w2) (ht : ToldAtN w1.heap.size w2 v T) : AsksW w vl vd vf vc T (some u) (some v) b1 b2 w2 :=
 ⟨h.a.tell hb none none (fun _ e => by cases e) (fun _ e => by cases e), fun v' e => (h.f1 v' e).below hb, fun v' e => by cases e; exact (told_reads ht).imp h.lt⟩
theorem AsksW.new1 {w : World} {vl vd vf vc : Value} {T : ToldM} {r1 r2 b2 : Option Value} {w1 : World} (h : AsksW w vl vd vf vc T r1 r2 none b2 w1) :
  AsksW w vl vd vf vc T r1 r2 (some (.pointer (some ⟨w1.heap.size, 0, none⟩))) b2 (w1.alloc (.cells zeroCells 28)) := by
 have hb := Below_alloc w1 (.cells zeroCells 28)
 have hi : ∀ g, Cells (some (.pointer (some ⟨w1.heap.size, 0, none⟩))) b2 g -> Cells none b2 g \/ w1.heap.size <= g := fun g hg => by
  rcases hg with hg | hg
  ·right
   have := (Addr.mk.inj (Option.some.inj (Value.pointer.inj (Option.some.inj hg)))).1
   omega
  ·exact .inl (.inr hg)
 exact ⟨h.a.new1, fun v e => ((h.f1 v e).more.imp hi).below hb, fun v e => ((h.f2 v e).more.imp hi).below hb⟩
theorem AsksW.new2 {w : World} {vl vd vf vc : Value} {T : ToldM} {r1 r2 b1 : Option Value} {w1 : World} (h : AsksW w vl vd vf vc T r1 r2 b1 none w1) :
  AsksW w vl vd vf vc T r1 r2 b1 (some (.pointer (some ⟨w1.heap.size, 0, none⟩))) (w1.alloc (.cells zeroCells 28)) := by
 have hb := Below_alloc w1 (.cells zeroCells 28)
 have hi : ∀ g, Cells b1 (some (.pointer (some ⟨w1.heap.size, 0, none⟩))) g -> Cells b1 none g \/ w1.heap.size <= g := fun g hg => by
  rcases hg with hg | hg
  ·exact .inl (.inl hg)
  ·right
   have := (Addr.mk.inj (Option.some.inj (Value.pointer.inj (Option.some.inj hg)))).1
   omega
 exact ⟨h.a.new2, fun v e => ((h.f1 v e).more.imp hi).below hb, fun v e => ((h.f2 v e).more.imp hi).below hb⟩
theorem ReadsT.setRow {T : ToldM} {w : World} {G : Nat -> Prop} {v : Value} (h : ReadsT T w G v) {g : Nat} (hg : G g) (cs : Array Value) : ReadsT T (w.setRow g cs) G v := by
 obtain ⟨vl, vi, vu, e, h1, h2, h3⟩ := h
 exact ⟨vl, vi, vu, e, ⟨h1.1.setRow2 (h1.2 g hg), h1.2⟩, ⟨h2.1.setRow2 (h2.2 g hg), h2.2⟩, ⟨h3.1.setRow2 (h3.2 g hg), h3.2⟩⟩

end Go.Proofs.YtcmiiboioemelaaGreatDoor

namespace Go.Proofs.YtcmiiboioemelaaGreatDoor
open Go.RowKit
attribute [local go_sem] B_extract B_toList B_append

set_option maxHeartbeats 16000000 in
theorem w_FnForTypeWords (site : SiteM) (comp s : Str) (t : Int) (vl vd vf vc : Value) (w : World) (hv : SiteAt w vl vd vf vc site) (hcl : CapOK vl) (hcd : CapOK vd) (hcc : CapOK vc) (hc0 : comp.length <= 140737488351232) (hs0 : s.length <= 140737488351232) (ht0 : -9223372036854775808 <= t /\ t <= 9223372036854775807) :
  Calls Tryz.prog 10 #[.agg #[vl, vd, vf, vc], .string (B comp), .string (B s), .int .i64 t] w fun e w' => e = .returned (.bool true) /\ Below w.heap.size w w' := by
 have HZ : Hid (∀ wx, SiteAt wx vl vd vf vc site -> Calls Tryz.prog 15 #[.agg #[vl, vd, vf, vc]] wx fun e w' => e = .returned (.bool (siteFits site)) /\ Below wx.heap.size wx w') := fun wx h => c_zzFits1 site vl vd vf vc wx h
 have HSH : Hid (siteFits site = true -> comp.length <= 2147483647 -> s.length <= 2147483647 -> ∀ wx, SiteAt wx vl vd vf vc site -> Calls Tryz.prog 24 #[.agg #[vl, vd, vf, vc], .string (B comp), .string (B s)] wx fun e w' => e = .returned (.bool (shortL site comp s)) /\ Below wx.heap.size wx w') := fun hf hc hs wx h => c_short site comp s vl vd vf vc wx h hf hc hs
 have HPK : Hid (siteFits site = true -> comp.length <= 2147483647 -> s.length <= 2147483647 -> ∀ wx, SiteAt wx vl vd vf vc site -> Calls Tryz.prog 30 #[.agg #[vl, vd, vf, vc], .string (B comp), .string (B s), .int .i64 t] wx fun e w' => e = .returned (.bool (pathKnown site comp s && typeIn t)) /\ Below wx.heap.size wx w') := fun hf hc hs wx h => c_ForKnown site comp s t vl vd vf vc wx h hcl hcd hcc hf hc hs
 obtain ⟨TT, hTT⟩ : ∃ T, T = typedL (wordsOf site comp s false) t := ⟨_, rfl⟩
 have HIU : Hid (pathKnown site comp s = true -> ∀ wx, Below w.heap.size w wx -> Calls Tryz.prog 31 #[.agg #[vl, vd, vf, vc], .string (B comp), .string (B s), .int .i64 t] wx fun e w' => ∃ v, e = .returned v /\ ToldAtN wx.heap.size w' v TT /\ Below wx.heap.size wx w') := fun hk wx h => by
  obtain ⟨h1, h2, h3, h4, h5⟩ := pathKnown_site hk
  rw [hTT]
  exact by
   rw [<- typed_eq hk]
   exact c_implForType wx site comp s vl vd vf vc (hv.below h) t (siteKnown_once h1) (by omega) h3
 have HSU : Hid (comp.length <= 2147483647 -> pathKnown site comp s = true -> ∀ wx, Below w.heap.size w wx -> Calls Tryz.prog 32 #[.agg #[vl, vd, vf, vc], .string (B comp), .string (B s), .int .i64 t] wx fun e w' => ∃ v, e = .returned v /\ ToldAtN wx.heap.size w' v TT /\ Below wx.heap.size wx w') := fun hc hk wx h => by
  obtain ⟨h1, h2, h3, h4, h5⟩ := pathKnown_site hk
  rw [hTT]
  exact c_specFor site comp s t vl vd vf vc wx (hv.below h) hc (by omega)
 clear hTT
 obtain ⟨obs, hobs⟩ : ∃ o : Obj, o = .cells #[vl, vd, vf, vc] 25 := ⟨_, rfl⟩
 have hB1 : Hid (Below w.heap.size w (w.alloc obs)) := Below_alloc w obs
 have hsb : Hid ((w.alloc obs).heap[w.heap.size]? = some (.cells #[vl, vd, vf, vc] 25)) := by show _ = _; rw [hobs]; exact blk_new w _
 have HV1 : Hid (SiteAt (w.alloc obs) vl vd vf vc site) := hv.alloc obs
 clear hv hcl hcd hcc
 cases h1 : siteFits site with
 | false =>
  rw [h1] at HZ
  go_enter Tryz.func10, Tryz.ntmps10
  go_wp2_with fail
  rw [<- hobs]
  generalize w.alloc obs = w1 at hB1 hsb HV1 |-
  refine (HZ.out _ HV1.out).mono ?_; rintro e w2 ⟨rfl, b2⟩
  have hB2 := Lib.hid (belowThen hB1.out b2 (Nat.le_refl _))
  go_wp2_with fail
  go_ret
  exact ⟨rfl, hB2.out⟩
 | true =>
 rw [h1] at HZ
 by_cases h2 : comp.length <= 2147483647
 rotate_left 1
 ·skip
  go_enter Tryz.func10, Tryz.ntmps10
  go_wp2_with fail
  rw [<- hobs]
  generalize w.alloc obs = w1 at hB1 hsb HV1 |-
  refine (HZ.out _ HV1.out).mono ?_; rintro e w2 ⟨rfl, b2⟩
  have hB2 := Lib.hid (belowThen hB1.out b2 (Nat.le_refl _))
  go_wp2_with fail
  go_ret
  exact ⟨rfl, hB2.out⟩
 by_cases h3 : s.length <= 2147483647
 rotate_left 1
 ·skip
  go_enter Tryz.func10, Tryz.ntmps10
  go_wp2_with fail
  rw [<- hobs]
  generalize w.alloc obs = w1 at hB1 hsb HV1 |-
  refine (HZ.out _ HV1.out).mono ?_; rintro e w2 ⟨rfl, b2⟩
  have hB2 := Lib.hid (belowThen hB1.out b2 (Nat.le_refl _))
  go_wp2_with fail
  go_ret
  exact ⟨rfl, hB2.out⟩
 go_enter Tryz.func10, Tryz.ntmps10
 go_wp2_with fail
 rw [<- hobs]
 generalize w.alloc obs = w1 at hB1 hsb HV1 |-
 refine (HZ.out _ HV1.out).mono ?_; rintro e w2 ⟨rfl, b2⟩
 have hB2 := Lib.hid (belowThen hB1.out b2 (Nat.le_refl _))
 have hsb2 := Lib.hid (blk_below hsb.out b2)
 have HV2 := Lib.hid (HV1.out.below b2)
 obtain ⟨k0, k1, k2, k3⟩ : w2.cell? ⟨w.heap.size, 0, none⟩ = some vl /\ w2.cell? ⟨w.heap.size, 1, none⟩ = some vd /\ w2.cell? ⟨w.heap.size, 2, none⟩ = some vf /\ w2.cell? ⟨w.heap.size, 3, none⟩ = some vc := ⟨cell_blk hsb2.out 0, cell_blk hsb2.out 1, cell_blk hsb2.out 2, cell_blk hsb2.out 3⟩
 clear b2 hsb HV1 hB1 HZ hobs
 go_wp2_with fail
 refine (HSH.out h1 h2 h3 _ HV2.out).mono ?_; rintro e w3 ⟨rfl, b3⟩
 have hB3 := Lib.hid (belowThen hB2.out b3 (Nat.le_refl _))
 have hsb3 := Lib.hid (blk_below hsb2.out b3)
 have HV3 := Lib.hid (HV2.out.below b3)
 clear k0 k1 k2 k3 b3 hsb2 HV2 HSH hB2
 obtain ⟨k0, k1, k2, k3⟩ : w3.cell? ⟨w.heap.size, 0, none⟩ = some vl /\ w3.cell? ⟨w.heap.size, 1, none⟩ = some vd /\ w3.cell? ⟨w.heap.size, 2, none⟩ = some vf /\ w3.cell? ⟨w.heap.size, 3, none⟩ = some vc := ⟨cell_blk hsb3.out 0, cell_blk hsb3.out 1, cell_blk hsb3.out 2, cell_blk hsb3.out 3⟩
 cases h4 : shortL site comp s with
 | false =>
  go_wp2_with fail
  go_ret
  exact ⟨rfl, hB3.out⟩
 | true =>
 go_wp2_with fail
 refine (HPK.out h1 h2 h3 _ HV3.out).mono ?_; rintro e w4 ⟨rfl, b4⟩
 have hB4 := Lib.hid (belowThen hB3.out b4 (Nat.le_refl _))
 have hsb4 := Lib.hid (blk_below hsb3.out b4)
 clear k0 k1 k2 k3 b4 hsb3 HV3 HPK hB3
 obtain ⟨k0, k1, k2, k3⟩ : w4.cell? ⟨w.heap.size, 0, none⟩ = some vl /\ w4.cell? ⟨w.heap.size, 1, none⟩ = some vd /\ w4.cell? ⟨w.heap.size, 2, none⟩ = some vf /\ w4.cell? ⟨w.heap.size, 3, none⟩ = some vc := ⟨cell_blk hsb4.out 0, cell_blk hsb4.out 1, cell_blk hsb4.out 2, cell_blk hsb4.out 3⟩
 cases h5 : (pathKnown site comp s && typeIn t) with
 | false =>
  go_wp2_with fail
  go_ret
  exact ⟨rfl, hB4.out⟩
 | true =>
 go_upto_region 5 with fail
 have hz4 : w.heap.size < w4.drew.heap.size := lt_of_block hsb4.out
 have hS0 : (w4.drew.cell? ⟨w.heap.size, 0, none⟩ = some vl /\ w4.drew.cell? ⟨w.heap.size, 1, none⟩ = some vd /\ w4.drew.cell? ⟨w.heap.size, 2, none⟩ = some vf /\ w4.drew.cell? ⟨w.heap.size, 3, none⟩ = some vc) /\ Below w.heap.size w w4.drew := ⟨⟨k0, k1, k2, k3⟩, hB4.out.trans ((Below_drewN (Below.refl _ _) 1).mono hB4.out.size)⟩
 refine wp_region_held (S := fun w' => (w'.cell? ⟨w.heap.size, 0, none⟩ = some vl /\ w'.cell? ⟨w.heap.size, 1, none⟩ = some vd /\ w'.cell? ⟨w.heap.size, 2, none⟩ = some vf /\ w'.cell? ⟨w.heap.size, 3, none⟩ = some vc) /\ Below w.heap.size w w') (by kernel_rfl) ?_
 change wpAnyH _ _ _ _ _ _ _ _ w4.drew
 clear k0 k1 k2 k3 hB4 hsb4
 generalize w4.drew = w5 at hS0 hz4 |-
 have hk5 : pathKnown site comp s = true := (Bool.and_eq_true _ _ ▸ h5).1
 have HI2 := Lib.hid (HIU.out hk5)
 have HS2 := Lib.hid (HSU.out h2 hk5)
 clear HIU HSU h1 h2 h3 hc0 hs0 ht0 h4 h5 hk5
 refine wpAnyH_take (i := 0) (v := .agg #[vl, vd, vf, vc]) rfl (by kernel_rfl) (by kernel_rfl) (by kernel_rfl) (fun _ _ _ h => h) (Or.inl ⟨by rfl, fun w' hw' => by obtain ⟨⟨j0, j1, j2, j3⟩, -⟩ := hw'; go_simp⟩) hS0 ?_
 try simp only [List.getElem_toArray, List.getElem_cons_succ, List.getElem_cons_zero, Act.put, List.setIfInBounds_toArray, List.set_cons_zero, List.set_cons_succ]
 refine wpAnyH_take (i := 1) (v := .string (B comp)) rfl (by kernel_rfl) (by kernel_rfl) (by kernel_rfl) (fun _ _ _ h => h) (Or.inl ⟨by rfl, fun w' hw' => by go_simp⟩) hS0 ?_
 try simp only [List.getElem_toArray, List.getElem_cons_succ, List.getElem_cons_zero, Act.put, List.setIfInBounds_toArray, List.set_cons_zero, List.set_cons_succ]
 refine wpAnyH_take (i := 2) (v := .string (B s)) rfl (by kernel_rfl) (by kernel_rfl) (by kernel_rfl) (fun _ _ _ h => h) (Or.inl ⟨by rfl, fun w' hw' => by go_simp⟩) hS0 ?_
 try simp only [List.getElem_toArray, List.getElem_cons_succ, List.getElem_cons_zero, Act.put, List.setIfInBounds_toArray, List.set_cons_zero, List.set_cons_succ]
 refine wpAnyH_take (i := 3) (v := .int .i64 t) rfl (by kernel_rfl) (by kernel_rfl) (by kernel_rfl) (fun _ _ _ h => h) (Or.inl ⟨by rfl, fun w' hw' => by go_simp⟩) hS0 ?_
 try simp only [List.getElem_toArray, List.getElem_cons_succ, List.getElem_cons_zero, Act.put, List.setIfInBounds_toArray, List.set_cons_zero, List.set_cons_succ]
 refine wpAnyH_take (i := 5) (v := .agg #[vl, vd, vf, vc]) rfl (by kernel_rfl) (by kernel_rfl) (by kernel_rfl) (fun _ _ _ h => h) (Or.inl ⟨by rfl, fun w' hw' => by obtain ⟨⟨j0, j1, j2, j3⟩, -⟩ := hw'; go_simp⟩) hS0 ?_
 try simp only [List.getElem_toArray, List.getElem_cons_succ, List.getElem_cons_zero, Act.put, List.setIfInBounds_toArray, List.set_cons_zero, List.set_cons_succ]
 refine wpAnyH_take (i := 6) (v := .string (B comp)) rfl (by kernel_rfl) (by kernel_rfl) (by kernel_rfl) (fun _ _ _ h => h) (Or.inl ⟨by rfl, fun w' hw' => by go_simp⟩) hS0 ?_
 try simp only [List.getElem_toArray, List.getElem_cons_succ, List.getElem_cons_zero, Act.put, List.setIfInBounds_toArray, List.set_cons_zero, List.set_cons_succ]
 refine wpAnyH_take (i := 7) (v := .string (B s)) rfl (by kernel_rfl) (by kernel_rfl) (by kernel_rfl) (fun _ _ _ h => h) (Or.inl ⟨by rfl, fun w' hw' => by go_simp⟩) hS0 ?_
 try simp only [List.getElem_toArray, List.getElem_cons_succ, List.getElem_cons_zero, Act.put, List.setIfInBounds_toArray, List.set_cons_zero, List.set_cons_succ]
 refine wpAnyH_take (i := 8) (v := .int .i64 t) rfl (by kernel_rfl) (by kernel_rfl) (by kernel_rfl) (fun _ _ _ h => h) (Or.inl ⟨by rfl, fun w' hw' => by go_simp⟩) hS0 ?_
 try simp only [List.getElem_toArray, List.getElem_cons_succ, List.getElem_cons_zero, Act.put, List.setIfInBounds_toArray, List.set_cons_zero, List.set_cons_succ]
 change wpAnyH _ _ _ _ _ 6 (Two.l0 ⟨4, 9, 10, 11, #[true, true, true, true, false, true, true, true, true, false, false, false, false, false]⟩) _ _
 refine two_start ⟨4, 9, 10, 11, #[true, true, true, true, false, true, true, true, true, false, false, false, false, false]⟩ _ (some 41) (some 46) (some 9) (some 10) (fun r1 r2 b1 b2 w' => AsksW w vl vd vf vc TT r1 r2 b1 b2 w') (by simp) (by simp) (by simp) (by simp) (by simp) (by simp) (by kernel_rfl) (fun _ _ _ _ _ g => g.a.st) ?hc1 ?hc2 ?ha1 ?ha2 ?hfin w5 ⟨⟨hz4, hS0, fun v h => (by cases h), fun v h => (by cases h), fun v h => (by cases h), fun v h => (by cases h), fun v v' h => (by cases h)⟩, fun v h => (by cases h), fun v h => (by cases h)⟩
 case hc1 =>
  intro b1 b2 wx g
  refine wpOp_enter rfl rfl 31 #[.agg #[vl, vd, vf, vc], .string (B comp), .string (B s), .int .i64 t] (run_call4 rfl ((eval_actT (by decide) (by decide) (by decide) (by decide)).trans rfl) ((eval_actT (by decide) (by decide) (by decide) (by decide)).trans rfl) ((eval_actT (by decide) (by decide) (by decide) (by decide)).trans rfl) ((eval_actT (by decide) (by decide) (by decide) (by decide)).trans rfl) (by kernel_rfl)) ?_
  refine (HI2.out _ g.a.st.2).mono ?_; rintro ex wy ⟨v, rfl, hT, by_⟩
  exact ⟨v, rfl, v, rfl, g.tell1 by_ hT⟩
 case hc2 =>
  intro v1 b1 b2 wx g
  refine wpOp_enter rfl rfl 32 #[.agg #[vl, vd, vf, vc], .string (B comp), .string (B s), .int .i64 t] (run_call4 rfl ((eval_actT (by decide) (by decide) (by decide) (by decide)).trans rfl) ((eval_actT (by decide) (by decide) (by decide) (by decide)).trans rfl) ((eval_actT (by decide) (by decide) (by decide) (by decide)).trans rfl) ((eval_actT (by decide) (by decide) (by decide) (by decide)).trans rfl) (by kernel_rfl)) ?_
  refine (HS2.out _ g.a.st.2).mono ?_; rintro ex wy ⟨v, rfl, hT, by_⟩
  exact ⟨v, rfl, v, rfl, g.tell2 by_ hT⟩
 case ha1 =>
  intro r1 r2 b2 wx g
  exact wpOp_run rfl rfl _ _ run_newTold ⟨_, rfl, g.new1⟩
 case ha2 =>
  intro r1 r2 b1 wx g
  exact wpOp_run rfl rfl _ _ run_newTold ⟨_, rfl, g.new2⟩
 case hfin =>
  intro v u b b' wx g
  obtain ⟨⟨-, ⟨⟨k0, k1, k2, k3⟩, hB⟩, -, -, g1, g2, ne⟩, f1, f2⟩ := g
  have F1 := f1 v rfl
  have F2 := f2 u rfl
  obtain ⟨p, rfl, hp, hpb⟩ := g1 b rfl
  obtain ⟨q, rfl, hq, hqb⟩ := g2 b' rfl
  have hpq : p ≠ q := fun e => ne _ _ rfl rfl (by rw [e])
  clear g1 g2 f1 f2 ne
  obtain ⟨vl1, vi1, vu1, rfl, x1, x2, x3⟩ := F1
  obtain ⟨vl2, vi2, vu2, rfl, y1, y2, y3⟩ := F2
  obtain ⟨a1, l1, c1, rfl⟩ := x1.1.slice
  obtain ⟨a2, l2, c2, rfl⟩ := x2.1.slice
  obtain ⟨a3, l3, c3, rfl⟩ := x3.1.slice
  obtain ⟨d1, m1, e1, rfl⟩ := y1.1.slice
  obtain ⟨d2, m2, e2, rfl⟩ := y2.1.slice
  obtain ⟨d3, m3, e3, rfl⟩ := y3.1.slice
  obtain ⟨cs, hcs, hsz, hone⟩ := told_cells TT a1 a2 a3 l1 l2 l3 c1 c2 c3
  obtain ⟨ds, hds, hdz, hdone⟩ := told_cells TT d1 d2 d3 m1 m2 m3 e1 e2 e3
  rw [hcs, hds]
  have hcl : Hid (cs = cs) := rfl
  try simp only [List.getElem_toArray, List.getElem_cons_succ, List.getElem_cons_zero, Act.put, List.setIfInBounds_toArray, List.set_cons_zero, List.set_cons_succ]
  refine wpAnyH_all (rs := [12]) (by kernel_rfl) (by simp) ?_
  intro i hi
  obtain rfl := List.mem_singleton.1 hi
  have p1 := setRow_heap wx p _ cs _ _ hpb
  have p2 : (wx.setRow p cs).heap[q]? = _ := (setRow_other wx p q cs (by omega)).trans hqb
  have pb : Below w.heap.size w (wx.setRow p cs) := hB.trans ⟨rfl, rfl, rfl, by simp, fun k hk => setRow_other _ _ _ _ (by omega)⟩
  have pk : ∀ o, (wx.setRow p cs).cell? ⟨w.heap.size, o, none⟩ = wx.cell? ⟨w.heap.size, o, none⟩ := fun o => by unfold World.cell?; rw [setRow_other wx p w.heap.size cs (by omega)]
  have hS1 : ((wx.setRow p cs).cell? ⟨w.heap.size, 0, none⟩ = some vl /\ (wx.setRow p cs).cell? ⟨w.heap.size, 1, none⟩ = some vd /\ (wx.setRow p cs).cell? ⟨w.heap.size, 2, none⟩ = some vf /\ (wx.setRow p cs).cell? ⟨w.heap.size, 3, none⟩ = some vc) /\ Below w.heap.size w (wx.setRow p cs) := ⟨⟨(pk 0).trans k0, (pk 1).trans k1, (pk 2).trans k2, (pk 3).trans k3⟩, pb⟩
  have cp : Cells (some (.pointer (some ⟨p, 0, none⟩))) (some (.pointer (some ⟨q, 0, none⟩))) p := .inl rfl
  have cq : Cells (some (.pointer (some ⟨p, 0, none⟩))) (some (.pointer (some ⟨q, 0, none⟩))) q := .inr rfl
  have X1 := (x1.1.setRow2 (cs := cs) (x1.2 p cp)).setRow2 (cs := ds) (x1.2 q cq)
  have X2 := (x2.1.setRow2 (cs := cs) (x2.2 p cp)).setRow2 (cs := ds) (x2.2 q cq)
  have X3 := (x3.1.setRow2 (cs := cs) (x3.2 p cp)).setRow2 (cs := ds) (x3.2 q cq)
  have Y1 := (y1.1.setRow2 (cs := cs) (y1.2 p cp)).setRow2 (cs := ds) (y1.2 q cq)
  have Y2 := (y2.1.setRow2 (cs := cs) (y2.2 p cp)).setRow2 (cs := ds) (y2.2 q cq)
  have Y3 := (y3.1.setRow2 (cs := cs) (y3.2 p cp)).setRow2 (cs := ds) (y3.2 q cq)
  clear x1 x2 x3 y1 y2 y3 cp cq
  refine wpOp_storeRow rfl rfl 28 (.tmp 9) (.tmp 41) rfl rfl p cs rfl rfl 28 _ hpb (by rw [hsz]; kernel_rfl) (by rw [hsz]; rfl) hone ⟨hS1, ?_⟩
  clear k0 k1 k2 k3 pk hpb hqb hB
  generalize wx.setRow p cs = wy at p1 p2 pb hS1 X1 X2 X3 Y1 Y2 Y3 |-
  obtain ⟨⟨k0, k1, k2, k3⟩, -⟩ := hS1
  refine wpAnyH_all (rs := [13]) (by kernel_rfl) (by simp) ?_
  intro i hi
  obtain rfl := List.mem_singleton.1 hi
  have q1 : (wy.setRow q ds).heap[p]? = _ := (setRow_other wy q p ds (by omega)).trans p1
  have q2 := setRow_heap wy q _ ds _ _ p2
  have qb : Below w.heap.size w (wy.setRow q ds) := pb.trans ⟨rfl, rfl, rfl, by simp, fun k hk => setRow_other _ _ _ _ (by omega)⟩
  have pk : ∀ o, (wy.setRow q ds).cell? ⟨w.heap.size, o, none⟩ = wy.cell? ⟨w.heap.size, o, none⟩ := fun o => by unfold World.cell?; rw [setRow_other wy q w.heap.size ds (by omega)]
  have hS2 : ((wy.setRow q ds).cell? ⟨w.heap.size, 0, none⟩ = some vl /\ (wy.setRow q ds).cell? ⟨w.heap.size, 1, none⟩ = some vd /\ (wy.setRow q ds).cell? ⟨w.heap.size, 2, none⟩ = some vf /\ (wy.setRow q ds).cell? ⟨w.heap.size, 3, none⟩ = some vc) /\ Below w.heap.size w (wy.setRow q ds) := ⟨⟨(pk 0).trans k0, (pk 1).trans k1, (pk 2).trans k2, (pk 3).trans k3⟩, qb⟩
  refine wpOp_storeRow rfl rfl 28 (.tmp 10) (.tmp 46) rfl rfl q ds rfl rfl 28 _ p2 (by rw [hdz]; kernel_rfl) (by rw [hdz]; rfl) hdone ⟨hS2, ?_⟩
  clear k0 k1 k2 k3 pk p1 p2 pb hS2
  generalize wy.setRow q ds = wf at q1 q2 qb X1 X2 X3 Y1 Y2 Y3 |-
  refine wpAnyH_done (by kernel_rfl) ?_ _
  replace q1 := Lib.hid q1
  replace q2 := Lib.hid q2
  have hbel := Lib.hid qb
  replace X1 := Lib.hid X1
  replace X2 := Lib.hid X2
  replace X3 := Lib.hid X3
  replace Y1 := Lib.hid Y1
  replace Y2 := Lib.hid Y2
  replace Y3 := Lib.hid Y3
  replace hcs := Lib.hid hcs
  replace hds := Lib.hid hds
  replace hsz := Lib.hid hsz
  replace hdz := Lib.hid hdz
  clear qb hpq hp hq hone hdone hcl
  go_wp2_with (refine wpList_load_mid rfl 28 (.tmp 9) rfl p 0 rfl cs.toList _ (range_blk q1.out) Tryz.underlying28 rfl (by rw [Array.length_toList, hsz.out]; kernel_rfl) (Hid.out ?_))
  refine Lib.hid ?_
  go_wp2_with (refine wpList_load_mid rfl 28 (.tmp 10) rfl q 0 rfl ds.toList _ (range_blk q2.out) Tryz.underlying28 rfl (by rw [Array.length_toList, hdz.out]; kernel_rfl) (Hid.out ?_))
  refine Lib.hid ?_
  go_wp2_with fail
  rw [<- hcs.out, <- hds.out]
  refine (c_words TT _ _ _ _ _ _ wf).mono ?_; rintro ex wg ⟨rfl, bg⟩
  have hbel2 := Lib.hid (belowThen hbel.out bg (Nat.le_refl _))
  have r1 := blk_below q1.out bg
  have r2 := blk_below q2.out bg
  have z1 : wg.cell? ⟨p, 21, none⟩ = some (.slice a1 l1 c1) := by rw [cell_blk r1, <- Value.agg.inj hcs.out]; rfl
  have z2 : wg.cell? ⟨p, 22, none⟩ = some (.slice a2 l2 c2) := by rw [cell_blk r1, <- Value.agg.inj hcs.out]; rfl
  have z3 : wg.cell? ⟨p, 23, none⟩ = some (.slice a3 l3 c3) := by rw [cell_blk r1, <- Value.agg.inj hcs.out]; rfl
  have u1 : wg.cell? ⟨q, 21, none⟩ = some (.slice d1 m1 e1) := by rw [cell_blk r2, <- Value.agg.inj hds.out]; rfl
  have u2 : wg.cell? ⟨q, 22, none⟩ = some (.slice d2 m2 e2) := by rw [cell_blk r2, <- Value.agg.inj hds.out]; rfl
  have u3 : wg.cell? ⟨q, 23, none⟩ = some (.slice d3 m3 e3) := by rw [cell_blk r2, <- Value.agg.inj hds.out]; rfl
  replace X1 := Lib.hid (X1.out.below bg)
  replace X2 := Lib.hid (X2.out.below bg)
  replace X3 := Lib.hid (X3.out.below bg)
  replace Y1 := Lib.hid (Y1.out.below bg)
  replace Y2 := Lib.hid (Y2.out.below bg)
  replace Y3 := Lib.hid (Y3.out.below bg)
  clear r1 r2 q1 q2 bg hbel hcs hds hsz hdz
  go_wp2_with fail
  refine (c_texts TT.langs _ _ _ X1.out Y1.out).mono ?_; rintro ex w7 ⟨rfl, n7, rfl⟩
  go_wp2_with fail
  refine (c_texts TT.ids _ _ (wg.drewN n7) X2.out Y2.out).mono ?_; rintro ex w8 ⟨rfl, n8, rfl⟩
  go_wp2_with fail
  refine (c_texts TT.unknown _ _ (wg.drewN (n7 + n8)) X3.out Y3.out).mono ?_; rintro ex w9 ⟨rfl, n9, rfl⟩
  go_wp2_with fail
  go_ret
  exact ⟨rfl, Below_drewN hbel2.out (n7 + n8 + n9)⟩

end Go.Proofs.YtcmiiboioemelaaGreatDoor

namespace Go.Proofs.YtcmiiboioemelaaGreatDoor
open Go.ChangeShapes Go.WideShapes Go.ChangeAt Go.RowKit
open Go.ChangeMaps (open_string shut_string)

theorem wf_i64 {n : Int} (h : (Lit.int .i64 n).wf = true) : -9223372036854775808 <= n /\ n <= 9223372036854775807 := by
 have h2 : (decide (IntKind.i64.min <= n) && decide (n <= IntKind.i64.max)) = true := h
 rw [Bool.and_eq_true, decide_eq_true_eq, decide_eq_true_eq] at h2
 have e1 : IntKind.i64.min = -9223372036854775808 := by decide
 have e2 : IntKind.i64.max = 9223372036854775807 := by decide
 rw [e1, e2] at h2
 exact h2
theorem own : ownKnob Tryz.prog.godebug = none := by kernel_rfl
theorem laidOut : laidOutB Tryz.prog = true := by kernel_rfl
theorem siteReads : Tryz.prog.readableRec 25 = true := by kernel_rfl
theorem siteRow : 25 < Tryz.prog.types.size := of_decide_eq_true (by kernel_rfl)

def laidAll' : List (String × DataW Unit) := Rows.fnForTypeWordsRow.laid

set_option maxRecDepth 100000 in
theorem lifted1 (os : Os) (started : os.Started) (H : Type) (enc : TypeId × Value -> H) :
  ReturnsInHanded {} Tryz.checked os 10 .any (fun w args => (Rows.fnForTypeWordsSpec.pre enc Tryz.prog Tryz.f10 Rows.fnForTypeWordsRow.domain false w args /\ laidMetH Tryz.prog laidAll' w) /\ sizedMet enc Tryz.prog Tryz.f10 (OpenSpec.ofChange Rows.fnForTypeWordsSpec) false w args)
   (Rows.fnForTypeWordsSpec.post enc Tryz.prog Tryz.f10 false true false false) := by
 refine returnsInHanded_of_change_and (C := Tryz.checked) (X := fun w _ => laidMetH Tryz.prog laidAll' w) (fun _ _ _ hh h => h.of_heap hh) own started (by kernel_rfl) Tryz.func10
  (ChangeSpec.witness_shaped (enc := enc) (C := Tryz.checked) (os := os) (X := fun w _ => laidMetH Tryz.prog laidAll' w) false (World.laidAll Tryz.prog os laidAll') #[.agg #[.slice none 0 0, .slice none 0 0, .slice none 0 0, .slice none 0 0], .string ByteArray.empty, .string ByteArray.empty, .int .i64 0] 8 (World.laidAll_os _ _ _)
   (World.shaped_of_ZipB (by kernel_rfl) (by kernel_rfl)) (by kernel_rfl) (by kernel_rfl) (by kernel_rfl)
   (by rw [MakeChecks.laidMetH_plain _ _ _ (by kernel_rfl)]; exact laidMet_laidAll _ (by kernel_rfl) (by kernel_rfl))) ?_
 intro W base args ds gs before hval0 hW hc hsz0 _ _
 have hsz : (DataW.weightsEach Tryz.prog (Tryz.f10.params.toList ++ Rows.fnForTypeWordsSpec.plain.varTypes Tryz.prog) (ds ++ gs)).all (· <= reachBytes) = true := hsz0
 have hval : ∀ (j : Nat) t v, Tryz.f10.params[j]? = some t -> args[j]? = some v -> Value.okWide Tryz.prog W .any base t v := hval0
 have hW' := hW
 obtain ⟨p, q, hA0, hV, rfl, _, _⟩ := hW
 have hA : DataW.TrodAll enc Tryz.prog W 0 (fun _ => true) true Tryz.f10.params.toList args.toList ds p := hA0
 rw [Tryz.params10] at hA hval hsz
 obtain ⟨v0, v1, v2, v3, d0, d1, d2, d3, p0, p1, p2, p3, rfl, rfl, rfl, h0, h1, h2, h3⟩ := trodAll_four hA
 obtain ⟨rfl, rfl⟩ := trodVars_none hV
 obtain ⟨a1, rfl, rfl, rfl, y1⟩ := open_string Tryz.underlying9 (hval 1 9 v1 rfl rfl) h1
 obtain ⟨a2, rfl, rfl, rfl, y2⟩ := open_string Tryz.underlying9 (hval 2 9 v2 rfl rfl) h2
 obtain ⟨a3, rfl, rfl, rfl, y3⟩ := open_int Tryz.underlying3 (hval 3 3 v3 rfl rfl) h3
 have w1 : a1.size <= 140737488351232 := by
  have z := sized_string hsz (j := 1) (t := 9) rfl rfl
  rw [Array.length_toList] at z
  exact z
 have w2 : a2.size <= 140737488351232 := by
  have z := sized_string hsz (j := 2) (t := 9) rfl rfl
  rw [Array.length_toList] at z
  exact z
 have w0 : ∀ n ∈ d0.weights Tryz.prog 25, n <= reachBytes := fun n hn => by
  have := List.all_eq_true.1 hsz n (DataW.weights_mem_each (j := 0) (t := 25) rfl rfl n hn)
  simpa using this
 obtain ⟨vl, vd, vf, vc, site, rfl, hs, cl, cd, cc⟩ := open_site h0 (hval 0 25 v0 rfl rfl) w0
 have hlt : ∀ x ∈ p0, x.block < W.heap.size := fun x hx => hW'.lt x (by simp [hx])
 obtain ⟨l1, rfl⟩ := B_surj a1
 obtain ⟨l2, rfl⟩ := B_surj a2
 rw [B_size] at w1 w2
 refine (w_FnForTypeWords site l1 l2 a3 vl vd vf vc W hs cl cd cc w1 w2 (wf_i64 y3)).mono fun e W' ⟨he, bel⟩ => ?_
 subst he
 refine ⟨_, rfl, _, _, _, [], _, [], hW', trodAll_mk1 (shut_bool Tryz.underlying4 _), trodAll_mk4 (Below.trod laidOut siteReads siteRow h0 bel hlt) (shut_string Tryz.underlying9 y1) (shut_string Tryz.underlying9 y2) (shut_int Tryz.underlying3 y3), rfl, bel.frame _, fun h => by cases h⟩

theorem over1 : Rows.FnForTypeWordsSaid :=
 OpenClaim.holds_of_wide 10 Tryz.f10 rfl rfl rfl rfl rfl rfl rfl ⟨rfl, rfl, rfl, rfl, rfl⟩ rfl rfl rfl rfl rfl (by kernel_rfl) Tryz.func10 (by kernel_rfl)
  (of_decide_eq_true (by kernel_rfl)) (by unfold Func.isWrapper; first | (rw [if_pos (by decide +kernel)]; kernel_rfl) | (rw [if_neg (by decide +kernel)]; exact ⟨rfl, rfl⟩))
  (fun os started H enc _ => lifted1 os started H enc)

theorem fnForTypeWords_holds : Rows.FnForTypeWordsCardSaid :=
 Claim7.holds_tied_plain_at .later [] [.data, .pinned, .pinned] true Rows.fnForTypeWordsCard.stood.harness false over1 (fun _ h => by cases h) (by kernel_rfl) (fun _ h => by cases h) fnForTypeWords_row_tie rfl ⟨rfl, rfl⟩ (by kernel_rfl) rfl
  (fun f fn hf hfn => by
   obtain rfl : f = 10 := Option.some.inj ((show Tryz.prog.funcNamed Rows.fnForTypeWordsRow.func = some 10 by kernel_rfl).symm.trans hf) |>.symm
   obtain rfl : fn = Tryz.f10 := (Option.some.inj (Tryz.func10.symm.trans hfn)).symm
   exact ⟨by kernel_rfl, fun j t ht => by
    rw [Tryz.params10] at ht
    have hm : t ∈ [25, 9, 9, 3] := by simpa using Array.mem_of_getElem? ht
    have hall : ([25, 9, 3].all fun u => !Tryz.prog.wantsStandIn u) = true := by kernel_rfl
    exact (show Tryz.prog.wantsStandIn t = false by simpa using List.all_eq_true.1 hall t (by simp at hm |-; exact hm))⟩)
  (by kernel_rfl)
#print axioms fnForTypeWords_holds
end Go.Proofs.YtcmiiboioemelaaGreatDoor
