/- A path as one of another type, and without its leading slash: Path.ForType, Path.TrimLeadingSlash, impl.ForType, impl.Trimmed walked. Conditions: a site in memory that names each language once; a path of ASCII of at most 900000 bytes. Printed by gen_viewt.py. -/
import Derived.Test.YtbnmgneaofhdiaaGreatDoorParse
import Derived.Test.YtbnmgneaofhdiaaGreatDoorHelpM
set_option maxRecDepth 100000
set_option linter.unusedVariables false
set_option linter.unusedSimpArgs false
namespace Go.Proofs.YtbnmgneaofhdiaaGreatDoor
open Go.RowKit
attribute [local go_sem] B_extract B_toList B_append

theorem PathOK.typed {p : PathS} (h : PathOK p) (t : Int) : PathOK { p with typ := t } := ⟨h.len, h.pos, h.hc, h.lc, h.sc, h.nm, h.kw, h.uw, h.kl, h.ul, h.ll, h.fm, h.la, h.k0⟩
theorem PathOK.trimmed {p : PathS} (h : PathOK p) : PathOK { p with trim := true } := ⟨h.len, h.pos, h.hc, h.lc, h.sc, h.nm, h.kw, h.uw, h.kl, h.ul, h.ll, h.fm, h.la, h.k0⟩
/-- A path is copied: its lists are the same, its own cells are new. -/
theorem PathAt.copied {w w' : World} {base b b' : Nat} {p q : PathS} {vk vu vl : Value} {un : Un} (h : PathAt w base b p vk vu vl un) (hb : Below w.heap.size w w') (hblk : w'.heap[b']? = some (.cells (pcells q vk vu vl un) 75 (0, 0))) (hk : q.known = p.known) (hu : q.unknown = p.unknown) (hl : q.langs = p.langs) (hbb : w.heap.size <= b') : PathAt w' base b' q vk vu vl un := by
 have h' := h.below hb
 refine ⟨hblk, by rw [hk]; exact h'.kn, by rw [hu]; exact h'.uk, by rw [hl]; exact h'.lg, h'.ne, h'.kp, ?_⟩
 have := lt_of_block h.blk
 have := h.lb
 omega
theorem c_forType (p : PathS) (vk vu vl : Value) (b2 : Nat) (t : Int) (w : World) (base b : Nat) (h : PathAt w base b p vk vu vl ⟨.pointer (some ⟨b2, 0, none⟩), none⟩) :
  Calls Tryz.prog 34 #[.agg (pcells p vk vu vl ⟨.pointer (some ⟨b2, 0, none⟩), none⟩), .int .i64 t] w fun e w' => ∃ b', e = .returned (.pointer (some ⟨b', 0, none⟩)) /\ PathAt w' base b' { p with typ := t } vk vu vl ⟨.pointer (some ⟨b2, 0, none⟩), none⟩ /\ Below w.heap.size w w' := by
 have hh := Lib.hid h
 obtain ⟨a1, c1, rfl, _⟩ := pairs_read h.kn
 obtain ⟨a2, c2, rfl, _⟩ := pairs_read h.uk
 obtain ⟨a3, c3, rfl, _⟩ := nats_read h.lg
 clear h
 unfold pcells
 go_enter Tryz.func34, Tryz.ntmps34
 go_wp2_with fail
 go_ret
 exact ⟨w.heap.size, rfl, hh.out.copied (Below_alloc w _) (blk_new w _) rfl rfl rfl (Nat.le_refl _), Below_alloc w _⟩
theorem c_trimLead (p : PathS) (vk vu vl : Value) (b2 : Nat) (w : World) (base b : Nat) (h : PathAt w base b p vk vu vl ⟨.pointer (some ⟨b2, 0, none⟩), none⟩) :
  Calls Tryz.prog 33 #[.agg (pcells p vk vu vl ⟨.pointer (some ⟨b2, 0, none⟩), none⟩)] w fun e w' => ∃ b', e = .returned (.pointer (some ⟨b', 0, none⟩)) /\ PathAt w' base b' { p with trim := true } vk vu vl ⟨.pointer (some ⟨b2, 0, none⟩), none⟩ /\ Below w.heap.size w w' := by
 have hh := Lib.hid h
 obtain ⟨a1, c1, rfl, _⟩ := pairs_read h.kn
 obtain ⟨a2, c2, rfl, _⟩ := pairs_read h.uk
 obtain ⟨a3, c3, rfl, _⟩ := nats_read h.lg
 clear h
 unfold pcells
 go_enter Tryz.func33, Tryz.ntmps33
 go_wp2_with fail
 go_ret
 exact ⟨w.heap.size, rfl, hh.out.copied (Below_alloc w _) (blk_new w _) rfl rfl rfl (Nat.le_refl _), Below_alloc w _⟩

set_option maxHeartbeats 4000000 in
theorem c_implForType (w : World) (site : SiteM) (comp s : Str) (vl vd vf vc : Value) (hs : SiteAt w vl vd vf vc site) (t : Int) (hn : Once site.languages) (hl : s.length <= 900000) (ha : asciiL s = true) :
  Calls Tryz.prog 19 #[.agg #[vl, vd, vf, vc], .string (B comp), .string (B s), .int .i64 t] w
   fun e w' => ∃ v, e = .returned v /\ ToldAtN w.heap.size w' v (toldM { (doParseM site comp (normL s)) with typ := t }) /\ Below w.heap.size w w' := by
 have HS := Lib.hid hs
 have HPR : Hid (∀ wx, SiteAt wx vl vd vf vc site -> Calls Tryz.prog 31 #[.agg #[vl, vd, vf, vc]] wx fun e w' => ∃ pb mb fb sb, e = .returned (.pointer (some ⟨pb, 0, none⟩)) /\ PPAt w' pb mb fb sb vl vd vf vc site /\ wx.heap.size <= pb /\ Below wx.heap.size wx w') := fun wx h => c_parser site vl vd vf vc wx h hn
 have HPA : Hid (∀ wx pb mb fb sb, PPAt wx pb mb fb sb vl vd vf vc site -> Calls Tryz.prog 32 #[.pointer (some ⟨pb, 0, none⟩), .string (B comp), .string (B s)] wx
   fun e w' => ∃ b b2, e = .returned (.pointer (some ⟨b, 0, none⟩)) /\ PathHere w' wx.heap.size b b2 (doParseM site comp (normL s)) /\ SomePath w' b2 (doParseM site comp s) /\ Below wx.heap.size wx w') := fun wx pb mb fb sb h => c_Parse wx comp s pb mb fb sb vl vd vf vc site h hl ha
 have ok : PathOK (doParseM site comp (normL s)) := doParse_ok site comp (normL s) (by rw [normL_len]; omega)
 have HTD : Hid (∀ wx base b vk vu vl1 un, PathAt wx base b { (doParseM site comp (normL s)) with typ := t } vk vu vl1 un -> Calls Tryz.prog 30 #[.pointer (some ⟨b, 0, none⟩)] wx fun e w' => ∃ v, e = .returned v /\ ToldAtN wx.heap.size w' v (toldM { (doParseM site comp (normL s)) with typ := t }) /\ Below wx.heap.size wx w') := fun wx base b vk vu vl1 un h => c_told _ wx base b vk vu vl1 un h (ok.typed t)
 have HFT : Hid (∀ wx base b vk vu vl1 b2, PathAt wx base b (doParseM site comp (normL s)) vk vu vl1 ⟨.pointer (some ⟨b2, 0, none⟩), none⟩ -> Calls Tryz.prog 34 #[.agg (pcells (doParseM site comp (normL s)) vk vu vl1 ⟨.pointer (some ⟨b2, 0, none⟩), none⟩), .int .i64 t] wx fun e w' => ∃ b', e = .returned (.pointer (some ⟨b', 0, none⟩)) /\ PathAt w' base b' { (doParseM site comp (normL s)) with typ := t } vk vu vl1 ⟨.pointer (some ⟨b2, 0, none⟩), none⟩ /\ Below wx.heap.size wx w') := fun wx base b vk vu vl1 b2 h => c_forType _ vk vu vl1 b2 t wx base b h
 generalize doParseM site comp (normL s) = P1 at HPA HTD HFT |-
 generalize doParseM site comp s = P2 at HPA
 obtain ⟨obj, ho⟩ : ∃ o : Obj, o = .cells #[.string (B []), .string (B []), .string (B []), .string (B []), .string (B []), .string (B []), .string (B []), .string (B []), .string (B []), .string (B []), .string (B []), .string (B []), .string (B []), .string (B []), .string (B []), .string (B []), .string (B []), .string (B []), .string (B []), .string (B []), .string (B []), .slice none 0 0, .slice none 0 0, .slice none 0 0, .bool false, .bool false, .bool false, .bool false, .bool false, .bool false, .int .i64 0] 28 := ⟨_, rfl⟩
 obtain ⟨obs, hobs⟩ : ∃ o : Obj, o = .cells #[vl, vd, vf, vc] 25 := ⟨_, rfl⟩
 have hb1 := Lib.hid (Below_alloc w obs)
 have hb2 := Lib.hid (Below_alloc (w.alloc obs) obj)
 have hz1 : (w.alloc obs).heap.size = w.heap.size + 1 := by simp
 have hz2 : ((w.alloc obs).alloc obj).heap.size = w.heap.size + 2 := by simp
 have hblk : Hid (((w.alloc obs).alloc obj).heap[w.heap.size + 1]? = some (.cells #[.string (B []), .string (B []), .string (B []), .string (B []), .string (B []), .string (B []), .string (B []), .string (B []), .string (B []), .string (B []), .string (B []), .string (B []), .string (B []), .string (B []), .string (B []), .string (B []), .string (B []), .string (B []), .string (B []), .string (B []), .string (B []), .slice none 0 0, .slice none 0 0, .slice none 0 0, .bool false, .bool false, .bool false, .bool false, .bool false, .bool false, .int .i64 0] 28)) := by
  have := blk_new (w.alloc obs) obj
  rw [hz1, ho] at this
  rw [ho]; exact this
 have hsb : Hid (((w.alloc obs).alloc obj).heap[w.heap.size]? = some (.cells #[vl, vd, vf, vc] 25)) := by
  have := blk_old (w.alloc obs) obj (blk_new w obs)
  rw [hobs] at this |-; exact this
 clear hs hn ha ok
 go_enter Tryz.func19, Tryz.ntmps19
 go_wp2_with fail
 rw [<- ho, <- hobs]
 have hsi2 : Hid (SiteAt ((w.alloc obs).alloc obj) vl vd vf vc site) := (HS.out.alloc obs).alloc obj
 generalize (w.alloc obs).alloc obj = w2 at hb2 hz2 hblk hsb hsi2 |-
 have hB2 : Hid (Below w.heap.size w w2) := hb1.out.trans (hb2.out.mono (by omega))
 clear hb1 hb2 HS
 refine (HPR.out _ hsi2.out).mono ?_; rintro e w3 ⟨pb, mb, fb, sb, rfl, hpp, hpb, hb3⟩
 replace hpp := Lib.hid hpp
 replace hpb := Lib.hid hpb
 have hB3 := Lib.hid (belowThen hB2.out hb3 (Nat.le_refl _))
 have hblk3 := Lib.hid (blk_below hblk.out hb3)
 clear HPR hsi2 hB2 hb3 hblk hsb
 go_wp2_with fail
 refine (HPA.out _ pb mb fb sb hpp.out).mono ?_; rintro e w4 ⟨b, b2, rfl, h1, h2, hb4⟩
 clear h2
 obtain ⟨vk, vu, vl1, hat⟩ := h1
 replace hat := Lib.hid hat
 have hB4 := Lib.hid (belowThen hB3.out hb4 (Nat.le_refl _))
 have hblk4 := Lib.hid (blk_below hblk3.out hb4)
 clear HPA hb4 hblk3 hpp hpb hB3
 obtain ⟨pc, hpc⟩ : ∃ c : List Value, c = (pcells P1 vk vu vl1 ⟨.pointer (some ⟨b2, 0, none⟩), none⟩).toList := ⟨_, rfl⟩
 have hr4 : Hid (w4.rangeAt b 0 pc) := by show World.rangeAt _ _ _ _; rw [hpc]; exact range_blk hat.out.blk
 have hpl : Hid (pc.length = 26) := by show _ = _; rw [hpc]; rfl
 have hpa : Hid (pc.toArray = pcells P1 vk vu vl1 ⟨.pointer (some ⟨b2, 0, none⟩), none⟩) := by show _ = _; rw [hpc]
 clear hpc
 go_wp2_with (refine wpList_load_g (by rfl) 75 (.tmp 14) rfl b 0 rfl pc _ hr4.out Tryz.underlying75 rfl (by rw [hpl.out]; kernel_rfl) (Hid.out ?_))
 refine Lib.hid ?_
 go_wp2_with fail
 rw [hpa.out]
 refine (HFT.out _ _ _ _ _ _ _ hat.out).mono ?_; rintro e w4' ⟨b', rfl, hat', hb4'⟩
 replace hat := Lib.hid hat'
 replace hB4 := Lib.hid (belowThen hB4.out hb4' (Nat.le_refl _))
 replace hblk4 := Lib.hid (blk_below hblk4.out hb4')
 clear HFT hb4' hat' hr4 hpl hpa
 go_wp2_with fail
 refine (HTD.out _ _ _ _ _ _ _ hat.out).mono ?_; rintro e w5 ⟨v, rfl, ⟨ql, qi, qu, rfl, ⟨s1, n1⟩, ⟨s2, n2⟩, ⟨s3, n3⟩⟩, hb5⟩
 have hsz4 : w.heap.size + 2 <= w4'.heap.size := by have := lt_of_block hblk4.out; omega
 have hB5 := Lib.hid (belowThen hB4.out hb5 (Nat.le_refl _))
 have hblk5 := Lib.hid (blk_below hblk4.out hb5)
 obtain ⟨a1, l1, c1, rfl⟩ := s1.slice
 obtain ⟨a2, l2, c2, rfl⟩ := s2.slice
 obtain ⟨a3, l3, c3, rfl⟩ := s3.slice
 obtain ⟨cs, hcs, hsz, hone⟩ := told_cells (toldM { P1 with typ := t }) a1 a2 a3 l1 l2 l3 c1 c2 c3
 rw [hcs]
 replace hcs := Lib.hid hcs
 replace s1 := Lib.hid s1
 replace s2 := Lib.hid s2
 replace s3 := Lib.hid s3
 replace n1 : Hid (NewRow (w.heap.size + 2) _) := n1.mono hsz4
 replace n2 : Hid (NewRow (w.heap.size + 2) _) := n2.mono hsz4
 replace n3 : Hid (NewRow (w.heap.size + 2) _) := n3.mono hsz4
 clear HTD hb5 hat hblk4 hB4 hsz4
 rename_i hK
 refine hK _ _ ?_
 refine wpList_store_row rfl 28 (.tmp 8) (.tmp 18) rfl (w.heap.size + 1) cs ?_ ?_ 28 _ hblk5.out ?_ ?_ ?_ ?_
 ·rfl
 ·rfl
 ·rw [hsz]; kernel_rfl
 ·rw [hsz]; rfl
 ·exact hone
 have hrow := Lib.hid (setRow_heap w5 (w.heap.size + 1) _ cs _ _ hblk5.out)
 have hbel : Hid (Below w.heap.size w (w5.setRow (w.heap.size + 1) cs)) := hB5.out.trans ⟨rfl, rfl, rfl, by simp, fun k hk => setRow_other _ _ _ _ (by omega)⟩
 have t1 := Lib.hid (s1.out.setRow (g := w.heap.size + 1) (cs := cs) n1.out (by omega))
 have t2 := Lib.hid (s2.out.setRow (g := w.heap.size + 1) (cs := cs) n2.out (by omega))
 have t3 := Lib.hid (s3.out.setRow (g := w.heap.size + 1) (cs := cs) n3.out (by omega))
 generalize w5.setRow _ _ = wf at hrow hbel t1 t2 t3 |-
 go_wp2_with fail
 refine bodyPost_ret (results_cell (w.heap.size + 1) rfl rfl (run_loadVar_row wf (w.heap.size + 1) _ 28 cs _ _ hrow.out Tryz.underlying28 rfl (by rw [hsz]; kernel_rfl))) rfl ?_
 exact ⟨_, rfl, ⟨_, _, _, hcs.out.symm, ⟨t1.out, n1.out.mono (by omega)⟩, ⟨t2.out, n2.out.mono (by omega)⟩, ⟨t3.out, n3.out.mono (by omega)⟩⟩, hbel.out⟩


set_option maxHeartbeats 4000000 in
theorem c_implTrimmed (w : World) (site : SiteM) (comp s : Str) (vl vd vf vc : Value) (hs : SiteAt w vl vd vf vc site) (hn : Once site.languages) (hl : s.length <= 900000) (ha : asciiL s = true) :
  Calls Tryz.prog 14 #[.agg #[vl, vd, vf, vc], .string (B comp), .string (B s)] w
   fun e w' => ∃ v, e = .returned v /\ ToldAtN w.heap.size w' v (toldM { (doParseM site comp (normL s)) with trim := true }) /\ Below w.heap.size w w' := by
 have HS := Lib.hid hs
 have HPR : Hid (∀ wx, SiteAt wx vl vd vf vc site -> Calls Tryz.prog 31 #[.agg #[vl, vd, vf, vc]] wx fun e w' => ∃ pb mb fb sb, e = .returned (.pointer (some ⟨pb, 0, none⟩)) /\ PPAt w' pb mb fb sb vl vd vf vc site /\ wx.heap.size <= pb /\ Below wx.heap.size wx w') := fun wx h => c_parser site vl vd vf vc wx h hn
 have HPA : Hid (∀ wx pb mb fb sb, PPAt wx pb mb fb sb vl vd vf vc site -> Calls Tryz.prog 32 #[.pointer (some ⟨pb, 0, none⟩), .string (B comp), .string (B s)] wx
   fun e w' => ∃ b b2, e = .returned (.pointer (some ⟨b, 0, none⟩)) /\ PathHere w' wx.heap.size b b2 (doParseM site comp (normL s)) /\ SomePath w' b2 (doParseM site comp s) /\ Below wx.heap.size wx w') := fun wx pb mb fb sb h => c_Parse wx comp s pb mb fb sb vl vd vf vc site h hl ha
 have ok : PathOK (doParseM site comp (normL s)) := doParse_ok site comp (normL s) (by rw [normL_len]; omega)
 have HTD : Hid (∀ wx base b vk vu vl1 un, PathAt wx base b { (doParseM site comp (normL s)) with trim := true } vk vu vl1 un -> Calls Tryz.prog 30 #[.pointer (some ⟨b, 0, none⟩)] wx fun e w' => ∃ v, e = .returned v /\ ToldAtN wx.heap.size w' v (toldM { (doParseM site comp (normL s)) with trim := true }) /\ Below wx.heap.size wx w') := fun wx base b vk vu vl1 un h => c_told _ wx base b vk vu vl1 un h ok.trimmed
 have HFT : Hid (∀ wx base b vk vu vl1 b2, PathAt wx base b (doParseM site comp (normL s)) vk vu vl1 ⟨.pointer (some ⟨b2, 0, none⟩), none⟩ -> Calls Tryz.prog 33 #[.agg (pcells (doParseM site comp (normL s)) vk vu vl1 ⟨.pointer (some ⟨b2, 0, none⟩), none⟩)] wx fun e w' => ∃ b', e = .returned (.pointer (some ⟨b', 0, none⟩)) /\ PathAt w' base b' { (doParseM site comp (normL s)) with trim := true } vk vu vl1 ⟨.pointer (some ⟨b2, 0, none⟩), none⟩ /\ Below wx.heap.size wx w') := fun wx base b vk vu vl1 b2 h => c_trimLead _ vk vu vl1 b2 wx base b h
 generalize doParseM site comp (normL s) = P1 at HPA HTD HFT |-
 generalize doParseM site comp s = P2 at HPA
 obtain ⟨obj, ho⟩ : ∃ o : Obj, o = .cells #[.string (B []), .string (B []), .string (B []), .string (B []), .string (B []), .string (B []), .string (B []), .string (B []), .string (B []), .string (B []), .string (B []), .string (B []), .string (B []), .string (B []), .string (B []), .string (B []), .string (B []), .string (B []), .string (B []), .string (B []), .string (B []), .slice none 0 0, .slice none 0 0, .slice none 0 0, .bool false, .bool false, .bool false, .bool false, .bool false, .bool false, .int .i64 0] 28 := ⟨_, rfl⟩
 obtain ⟨obs, hobs⟩ : ∃ o : Obj, o = .cells #[vl, vd, vf, vc] 25 := ⟨_, rfl⟩
 have hb1 := Lib.hid (Below_alloc w obs)
 have hb2 := Lib.hid (Below_alloc (w.alloc obs) obj)
 have hz1 : (w.alloc obs).heap.size = w.heap.size + 1 := by simp
 have hz2 : ((w.alloc obs).alloc obj).heap.size = w.heap.size + 2 := by simp
 have hblk : Hid (((w.alloc obs).alloc obj).heap[w.heap.size + 1]? = some (.cells #[.string (B []), .string (B []), .string (B []), .string (B []), .string (B []), .string (B []), .string (B []), .string (B []), .string (B []), .string (B []), .string (B []), .string (B []), .string (B []), .string (B []), .string (B []), .string (B []), .string (B []), .string (B []), .string (B []), .string (B []), .string (B []), .slice none 0 0, .slice none 0 0, .slice none 0 0, .bool false, .bool false, .bool false, .bool false, .bool false, .bool false, .int .i64 0] 28)) := by
  have := blk_new (w.alloc obs) obj
  rw [hz1, ho] at this
  rw [ho]; exact this
 have hsb : Hid (((w.alloc obs).alloc obj).heap[w.heap.size]? = some (.cells #[vl, vd, vf, vc] 25)) := by
  have := blk_old (w.alloc obs) obj (blk_new w obs)
  rw [hobs] at this |-; exact this
 clear hs hn ha ok
 go_enter Tryz.func14, Tryz.ntmps14
 go_wp2_with fail
 rw [<- ho, <- hobs]
 have hsi2 : Hid (SiteAt ((w.alloc obs).alloc obj) vl vd vf vc site) := (HS.out.alloc obs).alloc obj
 generalize (w.alloc obs).alloc obj = w2 at hb2 hz2 hblk hsb hsi2 |-
 have hB2 : Hid (Below w.heap.size w w2) := hb1.out.trans (hb2.out.mono (by omega))
 clear hb1 hb2 HS
 refine (HPR.out _ hsi2.out).mono ?_; rintro e w3 ⟨pb, mb, fb, sb, rfl, hpp, hpb, hb3⟩
 replace hpp := Lib.hid hpp
 replace hpb := Lib.hid hpb
 have hB3 := Lib.hid (belowThen hB2.out hb3 (Nat.le_refl _))
 have hblk3 := Lib.hid (blk_below hblk.out hb3)
 clear HPR hsi2 hB2 hb3 hblk hsb
 go_wp2_with fail
 refine (HPA.out _ pb mb fb sb hpp.out).mono ?_; rintro e w4 ⟨b, b2, rfl, h1, h2, hb4⟩
 clear h2
 obtain ⟨vk, vu, vl1, hat⟩ := h1
 replace hat := Lib.hid hat
 have hB4 := Lib.hid (belowThen hB3.out hb4 (Nat.le_refl _))
 have hblk4 := Lib.hid (blk_below hblk3.out hb4)
 clear HPA hb4 hblk3 hpp hpb hB3
 obtain ⟨pc, hpc⟩ : ∃ c : List Value, c = (pcells P1 vk vu vl1 ⟨.pointer (some ⟨b2, 0, none⟩), none⟩).toList := ⟨_, rfl⟩
 have hr4 : Hid (w4.rangeAt b 0 pc) := by show World.rangeAt _ _ _ _; rw [hpc]; exact range_blk hat.out.blk
 have hpl : Hid (pc.length = 26) := by show _ = _; rw [hpc]; rfl
 have hpa : Hid (pc.toArray = pcells P1 vk vu vl1 ⟨.pointer (some ⟨b2, 0, none⟩), none⟩) := by show _ = _; rw [hpc]
 clear hpc
 go_wp2_with (refine wpList_load_g (by rfl) 75 (.tmp 12) rfl b 0 rfl pc _ hr4.out Tryz.underlying75 rfl (by rw [hpl.out]; kernel_rfl) (Hid.out ?_))
 refine Lib.hid ?_
 go_wp2_with fail
 rw [hpa.out]
 refine (HFT.out _ _ _ _ _ _ _ hat.out).mono ?_; rintro e w4' ⟨b', rfl, hat', hb4'⟩
 replace hat := Lib.hid hat'
 replace hB4 := Lib.hid (belowThen hB4.out hb4' (Nat.le_refl _))
 replace hblk4 := Lib.hid (blk_below hblk4.out hb4')
 clear HFT hb4' hat' hr4 hpl hpa
 go_wp2_with fail
 refine (HTD.out _ _ _ _ _ _ _ hat.out).mono ?_; rintro e w5 ⟨v, rfl, ⟨ql, qi, qu, rfl, ⟨s1, n1⟩, ⟨s2, n2⟩, ⟨s3, n3⟩⟩, hb5⟩
 have hsz4 : w.heap.size + 2 <= w4'.heap.size := by have := lt_of_block hblk4.out; omega
 have hB5 := Lib.hid (belowThen hB4.out hb5 (Nat.le_refl _))
 have hblk5 := Lib.hid (blk_below hblk4.out hb5)
 obtain ⟨a1, l1, c1, rfl⟩ := s1.slice
 obtain ⟨a2, l2, c2, rfl⟩ := s2.slice
 obtain ⟨a3, l3, c3, rfl⟩ := s3.slice
 obtain ⟨cs, hcs, hsz, hone⟩ := told_cells (toldM { P1 with trim := true }) a1 a2 a3 l1 l2 l3 c1 c2 c3
 rw [hcs]
 replace hcs := Lib.hid hcs
 replace s1 := Lib.hid s1
 replace s2 := Lib.hid s2
 replace s3 := Lib.hid s3
 replace n1 : Hid (NewRow (w.heap.size + 2) _) := n1.mono hsz4
 replace n2 : Hid (NewRow (w.heap.size + 2) _) := n2.mono hsz4
 replace n3 : Hid (NewRow (w.heap.size + 2) _) := n3.mono hsz4
 clear HTD hb5 hat hblk4 hB4 hsz4
 rename_i hK
 refine hK _ _ ?_
 refine wpList_store_row rfl 28 (.tmp 6) (.tmp 15) rfl (w.heap.size + 1) cs ?_ ?_ 28 _ hblk5.out ?_ ?_ ?_ ?_
 ·rfl
 ·rfl
 ·rw [hsz]; kernel_rfl
 ·rw [hsz]; rfl
 ·exact hone
 have hrow := Lib.hid (setRow_heap w5 (w.heap.size + 1) _ cs _ _ hblk5.out)
 have hbel : Hid (Below w.heap.size w (w5.setRow (w.heap.size + 1) cs)) := hB5.out.trans ⟨rfl, rfl, rfl, by simp, fun k hk => setRow_other _ _ _ _ (by omega)⟩
 have t1 := Lib.hid (s1.out.setRow (g := w.heap.size + 1) (cs := cs) n1.out (by omega))
 have t2 := Lib.hid (s2.out.setRow (g := w.heap.size + 1) (cs := cs) n2.out (by omega))
 have t3 := Lib.hid (s3.out.setRow (g := w.heap.size + 1) (cs := cs) n3.out (by omega))
 generalize w5.setRow _ _ = wf at hrow hbel t1 t2 t3 |-
 go_wp2_with fail
 refine bodyPost_ret (results_cell (w.heap.size + 1) rfl rfl (run_loadVar_row wf (w.heap.size + 1) _ 28 cs _ _ hrow.out Tryz.underlying28 rfl (by rw [hsz]; kernel_rfl))) rfl ?_
 exact ⟨_, rfl, ⟨_, _, _, hcs.out.symm, ⟨t1.out, n1.out.mono (by omega)⟩, ⟨t2.out, n2.out.mono (by omega)⟩, ⟨t3.out, n3.out.mono (by omega)⟩⟩, hbel.out⟩



end Go.Proofs.YtbnmgneaofhdiaaGreatDoor
