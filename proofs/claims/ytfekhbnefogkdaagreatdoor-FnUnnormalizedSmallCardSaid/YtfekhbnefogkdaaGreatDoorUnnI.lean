/- What a path in its own letters answers: impl.Unnormalized walked. Conditions: a site in memory that names each language once; a path of ASCII of at most 100000 bytes. -/
import Derived.Test.YtfekhbnefogkdaaGreatDoorKnowA
import Derived.Test.YtfekhbnefogkdaaGreatDoorParse
set_option maxRecDepth 100000
set_option linter.unusedVariables false
set_option linter.unusedSimpArgs false
namespace Go.Proofs.YtfekhbnefogkdaaGreatDoor
open Go.RowKit
attribute [local go_sem] B_extract B_toList B_append

theorem c_getUn {w : World} {base b b2 : Nat} {p : PathS} (h : PathHere w base b b2 p) :
  Calls Tryz.prog 44 #[.pointer (some ⟨b, 0, none⟩)] w fun e w' => e = .returned (.pointer (some ⟨b2, 0, none⟩)) /\ w = w' := by
 obtain ⟨vk, vu, vl, h⟩ := h
 have c25 := h.cell 25 (.pointer (some ⟨b2, 0, none⟩)) rfl
 clear h
 go_enter Tryz.func44, Tryz.ntmps44
 go_wp2_with fail
 go_ret
 exact ⟨rfl, rfl⟩

theorem c_UnnKnown (site : SiteM) (comp s : Str) (vl vd vf vc : Value) (w : World) (hv : SiteAt w vl vd vf vc site) (hcl : CapOK vl) (hcd : CapOK vd) (hcc : CapOK vc) (hf : siteFits site = true) (hc : comp.length <= 2147483647) (hs : s.length <= 2147483647) :
  Calls Tryz.prog 19 #[.agg #[vl, vd, vf, vc], .string (B comp), .string (B s)] w fun e w' => e = .returned (.bool (pathKnown site comp s)) /\ Below w.heap.size w w' := by
 have HPK : Hid (∀ wx, SiteAt wx vl vd vf vc site -> Calls Tryz.prog 12 #[.agg #[vl, vd, vf, vc], .string (B comp), .string (B s)] wx fun e w' => e = .returned (.bool (pathKnown site comp s)) /\ Below wx.heap.size wx w') := fun wx h => c_PathKnown site comp s vl vd vf vc wx h hcl hcd hcc hf hc hs
 obtain ⟨obs, hobs⟩ : ∃ o : Obj, o = .cells #[vl, vd, vf, vc] 25 := ⟨_, rfl⟩
 have hB1 : Hid (Below w.heap.size w (w.alloc obs)) := Below_alloc w obs
 have HV1 : Hid (SiteAt (w.alloc obs) vl vd vf vc site) := hv.alloc obs
 clear hv hcl hcd hcc
 go_enter Tryz.func19, Tryz.ntmps19
 go_wp2_with fail
 rw [<- hobs]
 generalize w.alloc obs = w1 at hB1 HV1 |-
 refine (HPK.out _ HV1.out).mono ?_; rintro e w2 ⟨rfl, b2⟩
 have hB2 := Lib.hid (belowThen hB1.out b2 (Nat.le_refl _))
 go_wp2_with fail
 go_ret
 exact ⟨rfl, hB2.out⟩

set_option maxHeartbeats 4000000 in
theorem c_implUnn (w : World) (site : SiteM) (comp s : Str) (vl vd vf vc : Value) (hs : SiteAt w vl vd vf vc site) (hn : Once site.languages) (hl : s.length <= 900000) (ha : asciiL s = true) :
  Calls Tryz.prog 20 #[.agg #[vl, vd, vf, vc], .string (B comp), .string (B s)] w
   fun e w' => ∃ v, e = .returned v /\ ToldAtN w.heap.size w' v (toldM (doParseM site comp s)) /\ Below w.heap.size w w' := by
 have HS := Lib.hid hs
 have HPR : Hid (∀ wx, SiteAt wx vl vd vf vc site -> Calls Tryz.prog 39 #[.agg #[vl, vd, vf, vc]] wx fun e w' => ∃ pb mb fb sb, e = .returned (.pointer (some ⟨pb, 0, none⟩)) /\ PPAt w' pb mb fb sb vl vd vf vc site /\ wx.heap.size <= pb /\ Below wx.heap.size wx w') := fun wx h => c_parser site vl vd vf vc wx h hn
 have HPA : Hid (∀ wx pb mb fb sb, PPAt wx pb mb fb sb vl vd vf vc site -> Calls Tryz.prog 40 #[.pointer (some ⟨pb, 0, none⟩), .string (B comp), .string (B s)] wx
   fun e w' => ∃ b b2, e = .returned (.pointer (some ⟨b, 0, none⟩)) /\ PathHere w' wx.heap.size b b2 (doParseM site comp (normL s)) /\ SomePath w' b2 (doParseM site comp s) /\ Below wx.heap.size wx w') := fun wx pb mb fb sb h => c_Parse wx comp s pb mb fb sb vl vd vf vc site h hl ha
 have ok : PathOK (doParseM site comp s) := doParse_ok site comp s (by omega)
 have HTD : Hid (∀ wx base b vk vu vl1 un, PathAt wx base b (doParseM site comp s) vk vu vl1 un -> Calls Tryz.prog 38 #[.pointer (some ⟨b, 0, none⟩)] wx fun e w' => ∃ v, e = .returned v /\ ToldAtN wx.heap.size w' v (toldM (doParseM site comp s)) /\ Below wx.heap.size wx w') := fun wx base b vk vu vl1 un h => c_told _ wx base b vk vu vl1 un h ok
 generalize doParseM site comp (normL s) = P1 at HPA
 generalize doParseM site comp s = P2 at HPA HTD |-
 obtain ⟨obj, ho⟩ : ∃ o : Obj, o = .cells #[.string (B []), .string (B []), .string (B []), .string (B []), .string (B []), .string (B []), .string (B []), .string (B []), .string (B []), .string (B []), .string (B []), .string (B []), .string (B []), .string (B []), .string (B []), .string (B []), .string (B []), .string (B []), .string (B []), .string (B []), .string (B []), .slice none 0 0, .slice none 0 0, .slice none 0 0, .bool false, .bool false, .bool false, .bool false, .bool false, .bool false, .int .i64 0] 28 := ⟨_, rfl⟩
 obtain ⟨obs, hobs⟩ : ∃ o : Obj, o = .cells #[vl, vd, vf, vc] 25 := ⟨_, rfl⟩
 have hb1 := Lib.hid (Below_alloc w obs)
 have hb2 := Lib.hid (Below_alloc (w.alloc obs) obj)
 have hz1 : (w.alloc obs).heap.size = w.heap.size + 1 := by simp
 have hz2 : ((w.alloc obs).alloc obj).heap.size = w.heap.size + 2 := by simp
 have hblk : Hid (((w.alloc obs).alloc obj).heap[w.heap.size + 1]? = some (.cells #[.string (B []), .string (B []), .string (B []), .string (B []), .string (B []), .string (B []), .string (B []), .string (B []), .string (B []), .string (B []), .string (B []), .string (B []), .string (B []), .string (B []), .string (B []), .string (B []), .string (B []), .string (B []), .string (B []), .string (B []), .string (B []), .slice none 0 0, .slice none 0 0, .slice none 0 0, .bool false, .bool false, .bool false, .bool false, .bool false, .bool false, .int .i64 0] 28)) := by
  have := blk_new (w.alloc obs) obj
  rw [hz1, ho] at this
  rw [ho]; exact this
 have hsb : Hid (((w.alloc obs).alloc obj).heap[w.heap.size]? = some (.cells #[vl, vd, vf, vc] 25)) := by
  have := blk_old (w.alloc obs) obj (blk_new w obs)
  rw [hobs] at this |-; exact this
 clear hs hn ha ok
 go_enter Tryz.func20, Tryz.ntmps20
 go_wp2_with fail
 rw [<- ho, <- hobs]
 have hsi2 : Hid (SiteAt ((w.alloc obs).alloc obj) vl vd vf vc site) := (HS.out.alloc obs).alloc obj
 generalize (w.alloc obs).alloc obj = w2 at hb2 hz2 hblk hsb hsi2 |-
 have hB2 : Hid (Below w.heap.size w w2) := hb1.out.trans (hb2.out.mono (by omega))
 clear hb1 hb2 HS
 refine (HPR.out _ hsi2.out).mono ?_; rintro e w3 ⟨pb, mb, fb, sb, rfl, hpp, hpb, hb3⟩
 replace hpp := Lib.hid hpp
 replace hpb := Lib.hid hpb
 have hB3 := Lib.hid (belowThen hB2.out hb3 (Nat.le_refl _))
 have hblk3 := Lib.hid (blk_below hblk.out hb3)
 clear HPR hsi2 hB2 hb3 hblk hsb
 go_wp2_with fail
 refine (HPA.out _ pb mb fb sb hpp.out).mono ?_; rintro e w4 ⟨b, b2, rfl, h1, h2, hb4⟩
 have HGU := Lib.hid (c_getUn h1)
 clear h1
 obtain ⟨base2, vk, vu, vl1, un, hat⟩ := h2
 replace hat := Lib.hid hat
 have hB4 := Lib.hid (belowThen hB3.out hb4 (Nat.le_refl _))
 have hblk4 := Lib.hid (blk_below hblk3.out hb4)
 clear HPA hb4 hblk3 hpp hpb hB3
 go_wp2_with fail
 refine HGU.out.mono ?_; rintro e w4' ⟨rfl, rfl⟩
 clear HGU
 go_wp2_with fail
 refine (HTD.out _ _ _ _ _ _ _ hat.out).mono ?_; rintro e w5 ⟨v, rfl, ⟨ql, qi, qu, rfl, ⟨s1, n1⟩, ⟨s2, n2⟩, ⟨s3, n3⟩⟩, hb5⟩
 have hsz4 : w.heap.size + 2 <= w4.heap.size := by have := lt_of_block hblk4.out; omega
 have hB5 := Lib.hid (belowThen hB4.out hb5 (Nat.le_refl _))
 have hblk5 := Lib.hid (blk_below hblk4.out hb5)
 obtain ⟨a1, l1, c1, rfl⟩ := s1.slice
 obtain ⟨a2, l2, c2, rfl⟩ := s2.slice
 obtain ⟨a3, l3, c3, rfl⟩ := s3.slice
 obtain ⟨cs, hcs, hsz, hone⟩ := told_cells (toldM P2) a1 a2 a3 l1 l2 l3 c1 c2 c3
 rw [hcs]
 replace hcs := Lib.hid hcs
 replace s1 := Lib.hid s1
 replace s2 := Lib.hid s2
 replace s3 := Lib.hid s3
 replace n1 : Hid (NewRow (w.heap.size + 2) _) := n1.mono hsz4
 replace n2 : Hid (NewRow (w.heap.size + 2) _) := n2.mono hsz4
 replace n3 : Hid (NewRow (w.heap.size + 2) _) := n3.mono hsz4
 clear HTD hb5 hat hblk4 hB4 hsz4
 rename_i hK
 refine hK _ _ ?_
 refine wpList_store_row rfl 28 (.tmp 6) (.tmp 13) rfl (w.heap.size + 1) cs ?_ ?_ 28 _ hblk5.out ?_ ?_ ?_ ?_
 ·rfl
 ·rfl
 ·rw [hsz]; kernel_rfl
 ·rw [hsz]; rfl
 ·exact hone
 have hrow := Lib.hid (setRow_heap w5 (w.heap.size + 1) _ cs _ _ hblk5.out)
 have hbel : Hid (Below w.heap.size w (w5.setRow (w.heap.size + 1) cs)) := hB5.out.trans ⟨rfl, rfl, rfl, by simp, fun k hk => setRow_other _ _ _ _ (by omega)⟩
 have t1 := Lib.hid (s1.out.setRow (g := w.heap.size + 1) (cs := cs) n1.out (by omega))
 have t2 := Lib.hid (s2.out.setRow (g := w.heap.size + 1) (cs := cs) n2.out (by omega))
 have t3 := Lib.hid (s3.out.setRow (g := w.heap.size + 1) (cs := cs) n3.out (by omega))
 generalize w5.setRow _ _ = wf at hrow hbel t1 t2 t3 |-
 go_wp2_with fail
 refine bodyPost_ret (results_cell (w.heap.size + 1) rfl rfl (run_loadVar_row wf (w.heap.size + 1) _ 28 cs _ _ hrow.out Tryz.underlying28 rfl (by rw [hsz]; kernel_rfl))) rfl ?_
 exact ⟨_, rfl, ⟨_, _, _, hcs.out.symm, ⟨t1.out, n1.out.mono (by omega)⟩, ⟨t2.out, n2.out.mono (by omega)⟩, ⟨t3.out, n3.out.mono (by omega)⟩⟩, hbel.out⟩

end Go.Proofs.YtfekhbnefogkdaaGreatDoor
