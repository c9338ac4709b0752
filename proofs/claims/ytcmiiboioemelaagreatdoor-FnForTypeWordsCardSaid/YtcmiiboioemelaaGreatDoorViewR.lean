/- A path as a resource: ModifyPathBundleTypeResource, impl.Resource, spec.typed and spec.Resource walked. Conditions: a site in memory that names each language once; a path of ASCII of at most 100000 bytes. Printed by gen_viewr.py. -/
import Derived.Test.YtcmiiboioemelaaGreatDoorSpecP
import Derived.Test.YtcmiiboioemelaaGreatDoorParse
import Derived.Test.YtcmiiboioemelaaGreatDoorHelpM
import Derived.Test.YtcmiiboioemelaaGreatDoorEqM
set_option maxRecDepth 100000
set_option linter.unusedVariables false
set_option linter.unusedSimpArgs false
namespace Go.Proofs.YtcmiiboioemelaaGreatDoor
open Go.RowKit
attribute [local go_sem] B_extract B_toList B_append

theorem PathOK.typedR {p : PathS} (h : PathOK p) (t : Int) : PathOK { p with typ := t } := ⟨h.len, h.pos, h.hc, h.lc, h.sc, h.nm, h.kw, h.uw, h.kl, h.ul, h.ll, h.fm, h.la, h.k0⟩
theorem PathAt.setTyp {w : World} {base b : Nat} {p : PathS} {vk vu vl uv : Value} (h : PathAt w base b p vk vu vl ⟨uv, none⟩) (t : Int) : PathAt (w.setCell ⟨b, 5, none⟩ (.int .i64 t)) base b { p with typ := t } vk vu vl ⟨uv, none⟩ /\ Below base w (w.setCell ⟨b, 5, none⟩ (.int .i64 t)) := by
 refine ⟨⟨?_, ?_, ?_, ?_, h.ne, fun g cur e => by (cases e), h.lb⟩, (Below.refl _ _).setCell h.lb _⟩
 ·rw [blk_set _ h.blk]; rfl
 ·exact ownsRow_far h.kn fun g hg => heap_set_far _ (by obtain ⟨cur, hc, _⟩ := ownsRow_blk h.kn hg; exact blk_ne hc h.blk lh_path)
 ·exact ownsRow_far h.uk fun g hg => heap_set_far _ (by obtain ⟨cur, hc, _⟩ := ownsRow_blk h.uk hg; exact blk_ne hc h.blk lh_path)
 ·exact ownsRow_far h.lg fun g hg => heap_set_far _ (by obtain ⟨cur, hc, _⟩ := ownsRow_blk h.lg hg; exact blk_ne hc h.blk int_path)
/-- The type of a resource. -/
def resT (t : Int) : Int := if (decide (1 <= t) && decide (t <= 5)) = true then 1 else 0
theorem c_modify (p : PathS) (w : World) (base b : Nat) (vk vu vl uv : Value) (h : PathAt w base b p vk vu vl ⟨uv, none⟩) :
  Calls Tryz.prog 67 #[.pointer (some ⟨b, 0, none⟩)] w fun e w' => e = .returned (.tuple #[]) /\ PathAt w' base b { p with typ := resT p.typ } vk vu vl ⟨uv, none⟩ /\ Below base w w' := by
 have H := Lib.hid (c_IsContent p w base b vk vu vl _ h)
 have HR : Hid (resT p.typ = if (decide (1 <= p.typ) && decide (p.typ <= 5)) = true then 1 else 0) := rfl
 have hs := Lib.hid (h.setTyp)
 have k5 := h.cell 5 (.int .i64 p.typ) rfl
 have f5 := h.free 5
 clear h
 generalize resT p.typ = rt at HR |-
 cases hc : (decide (1 <= p.typ) && decide (p.typ <= 5)) with
 | true =>
  rw [hc] at H HR
  have hrt : rt = 1 := HR.out
  subst hrt
  clear HR
  go_enter Tryz.func67, Tryz.ntmps67
  go_wp2_with fail
  refine H.out.mono ?_; rintro e w' ⟨rfl, rfl⟩
  go_wp2_with fail
  (first | go_end0 | (refine bodyPost_ret (results_none rfl _ _ _) rfl ?_))
  exact ⟨rfl, hs.out 1⟩
 | false =>
  rw [hc] at H HR
  have hrt : rt = 0 := HR.out
  subst hrt
  clear HR
  go_enter Tryz.func67, Tryz.ntmps67
  go_wp2_with fail
  refine H.out.mono ?_; rintro e w' ⟨rfl, rfl⟩
  go_wp2_with fail
  (first | go_end0 | (refine bodyPost_ret (results_none rfl _ _ _) rfl ?_))
  exact ⟨rfl, hs.out 0⟩

set_option maxHeartbeats 4000000 in
theorem c_implRes (w : World) (site : SiteM) (comp s : Str) (vl vd vf vc : Value) (hs : SiteAt w vl vd vf vc site) (hn : Once site.languages) (hl : s.length <= 900000) (ha : asciiL s = true) :
  Calls Tryz.prog 41 #[.agg #[vl, vd, vf, vc], .string (B comp), .string (B s)] w
   fun e w' => ∃ v, e = .returned v /\ ToldAtN w.heap.size w' v (toldM { (doParseM site comp (normL s)) with typ := resT (doParseM site comp (normL s)).typ }) /\ Below w.heap.size w w' := by
 have HS := Lib.hid hs
 have HPR : Hid (∀ wx, SiteAt wx vl vd vf vc site -> Calls Tryz.prog 46 #[.agg #[vl, vd, vf, vc]] wx fun e w' => ∃ pb mb fb sb, e = .returned (.pointer (some ⟨pb, 0, none⟩)) /\ PPAt w' pb mb fb sb vl vd vf vc site /\ wx.heap.size <= pb /\ Below wx.heap.size wx w') := fun wx h => c_parser site vl vd vf vc wx h hn
 have HPA : Hid (∀ wx pb mb fb sb, PPAt wx pb mb fb sb vl vd vf vc site -> Calls Tryz.prog 57 #[.pointer (some ⟨pb, 0, none⟩), .string (B comp), .string (B s)] wx
   fun e w' => ∃ b b2, e = .returned (.pointer (some ⟨b, 0, none⟩)) /\ PathHere w' wx.heap.size b b2 (doParseM site comp (normL s)) /\ SomePath w' b2 (doParseM site comp s) /\ Below wx.heap.size wx w') := fun wx pb mb fb sb h => c_Parse wx comp s pb mb fb sb vl vd vf vc site h hl ha
 have ok : PathOK (doParseM site comp (normL s)) := doParse_ok site comp (normL s) (by rw [normL_len]; omega)
 have HTD : Hid (∀ wx base b vk vu vl1 un, PathAt wx base b { (doParseM site comp (normL s)) with typ := resT (doParseM site comp (normL s)).typ } vk vu vl1 un -> Calls Tryz.prog 56 #[.pointer (some ⟨b, 0, none⟩)] wx fun e w' => ∃ v, e = .returned v /\ ToldAtN wx.heap.size w' v (toldM { (doParseM site comp (normL s)) with typ := resT (doParseM site comp (normL s)).typ }) /\ Below wx.heap.size wx w') := fun wx base b vk vu vl1 un h => c_told _ wx base b vk vu vl1 un h (ok.typedR _)
 have HMO : Hid (∀ wx base b vk vu vl1 uv, PathAt wx base b (doParseM site comp (normL s)) vk vu vl1 ⟨uv, none⟩ -> Calls Tryz.prog 67 #[.pointer (some ⟨b, 0, none⟩)] wx fun e w' => e = .returned (.tuple #[]) /\ PathAt w' base b { (doParseM site comp (normL s)) with typ := resT (doParseM site comp (normL s)).typ } vk vu vl1 ⟨uv, none⟩ /\ Below base wx w') := fun wx base b vk vu vl1 uv h => c_modify _ wx base b vk vu vl1 uv h
 obtain ⟨P2, hP2⟩ : ∃ p, p = { (doParseM site comp (normL s)) with typ := resT (doParseM site comp (normL s)).typ } := ⟨_, rfl⟩
 rw [<- hP2] at HTD HMO |-
 clear hP2
 generalize doParseM site comp (normL s) = P1 at HPA HMO
 generalize doParseM site comp s = P3 at HPA
 obtain ⟨obj, ho⟩ : ∃ o : Obj, o = .cells #[.string (B []), .string (B []), .string (B []), .string (B []), .string (B []), .string (B []), .string (B []), .string (B []), .string (B []), .string (B []), .string (B []), .string (B []), .string (B []), .string (B []), .string (B []), .string (B []), .string (B []), .string (B []), .string (B []), .string (B []), .string (B []), .slice none 0 0, .slice none 0 0, .slice none 0 0, .bool false, .bool false, .bool false, .bool false, .bool false, .bool false, .int .i64 0] 28 := ⟨_, rfl⟩
 obtain ⟨obs, hobs⟩ : ∃ o : Obj, o = .cells #[vl, vd, vf, vc] 25 := ⟨_, rfl⟩
 have hb1 := Lib.hid (Below_alloc w obs)
 have hb2 := Lib.hid (Below_alloc (w.alloc obs) obj)
 have hz1 : (w.alloc obs).heap.size = w.heap.size + 1 := by simp
 have hz2 : ((w.alloc obs).alloc obj).heap.size = w.heap.size + 2 := by simp
 have hblk : Hid (((w.alloc obs).alloc obj).heap[w.heap.size + 1]? = some (.cells #[.string (B []), .string (B []), .string (B []), .string (B []), .string (B []), .string (B []), .string (B []), .string (B []), .string (B []), .string (B []), .string (B []), .string (B []), .string (B []), .string (B []), .string (B []), .string (B []), .string (B []), .string (B []), .string (B []), .string (B []), .string (B []), .slice none 0 0, .slice none 0 0, .slice none 0 0, .bool false, .bool false, .bool false, .bool false, .bool false, .bool false, .int .i64 0] 28)) := by
  have := blk_new (w.alloc obs) obj
  rw [hz1, ho] at this
  rw [ho]; exact this
 have hsb : Hid (((w.alloc obs).alloc obj).heap[w.heap.size]? = some (.cells #[vl, vd, vf, vc] 25)) := by
  have := blk_old (w.alloc obs) obj (blk_new w obs)
  rw [hobs] at this |-; exact this
 clear hs hn ha ok
 go_enter Tryz.func41, Tryz.ntmps41
 go_wp2_with fail
 rw [<- ho, <- hobs]
 have hsi2 : Hid (SiteAt ((w.alloc obs).alloc obj) vl vd vf vc site) := (HS.out.alloc obs).alloc obj
 generalize (w.alloc obs).alloc obj = w2 at hb2 hz2 hblk hsb hsi2 |-
 have hB2 : Hid (Below w.heap.size w w2) := hb1.out.trans (hb2.out.mono (by omega))
 clear hb1 hb2 HS
 refine (HPR.out _ hsi2.out).mono ?_; rintro e w3 ⟨pb, mb, fb, sb, rfl, hpp, hpb, hb3⟩
 replace hpp := Lib.hid hpp
 replace hpb := Lib.hid hpb
 have hB3 := Lib.hid (belowThen hB2.out hb3 (Nat.le_refl _))
 have hblk3 := Lib.hid (blk_below hblk.out hb3)
 clear HPR hsi2 hB2 hb3 hblk hsb
 go_wp2_with fail
 refine (HPA.out _ pb mb fb sb hpp.out).mono ?_; rintro e w4 ⟨b, b2, rfl, h1, h2, hb4⟩
 clear h2
 obtain ⟨vk, vu, vl1, hat⟩ := h1
 replace hat := Lib.hid hat
 have hB4 := Lib.hid (belowThen hB3.out hb4 (Nat.le_refl _))
 have hblk4 := Lib.hid (blk_below hblk3.out hb4)
 have hlt3 : w.heap.size + 1 < w3.heap.size := lt_of_block hblk3.out
 clear HPA hb4 hblk3 hpp hpb hB3
 go_wp2_with fail
 refine (HMO.out _ _ _ _ _ _ _ hat.out).mono ?_; rintro e w4' ⟨rfl, hat', hb4'⟩
 replace hat := Lib.hid hat'
 replace hB4 : Hid (Below w.heap.size w w4') := hB4.out.trans (hb4'.mono (by omega))
 replace hblk4 : Hid (w4'.heap[w.heap.size + 1]? = _) := (hb4'.block _ hlt3).trans hblk4.out
 clear HMO hb4' hat' hlt3
 go_wp2_with fail
 refine (HTD.out _ _ _ _ _ _ _ hat.out).mono ?_; rintro e w5 ⟨v, rfl, ⟨ql, qi, qu, rfl, ⟨s1, n1⟩, ⟨s2, n2⟩, ⟨s3, n3⟩⟩, hb5⟩
 have hsz4 : w.heap.size + 2 <= w4'.heap.size := by have := lt_of_block hblk4.out; omega
 have hB5 := Lib.hid (belowThen hB4.out hb5 (Nat.le_refl _))
 have hblk5 := Lib.hid (blk_below hblk4.out hb5)
 obtain ⟨a1, l1, c1, rfl⟩ := s1.slice
 obtain ⟨a2, l2, c2, rfl⟩ := s2.slice
 obtain ⟨a3, l3, c3, rfl⟩ := s3.slice
 obtain ⟨cs, hcs, hsz, hone⟩ := told_cells (toldM P2) a1 a2 a3 l1 l2 l3 c1 c2 c3
 rw [hcs]
 replace hcs := Lib.hid hcs
 replace s1 := Lib.hid s1
 replace s2 := Lib.hid s2
 replace s3 := Lib.hid s3
 replace n1 : Hid (NewRow (w.heap.size + 2) _) := n1.mono hsz4
 replace n2 : Hid (NewRow (w.heap.size + 2) _) := n2.mono hsz4
 replace n3 : Hid (NewRow (w.heap.size + 2) _) := n3.mono hsz4
 clear HTD hb5 hat hblk4 hB4 hsz4
 rename_i hK
 refine hK _ _ ?_
 refine wpList_store_row rfl 28 (.tmp 6) (.tmp 16) rfl (w.heap.size + 1) cs ?_ ?_ 28 _ hblk5.out ?_ ?_ ?_ ?_
 ·rfl
 ·rfl
 ·rw [hsz]; kernel_rfl
 ·rw [hsz]; rfl
 ·exact hone
 have hrow := Lib.hid (setRow_heap w5 (w.heap.size + 1) _ cs _ _ hblk5.out)
 have hbel : Hid (Below w.heap.size w (w5.setRow (w.heap.size + 1) cs)) := hB5.out.trans ⟨rfl, rfl, rfl, by simp, fun k hk => setRow_other _ _ _ _ (by omega)⟩
 have t1 := Lib.hid (s1.out.setRow (g := w.heap.size + 1) (cs := cs) n1.out (by omega))
 have t2 := Lib.hid (s2.out.setRow (g := w.heap.size + 1) (cs := cs) n2.out (by omega))
 have t3 := Lib.hid (s3.out.setRow (g := w.heap.size + 1) (cs := cs) n3.out (by omega))
 generalize w5.setRow _ _ = wf at hrow hbel t1 t2 t3 |-
 go_wp2_with fail
 refine bodyPost_ret (results_cell (w.heap.size + 1) rfl rfl (run_loadVar_row wf (w.heap.size + 1) _ 28 cs _ _ hrow.out Tryz.underlying28 rfl (by rw [hsz]; kernel_rfl))) rfl ?_
 exact ⟨_, rfl, ⟨_, _, _, hcs.out.symm, ⟨t1.out, n1.out.mono (by omega)⟩, ⟨t2.out, n2.out.mono (by omega)⟩, ⟨t3.out, n3.out.mono (by omega)⟩⟩, hbel.out⟩



set_option maxHeartbeats 8000000 in
theorem c_typed (W : WordsM) (t : Int) (a1 a2 a3 : Option Addr) (c1 c2 c3 : Nat) (w : World) (hp : W.path.length <= 100000000) (hn : W.name.length <= W.path.length) (hne : W.nameEnd <= W.name.length) (hx : W.ids ≠ [] -> W.ext.length + 1 <= W.name.length) (hxl : W.ext.length <= 1000000000) (h47 : W.path.head? = some 47) :
  Calls Tryz.prog 63 #[.agg #[.string (B W.component), .string (B W.path), .string (B W.name), .int .i64 W.nameEnd, .slice a1 W.ids.length c1, .slice a2 W.unknown.length c2, .slice a3 W.langs.length c3, .string (B W.ext), .string (B W.format), .string (B W.kind), .string (B W.layout), .string (B W.lang), .string (B W.custom), .bool W.disabled, .int .i64 W.typ], .int .i64 t] w fun e w' => e = .returned (toldVal (typedL W t) (.slice a3 W.langs.length c3) (.slice a1 W.ids.length c1) (.slice a2 W.unknown.length c2)) /\ Below w.heap.size w w' := by
 obtain ⟨wl, hwl⟩ : ∃ l : List Value, l.toArray = #[.string (B W.component), .string (B W.path), .string (B W.name), .int .i64 W.nameEnd, .slice a1 W.ids.length c1, .slice a2 W.unknown.length c2, .slice a3 W.langs.length c3, .string (B W.ext), .string (B W.format), .string (B W.kind), .string (B W.layout), .string (B W.lang), .string (B W.custom), .bool W.disabled, .int .i64 W.typ] := ⟨_, rfl⟩
 obtain ⟨wt, hwt⟩ : ∃ l : List Value, l.toArray = #[.string (B W.component), .string (B W.path), .string (B W.name), .int .i64 W.nameEnd, .slice a1 W.ids.length c1, .slice a2 W.unknown.length c2, .slice a3 W.langs.length c3, .string (B W.ext), .string (B W.format), .string (B W.kind), .string (B W.layout), .string (B W.lang), .string (B W.custom), .bool W.disabled, .int .i64 t] := ⟨_, rfl⟩
 have HSE : Hid (∀ wx, Calls Tryz.prog 118 #[.agg wl.toArray] wx fun e w' => e = .returned (.string (B (sectionOf W))) /\ Below wx.heap.size wx w') := fun wx => by rw [hwl]; exact c_sectionOf W a1 a2 a3 c1 c2 c3 wx hp
 have HAN : Hid (∀ wx, Calls Tryz.prog 60 #[.agg wt.toArray] wx fun e w' => e = .returned (toldVal (answers { W with typ := t }) (.slice a3 W.langs.length c3) (.slice a1 W.ids.length c1) (.slice a2 W.unknown.length c2)) /\ Below wx.heap.size wx w') := fun wx => by rw [hwt]; exact c_Answers { W with typ := t } a1 a2 a3 c1 c2 c3 wx hp hn hne hx hxl h47
 have hll : wl.length = 15 := by have := congrArg Array.size hwl; simpa using this
 have hlt : wt.length = 15 := by have := congrArg Array.size hwt; simpa using this
 obtain ⟨cs, hcs, hsz, hone⟩ := told_cells (answers { W with typ := t }) a3 a1 a2 W.langs.length W.ids.length W.unknown.length c3 c1 c2
 obtain ⟨cz, hcz, hzz, hzone⟩ := told_cells (typedL W t) a3 a1 a2 W.langs.length W.ids.length W.unknown.length c3 c1 c2
 have hset : Hid (cs.setIfInBounds 3 (.string (B (sectionOf W))) = cz) := by
  show _ = _
  rw [<- Value.agg.inj hcs, <- Value.agg.inj hcz]; rfl
 have hc3 : Hid (cs[3]? = some (.string (B (sectionOf { W with typ := t })))) := by show _ = _; rw [<- Value.agg.inj hcs]; rfl
 rw [hcz]
 rw [hcs] at HAN
 clear hp hn hne hx hxl h47 hcs hcz
 generalize sectionOf W = SE at HSE hset
 generalize sectionOf { W with typ := t } = SE2 at hc3
 replace hwl := Lib.hid hwl
 replace hwt := Lib.hid hwt
 replace hsz := Lib.hid hsz
 replace hone := Lib.hid hone
 replace hzz := Lib.hid hzz
 replace hzone := Lib.hid hzone
 replace hll := Lib.hid hll
 replace hlt := Lib.hid hlt
 go_enter Tryz.func63, Tryz.ntmps63
 go_upto_region 1 with fail
 generalize hw1 : (w.alloc _).alloc _ = w1
 have hA : Hid (w1.heap[w.heap.size]? = some (.cells wl.toArray 60)) := by show _ = _; rw [<- hw1, hwl.out]; exact blk_old _ _ (blk_new w _)
 have hR : Hid (w1.heap[w.heap.size + 1]? = some (.cells zeroCells 28)) := by show _ = _; rw [<- hw1]; exact blk_snd _ _ _
 have hB1 : Hid (Below w.heap.size w w1) := by show Below _ _ _; rw [<- hw1]; exact (Below_alloc w _).trans ((Below_alloc (w.alloc _) _).mono (by simp))
 clear hw1
 go_wp2_with (refine wpList_load_g (by rfl) 60 (.tmp 2) rfl w.heap.size 0 rfl wl _ (range_blk hA.out) Tryz.underlying60 rfl (by rw [hll.out]; kernel_rfl) (Hid.out ?_))
 refine Lib.hid ?_
 go_wp2_with fail
 refine (HSE.out _).mono ?_; rintro e w2 ⟨rfl, b2⟩
 have hA2 := blk_below hA.out b2
 have hR2 := Lib.hid (blk_below hR.out b2)
 have hB2 := Lib.hid (belowThen hB1.out b2 (Nat.le_refl _))
 have k14 : w2.cell? ⟨w.heap.size, 14, none⟩ = some (.int .i64 W.typ) := by rw [cell_blk hA2, hwl.out]; rfl
 have f14 : w2.frozen? ⟨w.heap.size, 14, none⟩ = false := free_blk hA2 14
 replace hA2 := Lib.hid hA2
 clear hA hR hB1 b2 HSE
 go_upto_region 3 with fail
 have hA3 : Hid ((w2.setCell ⟨w.heap.size, 14, none⟩ (.int .i64 t)).heap[w.heap.size]? = some (.cells wt.toArray 60)) := by show _ = _; rw [blk_set _ hA2.out, hwl.out, hwt.out]; rfl
 have hR3 : Hid ((w2.setCell ⟨w.heap.size, 14, none⟩ (.int .i64 t)).heap[w.heap.size + 1]? = some (.cells zeroCells 28)) := (heap_set_far _ (by omega)).trans hR2.out
 have hB3 : Hid (Below w.heap.size w (w2.setCell ⟨w.heap.size, 14, none⟩ (.int .i64 t))) := hB2.out.setCell (Nat.le_refl _) _
 clear k14 f14 hA2 hR2 hB2
 generalize w2.setCell _ _ = w3 at hA3 hR3 hB3 |-
 go_wp2_with (refine wpList_load_g (by rfl) 60 (.tmp 2) rfl w.heap.size 0 rfl wt _ (range_blk hA3.out) Tryz.underlying60 rfl (by rw [hlt.out]; kernel_rfl) (Hid.out ?_))
 refine Lib.hid ?_
 go_wp2_with fail
 refine (HAN.out _).mono ?_; rintro e w4 ⟨rfl, b4⟩
 have hR4 := Lib.hid (blk_below hR3.out b4)
 have hB4 := Lib.hid (belowThen hB3.out b4 (Nat.le_refl _))
 clear hA3 hR3 hB3 b4 HAN
 go_wp2_with (refine wpList_store_row rfl 28 (.tmp 6) (.tmp 12) rfl w4.heap.size cs rfl rfl 28 _ (blk_new w4 _) (by rw [hsz.out]; kernel_rfl) (by rw [hsz.out]; rfl) hone.out (Hid.out ?_))
 have hT := setRow_heap (w4.alloc (.cells zeroCells 28)) w4.heap.size _ cs _ _ (blk_new w4 _)
 have hb5 : Below w4.heap.size w4 ((w4.alloc (.cells zeroCells 28)).setRow w4.heap.size cs) := (Below_alloc w4 _).trans ⟨rfl, rfl, rfl, by simp, fun k hk => setRow_other _ _ _ _ (by omega)⟩
 have hR5 := Lib.hid (blk_below hR4.out hb5)
 have hB5 := Lib.hid (belowThen hB4.out hb5 (Nat.le_refl _))
 have hlt4 : w.heap.size + 1 < w4.heap.size := lt_of_block hR4.out
 clear hR4 hB4 hb5
 generalize (w4.alloc _).setRow _ _ = w5 at hT hR5 hB5 |-
 generalize w4.heap.size = gT at hT hlt4 |-
 refine Lib.hid ?_
 have k3 : w5.cell? ⟨gT, 3, none⟩ = some (.string (B SE2)) := by rw [cell_blk hT, hc3.out]
 have f3 : w5.frozen? ⟨gT, 3, none⟩ = false := free_blk hT 3
 replace hT := Lib.hid hT
 go_upto_region 5 with fail
 have hT6 : Hid ((w5.setCell ⟨gT, 3, none⟩ (.string (B SE))).heap[gT]? = some (.cells cz 28)) := by show _ = _; rw [blk_set _ hT.out, hset.out]
 have hR6 : Hid ((w5.setCell ⟨gT, 3, none⟩ (.string (B SE))).heap[w.heap.size + 1]? = some (.cells zeroCells 28)) := (heap_set_far _ (by omega)).trans hR5.out
 have hB6 : Hid (Below w.heap.size w (w5.setCell ⟨gT, 3, none⟩ (.string (B SE)))) := hB5.out.setCell (by show w.heap.size <= gT; omega) _
 clear k3 f3 hT hR5 hB5 hset hc3
 generalize w5.setCell _ _ = w6 at hT6 hR6 hB6 |-
 go_wp2_with (refine wpList_load_g (by rfl) 28 (.tmp 6) rfl gT 0 rfl cz.toList _ (range_blk hT6.out) Tryz.underlying28 rfl (by rw [Array.length_toList, hzz.out]; kernel_rfl) (Hid.out ?_))
 refine Lib.hid ?_
 go_wp2_with (refine wpList_store_row rfl 28 (.tmp 4) (.tmp 15) rfl (w.heap.size + 1) cz rfl rfl 28 _ hR6.out (by rw [hzz.out]; kernel_rfl) (by rw [hzz.out]; rfl) hzone.out (Hid.out ?_))
 have hrow := Lib.hid (setRow_heap w6 (w.heap.size + 1) _ cz _ _ hR6.out)
 have hbel : Hid (Below w.heap.size w (w6.setRow (w.heap.size + 1) cz)) := hB6.out.trans ⟨rfl, rfl, rfl, by simp, fun k hk => setRow_other _ _ _ _ (by omega)⟩
 clear hT6 hR6 hB6
 generalize w6.setRow _ _ = wf at hrow hbel |-
 refine Lib.hid ?_
 go_wp2_with fail
 refine bodyPost_ret (results_cell (w.heap.size + 1) rfl rfl (run_loadVar_row wf (w.heap.size + 1) _ 28 cz _ _ hrow.out Tryz.underlying28 rfl (by rw [hzz.out]; kernel_rfl))) rfl ?_
 exact ⟨rfl, hbel.out⟩

set_option maxHeartbeats 8000000 in
theorem c_specRes (site : SiteM) (comp s : Str) (vl vd vf vc : Value) (w : World) (hv : SiteAt w vl vd vf vc site) (hcl : comp.length <= 2147483647) (hsl : s.length <= 100000) :
  Calls Tryz.prog 42 #[.agg #[vl, vd, vf, vc], .string (B comp), .string (B s)] w fun e w' => ∃ v, e = .returned v /\ ToldAtN w.heap.size w' v (typedL (wordsOf site comp s false) (resT (wordsOf site comp s false).typ)) /\ Below w.heap.size w w' := by
 have HWO : Hid (∀ wx, SiteAt wx vl vd vf vc site -> Calls Tryz.prog 61 #[.agg #[vl, vd, vf, vc], .string (B comp), .string (B s), .bool false] wx fun e w' => ∃ v, e = .returned v /\ WordsAtN wx.heap.size w' v (wordsOf site comp s false) /\ Below wx.heap.size wx w') := fun wx h => c_WordsOf site comp s false vl vd vf vc wx h hcl hsl
 have HL := words_like site comp s false
 generalize wordsOf site comp s false = W at HWO HL |-
 have HT0 : Hid (∀ (t : Int) (a1 a2 a3 : Option Addr) (c1 c2 c3 : Nat) (wx : World), Calls Tryz.prog 63 #[.agg #[.string (B W.component), .string (B W.path), .string (B W.name), .int .i64 W.nameEnd, .slice a1 W.ids.length c1, .slice a2 W.unknown.length c2, .slice a3 W.langs.length c3, .string (B W.ext), .string (B W.format), .string (B W.kind), .string (B W.layout), .string (B W.lang), .string (B W.custom), .bool W.disabled, .int .i64 W.typ], .int .i64 t] wx fun e w' => e = .returned (toldVal (typedL W t) (.slice a3 W.langs.length c3) (.slice a1 W.ids.length c1) (.slice a2 W.unknown.length c2)) /\ Below wx.heap.size wx w') := fun t a1 a2 a3 c1 c2 c3 wx => by
  have h1 := HL.plen
  have h2 := HL.nlen
  have h3 := HL.xlen
  exact c_typed W t a1 a2 a3 c1 c2 c3 wx (by omega) h2 HL.nend HL.ext (by omega) HL.head
 have HR : Hid (resT W.typ = if (decide (1 <= W.typ) && decide (W.typ <= 5)) = true then 1 else 0) := rfl
 generalize resT W.typ = rt at HR |-
 clear HL
 obtain ⟨obs, hobs⟩ : ∃ o : Obj, o = .cells #[vl, vd, vf, vc] 25 := ⟨_, rfl⟩
 obtain ⟨oz, hoz⟩ : ∃ o : Obj, o = .cells zeroCells 28 := ⟨_, rfl⟩
 have hB1 : Hid (Below w.heap.size w ((w.alloc obs).alloc oz)) := (Below_alloc w obs).trans ((Below_alloc (w.alloc obs) oz).mono (by simp))
 have hz1 : Hid (((w.alloc obs).alloc oz).heap.size = w.heap.size + 2) := by show _ = _; simp
 have HV1 : Hid (SiteAt ((w.alloc obs).alloc oz) vl vd vf vc site) := (hv.alloc obs).alloc oz
 have hrs : Hid (((w.alloc obs).alloc oz).heap[w.heap.size + 1]? = some (.cells zeroCells 28)) := by show _ = _; rw [hoz]; exact blk_snd _ _ _
 clear hv
 go_enter Tryz.func42, Tryz.ntmps42
 go_wp2_with fail
 rw [<- hobs, <- hoz]
 generalize (w.alloc obs).alloc oz = w1 at hB1 hz1 hrs HV1 |-
 refine (HWO.out _ HV1.out).mono ?_; rintro ex w2 ⟨v, rfl, ⟨vi, vu, vg, rfl, ⟨s1, n1⟩, ⟨s2, n2⟩, ⟨s3, n3⟩⟩, b2⟩
 obtain ⟨a1, c1, rfl⟩ : ∃ a c, vi = .slice a W.ids.length c := by obtain ⟨_, a, c, e, _⟩ := s1; exact ⟨a, c, e⟩
 obtain ⟨a2, c2, rfl⟩ : ∃ a c, vu = .slice a W.unknown.length c := by obtain ⟨_, a, c, e, _⟩ := s2; exact ⟨a, c, e⟩
 obtain ⟨a3, c3, rfl⟩ : ∃ a c, vg = .slice a W.langs.length c := by obtain ⟨_, a, c, e, _⟩ := s3; exact ⟨a, c, e⟩
 obtain ⟨wl, hwl⟩ : ∃ l : List Value, l = wcells W (.slice a1 W.ids.length c1) (.slice a2 W.unknown.length c2) (.slice a3 W.langs.length c3) := ⟨_, rfl⟩
 have HTY : Hid (∀ wx, Calls Tryz.prog 63 #[.agg wl.toArray, .int .i64 rt] wx fun e w' => e = .returned (toldVal (typedL W rt) (.slice a3 W.langs.length c3) (.slice a1 W.ids.length c1) (.slice a2 W.unknown.length c2)) /\ Below wx.heap.size wx w') := fun wx => by rw [hwl]; exact HT0.out rt a1 a2 a3 c1 c2 c3 wx
 have hll : Hid (wl.length = 15) := by show _ = _; rw [hwl]; rfl
 have hls : Hid (wl.toArray.size = 15) := by show _ = _; rw [hwl]; rfl
 have hlo : Hid (wl.toArray.all (·.oneCell') = true) := by show _ = _; rw [hwl]; kernel_rfl
 have hl14 : Hid (wl.toArray[14]? = some (.int .i64 W.typ)) := by show _ = _; rw [hwl]; rfl
 rw [<- hwl]
 have hB2 := Lib.hid (belowThen hB1.out b2 (Nat.le_refl _))
 have hrs2 := Lib.hid (blk_below hrs.out b2)
 have hz2 := hz1.out
 rw [hz2] at n1 n2 n3
 replace s1 := Lib.hid s1
 replace s2 := Lib.hid s2
 replace s3 := Lib.hid s3
 replace n1 := Lib.hid n1
 replace n2 := Lib.hid n2
 replace n3 := Lib.hid n3
 clear b2 hB1 hrs HV1 HWO hz1 hz2 hobs hoz hwl HT0
 go_wp2_with (refine wpList_store_row rfl 60 (.tmp 7) (.tmp 11) rfl w2.heap.size wl.toArray rfl rfl 60 _ (blk_new w2 _) (by rw [hls.out]; kernel_rfl) (by rw [hls.out]; rfl) hlo.out (Hid.out ?_))
 have hA3 := Lib.hid (setRow_heap (w2.alloc (.cells #[.string (B []), .string (B []), .string (B []), .int .i64 0, .slice none 0 0, .slice none 0 0, .slice none 0 0, .string (B []), .string (B []), .string (B []), .string (B []), .string (B []), .string (B []), .bool false, .int .i64 0] 60)) w2.heap.size _ wl.toArray _ _ (blk_new w2 _))
 have b3 : Below w2.heap.size w2 ((w2.alloc (.cells #[.string (B []), .string (B []), .string (B []), .int .i64 0, .slice none 0 0, .slice none 0 0, .slice none 0 0, .string (B []), .string (B []), .string (B []), .string (B []), .string (B []), .string (B []), .bool false, .int .i64 0] 60)).setRow w2.heap.size wl.toArray) := (Below_alloc w2 _).trans ⟨rfl, rfl, rfl, by simp, fun k hk => setRow_other _ _ _ _ (by omega)⟩
 generalize (w2.alloc _).setRow _ _ = w3 at hA3 b3 |-
 have hB3 := Lib.hid (belowThen hB2.out b3 (Nat.le_refl _))
 have hrs3 := Lib.hid (blk_below hrs2.out b3)
 replace s1 := Lib.hid (s1.out.below b3)
 replace s2 := Lib.hid (s2.out.below b3)
 replace s3 := Lib.hid (s3.out.below b3)
 clear b3 hB2 hrs2
 generalize w2.heap.size = gW at hA3 |-
 refine Lib.hid ?_
 have k14 : w3.cell? ⟨gW, 14, none⟩ = some (.int .i64 W.typ) := by rw [cell_blk hA3.out, hl14.out]
 by_cases h1 : 1 <= W.typ
 ·by_cases h2 : W.typ <= 5
  ·have hrt : rt = 1 := by rw [HR.out, decide_eq_true h1, decide_eq_true h2]; rfl
   clear HR
   subst hrt
   go_upto_region 3 with fail
   go_wp2_with (refine wpList_load_g (by rfl) 60 (.tmp 7) rfl gW 0 rfl wl _ (range_blk hA3.out) Tryz.underlying60 rfl (by rw [hll.out]; kernel_rfl) (Hid.out ?_))
   refine Lib.hid ?_
   go_wp2_with fail
   refine (HTY.out _).mono ?_; rintro ex w4 ⟨rfl, b4⟩
   obtain ⟨cs, hcs, hsz, hone⟩ := told_cells (typedL W 1) a3 a1 a2 W.langs.length W.ids.length W.unknown.length c3 c1 c2
   rw [hcs]
   replace hcs := Lib.hid hcs
   replace hsz := Lib.hid hsz
   have hB4 := Lib.hid (belowThen hB3.out b4 (Nat.le_refl _))
   have hrs4 := Lib.hid (blk_below hrs3.out b4)
   have r1 := Lib.hid (s1.out.below b4)
   have r2 := Lib.hid (s2.out.below b4)
   have r3 := Lib.hid (s3.out.below b4)
   clear b4 hB3 hrs3 s1 s2 s3 HTY hA3
   go_wp2_with (refine wpList_store_row rfl 28 (.tmp 6) (.tmp 21) rfl (w.heap.size + 1) cs rfl rfl 28 _ hrs4.out (by rw [hsz.out]; kernel_rfl) (by rw [hsz.out]; rfl) hone (Hid.out ?_))
   have hrow := Lib.hid (setRow_heap w4 (w.heap.size + 1) _ cs _ _ hrs4.out)
   have hbel : Hid (Below w.heap.size w (w4.setRow (w.heap.size + 1) cs)) := hB4.out.trans ⟨rfl, rfl, rfl, by simp, fun k hk => setRow_other _ _ _ _ (by omega)⟩
   have t1 := Lib.hid (r1.out.setRow (g := w.heap.size + 1) (cs := cs) n1.out (by omega))
   have t2 := Lib.hid (r2.out.setRow (g := w.heap.size + 1) (cs := cs) n2.out (by omega))
   have t3 := Lib.hid (r3.out.setRow (g := w.heap.size + 1) (cs := cs) n3.out (by omega))
   clear r1 r2 r3 hrs4 hB4
   generalize w4.setRow _ _ = wf at hrow hbel t1 t2 t3 |-
   refine Lib.hid ?_
   go_wp2_with fail
   refine bodyPost_ret (results_cell (w.heap.size + 1) rfl rfl (run_loadVar_row wf (w.heap.size + 1) _ 28 cs _ _ hrow.out Tryz.underlying28 rfl (by rw [hsz.out]; kernel_rfl))) rfl ?_
   exact ⟨_, rfl, ⟨_, _, _, hcs.out.symm, ⟨t3.out, n3.out.mono (by omega)⟩, ⟨t1.out, n1.out.mono (by omega)⟩, ⟨t2.out, n2.out.mono (by omega)⟩⟩, hbel.out⟩
  ·have hrt : rt = 0 := by rw [HR.out, decide_eq_false h2, Bool.and_false]; rfl
   clear HR
   subst hrt
   go_upto_region 4 with fail
   go_wp2_with (refine wpList_load_g (by rfl) 60 (.tmp 7) rfl gW 0 rfl wl _ (range_blk hA3.out) Tryz.underlying60 rfl (by rw [hll.out]; kernel_rfl) (Hid.out ?_))
   refine Lib.hid ?_
   go_wp2_with fail
   refine (HTY.out _).mono ?_; rintro ex w4 ⟨rfl, b4⟩
   obtain ⟨cs, hcs, hsz, hone⟩ := told_cells (typedL W 0) a3 a1 a2 W.langs.length W.ids.length W.unknown.length c3 c1 c2
   rw [hcs]
   replace hcs := Lib.hid hcs
   replace hsz := Lib.hid hsz
   have hB4 := Lib.hid (belowThen hB3.out b4 (Nat.le_refl _))
   have hrs4 := Lib.hid (blk_below hrs3.out b4)
   have r1 := Lib.hid (s1.out.below b4)
   have r2 := Lib.hid (s2.out.below b4)
   have r3 := Lib.hid (s3.out.below b4)
   clear b4 hB3 hrs3 s1 s2 s3 HTY hA3
   go_wp2_with (refine wpList_store_row rfl 28 (.tmp 6) (.tmp 23) rfl (w.heap.size + 1) cs rfl rfl 28 _ hrs4.out (by rw [hsz.out]; kernel_rfl) (by rw [hsz.out]; rfl) hone (Hid.out ?_))
   have hrow := Lib.hid (setRow_heap w4 (w.heap.size + 1) _ cs _ _ hrs4.out)
   have hbel : Hid (Below w.heap.size w (w4.setRow (w.heap.size + 1) cs)) := hB4.out.trans ⟨rfl, rfl, rfl, by simp, fun k hk => setRow_other _ _ _ _ (by omega)⟩
   have t1 := Lib.hid (r1.out.setRow (g := w.heap.size + 1) (cs := cs) n1.out (by omega))
   have t2 := Lib.hid (r2.out.setRow (g := w.heap.size + 1) (cs := cs) n2.out (by omega))
   have t3 := Lib.hid (r3.out.setRow (g := w.heap.size + 1) (cs := cs) n3.out (by omega))
   clear r1 r2 r3 hrs4 hB4
   generalize w4.setRow _ _ = wf at hrow hbel t1 t2 t3 |-
   refine Lib.hid ?_
   go_wp2_with fail
   refine bodyPost_ret (results_cell (w.heap.size + 1) rfl rfl (run_loadVar_row wf (w.heap.size + 1) _ 28 cs _ _ hrow.out Tryz.underlying28 rfl (by rw [hsz.out]; kernel_rfl))) rfl ?_
   exact ⟨_, rfl, ⟨_, _, _, hcs.out.symm, ⟨t3.out, n3.out.mono (by omega)⟩, ⟨t1.out, n1.out.mono (by omega)⟩, ⟨t2.out, n2.out.mono (by omega)⟩⟩, hbel.out⟩
 ·have hrt : rt = 0 := by rw [HR.out, decide_eq_false h1]; rfl
  clear HR
  subst hrt
  go_upto_region 4 with fail
  go_wp2_with (refine wpList_load_g (by rfl) 60 (.tmp 7) rfl gW 0 rfl wl _ (range_blk hA3.out) Tryz.underlying60 rfl (by rw [hll.out]; kernel_rfl) (Hid.out ?_))
  refine Lib.hid ?_
  go_wp2_with fail
  refine (HTY.out _).mono ?_; rintro ex w4 ⟨rfl, b4⟩
  obtain ⟨cs, hcs, hsz, hone⟩ := told_cells (typedL W 0) a3 a1 a2 W.langs.length W.ids.length W.unknown.length c3 c1 c2
  rw [hcs]
  replace hcs := Lib.hid hcs
  replace hsz := Lib.hid hsz
  have hB4 := Lib.hid (belowThen hB3.out b4 (Nat.le_refl _))
  have hrs4 := Lib.hid (blk_below hrs3.out b4)
  have r1 := Lib.hid (s1.out.below b4)
  have r2 := Lib.hid (s2.out.below b4)
  have r3 := Lib.hid (s3.out.below b4)
  clear b4 hB3 hrs3 s1 s2 s3 HTY hA3
  go_wp2_with (refine wpList_store_row rfl 28 (.tmp 6) (.tmp 23) rfl (w.heap.size + 1) cs rfl rfl 28 _ hrs4.out (by rw [hsz.out]; kernel_rfl) (by rw [hsz.out]; rfl) hone (Hid.out ?_))
  have hrow := Lib.hid (setRow_heap w4 (w.heap.size + 1) _ cs _ _ hrs4.out)
  have hbel : Hid (Below w.heap.size w (w4.setRow (w.heap.size + 1) cs)) := hB4.out.trans ⟨rfl, rfl, rfl, by simp, fun k hk => setRow_other _ _ _ _ (by omega)⟩
  have t1 := Lib.hid (r1.out.setRow (g := w.heap.size + 1) (cs := cs) n1.out (by omega))
  have t2 := Lib.hid (r2.out.setRow (g := w.heap.size + 1) (cs := cs) n2.out (by omega))
  have t3 := Lib.hid (r3.out.setRow (g := w.heap.size + 1) (cs := cs) n3.out (by omega))
  clear r1 r2 r3 hrs4 hB4
  generalize w4.setRow _ _ = wf at hrow hbel t1 t2 t3 |-
  refine Lib.hid ?_
  go_wp2_with fail
  refine bodyPost_ret (results_cell (w.heap.size + 1) rfl rfl (run_loadVar_row wf (w.heap.size + 1) _ 28 cs _ _ hrow.out Tryz.underlying28 rfl (by rw [hsz.out]; kernel_rfl))) rfl ?_
  exact ⟨_, rfl, ⟨_, _, _, hcs.out.symm, ⟨t3.out, n3.out.mono (by omega)⟩, ⟨t1.out, n1.out.mono (by omega)⟩, ⟨t2.out, n2.out.mono (by omega)⟩⟩, hbel.out⟩

end Go.Proofs.YtcmiiboioemelaaGreatDoor
