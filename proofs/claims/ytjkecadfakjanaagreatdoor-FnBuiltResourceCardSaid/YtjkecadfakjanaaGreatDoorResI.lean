/- A path as a resource: ModifyPathBundleTypeResource, impl.Resource walked. Conditions: a site in memory that names each language once; a path of ASCII of at most 100000 bytes. -/
import Derived.Test.YtjkecadfakjanaaGreatDoorParse
set_option maxRecDepth 100000
set_option linter.unusedVariables false
set_option linter.unusedSimpArgs false
namespace Go.Proofs.YtjkecadfakjanaaGreatDoor
open Go.RowKit
attribute [local go_sem] B_extract B_toList B_append

theorem PathOK.typedR {p : PathS} (h : PathOK p) (t : Int) : PathOK { p with typ := t } := ⟨h.len, h.pos, h.hc, h.lc, h.sc, h.nm, h.kw, h.uw, h.kl, h.ul, h.ll, h.fm, h.la, h.k0⟩
theorem PathAt.setTyp {w : World} {base b : Nat} {p : PathS} {vk vu vl uv : Value} (h : PathAt w base b p vk vu vl ⟨uv, none⟩) (t : Int) : PathAt (w.setCell ⟨b, 5, none⟩ (.int .i64 t)) base b { p with typ := t } vk vu vl ⟨uv, none⟩ /\ Below base w (w.setCell ⟨b, 5, none⟩ (.int .i64 t)) := by
 refine ⟨⟨?_, ?_, ?_, ?_, h.ne, fun g cur e => by (cases e), h.lb⟩, (Below.refl _ _).setCell h.lb _⟩
 ·rw [blk_set _ h.blk]; rfl
 ·exact ownsRow_far h.kn fun g hg => heap_set_far _ (by obtain ⟨cur, hc, _⟩ := ownsRow_blk h.kn hg; exact blk_ne hc h.blk lh_path)
 ·exact ownsRow_far h.uk fun g hg => heap_set_far _ (by obtain ⟨cur, hc, _⟩ := ownsRow_blk h.uk hg; exact blk_ne hc h.blk lh_path)
 ·exact ownsRow_far h.lg fun g hg => heap_set_far _ (by obtain ⟨cur, hc, _⟩ := ownsRow_blk h.lg hg; exact blk_ne hc h.blk int_path)
/-- The type of a resource. -/
def resT (t : Int) : Int := if (decide (1 <= t) && decide (t <= 5)) = true then 1 else 0
theorem c_modify (p : PathS) (w : World) (base b : Nat) (vk vu vl uv : Value) (h : PathAt w base b p vk vu vl ⟨uv, none⟩) :
  Calls Tryz.prog 49 #[.pointer (some ⟨b, 0, none⟩)] w fun e w' => e = .returned (.tuple #[]) /\ PathAt w' base b { p with typ := resT p.typ } vk vu vl ⟨uv, none⟩ /\ Below base w w' := by
 have H := Lib.hid (c_IsContent p w base b vk vu vl _ h)
 have HR : Hid (resT p.typ = if (decide (1 <= p.typ) && decide (p.typ <= 5)) = true then 1 else 0) := rfl
 have hs := Lib.hid (h.setTyp)
 have k5 := h.cell 5 (.int .i64 p.typ) rfl
 have f5 := h.free 5
 clear h
 generalize resT p.typ = rt at HR |-
 cases hc : (decide (1 <= p.typ) && decide (p.typ <= 5)) with
 | true =>
  rw [hc] at H HR
  have hrt : rt = 1 := HR.out
  subst hrt
  clear HR
  go_enter Tryz.func49, Tryz.ntmps49
  go_wp2_with fail
  refine H.out.mono ?_; rintro e w' ⟨rfl, rfl⟩
  go_wp2_with fail
  (first | go_end0 | (refine bodyPost_ret (results_none rfl _ _ _) rfl ?_))
  exact ⟨rfl, hs.out 1⟩
 | false =>
  rw [hc] at H HR
  have hrt : rt = 0 := HR.out
  subst hrt
  clear HR
  go_enter Tryz.func49, Tryz.ntmps49
  go_wp2_with fail
  refine H.out.mono ?_; rintro e w' ⟨rfl, rfl⟩
  go_wp2_with fail
  (first | go_end0 | (refine bodyPost_ret (results_none rfl _ _ _) rfl ?_))
  exact ⟨rfl, hs.out 0⟩

set_option maxHeartbeats 4000000 in
theorem c_implRes (w : World) (site : SiteM) (comp s : Str) (vl vd vf vc : Value) (hs : SiteAt w vl vd vf vc site) (hn : Once site.languages) (hl : s.length <= 900000) (ha : asciiL s = true) :
  Calls Tryz.prog 25 #[.agg #[vl, vd, vf, vc], .string (B comp), .string (B s)] w
   fun e w' => ∃ v, e = .returned v /\ ToldAtN w.heap.size w' v (toldM { (doParseM site comp (normL s)) with typ := resT (doParseM site comp (normL s)).typ }) /\ Below w.heap.size w w' := by
 have HS := Lib.hid hs
 have HPR : Hid (∀ wx, SiteAt wx vl vd vf vc site -> Calls Tryz.prog 42 #[.agg #[vl, vd, vf, vc]] wx fun e w' => ∃ pb mb fb sb, e = .returned (.pointer (some ⟨pb, 0, none⟩)) /\ PPAt w' pb mb fb sb vl vd vf vc site /\ wx.heap.size <= pb /\ Below wx.heap.size wx w') := fun wx h => c_parser site vl vd vf vc wx h hn
 have HPA : Hid (∀ wx pb mb fb sb, PPAt wx pb mb fb sb vl vd vf vc site -> Calls Tryz.prog 43 #[.pointer (some ⟨pb, 0, none⟩), .string (B comp), .string (B s)] wx
   fun e w' => ∃ b b2, e = .returned (.pointer (some ⟨b, 0, none⟩)) /\ PathHere w' wx.heap.size b b2 (doParseM site comp (normL s)) /\ SomePath w' b2 (doParseM site comp s) /\ Below wx.heap.size wx w') := fun wx pb mb fb sb h => c_Parse wx comp s pb mb fb sb vl vd vf vc site h hl ha
 have ok : PathOK (doParseM site comp (normL s)) := doParse_ok site comp (normL s) (by rw [normL_len]; omega)
 have HTD : Hid (∀ wx base b vk vu vl1 un, PathAt wx base b { (doParseM site comp (normL s)) with typ := resT (doParseM site comp (normL s)).typ } vk vu vl1 un -> Calls Tryz.prog 41 #[.pointer (some ⟨b, 0, none⟩)] wx fun e w' => ∃ v, e = .returned v /\ ToldAtN wx.heap.size w' v (toldM { (doParseM site comp (normL s)) with typ := resT (doParseM site comp (normL s)).typ }) /\ Below wx.heap.size wx w') := fun wx base b vk vu vl1 un h => c_told _ wx base b vk vu vl1 un h (ok.typedR _)
 have HMO : Hid (∀ wx base b vk vu vl1 uv, PathAt wx base b (doParseM site comp (normL s)) vk vu vl1 ⟨uv, none⟩ -> Calls Tryz.prog 49 #[.pointer (some ⟨b, 0, none⟩)] wx fun e w' => e = .returned (.tuple #[]) /\ PathAt w' base b { (doParseM site comp (normL s)) with typ := resT (doParseM site comp (normL s)).typ } vk vu vl1 ⟨uv, none⟩ /\ Below base wx w') := fun wx base b vk vu vl1 uv h => c_modify _ wx base b vk vu vl1 uv h
 obtain ⟨P2, hP2⟩ : ∃ p, p = { (doParseM site comp (normL s)) with typ := resT (doParseM site comp (normL s)).typ } := ⟨_, rfl⟩
 rw [<- hP2] at HTD HMO |-
 clear hP2
 generalize doParseM site comp (normL s) = P1 at HPA HMO
 generalize doParseM site comp s = P3 at HPA
 obtain ⟨obj, ho⟩ : ∃ o : Obj, o = .cells #[.string (B []), .string (B []), .string (B []), .string (B []), .string (B []), .string (B []), .string (B []), .string (B []), .string (B []), .string (B []), .string (B []), .string (B []), .string (B []), .string (B []), .string (B []), .string (B []), .string (B []), .string (B []), .string (B []), .string (B []), .string (B []), .slice none 0 0, .slice none 0 0, .slice none 0 0, .bool false, .bool false, .bool false, .bool false, .bool false, .bool false, .int .i64 0] 29 := ⟨_, rfl⟩
 obtain ⟨obs, hobs⟩ : ∃ o : Obj, o = .cells #[vl, vd, vf, vc] 25 := ⟨_, rfl⟩
 have hb1 := Lib.hid (Below_alloc w obs)
 have hb2 := Lib.hid (Below_alloc (w.alloc obs) obj)
 have hz1 : (w.alloc obs).heap.size = w.heap.size + 1 := by simp
 have hz2 : ((w.alloc obs).alloc obj).heap.size = w.heap.size + 2 := by simp
 have hblk : Hid (((w.alloc obs).alloc obj).heap[w.heap.size + 1]? = some (.cells #[.string (B []), .string (B []), .string (B []), .string (B []), .string (B []), .string (B []), .string (B []), .string (B []), .string (B []), .string (B []), .string (B []), .string (B []), .string (B []), .string (B []), .string (B []), .string (B []), .string (B []), .string (B []), .string (B []), .string (B []), .string (B []), .slice none 0 0, .slice none 0 0, .slice none 0 0, .bool false, .bool false, .bool false, .bool false, .bool false, .bool false, .int .i64 0] 29)) := by
  have := blk_new (w.alloc obs) obj
  rw [hz1, ho] at this
  rw [ho]; exact this
 have hsb : Hid (((w.alloc obs).alloc obj).heap[w.heap.size]? = some (.cells #[vl, vd, vf, vc] 25)) := by
  have := blk_old (w.alloc obs) obj (blk_new w obs)
  rw [hobs] at this |-; exact this
 clear hs hn ha ok
 go_enter Tryz.func25, Tryz.ntmps25
 go_wp2_with fail
 rw [<- ho, <- hobs]
 have hsi2 : Hid (SiteAt ((w.alloc obs).alloc obj) vl vd vf vc site) := (HS.out.alloc obs).alloc obj
 generalize (w.alloc obs).alloc obj = w2 at hb2 hz2 hblk hsb hsi2 |-
 have hB2 : Hid (Below w.heap.size w w2) := hb1.out.trans (hb2.out.mono (by omega))
 clear hb1 hb2 HS
 refine (HPR.out _ hsi2.out).mono ?_; rintro e w3 ⟨pb, mb, fb, sb, rfl, hpp, hpb, hb3⟩
 replace hpp := Lib.hid hpp
 replace hpb := Lib.hid hpb
 have hB3 := Lib.hid (belowThen hB2.out hb3 (Nat.le_refl _))
 have hblk3 := Lib.hid (blk_below hblk.out hb3)
 clear HPR hsi2 hB2 hb3 hblk hsb
 go_wp2_with fail
 refine (HPA.out _ pb mb fb sb hpp.out).mono ?_; rintro e w4 ⟨b, b2, rfl, h1, h2, hb4⟩
 clear h2
 obtain ⟨vk, vu, vl1, hat⟩ := h1
 replace hat := Lib.hid hat
 have hB4 := Lib.hid (belowThen hB3.out hb4 (Nat.le_refl _))
 have hblk4 := Lib.hid (blk_below hblk3.out hb4)
 have hlt3 : w.heap.size + 1 < w3.heap.size := lt_of_block hblk3.out
 clear HPA hb4 hblk3 hpp hpb hB3
 go_wp2_with fail
 refine (HMO.out _ _ _ _ _ _ _ hat.out).mono ?_; rintro e w4' ⟨rfl, hat', hb4'⟩
 replace hat := Lib.hid hat'
 replace hB4 : Hid (Below w.heap.size w w4') := hB4.out.trans (hb4'.mono (by omega))
 replace hblk4 : Hid (w4'.heap[w.heap.size + 1]? = _) := (hb4'.block _ hlt3).trans hblk4.out
 clear HMO hb4' hat' hlt3
 go_wp2_with fail
 refine (HTD.out _ _ _ _ _ _ _ hat.out).mono ?_; rintro e w5 ⟨v, rfl, ⟨ql, qi, qu, rfl, ⟨s1, n1⟩, ⟨s2, n2⟩, ⟨s3, n3⟩⟩, hb5⟩
 have hsz4 : w.heap.size + 2 <= w4'.heap.size := by have := lt_of_block hblk4.out; omega
 have hB5 := Lib.hid (belowThen hB4.out hb5 (Nat.le_refl _))
 have hblk5 := Lib.hid (blk_below hblk4.out hb5)
 obtain ⟨a1, l1, c1, rfl⟩ := s1.slice
 obtain ⟨a2, l2, c2, rfl⟩ := s2.slice
 obtain ⟨a3, l3, c3, rfl⟩ := s3.slice
 obtain ⟨cs, hcs, hsz, hone⟩ := told_cells (toldM P2) a1 a2 a3 l1 l2 l3 c1 c2 c3
 rw [hcs]
 replace hcs := Lib.hid hcs
 replace s1 := Lib.hid s1
 replace s2 := Lib.hid s2
 replace s3 := Lib.hid s3
 replace n1 : Hid (NewRow (w.heap.size + 2) _) := n1.mono hsz4
 replace n2 : Hid (NewRow (w.heap.size + 2) _) := n2.mono hsz4
 replace n3 : Hid (NewRow (w.heap.size + 2) _) := n3.mono hsz4
 clear HTD hb5 hat hblk4 hB4 hsz4
 rename_i hK
 refine hK _ _ ?_
 refine wpList_store_row rfl 29 (.tmp 6) (.tmp 16) rfl (w.heap.size + 1) cs ?_ ?_ 29 _ hblk5.out ?_ ?_ ?_ ?_
 ·rfl
 ·rfl
 ·rw [hsz]; kernel_rfl
 ·rw [hsz]; rfl
 ·exact hone
 have hrow := Lib.hid (setRow_heap w5 (w.heap.size + 1) _ cs _ _ hblk5.out)
 have hbel : Hid (Below w.heap.size w (w5.setRow (w.heap.size + 1) cs)) := hB5.out.trans ⟨rfl, rfl, rfl, by simp, fun k hk => setRow_other _ _ _ _ (by omega)⟩
 have t1 := Lib.hid (s1.out.setRow (g := w.heap.size + 1) (cs := cs) n1.out (by omega))
 have t2 := Lib.hid (s2.out.setRow (g := w.heap.size + 1) (cs := cs) n2.out (by omega))
 have t3 := Lib.hid (s3.out.setRow (g := w.heap.size + 1) (cs := cs) n3.out (by omega))
 generalize w5.setRow _ _ = wf at hrow hbel t1 t2 t3 |-
 go_wp2_with fail
 refine bodyPost_ret (results_cell (w.heap.size + 1) rfl rfl (run_loadVar_row wf (w.heap.size + 1) _ 29 cs _ _ hrow.out Tryz.underlying29 rfl (by rw [hsz]; kernel_rfl))) rfl ?_
 exact ⟨_, rfl, ⟨_, _, _, hcs.out.symm, ⟨t1.out, n1.out.mono (by omega)⟩, ⟨t2.out, n2.out.mono (by omega)⟩, ⟨t3.out, n3.out.mono (by omega)⟩⟩, hbel.out⟩

end Go.Proofs.YtjkecadfakjanaaGreatDoor
