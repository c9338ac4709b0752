/- The walk of laws.known: whether something is said of a path, and what it answers. Conditions: a site in memory, texts of at most 2147483647 bytes. -/
import Derived.Test.YtjkecadfakjanaaGreatDoorKnowA
set_option maxRecDepth 100000
set_option linter.unusedVariables false
set_option linter.unusedSimpArgs false
namespace Go.Proofs.YtjkecadfakjanaaGreatDoor
open Go.RowKit
attribute [local go_sem] B_extract B_toList B_append

set_option maxHeartbeats 8000000 in
theorem c_knownG (S : Bool) (site : SiteM) (comp s : Str) (vl vd vf vc : Value) (w : World) (hv : SiteAt w vl vd vf vc site) (hcl : CapOK vl) (hcd : CapOK vd) (hcc : CapOK vc) (hf : siteFits site = true) (hc : comp.length <= 2147483647) (hs : s.length <= 100000000000) (hsh : ∀ wx, SiteAt wx vl vd vf vc site -> Calls Tryz.prog 13 #[.agg #[vl, vd, vf, vc], .string (B comp), .string (B s)] wx fun e w' => e = .returned (.bool S) /\ Below wx.heap.size wx w') :
  Calls Tryz.prog 24 #[.agg #[vl, vd, vf, vc], .string (B comp), .string (B s)] w
   fun e w' => ∃ v T, e = .returned (.tuple #[v, .bool ((S && pathKnown site comp s))]) /\ ToldAtN w.heap.size w' v T /\ Below w.heap.size w w' /\ ((S && pathKnown site comp s) = true -> T = toldM (doParseM site comp (normL s))) := by
 obtain ⟨KN, hKN⟩ : ∃ K, K = (S && pathKnown site comp s) := ⟨_, rfl⟩
 have HKN : Hid (KN = (S && pathKnown site comp s)) := hKN
 rw [<- hKN]
 clear hKN
 obtain ⟨TT, hTT⟩ : ∃ T, T = toldM (doParseM site comp (normL s)) := ⟨_, rfl⟩
 rw [<- hTT]
 have HSH : Hid (∀ wx, SiteAt wx vl vd vf vc site -> Calls Tryz.prog 13 #[.agg #[vl, vd, vf, vc], .string (B comp), .string (B s)] wx fun e w' => e = .returned (.bool (S)) /\ Below wx.heap.size wx w') := hsh
 have HPK : Hid (∀ wx, SiteAt wx vl vd vf vc site -> Calls Tryz.prog 39 #[.agg #[vl, vd, vf, vc], .string (B comp), .string (B s)] wx fun e w' => e = .returned (.bool (pathKnown site comp s)) /\ Below wx.heap.size wx w') := fun wx h => c_PathKnownW site comp s vl vd vf vc wx h hcl hcd hcc hf hc hs
 have HPA : Hid (pathKnown site comp s = true -> ∀ wx, SiteAt wx vl vd vf vc site -> Calls Tryz.prog 48 #[.agg #[vl, vd, vf, vc], .string (B comp), .string (B s)] wx fun e w' => ∃ v, e = .returned v /\ ToldAtN wx.heap.size w' v TT /\ Below wx.heap.size wx w') := fun hk wx h => by
  obtain ⟨h1, h2, h3, h4, h5⟩ := pathKnown_site hk
  rw [hTT]
  exact c_implParse wx site comp s vl vd vf vc h (siteKnown_once h1) (by omega) h3
 clear hTT
 obtain ⟨obj, ho⟩ : ∃ o : Obj, o = .cells #[.string (B []), .string (B []), .string (B []), .string (B []), .string (B []), .string (B []), .string (B []), .string (B []), .string (B []), .string (B []), .string (B []), .string (B []), .string (B []), .string (B []), .string (B []), .string (B []), .string (B []), .string (B []), .string (B []), .string (B []), .string (B []), .slice none 0 0, .slice none 0 0, .slice none 0 0, .bool false, .bool false, .bool false, .bool false, .bool false, .bool false, .int .i64 0] 29 := ⟨_, rfl⟩
 obtain ⟨obs, hobs⟩ : ∃ o : Obj, o = .cells #[vl, vd, vf, vc] 25 := ⟨_, rfl⟩
 have hB2 : Hid (Below w.heap.size w ((w.alloc obs).alloc obj)) := (Below_alloc w obs).trans ((Below_alloc (w.alloc obs) obj).mono (by simp))
 have hz2 : ((w.alloc obs).alloc obj).heap.size = w.heap.size + 2 := by simp
 have hblk : Hid (((w.alloc obs).alloc obj).heap[w.heap.size + 1]? = some (.cells #[.string (B []), .string (B []), .string (B []), .string (B []), .string (B []), .string (B []), .string (B []), .string (B []), .string (B []), .string (B []), .string (B []), .string (B []), .string (B []), .string (B []), .string (B []), .string (B []), .string (B []), .string (B []), .string (B []), .string (B []), .string (B []), .slice none 0 0, .slice none 0 0, .slice none 0 0, .bool false, .bool false, .bool false, .bool false, .bool false, .bool false, .int .i64 0] 29)) := by
  have := blk_new (w.alloc obs) obj
  rw [show (w.alloc obs).heap.size = w.heap.size + 1 by simp, ho] at this
  rw [ho]; exact this
 have hsb : Hid (((w.alloc obs).alloc obj).heap[w.heap.size]? = some (.cells #[vl, vd, vf, vc] 25)) := by
  have := blk_old (w.alloc obs) obj (blk_new w obs)
  rw [hobs] at this |-; exact this
 have HV2 : Hid (SiteAt ((w.alloc obs).alloc obj) vl vd vf vc site) := (hv.alloc obs).alloc obj
 clear hv hcl hcd hcc hf hsh
 cases h1 : S with
 | false =>
  have HK : Hid (KN = false) := by show _ = _; rw [HKN.out, h1]; rfl
  rw [h1] at HSH
  go_enter Tryz.func24, Tryz.ntmps24
  go_wp2_with fail
  rw [<- ho, <- hobs]
  generalize (w.alloc obs).alloc obj = w2 at hB2 hz2 hblk hsb HV2 |-
  refine (HSH.out _ HV2.out).mono ?_; rintro e w3 ⟨rfl, b3⟩
  have hB3 := Lib.hid (belowThen hB2.out b3 (Nat.le_refl _))
  have hblk3 := Lib.hid (blk_below hblk.out b3)
  have hsb3 := Lib.hid (blk_below hsb.out b3)
  have HV3 := Lib.hid (HV2.out.below b3)
  obtain ⟨k0, k1, k2, k3⟩ : w3.cell? ⟨w.heap.size, 0, none⟩ = some vl /\ w3.cell? ⟨w.heap.size, 1, none⟩ = some vd /\ w3.cell? ⟨w.heap.size, 2, none⟩ = some vf /\ w3.cell? ⟨w.heap.size, 3, none⟩ = some vc := ⟨cell_blk hsb3.out 0, cell_blk hsb3.out 1, cell_blk hsb3.out 2, cell_blk hsb3.out 3⟩
  clear b3 hsb hblk hB2 HV2
  go_upto_region 2 with fail
  refine wp_region_lit ?_
  refine wpList_plain rfl fun _ hK => wp_buildC 29 #[] #[.string (B []), .string (B []), .string (B []), .string (B []), .string (B []), .string (B []), .string (B []), .string (B []), .string (B []), .string (B []), .string (B []), .string (B []), .string (B []), .string (B []), .string (B []), .string (B []), .string (B []), .string (B []), .string (B []), .string (B []), .string (B []), .slice none 0 0, .slice none 0 0, .slice none 0 0, .bool false, .bool false, .bool false, .bool false, .bool false, .bool false, .int .i64 0] rfl (by kernel_rfl) (hK _ _ ?_)
  refine wpList_store_row rfl 29 (.tmp 6) (.tmp 20) rfl (w.heap.size + 1) #[.string (B []), .string (B []), .string (B []), .string (B []), .string (B []), .string (B []), .string (B []), .string (B []), .string (B []), .string (B []), .string (B []), .string (B []), .string (B []), .string (B []), .string (B []), .string (B []), .string (B []), .string (B []), .string (B []), .string (B []), .string (B []), .slice none 0 0, .slice none 0 0, .slice none 0 0, .bool false, .bool false, .bool false, .bool false, .bool false, .bool false, .int .i64 0] rfl rfl 29 _ hblk3.out (by kernel_rfl) rfl (by kernel_rfl) ?_
  have hrow := Lib.hid (setRow_heap w3 (w.heap.size + 1) _ #[.string (B []), .string (B []), .string (B []), .string (B []), .string (B []), .string (B []), .string (B []), .string (B []), .string (B []), .string (B []), .string (B []), .string (B []), .string (B []), .string (B []), .string (B []), .string (B []), .string (B []), .string (B []), .string (B []), .string (B []), .string (B []), .slice none 0 0, .slice none 0 0, .slice none 0 0, .bool false, .bool false, .bool false, .bool false, .bool false, .bool false, .int .i64 0] _ _ hblk3.out)
  have hbel : Hid (Below w.heap.size w (w3.setRow (w.heap.size + 1) #[.string (B []), .string (B []), .string (B []), .string (B []), .string (B []), .string (B []), .string (B []), .string (B []), .string (B []), .string (B []), .string (B []), .string (B []), .string (B []), .string (B []), .string (B []), .string (B []), .string (B []), .string (B []), .string (B []), .string (B []), .string (B []), .slice none 0 0, .slice none 0 0, .slice none 0 0, .bool false, .bool false, .bool false, .bool false, .bool false, .bool false, .int .i64 0])) := hB3.out.trans ⟨rfl, rfl, rfl, by simp, fun k hk => setRow_other _ _ _ _ (by omega)⟩
  generalize w3.setRow _ _ = wf at hrow hbel |-
  go_wp2_with fail
  refine bodyPost_ret (results_cell_tmp (w.heap.size + 1) rfl rfl rfl (run_loadVar_row wf (w.heap.size + 1) _ 29 #[.string (B []), .string (B []), .string (B []), .string (B []), .string (B []), .string (B []), .string (B []), .string (B []), .string (B []), .string (B []), .string (B []), .string (B []), .string (B []), .string (B []), .string (B []), .string (B []), .string (B []), .string (B []), .string (B []), .string (B []), .string (B []), .slice none 0 0, .slice none 0 0, .slice none 0 0, .bool false, .bool false, .bool false, .bool false, .bool false, .bool false, .int .i64 0] _ _ hrow.out Tryz.underlying29 rfl (by kernel_rfl))) rfl ?_
  exact ⟨_, {}, by rw [HK.out]; rfl, zeroTold _ _, hbel.out, fun h => by rw [HK.out] at h; cases h⟩
 | true =>
 rw [h1] at HSH
 cases h2 : pathKnown site comp s with
 | false =>
  have HK : Hid (KN = false) := by show _ = _; rw [HKN.out, h1, h2]; rfl
  rw [h2] at HPK
  go_enter Tryz.func24, Tryz.ntmps24
  go_wp2_with fail
  rw [<- ho, <- hobs]
  generalize (w.alloc obs).alloc obj = w2 at hB2 hz2 hblk hsb HV2 |-
  refine (HSH.out _ HV2.out).mono ?_; rintro e w3 ⟨rfl, b3⟩
  have hB3 := Lib.hid (belowThen hB2.out b3 (Nat.le_refl _))
  have hblk3 := Lib.hid (blk_below hblk.out b3)
  have hsb3 := Lib.hid (blk_below hsb.out b3)
  have HV3 := Lib.hid (HV2.out.below b3)
  obtain ⟨k0, k1, k2, k3⟩ : w3.cell? ⟨w.heap.size, 0, none⟩ = some vl /\ w3.cell? ⟨w.heap.size, 1, none⟩ = some vd /\ w3.cell? ⟨w.heap.size, 2, none⟩ = some vf /\ w3.cell? ⟨w.heap.size, 3, none⟩ = some vc := ⟨cell_blk hsb3.out 0, cell_blk hsb3.out 1, cell_blk hsb3.out 2, cell_blk hsb3.out 3⟩
  clear b3 hsb hblk hB2 HV2
  go_wp2_with fail
  refine (HPK.out _ HV3.out).mono ?_; rintro e w4 ⟨rfl, b4⟩
  have hB4 := Lib.hid (belowThen hB3.out b4 (Nat.le_refl _))
  have hblk4 := Lib.hid (blk_below hblk3.out b4)
  have hsb4 := Lib.hid (blk_below hsb3.out b4)
  have HV4 := Lib.hid (HV3.out.below b4)
  clear k0 k1 k2 k3
  obtain ⟨k0, k1, k2, k3⟩ : w4.cell? ⟨w.heap.size, 0, none⟩ = some vl /\ w4.cell? ⟨w.heap.size, 1, none⟩ = some vd /\ w4.cell? ⟨w.heap.size, 2, none⟩ = some vf /\ w4.cell? ⟨w.heap.size, 3, none⟩ = some vc := ⟨cell_blk hsb4.out 0, cell_blk hsb4.out 1, cell_blk hsb4.out 2, cell_blk hsb4.out 3⟩
  clear b4 hsb3 hblk3 hB3 HV3
  go_upto_region 2 with fail
  refine wp_region_lit ?_
  refine wpList_plain rfl fun _ hK => wp_buildC 29 #[] #[.string (B []), .string (B []), .string (B []), .string (B []), .string (B []), .string (B []), .string (B []), .string (B []), .string (B []), .string (B []), .string (B []), .string (B []), .string (B []), .string (B []), .string (B []), .string (B []), .string (B []), .string (B []), .string (B []), .string (B []), .string (B []), .slice none 0 0, .slice none 0 0, .slice none 0 0, .bool false, .bool false, .bool false, .bool false, .bool false, .bool false, .int .i64 0] rfl (by kernel_rfl) (hK _ _ ?_)
  refine wpList_store_row rfl 29 (.tmp 6) (.tmp 20) rfl (w.heap.size + 1) #[.string (B []), .string (B []), .string (B []), .string (B []), .string (B []), .string (B []), .string (B []), .string (B []), .string (B []), .string (B []), .string (B []), .string (B []), .string (B []), .string (B []), .string (B []), .string (B []), .string (B []), .string (B []), .string (B []), .string (B []), .string (B []), .slice none 0 0, .slice none 0 0, .slice none 0 0, .bool false, .bool false, .bool false, .bool false, .bool false, .bool false, .int .i64 0] rfl rfl 29 _ hblk4.out (by kernel_rfl) rfl (by kernel_rfl) ?_
  have hrow := Lib.hid (setRow_heap w4 (w.heap.size + 1) _ #[.string (B []), .string (B []), .string (B []), .string (B []), .string (B []), .string (B []), .string (B []), .string (B []), .string (B []), .string (B []), .string (B []), .string (B []), .string (B []), .string (B []), .string (B []), .string (B []), .string (B []), .string (B []), .string (B []), .string (B []), .string (B []), .slice none 0 0, .slice none 0 0, .slice none 0 0, .bool false, .bool false, .bool false, .bool false, .bool false, .bool false, .int .i64 0] _ _ hblk4.out)
  have hbel : Hid (Below w.heap.size w (w4.setRow (w.heap.size + 1) #[.string (B []), .string (B []), .string (B []), .string (B []), .string (B []), .string (B []), .string (B []), .string (B []), .string (B []), .string (B []), .string (B []), .string (B []), .string (B []), .string (B []), .string (B []), .string (B []), .string (B []), .string (B []), .string (B []), .string (B []), .string (B []), .slice none 0 0, .slice none 0 0, .slice none 0 0, .bool false, .bool false, .bool false, .bool false, .bool false, .bool false, .int .i64 0])) := hB4.out.trans ⟨rfl, rfl, rfl, by simp, fun k hk => setRow_other _ _ _ _ (by omega)⟩
  generalize w4.setRow _ _ = wf at hrow hbel |-
  go_wp2_with fail
  refine bodyPost_ret (results_cell_tmp (w.heap.size + 1) rfl rfl rfl (run_loadVar_row wf (w.heap.size + 1) _ 29 #[.string (B []), .string (B []), .string (B []), .string (B []), .string (B []), .string (B []), .string (B []), .string (B []), .string (B []), .string (B []), .string (B []), .string (B []), .string (B []), .string (B []), .string (B []), .string (B []), .string (B []), .string (B []), .string (B []), .string (B []), .string (B []), .slice none 0 0, .slice none 0 0, .slice none 0 0, .bool false, .bool false, .bool false, .bool false, .bool false, .bool false, .int .i64 0] _ _ hrow.out Tryz.underlying29 rfl (by kernel_rfl))) rfl ?_
  exact ⟨_, {}, by rw [HK.out]; rfl, zeroTold _ _, hbel.out, fun h => by rw [HK.out] at h; cases h⟩
 | true =>
  have HK : Hid (KN = true) := by show _ = _; rw [HKN.out, h1, h2]; rfl
  rw [h2] at HPK
  go_enter Tryz.func24, Tryz.ntmps24
  go_wp2_with fail
  rw [<- ho, <- hobs]
  generalize (w.alloc obs).alloc obj = w2 at hB2 hz2 hblk hsb HV2 |-
  refine (HSH.out _ HV2.out).mono ?_; rintro e w3 ⟨rfl, b3⟩
  have hB3 := Lib.hid (belowThen hB2.out b3 (Nat.le_refl _))
  have hblk3 := Lib.hid (blk_below hblk.out b3)
  have hsb3 := Lib.hid (blk_below hsb.out b3)
  have HV3 := Lib.hid (HV2.out.below b3)
  obtain ⟨k0, k1, k2, k3⟩ : w3.cell? ⟨w.heap.size, 0, none⟩ = some vl /\ w3.cell? ⟨w.heap.size, 1, none⟩ = some vd /\ w3.cell? ⟨w.heap.size, 2, none⟩ = some vf /\ w3.cell? ⟨w.heap.size, 3, none⟩ = some vc := ⟨cell_blk hsb3.out 0, cell_blk hsb3.out 1, cell_blk hsb3.out 2, cell_blk hsb3.out 3⟩
  clear b3 hsb hblk hB2 HV2
  go_wp2_with fail
  refine (HPK.out _ HV3.out).mono ?_; rintro e w4 ⟨rfl, b4⟩
  have hB4 := Lib.hid (belowThen hB3.out b4 (Nat.le_refl _))
  have hblk4 := Lib.hid (blk_below hblk3.out b4)
  have hsb4 := Lib.hid (blk_below hsb3.out b4)
  have HV4 := Lib.hid (HV3.out.below b4)
  clear k0 k1 k2 k3
  obtain ⟨k0, k1, k2, k3⟩ : w4.cell? ⟨w.heap.size, 0, none⟩ = some vl /\ w4.cell? ⟨w.heap.size, 1, none⟩ = some vd /\ w4.cell? ⟨w.heap.size, 2, none⟩ = some vf /\ w4.cell? ⟨w.heap.size, 3, none⟩ = some vc := ⟨cell_blk hsb4.out 0, cell_blk hsb4.out 1, cell_blk hsb4.out 2, cell_blk hsb4.out 3⟩
  clear b4 hsb3 hblk3 hB3 HV3
  go_wp2_with fail
  refine (HPA.out h2 _ HV4.out).mono ?_; rintro e w5 ⟨v, rfl, ⟨ql, qi, qu, rfl, ⟨s1, n1⟩, ⟨s2, n2⟩, ⟨s3, n3⟩⟩, b5⟩
  have hsz4 : w.heap.size + 2 <= w4.heap.size := by have := lt_of_block hblk4.out; omega
  have hB5 := Lib.hid (belowThen hB4.out b5 (Nat.le_refl _))
  have hblk5 := Lib.hid (blk_below hblk4.out b5)
  obtain ⟨a1, l1, c1, rfl⟩ := s1.slice
  obtain ⟨a2, l2, c2, rfl⟩ := s2.slice
  obtain ⟨a3, l3, c3, rfl⟩ := s3.slice
  obtain ⟨cs, hcs, hsz, hone⟩ := told_cells TT a1 a2 a3 l1 l2 l3 c1 c2 c3
  rw [hcs]
  replace hcs := Lib.hid hcs
  replace s1 := Lib.hid s1
  replace s2 := Lib.hid s2
  replace s3 := Lib.hid s3
  replace n1 : Hid (NewRow (w.heap.size + 2) _) := n1.mono hsz4
  replace n2 : Hid (NewRow (w.heap.size + 2) _) := n2.mono hsz4
  replace n3 : Hid (NewRow (w.heap.size + 2) _) := n3.mono hsz4
  clear HPA HPK HSH b5 hblk4 hB4 hsz4
  rename_i hK
  refine hK _ _ ?_
  refine wpList_store_row rfl 29 (.tmp 6) (.tmp 24) rfl (w.heap.size + 1) cs rfl rfl 29 _ hblk5.out (by rw [hsz]; kernel_rfl) (by rw [hsz]; rfl) hone ?_
  have hrow := Lib.hid (setRow_heap w5 (w.heap.size + 1) _ cs _ _ hblk5.out)
  have hbel : Hid (Below w.heap.size w (w5.setRow (w.heap.size + 1) cs)) := hB5.out.trans ⟨rfl, rfl, rfl, by simp, fun k hk => setRow_other _ _ _ _ (by omega)⟩
  have t1 := Lib.hid (s1.out.setRow (g := w.heap.size + 1) (cs := cs) n1.out (by omega))
  have t2 := Lib.hid (s2.out.setRow (g := w.heap.size + 1) (cs := cs) n2.out (by omega))
  have t3 := Lib.hid (s3.out.setRow (g := w.heap.size + 1) (cs := cs) n3.out (by omega))
  generalize w5.setRow _ _ = wf at hrow hbel t1 t2 t3 |-
  go_wp2_with fail
  refine bodyPost_ret (results_cell_tmp (w.heap.size + 1) rfl rfl rfl (run_loadVar_row wf (w.heap.size + 1) _ 29 cs _ _ hrow.out Tryz.underlying29 rfl (by rw [hsz]; kernel_rfl))) rfl ?_
  exact ⟨_, TT, by rw [HK.out]; rfl, ⟨_, _, _, hcs.out.symm, ⟨t1.out, n1.out.mono (by omega)⟩, ⟨t2.out, n2.out.mono (by omega)⟩, ⟨t3.out, n3.out.mono (by omega)⟩⟩, hbel.out, fun _ => rfl⟩
theorem c_known (site : SiteM) (comp s : Str) (vl vd vf vc : Value) (w : World) (hv : SiteAt w vl vd vf vc site) (hcl : CapOK vl) (hcd : CapOK vd) (hcc : CapOK vc) (hf : siteFits site = true) (hc : comp.length <= 2147483647) (hs : s.length <= 2147483647) :
  Calls Tryz.prog 24 #[.agg #[vl, vd, vf, vc], .string (B comp), .string (B s)] w
   fun e w' => ∃ v T, e = .returned (.tuple #[v, .bool (knownL site comp s)]) /\ ToldAtN w.heap.size w' v T /\ Below w.heap.size w w' /\ (knownL site comp s = true -> T = toldM (doParseM site comp (normL s))) :=
 c_knownG (shortL site comp s) site comp s vl vd vf vc w hv hcl hcd hcc hf hc (by omega) (fun wx h => c_short site comp s vl vd vf vc wx h hf hc hs)
theorem c_knownW (site : SiteM) (comp s : Str) (vl vd vf vc : Value) (w : World) (hv : SiteAt w vl vd vf vc site) (hcl : CapOK vl) (hcd : CapOK vd) (hcc : CapOK vc) (hf : siteFits site = true) (hc : comp.length <= 2147483647) (hs : comp.length + s.length <= 6442450942) :
  Calls Tryz.prog 24 #[.agg #[vl, vd, vf, vc], .string (B comp), .string (B s)] w
   fun e w' => ∃ v T, e = .returned (.tuple #[v, .bool (knownL site comp s)]) /\ ToldAtN w.heap.size w' v T /\ Below w.heap.size w w' /\ (knownL site comp s = true -> T = toldM (doParseM site comp (normL s))) :=
 c_knownG (shortL site comp s) site comp s vl vd vf vc w hv hcl hcd hcc hf hc (by omega) (fun wx h => c_shortW site comp s vl vd vf vc wx h hf hs)

end Go.Proofs.YtjkecadfakjanaaGreatDoor
