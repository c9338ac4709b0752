/- The walk of the law FnBuiltResource: a file in a folder of content that is built of folders, a name and an extension that is none of content is a file with its extension. Conditions: a site in memory, lists in memory, texts that fit into the platform's addresses. -/
import Derived.Test.YtjkecadfakjanaaGreatDoorKnown
import Derived.Test.YtjkecadfakjanaaGreatDoorPlainX
import Derived.Test.YtjkecadfakjanaaGreatDoorBuiltX
import Derived.Test.YtjkecadfakjanaaGreatDoorResI
import Derived.Test.YtjkecadfakjanaaGreatDoorHelpB
import Derived.Test.YtjkecadfakjanaaGreatDoorEqM
import Derived.Test.YtjkecadfakjanaaGreatDoorOpen
import Derived.Test.YtjkecadfakjanaaGreatDoorRows
import Derived.Test.YtjkecadfakjanaaGreatDoorCards
import Derived.Test.YtjkecadfakjanaaGreatDoorTie
import Derived.ProofKit
import Derived.OpenShut
import Derived.ShutString
import Derived.ChangeOld
import Derived.SizedLaws
import Derived.LaidMore
import Derived.Lay
import Derived.SevenTiedAt
import Derived.Stop.Joined
import Derived.Carry
set_option maxRecDepth 100000
set_option linter.unusedVariables false
set_option linter.unusedSimpArgs false
namespace Go.Proofs.YtjkecadfakjanaaGreatDoor
open Go.RowKit
attribute [local go_sem] B_extract B_toList B_append

theorem plains_words {l : List Str} (h : plainsL l = true) : ∀ d ∈ l, PlainW d := fun d hd => by
 unfold plainsL at h
 rw [Bool.and_eq_true, List.all_eq_true] at h
 exact plain_word (h.1 d hd)
theorem folder_few {l : List Str} (h : fewL l = true) : (folderL l).length <= 2000 := by rw [folder_size]; simpa [fewL] using h

set_option maxHeartbeats 8000000 in
theorem w_FnBuiltResource (site : SiteM) (dirs : List Str) (name : Str) (ext : Str) (vl vd vf vc vdirs : Value) (w : World) (hv : SiteAt w vl vd vf vc site) (hcl : CapOK vl) (hcd : CapOK vd) (hcc : CapOK vc) (hdirs0 : StrsAt w vdirs dirs) (hcdirs0 : CapOK vdirs) (hname0 : name.length <= 140737488351232) (hext0 : ext.length <= 140737488351232) :
  Calls Tryz.prog 4 #[.agg #[vl, vd, vf, vc], vdirs, .string (B name), .string (B ext)] w fun e w' => e = .returned (.bool true) /\ Below w.heap.size w w' := by
 have HZ : Hid (∀ wx, SiteAt wx vl vd vf vc site -> Calls Tryz.prog 12 #[.agg #[vl, vd, vf, vc]] wx fun e w' => e = .returned (.bool (siteFits site)) /\ Below wx.heap.size wx w') := fun wx h => c_zzFits1 site vl vd vf vc wx h
 have HZdirs : Hid (∀ wx, StrsAt wx vdirs dirs -> Calls Tryz.prog 19 #[vdirs] wx fun e w' => e = .returned (.bool (fits2 dirs)) /\ wx = w') := fun wx h => c_zzFits2 dirs vdirs wx h
 have HPSdirs : Hid (fits2 dirs = true -> ∀ wx, StrsAt wx vdirs dirs -> Calls Tryz.prog 20 #[vdirs] wx fun e w' => e = .returned (.bool (plainsL dirs)) /\ Below wx.heap.size wx w') := fun hf wx h => c_plains dirs vdirs wx h hf
 have HFOdirs : Hid (fewL dirs = true -> ∀ wx, StrsAt wx vdirs dirs -> Calls Tryz.prog 23 #[vdirs] wx fun e w' => e = .returned (.string (B (folderL dirs))) /\ wx = w') := fun hf wx h => c_folder dirs vdirs wx h hf
 have HPname : Hid (name.length <= 2147483647 -> ∀ wx, Calls Tryz.prog 21 #[.string (B name)] wx fun e w' => e = .returned (.bool (plainL name)) /\ Below wx.heap.size wx w') := fun hl wx => c_plainW name wx (by omega)
 have HPext : Hid (ext.length <= 2147483647 -> ∀ wx, Calls Tryz.prog 21 #[.string (B ext)] wx fun e w' => e = .returned (.bool (plainL ext)) /\ Below wx.heap.size wx w') := fun hl wx => c_plainW ext wx (by omega)
 have HLI : Hid (∀ wx, SiteAt wx vl vd vf vc site -> Calls Tryz.prog 22 #[vc, .string (B ext)] wx fun e w' => e = .returned (.bool (amongL site.content ext)) /\ wx = w') := fun wx h => c_listed site.content ext vc wx h.c
 have HKN : Hid ((fewL dirs = true) -> (name.length <= 2147483647) -> (ext.length <= 2147483647) -> siteFits site = true -> ∀ wx, SiteAt wx vl vd vf vc site -> Calls Tryz.prog 24 #[.agg #[vl, vd, vf, vc], .string (B [99, 111, 110, 116, 101, 110, 116]), .string (B (folderL dirs ++ 47 :: (name ++ 46 :: ext)))] wx
    fun e w' => ∃ v T, e = .returned (.tuple #[v, .bool (knownL site [99, 111, 110, 116, 101, 110, 116] (folderL dirs ++ 47 :: (name ++ 46 :: ext)))]) /\ ToldAtN wx.heap.size w' v T /\ Below wx.heap.size wx w' /\ (knownL site [99, 111, 110, 116, 101, 110, 116] (folderL dirs ++ 47 :: (name ++ 46 :: ext)) = true -> T = toldM (doParseM site [99, 111, 110, 116, 101, 110, 116] (normL (folderL dirs ++ 47 :: (name ++ 46 :: ext)))))) := fun hf hn he hsf wx h => c_knownW site [99, 111, 110, 116, 101, 110, 116] (folderL dirs ++ 47 :: (name ++ 46 :: ext)) vl vd vf vc wx h hcl hcd hcc hsf (by decide) (by have := folder_few hf; simp only [List.length_append, List.length_cons, List.length_nil]; omega)
 have HIR : Hid (pathKnown site [99, 111, 110, 116, 101, 110, 116] (folderL dirs ++ 47 :: (name ++ 46 :: ext)) = true -> ∀ wx, SiteAt wx vl vd vf vc site -> Calls Tryz.prog 25 #[.agg #[vl, vd, vf, vc], .string (B [99, 111, 110, 116, 101, 110, 116]), .string (B (folderL dirs ++ 47 :: (name ++ 46 :: ext)))] wx fun e w' => ∃ v, e = .returned v /\ ToldAtN wx.heap.size w' v (toldM { (doParseM site [99, 111, 110, 116, 101, 110, 116] (normL (folderL dirs ++ 47 :: (name ++ 46 :: ext)))) with typ := resT (doParseM site [99, 111, 110, 116, 101, 110, 116] (normL (folderL dirs ++ 47 :: (name ++ 46 :: ext)))).typ }) /\ Below wx.heap.size wx w') := fun hk wx h => by
  obtain ⟨h1, h2, h3, h4, h5⟩ := pathKnown_site hk
  exact c_implRes wx site [99, 111, 110, 116, 101, 110, 116] (folderL dirs ++ 47 :: (name ++ 46 :: ext)) vl vd vf vc h (siteKnown_once h1) (by omega) h3
 have HSF : Hid (siteFits site = true -> fits2 site.languages = true /\ fits2 site.content = true) := fun h => by
  unfold siteFits at h
  simp only [Bool.and_eq_true] at h
  exact ⟨h.1.1.1, h.2⟩
 obtain ⟨obs, hobs⟩ : ∃ o : Obj, o = .cells #[vl, vd, vf, vc] 25 := ⟨_, rfl⟩
 have hB1 : Hid (Below w.heap.size w (w.alloc obs)) := Below_alloc w obs
 have hsb1 : Hid ((w.alloc obs).heap[w.heap.size]? = some (.cells #[vl, vd, vf, vc] 25)) := by show _ = _; rw [hobs]; exact blk_new w _
 have HV1 : Hid (SiteAt (w.alloc obs) vl vd vf vc site) := hv.alloc obs
 have qdirs1 : Hid (StrsAt (w.alloc obs) vdirs dirs) := hdirs0.below (Below_alloc w obs)
 clear hv hcl hcd hcc hdirs0 hcdirs0
 go_enter Tryz.func4, Tryz.ntmps4
 go_wp2_with fail
 rw [<- hobs]
 generalize w.alloc obs = w1 at hB1 hsb1 HV1 qdirs1 |-
 refine (HZ.out _ HV1.out).mono ?_; rintro e w2 ⟨rfl, b⟩
 have hsb2 := Lib.hid (blk_below hsb1.out b)
 have HV2 := Lib.hid (HV1.out.below b)
 have qdirs2 := Lib.hid (qdirs1.out.below b)
 have hB2 := Lib.hid (belowThen hB1.out b (Nat.le_refl _))
 clear b hB1 hsb1 HV1 qdirs1
 cases hz : siteFits site with
 | false =>
  go_wp2_with fail
  go_ret
  exact ⟨rfl, hB2.out⟩
 | true =>
 go_wp2_with fail
 refine (HZdirs.out _ qdirs2.out).mono ?_; rintro e w' ⟨rfl, rfl⟩
 cases hzdirs : fits2 dirs with
 | false =>
  go_wp2_with fail
  go_ret
  exact ⟨rfl, hB2.out⟩
 | true =>
 by_cases hlname : name.length <= 2147483647
 rotate_left 1
 ·skip
  go_wp2_with fail
  go_ret
  exact ⟨rfl, hB2.out⟩
 by_cases hlext : ext.length <= 2147483647
 rotate_left 1
 ·skip
  go_wp2_with fail
  go_ret
  exact ⟨rfl, hB2.out⟩
 clear HZ HZdirs
 go_wp2_with fail
 refine (HPSdirs.out hzdirs _ qdirs2.out).mono ?_; rintro e w3 ⟨rfl, b⟩
 have hsb3 := Lib.hid (blk_below hsb2.out b)
 have HV3 := Lib.hid (HV2.out.below b)
 have qdirs3 := Lib.hid (qdirs2.out.below b)
 have hB3 := Lib.hid (belowThen hB2.out b (Nat.le_refl _))
 clear b hB2 hsb2 HV2 qdirs2
 cases hpdirs : plainsL dirs with
 | false =>
  go_wp2_with fail
  go_ret
  exact ⟨rfl, hB3.out⟩
 | true =>
 clear HPSdirs
 have hfdirs : fewL dirs = true := by unfold plainsL at hpdirs; rw [Bool.and_eq_true] at hpdirs; exact hpdirs.2
 go_wp2_with fail
 refine (HPname.out hlname _).mono ?_; rintro e w4 ⟨rfl, b⟩
 have hsb4 := Lib.hid (blk_below hsb3.out b)
 have HV4 := Lib.hid (HV3.out.below b)
 have qdirs4 := Lib.hid (qdirs3.out.below b)
 have hB4 := Lib.hid (belowThen hB3.out b (Nat.le_refl _))
 clear b hB3 hsb3 HV3 qdirs3
 cases hpname : plainL name with
 | false =>
  go_wp2_with fail
  go_ret
  exact ⟨rfl, hB4.out⟩
 | true =>
 clear HPname
 go_wp2_with fail
 refine (HPext.out hlext _).mono ?_; rintro e w5 ⟨rfl, b⟩
 have hsb5 := Lib.hid (blk_below hsb4.out b)
 have HV5 := Lib.hid (HV4.out.below b)
 have qdirs5 := Lib.hid (qdirs4.out.below b)
 have hB5 := Lib.hid (belowThen hB4.out b (Nat.le_refl _))
 clear b hB4 hsb4 HV4 qdirs4
 cases hpext : plainL ext with
 | false =>
  go_wp2_with fail
  go_ret
  exact ⟨rfl, hB5.out⟩
 | true =>
 clear HPext
 obtain ⟨z0, z1, z2, z3⟩ : w5.cell? ⟨w.heap.size, 0, none⟩ = some vl /\ w5.cell? ⟨w.heap.size, 1, none⟩ = some vd /\ w5.cell? ⟨w.heap.size, 2, none⟩ = some vf /\ w5.cell? ⟨w.heap.size, 3, none⟩ = some vc := ⟨cell_blk hsb5.out 0, cell_blk hsb5.out 1, cell_blk hsb5.out 2, cell_blk hsb5.out 3⟩
 go_wp2_with fail
 refine (HLI.out _ HV5.out).mono ?_; rintro e w' ⟨rfl, rfl⟩
 cases hli : amongL site.content ext with
 | true =>
  go_wp2_with fail
  go_ret
  exact ⟨rfl, hB5.out⟩
 | false =>
 clear HLI z0 z1 z2 z3
 go_wp2_with fail
 refine (HFOdirs.out hfdirs _ qdirs5.out).mono ?_; rintro e w' ⟨rfl, rfl⟩
 have hfl := folder_few hfdirs
 obtain ⟨D, hD⟩ : ∃ D, D = folderL dirs := ⟨_, rfl⟩
 have HKN2 := Lib.hid (HKN.out hfdirs hlname hlext hz)
 clear HKN
 obtain ⟨z0, z1, z2, z3⟩ : w5.cell? ⟨w.heap.size, 0, none⟩ = some vl /\ w5.cell? ⟨w.heap.size, 1, none⟩ = some vd /\ w5.cell? ⟨w.heap.size, 2, none⟩ = some vf /\ w5.cell? ⟨w.heap.size, 3, none⟩ = some vc := ⟨cell_blk hsb5.out 0, cell_blk hsb5.out 1, cell_blk hsb5.out 2, cell_blk hsb5.out 3⟩
 go_wp2_with fail
 refine (HKN2.out _ HV5.out).mono ?_; rintro e w6 ⟨v, T, rfl, ⟨ql, qi, qu, rfl, ⟨s1, n1⟩, ⟨s2, n2⟩, ⟨s3, n3⟩⟩, b, hT⟩
 obtain ⟨a1, l1, c1, rfl⟩ := s1.slice
 obtain ⟨a2, l2, c2, rfl⟩ := s2.slice
 obtain ⟨a3, l3, c3, rfl⟩ := s3.slice
 obtain ⟨cs, hcs, hsz, hone⟩ := told_cells T a1 a2 a3 l1 l2 l3 c1 c2 c3
 rw [hcs]
 replace s2 := Lib.hid s2
 replace s3 := Lib.hid s3
 replace hcs := Lib.hid hcs
 replace hT := Lib.hid hT
 clear n1 n2 n3 s1 HKN2
 have hsb6 := Lib.hid (blk_below hsb5.out b)
 have HV6 := Lib.hid (HV5.out.below b)
 have qdirs6 := Lib.hid (qdirs5.out.below b)
 have hB6 := Lib.hid (belowThen hB5.out b (Nat.le_refl _))
 clear b hB5 hsb5 HV5 qdirs5 z0 z1 z2 z3
 go_wp2_with (refine wpList_store_row rfl 29 (.tmp 10) (.tmp 62) rfl w6.heap.size cs rfl rfl 29 _ (blk_new w6 _) (by rw [hsz]; kernel_rfl) (by rw [hsz]; rfl) hone (Hid.out ?_))
 have hrow7 := Lib.hid (setRow_heap (w6.alloc (.cells #[.string (B []), .string (B []), .string (B []), .string (B []), .string (B []), .string (B []), .string (B []), .string (B []), .string (B []), .string (B []), .string (B []), .string (B []), .string (B []), .string (B []), .string (B []), .string (B []), .string (B []), .string (B []), .string (B []), .string (B []), .string (B []), .slice none 0 0, .slice none 0 0, .slice none 0 0, .bool false, .bool false, .bool false, .bool false, .bool false, .bool false, .int .i64 0] 29)) w6.heap.size _ cs _ _ (blk_new w6 _))
 have b : Below w6.heap.size w6 ((w6.alloc (.cells #[.string (B []), .string (B []), .string (B []), .string (B []), .string (B []), .string (B []), .string (B []), .string (B []), .string (B []), .string (B []), .string (B []), .string (B []), .string (B []), .string (B []), .string (B []), .string (B []), .string (B []), .string (B []), .string (B []), .string (B []), .string (B []), .slice none 0 0, .slice none 0 0, .slice none 0 0, .bool false, .bool false, .bool false, .bool false, .bool false, .bool false, .int .i64 0] 29)).setRow w6.heap.size cs) := (Below_alloc w6 _).trans ⟨rfl, rfl, rfl, by simp, fun k hk => setRow_other _ _ _ _ (by omega)⟩
 have t27 := Lib.hid (s2.out.below b)
 have t37 := Lib.hid (s3.out.below b)
 clear s2 s3
 have hsb7 := Lib.hid (blk_below hsb6.out b)
 have HV7 := Lib.hid (HV6.out.below b)
 have qdirs7 := Lib.hid (qdirs6.out.below b)
 have hB7 := Lib.hid (belowThen hB6.out b (Nat.le_refl _))
 clear b hB6 hsb6 HV6 qdirs6
 generalize (w6.alloc _).setRow _ _ = w7 at hB7 hsb7 HV7 qdirs7 hrow7 t27 t37 |-
 generalize w6.heap.size = gT at hrow7 |-
 refine Lib.hid ?_
 cases hk : knownL site [99, 111, 110, 116, 101, 110, 116] (folderL dirs ++ 47 :: (name ++ 46 :: ext)) with
 | false =>
  go_wp2_with fail
  go_ret
  exact ⟨rfl, hB7.out⟩
 | true =>
 have hT2 := hT.out hk
 have hpk : pathKnown site [99, 111, 110, 116, 101, 110, 116] (folderL dirs ++ 47 :: (name ++ 46 :: ext)) = true := by unfold knownL at hk; rw [Bool.and_eq_true] at hk; exact hk.2
 have hT0 := hT2
 rw [parse_eq hpk] at hT2
 have hcs2 : Hid (cs = #[.string (B T.component), .string (B T.container), .string (B T.containerDir), .string (B T.section_), .string (B T.name), .string (B T.nameNoExt), .string (B T.baseName), .string (B T.nameNoId), .string (B T.dir), .string (B T.path), .string (B T.pathNoLang), .string (B T.pathNoId), .string (B T.pathBefore), .string (B T.base), .string (B T.idBase), .string (B T.ext), .string (B T.format), .string (B T.kind), .string (B T.layout), .string (B T.lang), .string (B T.custom), .slice a1 l1 c1, .slice a2 l2 c2, .slice a3 l3 c3, .bool T.disabled, .bool T.isContent, .bool T.isBundle, .bool T.isBranch, .bool T.isLeaf, .bool T.isData, .int .i64 T.typ]) := (Value.agg.inj hcs.out).symm
 clear hT
 have hR : ResT T dirs name ext := by rw [hT2]; exact resource_told (plains_words hpdirs) (plain_word hpname) (plain_word hpext) hli
 obtain ⟨U, hU⟩ : ∃ U, U = toldM { (doParseM site [99, 111, 110, 116, 101, 110, 116] (normL (folderL dirs ++ 47 :: (name ++ 46 :: ext)))) with typ := resT (doParseM site [99, 111, 110, 116, 101, 110, 116] (normL (folderL dirs ++ 47 :: (name ++ 46 :: ext)))).typ } := ⟨_, rfl⟩
 have hI2 := Lib.hid (HIR.out hpk)
 rw [<- hU] at hI2
 have hU1 : U.typ = 0 := by
  have e : U.typ = resT (doParseM site [99, 111, 110, 116, 101, 110, 116] (normL (folderL dirs ++ 47 :: (name ++ 46 :: ext)))).typ := by rw [hU]; rfl
  have e2 : (doParseM site [99, 111, 110, 116, 101, 110, 116] (normL (folderL dirs ++ 47 :: (name ++ 46 :: ext)))).typ = T.typ := by rw [hT0]; rfl
  rw [e, e2, hR.typ]; rfl
 have hU2 : U.path = folderL dirs ++ 47 :: (name ++ 46 :: ext) := by
  have e : U.path = T.path := by rw [hU, hT0]; rfl
  rw [e, hR.path]
 rw [hR.typ, hR.isContent, hR.path, hR.base, hR.nameNoId] at hcs2
 clear HIR hU hR hT0 hT2
 obtain ⟨z0, z1, z2, z3⟩ : w7.cell? ⟨w.heap.size, 0, none⟩ = some vl /\ w7.cell? ⟨w.heap.size, 1, none⟩ = some vd /\ w7.cell? ⟨w.heap.size, 2, none⟩ = some vf /\ w7.cell? ⟨w.heap.size, 3, none⟩ = some vc := ⟨cell_blk hsb7.out 0, cell_blk hsb7.out 1, cell_blk hsb7.out 2, cell_blk hsb7.out 3⟩
 go_wp2_with fail
 refine (hI2.out _ HV7.out).mono ?_; rintro e w8 ⟨v7, rfl, ⟨ql, qi, qu, rfl, ⟨s1, n1⟩, ⟨s2, n2⟩, ⟨s3, n3⟩⟩, b⟩
 obtain ⟨p1, m1, d1, rfl⟩ := s1.slice
 obtain ⟨p2, m2, d2, rfl⟩ := s2.slice
 obtain ⟨p3, m3, d3, rfl⟩ := s3.slice
 obtain ⟨ds, hds, hdz, hdone⟩ := told_cells U p1 p2 p3 m1 m2 m3 d1 d2 d3
 rw [hds]
 replace hds := Lib.hid hds
 replace hdz := Lib.hid hdz
 clear n1 n2 n3 s1 s2 s3
 have hsb8 := Lib.hid (blk_below hsb7.out b)
 have HV8 := Lib.hid (HV7.out.below b)
 have qdirs8 := Lib.hid (qdirs7.out.below b)
 have hrow8 := Lib.hid (blk_below hrow7.out b)
 have t28 := Lib.hid (t27.out.below b)
 have t38 := Lib.hid (t37.out.below b)
 have hB8 := Lib.hid (belowThen hB7.out b (Nat.le_refl _))
 clear b hB7 hsb7 HV7 qdirs7 hrow7 t27 t37 z0 z1 z2 z3
 go_wp2_with (refine wpList_store_row rfl 29 (.tmp 12) (.tmp 74) rfl w8.heap.size ds rfl rfl 29 _ (blk_new w8 _) (by rw [hdz.out]; kernel_rfl) (by rw [hdz.out]; rfl) hdone (Hid.out ?_))
 have hro29 := Lib.hid (setRow_heap (w8.alloc (.cells #[.string (B []), .string (B []), .string (B []), .string (B []), .string (B []), .string (B []), .string (B []), .string (B []), .string (B []), .string (B []), .string (B []), .string (B []), .string (B []), .string (B []), .string (B []), .string (B []), .string (B []), .string (B []), .string (B []), .string (B []), .string (B []), .slice none 0 0, .slice none 0 0, .slice none 0 0, .bool false, .bool false, .bool false, .bool false, .bool false, .bool false, .int .i64 0] 29)) w8.heap.size _ ds _ _ (blk_new w8 _))
 have b : Below w8.heap.size w8 ((w8.alloc (.cells #[.string (B []), .string (B []), .string (B []), .string (B []), .string (B []), .string (B []), .string (B []), .string (B []), .string (B []), .string (B []), .string (B []), .string (B []), .string (B []), .string (B []), .string (B []), .string (B []), .string (B []), .string (B []), .string (B []), .string (B []), .string (B []), .slice none 0 0, .slice none 0 0, .slice none 0 0, .bool false, .bool false, .bool false, .bool false, .bool false, .bool false, .int .i64 0] 29)).setRow w8.heap.size ds) := (Below_alloc w8 _).trans ⟨rfl, rfl, rfl, by simp, fun k hk => setRow_other _ _ _ _ (by omega)⟩
 have hsb9 := Lib.hid (blk_below hsb8.out b)
 have HV9 := Lib.hid (HV8.out.below b)
 have qdirs9 := Lib.hid (qdirs8.out.below b)
 have hrow9 := Lib.hid (blk_below hrow8.out b)
 have t29 := Lib.hid (t28.out.below b)
 have t39 := Lib.hid (t38.out.below b)
 have hB9 := Lib.hid (belowThen hB8.out b (Nat.le_refl _))
 clear b hB8 hsb8 HV8 qdirs8 hrow8 t28 t38
 generalize (w8.alloc _).setRow _ _ = w9 at hB9 hsb9 HV9 qdirs9 hrow9 t29 t39 hro29 |-
 generalize w8.heap.size = gU at hro29 |-
 refine Lib.hid ?_
 have hds2 : Hid (ds = #[.string (B U.component), .string (B U.container), .string (B U.containerDir), .string (B U.section_), .string (B U.name), .string (B U.nameNoExt), .string (B U.baseName), .string (B U.nameNoId), .string (B U.dir), .string (B U.path), .string (B U.pathNoLang), .string (B U.pathNoId), .string (B U.pathBefore), .string (B U.base), .string (B U.idBase), .string (B U.ext), .string (B U.format), .string (B U.kind), .string (B U.layout), .string (B U.lang), .string (B U.custom), .slice p1 m1 d1, .slice p2 m2 d2, .slice p3 m3 d3, .bool U.disabled, .bool U.isContent, .bool U.isBundle, .bool U.isBranch, .bool U.isLeaf, .bool U.isData, .int .i64 U.typ]) := (Value.agg.inj hds.out).symm
 rw [hU1, hU2] at hds2
 clear hU1 hU2
 have x7 : w9.cell? ⟨gT, 7, none⟩ = some (.string (B name)) := by rw [cell_blk hrow9.out 7, hcs2.out]; rfl
 have x9 : w9.cell? ⟨gT, 9, none⟩ = some (.string (B (folderL dirs ++ 47 :: (name ++ 46 :: ext)))) := by rw [cell_blk hrow9.out 9, hcs2.out]; rfl
 have x13 : w9.cell? ⟨gT, 13, none⟩ = some (.string (B (folderL dirs ++ 47 :: (name ++ 46 :: ext)))) := by rw [cell_blk hrow9.out 13, hcs2.out]; rfl
 have x25 : w9.cell? ⟨gT, 25, none⟩ = some (.bool false) := by rw [cell_blk hrow9.out 25, hcs2.out]; rfl
 have x30 : w9.cell? ⟨gT, 30, none⟩ = some (.int .i64 0) := by rw [cell_blk hrow9.out 30, hcs2.out]; rfl
 have y9 : w9.cell? ⟨gU, 9, none⟩ = some (.string (B (folderL dirs ++ 47 :: (name ++ 46 :: ext)))) := by rw [cell_blk hro29.out 9, hds2.out]; rfl
 have y30 : w9.cell? ⟨gU, 30, none⟩ = some (.int .i64 0) := by rw [cell_blk hro29.out 30, hds2.out]; rfl
 go_wp2_with fail
 go_ret
 exact ⟨ret_bool (by simp), hB9.out⟩

end Go.Proofs.YtjkecadfakjanaaGreatDoor

namespace Go.Proofs.YtjkecadfakjanaaGreatDoor
open Go.ChangeShapes Go.WideShapes Go.ChangeAt Go.RowKit
open Go.ChangeMaps (open_string shut_string)

theorem listReads : Tryz.prog.readableRec 22 = true := by kernel_rfl
theorem listRow : 22 < Tryz.prog.types.size := of_decide_eq_true (by kernel_rfl)
theorem open_list {H : Type} {enc : TypeId × Value -> H} {W : World} {v : Value} {d : DataW H} {p : List MemPlace} (h : DataW.Trod enc Tryz.prog W 0 (fun _ => true) true 22 v d p) (hv : Value.okWide Tryz.prog W .any 0 22 v) (hw : ∀ n ∈ d.weights Tryz.prog 22, n <= reachBytes) : ∃ l, StrsAt W v l /\ CapOK v := by
 obtain ⟨a, len, cap, rfl⟩ := okWide_slice Tryz.underlying22 hv
 obtain ⟨fuel, hf⟩ := h
 exact open_strsA (x := (d, p)) hf hw
theorem own : ownKnob Tryz.prog.godebug = none := by kernel_rfl
theorem laidOut : laidOutB Tryz.prog = true := by kernel_rfl
theorem siteReads : Tryz.prog.readableRec 25 = true := by kernel_rfl
theorem siteRow : 25 < Tryz.prog.types.size := of_decide_eq_true (by kernel_rfl)

def laidAll' : List (String × DataW Unit) := Rows.fnBuiltResourceRow.laid

set_option maxRecDepth 100000 in
theorem lifted1 (os : Os) (started : os.Started) (H : Type) (enc : TypeId × Value -> H) :
  ReturnsInHanded {} Tryz.checked os 4 .any (fun w args => (Rows.fnBuiltResourceSpec.pre enc Tryz.prog Tryz.f4 Rows.fnBuiltResourceRow.domain false w args /\ laidMetH Tryz.prog laidAll' w) /\ sizedMet enc Tryz.prog Tryz.f4 (OpenSpec.ofChange Rows.fnBuiltResourceSpec) false w args)
   (Rows.fnBuiltResourceSpec.post enc Tryz.prog Tryz.f4 false true false false) := by
 refine returnsInHanded_of_change_and (C := Tryz.checked) (X := fun w _ => laidMetH Tryz.prog laidAll' w) (fun _ _ _ hh h => h.of_heap hh) own started (by kernel_rfl) Tryz.func4
  (ChangeSpec.witness_shaped (enc := enc) (C := Tryz.checked) (os := os) (X := fun w _ => laidMetH Tryz.prog laidAll' w) false (World.laidAll Tryz.prog os laidAll') #[.agg #[.slice none 0 0, .slice none 0 0, .slice none 0 0, .slice none 0 0], .slice none 0 0, .string ByteArray.empty, .string ByteArray.empty] 8 (World.laidAll_os _ _ _)
   (World.shaped_of_ZipB (by kernel_rfl) (by kernel_rfl)) (by kernel_rfl) (by kernel_rfl) (by kernel_rfl)
   (by rw [MakeChecks.laidMetH_plain _ _ _ (by kernel_rfl)]; exact laidMet_laidAll _ (by kernel_rfl) (by kernel_rfl))) ?_
 intro W base args ds gs before hval0 hW hc hsz0 _ _
 have hsz : (DataW.weightsEach Tryz.prog (Tryz.f4.params.toList ++ Rows.fnBuiltResourceSpec.plain.varTypes Tryz.prog) (ds ++ gs)).all (· <= reachBytes) = true := hsz0
 have hval : ∀ (j : Nat) t v, Tryz.f4.params[j]? = some t -> args[j]? = some v -> Value.okWide Tryz.prog W .any base t v := hval0
 have hW' := hW
 obtain ⟨p, q, hA0, hV, rfl, _, _⟩ := hW
 have hA : DataW.TrodAll enc Tryz.prog W 0 (fun _ => true) true Tryz.f4.params.toList args.toList ds p := hA0
 rw [Tryz.params4] at hA hval hsz
 obtain ⟨v0, v1, v2, v3, d0, d1, d2, d3, p0, p1, p2, p3, rfl, rfl, rfl, h0, h1, h2, h3⟩ := trodAll_four hA
 obtain ⟨rfl, rfl⟩ := trodVars_none hV
 obtain ⟨a2, rfl, rfl, rfl, y2⟩ := open_string Tryz.underlying9 (hval 2 9 v2 rfl rfl) h2
 obtain ⟨a3, rfl, rfl, rfl, y3⟩ := open_string Tryz.underlying9 (hval 3 9 v3 rfl rfl) h3
 have w1 : ∀ n ∈ d1.weights Tryz.prog 22, n <= reachBytes := fun n hn => by
  have := List.all_eq_true.1 hsz n (DataW.weights_mem_each (j := 1) (t := 22) rfl rfl n hn)
  simpa using this
 obtain ⟨l1, q1, c1⟩ := open_list h1 (hval 1 22 v1 rfl rfl) w1
 have hlt1 : ∀ x ∈ p1, x.block < W.heap.size := fun x hx => hW'.lt x (by simp [hx])
 have w2 : a2.size <= 140737488351232 := by
  have z := sized_string hsz (j := 2) (t := 9) rfl rfl
  rw [Array.length_toList] at z
  exact z
 have w3 : a3.size <= 140737488351232 := by
  have z := sized_string hsz (j := 3) (t := 9) rfl rfl
  rw [Array.length_toList] at z
  exact z
 have w0 : ∀ n ∈ d0.weights Tryz.prog 25, n <= reachBytes := fun n hn => by
  have := List.all_eq_true.1 hsz n (DataW.weights_mem_each (j := 0) (t := 25) rfl rfl n hn)
  simpa using this
 obtain ⟨vl, vd, vf, vc, site, rfl, hs, cl, cd, cc⟩ := open_site h0 (hval 0 25 v0 rfl rfl) w0
 have hlt : ∀ x ∈ p0, x.block < W.heap.size := fun x hx => hW'.lt x (by simp [hx])
 obtain ⟨l2, rfl⟩ := B_surj a2
 rw [B_size] at w2
 obtain ⟨l3, rfl⟩ := B_surj a3
 rw [B_size] at w3
 refine (w_FnBuiltResource site l1 l2 l3 vl vd vf vc v1 W hs cl cd cc q1 c1 w2 w3).mono fun e W' ⟨he, bel⟩ => ?_
 subst he
 refine ⟨_, rfl, _, _, _, [], _, [], hW', trodAll_mk1 (shut_bool Tryz.underlying4 _), trodAll_mk4 (Below.trod laidOut siteReads siteRow h0 bel hlt) (Below.trod laidOut listReads listRow h1 bel hlt1) (shut_string Tryz.underlying9 y2) (shut_string Tryz.underlying9 y3), rfl, bel.frame _, fun h => by cases h⟩

theorem over1 : Rows.FnBuiltResourceSaid :=
 OpenClaim.holds_of_wide 4 Tryz.f4 rfl rfl rfl rfl rfl rfl rfl ⟨rfl, rfl, rfl, rfl, rfl⟩ rfl rfl rfl rfl rfl (by kernel_rfl) Tryz.func4 (by kernel_rfl)
  (of_decide_eq_true (by kernel_rfl)) (by unfold Func.isWrapper; first | (rw [if_pos (by decide +kernel)]; kernel_rfl) | (rw [if_neg (by decide +kernel)]; exact ⟨rfl, rfl⟩))
  (fun os started H enc _ => lifted1 os started H enc)

theorem fnBuiltResource_holds : Rows.FnBuiltResourceCardSaid :=
 Claim7.holds_tied_plain_at .later [] [.data, .pinned, .pinned] true Rows.fnBuiltResourceCard.stood.harness false over1 (fun _ h => by cases h) (by kernel_rfl) (fun _ h => by cases h) fnBuiltResource_row_tie rfl ⟨rfl, rfl⟩ (by kernel_rfl) rfl
  (fun f fn hf hfn => by
   obtain rfl : f = 4 := Option.some.inj ((show Tryz.prog.funcNamed Rows.fnBuiltResourceRow.func = some 4 by kernel_rfl).symm.trans hf) |>.symm
   obtain rfl : fn = Tryz.f4 := (Option.some.inj (Tryz.func4.symm.trans hfn)).symm
   exact ⟨by kernel_rfl, fun j t ht => by
    rw [Tryz.params4] at ht
    have hm : t ∈ [25, 22, 9, 9] := by simpa using Array.mem_of_getElem? ht
    have hall : ([25, 22, 9].all fun u => !Tryz.prog.wantsStandIn u) = true := by kernel_rfl
    exact (show Tryz.prog.wantsStandIn t = false by simpa using List.all_eq_true.1 hall t (by simp at hm |-; first | exact hm | omega | (rcases hm with h | h | h <;> simp [h]) | (rcases hm with h | h | h | h <;> simp [h]) | (rcases hm with h | h | h | h | h <;> simp [h])))⟩)
  (by kernel_rfl)
#print axioms fnBuiltResource_holds
end Go.Proofs.YtjkecadfakjanaaGreatDoor
