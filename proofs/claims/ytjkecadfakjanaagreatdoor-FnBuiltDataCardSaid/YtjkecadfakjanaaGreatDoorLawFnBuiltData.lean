/- The walk of the law FnBuiltData: a file of content data that is built of folders is content, a bundle, and called by its folder. Conditions: a site in memory, lists in memory, texts that fit into the platform's addresses. -/
import Derived.Test.YtjkecadfakjanaaGreatDoorKnown
import Derived.Test.YtjkecadfakjanaaGreatDoorPlainX
import Derived.Test.YtjkecadfakjanaaGreatDoorBuiltX
import Derived.Test.YtjkecadfakjanaaGreatDoorHelpB
import Derived.Test.YtjkecadfakjanaaGreatDoorEqM
import Derived.Test.YtjkecadfakjanaaGreatDoorOpen
import Derived.Test.YtjkecadfakjanaaGreatDoorRows
import Derived.Test.YtjkecadfakjanaaGreatDoorCards
import Derived.Test.YtjkecadfakjanaaGreatDoorTie
import Derived.ProofKit
import Derived.OpenShut
import Derived.ShutString
import Derived.ChangeOld
import Derived.SizedLaws
import Derived.LaidMore
import Derived.Lay
import Derived.SevenTiedAt
import Derived.Stop.Joined
import Derived.Carry
set_option maxRecDepth 100000
set_option linter.unusedVariables false
set_option linter.unusedSimpArgs false
namespace Go.Proofs.YtjkecadfakjanaaGreatDoor
open Go.RowKit
attribute [local go_sem] B_extract B_toList B_append

theorem plains_words {l : List Str} (h : plainsL l = true) : ∀ d ∈ l, PlainW d := fun d hd => by
 unfold plainsL at h
 rw [Bool.and_eq_true, List.all_eq_true] at h
 exact plain_word (h.1 d hd)
theorem folder_few {l : List Str} (h : fewL l = true) : (folderL l).length <= 2000 := by rw [folder_size]; simpa [fewL] using h

set_option maxHeartbeats 8000000 in
theorem w_FnBuiltData (site : SiteM) (comp : Str) (dirs : List Str) (vl vd vf vc vdirs : Value) (w : World) (hv : SiteAt w vl vd vf vc site) (hcl : CapOK vl) (hcd : CapOK vd) (hcc : CapOK vc) (hcomp0 : comp.length <= 140737488351232) (hdirs0 : StrsAt w vdirs dirs) (hcdirs0 : CapOK vdirs) :
  Calls Tryz.prog 8 #[.agg #[vl, vd, vf, vc], .string (B comp), vdirs] w fun e w' => e = .returned (.bool true) /\ Below w.heap.size w w' := by
 have HZ : Hid (∀ wx, SiteAt wx vl vd vf vc site -> Calls Tryz.prog 12 #[.agg #[vl, vd, vf, vc]] wx fun e w' => e = .returned (.bool (siteFits site)) /\ Below wx.heap.size wx w') := fun wx h => c_zzFits1 site vl vd vf vc wx h
 have HPcomp : Hid (comp.length <= 2147483647 -> ∀ wx, Calls Tryz.prog 21 #[.string (B comp)] wx fun e w' => e = .returned (.bool (plainL comp)) /\ Below wx.heap.size wx w') := fun hl wx => c_plainW comp wx (by omega)
 have HZdirs : Hid (∀ wx, StrsAt wx vdirs dirs -> Calls Tryz.prog 19 #[vdirs] wx fun e w' => e = .returned (.bool (fits2 dirs)) /\ wx = w') := fun wx h => c_zzFits2 dirs vdirs wx h
 have HPSdirs : Hid (fits2 dirs = true -> ∀ wx, StrsAt wx vdirs dirs -> Calls Tryz.prog 20 #[vdirs] wx fun e w' => e = .returned (.bool (plainsL dirs)) /\ Below wx.heap.size wx w') := fun hf wx h => c_plains dirs vdirs wx h hf
 have HFOdirs : Hid (fewL dirs = true -> ∀ wx, StrsAt wx vdirs dirs -> Calls Tryz.prog 23 #[vdirs] wx fun e w' => e = .returned (.string (B (folderL dirs))) /\ wx = w') := fun hf wx h => c_folder dirs vdirs wx h hf
 have HLI : Hid (∀ wx, SiteAt wx vl vd vf vc site -> Calls Tryz.prog 22 #[vc, .string (B [103, 111, 116, 109, 112, 108])] wx fun e w' => e = .returned (.bool (amongL site.content [103, 111, 116, 109, 112, 108])) /\ wx = w') := fun wx h => c_listed site.content [103, 111, 116, 109, 112, 108] vc wx h.c
 have HM1 : Hid (∀ wx, SiteAt wx vl vd vf vc site -> Calls Tryz.prog 31 #[.agg #[vl, vd, vf, vc], .string (B [95, 99, 111, 110, 116, 101, 110, 116])] wx fun e w' => e = .returned (.bool (meantL site [95, 99, 111, 110, 116, 101, 110, 116])) /\ Below wx.heap.size wx w') := fun wx h => c_meant site [95, 99, 111, 110, 116, 101, 110, 116] vl vd vf vc wx h
 have HM2 : Hid (∀ wx, SiteAt wx vl vd vf vc site -> Calls Tryz.prog 31 #[.agg #[vl, vd, vf, vc], .string (B [103, 111, 116, 109, 112, 108])] wx fun e w' => e = .returned (.bool (meantL site [103, 111, 116, 109, 112, 108])) /\ Below wx.heap.size wx w') := fun wx h => c_meant site [103, 111, 116, 109, 112, 108] vl vd vf vc wx h
 have HKN : Hid ((fewL dirs = true) -> (comp.length <= 2147483647) -> siteFits site = true -> ∀ wx, SiteAt wx vl vd vf vc site -> Calls Tryz.prog 24 #[.agg #[vl, vd, vf, vc], .string (B comp), .string (B (folderL dirs ++ [47, 95, 99, 111, 110, 116, 101, 110, 116, 46, 103, 111, 116, 109, 112, 108]))] wx
    fun e w' => ∃ v T, e = .returned (.tuple #[v, .bool (knownL site comp (folderL dirs ++ [47, 95, 99, 111, 110, 116, 101, 110, 116, 46, 103, 111, 116, 109, 112, 108]))]) /\ ToldAtN wx.heap.size w' v T /\ Below wx.heap.size wx w' /\ (knownL site comp (folderL dirs ++ [47, 95, 99, 111, 110, 116, 101, 110, 116, 46, 103, 111, 116, 109, 112, 108]) = true -> T = toldM (doParseM site comp (normL (folderL dirs ++ [47, 95, 99, 111, 110, 116, 101, 110, 116, 46, 103, 111, 116, 109, 112, 108]))))) := fun hf hc hsf wx h => c_knownW site comp (folderL dirs ++ [47, 95, 99, 111, 110, 116, 101, 110, 116, 46, 103, 111, 116, 109, 112, 108]) vl vd vf vc wx h hcl hcd hcc hsf hc (by have := folder_few hf; simp only [List.length_append, List.length_cons, List.length_nil]; omega)
 have HLA : Hid (∀ wx, StrsAt wx vdirs dirs -> Calls Tryz.prog 32 #[vdirs] wx fun e w' => e = .returned (.string (B (dirs.getLastD []))) /\ wx = w') := fun wx h => c_last dirs vdirs wx h
 have HRO : Hid (∀ wx, Calls Tryz.prog 33 #[.string (B (folderL dirs))] wx fun e w' => e = .returned (.string (B (rootedL (folderL dirs)))) /\ wx = w') := fun wx => c_rooted (folderL dirs) wx
 have HSF : Hid (siteFits site = true -> fits2 site.languages = true /\ fits2 site.content = true) := fun h => by
  unfold siteFits at h
  simp only [Bool.and_eq_true] at h
  exact ⟨h.1.1.1, h.2⟩
 obtain ⟨obs, hobs⟩ : ∃ o : Obj, o = .cells #[vl, vd, vf, vc] 25 := ⟨_, rfl⟩
 have hB1 : Hid (Below w.heap.size w (w.alloc obs)) := Below_alloc w obs
 have hsb1 : Hid ((w.alloc obs).heap[w.heap.size]? = some (.cells #[vl, vd, vf, vc] 25)) := by show _ = _; rw [hobs]; exact blk_new w _
 have HV1 : Hid (SiteAt (w.alloc obs) vl vd vf vc site) := hv.alloc obs
 have qdirs1 : Hid (StrsAt (w.alloc obs) vdirs dirs) := hdirs0.below (Below_alloc w obs)
 clear hv hcl hcd hcc hdirs0 hcdirs0
 go_enter Tryz.func8, Tryz.ntmps8
 go_wp2_with fail
 rw [<- hobs]
 generalize w.alloc obs = w1 at hB1 hsb1 HV1 qdirs1 |-
 refine (HZ.out _ HV1.out).mono ?_; rintro e w2 ⟨rfl, b⟩
 have hsb2 := Lib.hid (blk_below hsb1.out b)
 have HV2 := Lib.hid (HV1.out.below b)
 have qdirs2 := Lib.hid (qdirs1.out.below b)
 have hB2 := Lib.hid (belowThen hB1.out b (Nat.le_refl _))
 clear b hB1 hsb1 HV1 qdirs1
 cases hz : siteFits site with
 | false =>
  go_wp2_with fail
  go_ret
  exact ⟨rfl, hB2.out⟩
 | true =>
 by_cases hlcomp : comp.length <= 2147483647
 rotate_left 1
 ·skip
  go_wp2_with fail
  go_ret
  exact ⟨rfl, hB2.out⟩
 go_wp2_with fail
 refine (HZdirs.out _ qdirs2.out).mono ?_; rintro e w' ⟨rfl, rfl⟩
 cases hzdirs : fits2 dirs with
 | false =>
  go_wp2_with fail
  go_ret
  exact ⟨rfl, hB2.out⟩
 | true =>
 clear HZ HZdirs
 clear HPcomp
 go_wp2_with fail
 refine (HPSdirs.out hzdirs _ qdirs2.out).mono ?_; rintro e w3 ⟨rfl, b⟩
 have hsb3 := Lib.hid (blk_below hsb2.out b)
 have HV3 := Lib.hid (HV2.out.below b)
 have qdirs3 := Lib.hid (qdirs2.out.below b)
 have hB3 := Lib.hid (belowThen hB2.out b (Nat.le_refl _))
 clear b hB2 hsb2 HV2 qdirs2
 cases hpdirs : plainsL dirs with
 | false =>
  go_wp2_with fail
  go_ret
  exact ⟨rfl, hB3.out⟩
 | true =>
 clear HPSdirs
 have hfdirs : fewL dirs = true := by unfold plainsL at hpdirs; rw [Bool.and_eq_true] at hpdirs; exact hpdirs.2
 obtain ⟨z0, z1, z2, z3⟩ : w3.cell? ⟨w.heap.size, 0, none⟩ = some vl /\ w3.cell? ⟨w.heap.size, 1, none⟩ = some vd /\ w3.cell? ⟨w.heap.size, 2, none⟩ = some vf /\ w3.cell? ⟨w.heap.size, 3, none⟩ = some vc := ⟨cell_blk hsb3.out 0, cell_blk hsb3.out 1, cell_blk hsb3.out 2, cell_blk hsb3.out 3⟩
 go_wp2_with fail
 refine (HLI.out _ HV3.out).mono ?_; rintro e w' ⟨rfl, rfl⟩
 cases hli : amongL site.content [103, 111, 116, 109, 112, 108] with
 | true =>
  go_wp2_with fail
  go_ret
  exact ⟨rfl, hB3.out⟩
 | false =>
 go_wp2_with fail
 refine (HM1.out _ HV3.out).mono ?_; rintro e w4 ⟨rfl, b⟩
 have hsb4 := Lib.hid (blk_below hsb3.out b)
 have HV4 := Lib.hid (HV3.out.below b)
 have qdirs4 := Lib.hid (qdirs3.out.below b)
 have hB4 := Lib.hid (belowThen hB3.out b (Nat.le_refl _))
 clear b hB3 hsb3 HV3 qdirs3 z0 z1 z2 z3
 cases hm1 : meantL site [95, 99, 111, 110, 116, 101, 110, 116] with
 | true =>
  go_wp2_with fail
  go_ret
  exact ⟨rfl, hB4.out⟩
 | false =>
 obtain ⟨z0, z1, z2, z3⟩ : w4.cell? ⟨w.heap.size, 0, none⟩ = some vl /\ w4.cell? ⟨w.heap.size, 1, none⟩ = some vd /\ w4.cell? ⟨w.heap.size, 2, none⟩ = some vf /\ w4.cell? ⟨w.heap.size, 3, none⟩ = some vc := ⟨cell_blk hsb4.out 0, cell_blk hsb4.out 1, cell_blk hsb4.out 2, cell_blk hsb4.out 3⟩
 go_wp2_with fail
 refine (HM2.out _ HV4.out).mono ?_; rintro e w5 ⟨rfl, b⟩
 have hsb5 := Lib.hid (blk_below hsb4.out b)
 have HV5 := Lib.hid (HV4.out.below b)
 have qdirs5 := Lib.hid (qdirs4.out.below b)
 have hB5 := Lib.hid (belowThen hB4.out b (Nat.le_refl _))
 clear b hB4 hsb4 HV4 qdirs4 z0 z1 z2 z3
 cases hm2 : meantL site [103, 111, 116, 109, 112, 108] with
 | true =>
  go_wp2_with fail
  go_ret
  exact ⟨rfl, hB5.out⟩
 | false =>
 clear HLI HM1 HM2
 go_wp2_with fail
 refine (HFOdirs.out hfdirs _ qdirs5.out).mono ?_; rintro e w' ⟨rfl, rfl⟩
 have hfl := folder_few hfdirs
 have HKN2 := Lib.hid (HKN.out hfdirs hlcomp hz)
 clear HKN
 obtain ⟨z0, z1, z2, z3⟩ : w5.cell? ⟨w.heap.size, 0, none⟩ = some vl /\ w5.cell? ⟨w.heap.size, 1, none⟩ = some vd /\ w5.cell? ⟨w.heap.size, 2, none⟩ = some vf /\ w5.cell? ⟨w.heap.size, 3, none⟩ = some vc := ⟨cell_blk hsb5.out 0, cell_blk hsb5.out 1, cell_blk hsb5.out 2, cell_blk hsb5.out 3⟩
 go_wp2_with fail
 refine (HKN2.out _ HV5.out).mono ?_; rintro e w6 ⟨v, T, rfl, ⟨ql, qi, qu, rfl, ⟨s1, n1⟩, ⟨s2, n2⟩, ⟨s3, n3⟩⟩, b, hT⟩
 obtain ⟨a1, l1, c1, rfl⟩ := s1.slice
 obtain ⟨a2, l2, c2, rfl⟩ := s2.slice
 obtain ⟨a3, l3, c3, rfl⟩ := s3.slice
 obtain ⟨cs, hcs, hsz, hone⟩ := told_cells T a1 a2 a3 l1 l2 l3 c1 c2 c3
 rw [hcs]
 replace s2 := Lib.hid s2
 replace s3 := Lib.hid s3
 replace hcs := Lib.hid hcs
 replace hT := Lib.hid hT
 clear n1 n2 n3 s1 HKN2
 have hsb6 := Lib.hid (blk_below hsb5.out b)
 have HV6 := Lib.hid (HV5.out.below b)
 have qdirs6 := Lib.hid (qdirs5.out.below b)
 have hB6 := Lib.hid (belowThen hB5.out b (Nat.le_refl _))
 clear b hB5 hsb5 HV5 qdirs5 z0 z1 z2 z3
 go_wp2_with (refine wpList_store_row rfl 29 (.tmp 8) (.tmp 47) rfl w6.heap.size cs rfl rfl 29 _ (blk_new w6 _) (by rw [hsz]; kernel_rfl) (by rw [hsz]; rfl) hone (Hid.out ?_))
 have hrow7 := Lib.hid (setRow_heap (w6.alloc (.cells #[.string (B []), .string (B []), .string (B []), .string (B []), .string (B []), .string (B []), .string (B []), .string (B []), .string (B []), .string (B []), .string (B []), .string (B []), .string (B []), .string (B []), .string (B []), .string (B []), .string (B []), .string (B []), .string (B []), .string (B []), .string (B []), .slice none 0 0, .slice none 0 0, .slice none 0 0, .bool false, .bool false, .bool false, .bool false, .bool false, .bool false, .int .i64 0] 29)) w6.heap.size _ cs _ _ (blk_new w6 _))
 have b : Below w6.heap.size w6 ((w6.alloc (.cells #[.string (B []), .string (B []), .string (B []), .string (B []), .string (B []), .string (B []), .string (B []), .string (B []), .string (B []), .string (B []), .string (B []), .string (B []), .string (B []), .string (B []), .string (B []), .string (B []), .string (B []), .string (B []), .string (B []), .string (B []), .string (B []), .slice none 0 0, .slice none 0 0, .slice none 0 0, .bool false, .bool false, .bool false, .bool false, .bool false, .bool false, .int .i64 0] 29)).setRow w6.heap.size cs) := (Below_alloc w6 _).trans ⟨rfl, rfl, rfl, by simp, fun k hk => setRow_other _ _ _ _ (by omega)⟩
 have t27 := Lib.hid (s2.out.below b)
 have t37 := Lib.hid (s3.out.below b)
 clear s2 s3
 have hsb7 := Lib.hid (blk_below hsb6.out b)
 have HV7 := Lib.hid (HV6.out.below b)
 have qdirs7 := Lib.hid (qdirs6.out.below b)
 have hB7 := Lib.hid (belowThen hB6.out b (Nat.le_refl _))
 clear b hB6 hsb6 HV6 qdirs6
 generalize (w6.alloc _).setRow _ _ = w7 at hB7 hsb7 HV7 qdirs7 hrow7 t27 t37 |-
 generalize w6.heap.size = gT at hrow7 |-
 refine Lib.hid ?_
 cases hk : knownL site comp (folderL dirs ++ [47, 95, 99, 111, 110, 116, 101, 110, 116, 46, 103, 111, 116, 109, 112, 108]) with
 | false =>
  go_wp2_with fail
  go_ret
  exact ⟨rfl, hB7.out⟩
 | true =>
 have hT2 := hT.out hk
 have hpk : pathKnown site comp (folderL dirs ++ [47, 95, 99, 111, 110, 116, 101, 110, 116, 46, 103, 111, 116, 109, 112, 108]) = true := by unfold knownL at hk; rw [Bool.and_eq_true] at hk; exact hk.2
 have hT0 := hT2
 rw [parse_eq hpk] at hT2
 have hcs2 : Hid (cs = #[.string (B T.component), .string (B T.container), .string (B T.containerDir), .string (B T.section_), .string (B T.name), .string (B T.nameNoExt), .string (B T.baseName), .string (B T.nameNoId), .string (B T.dir), .string (B T.path), .string (B T.pathNoLang), .string (B T.pathNoId), .string (B T.pathBefore), .string (B T.base), .string (B T.idBase), .string (B T.ext), .string (B T.format), .string (B T.kind), .string (B T.layout), .string (B T.lang), .string (B T.custom), .slice a1 l1 c1, .slice a2 l2 c2, .slice a3 l3 c3, .bool T.disabled, .bool T.isContent, .bool T.isBundle, .bool T.isBranch, .bool T.isLeaf, .bool T.isData, .int .i64 T.typ]) := (Value.agg.inj hcs.out).symm
 clear hT
 have hR : DataT T dirs := by
  rw [hT2]
  unfold meantL at hm1 hm2
  rw [Bool.or_eq_false_iff] at hm1 hm2
  exact data_told (comp := comp) (plains_words hpdirs) hli hm1.1 hm2.1
 have hro : T.dir = rootedL (folderL dirs) := by
  rw [hR.dir]
  unfold rootedL
  by_cases h : dirs = []
  ·rw [if_pos h, if_pos (folder_nil.2 h)]
  ·rw [if_neg h, if_neg (fun e => h (folder_nil.1 e))]
 rw [hR.typ, hR.isContent, hR.isData, hR.isBundle, hR.ext, hR.nameNoId, hR.baseName, hro] at hcs2
 clear hR hro hT0 hT2 hm1 hm2 hli
 have x6 : w7.cell? ⟨gT, 6, none⟩ = some (.string (B (dirs.getLastD []))) := by rw [cell_blk hrow7.out 6, hcs2.out]; rfl
 have x7 : w7.cell? ⟨gT, 7, none⟩ = some (.string (B [95, 99, 111, 110, 116, 101, 110, 116])) := by rw [cell_blk hrow7.out 7, hcs2.out]; rfl
 have x8 : w7.cell? ⟨gT, 8, none⟩ = some (.string (B (rootedL (folderL dirs)))) := by rw [cell_blk hrow7.out 8, hcs2.out]; rfl
 have x15 : w7.cell? ⟨gT, 15, none⟩ = some (.string (B [103, 111, 116, 109, 112, 108])) := by rw [cell_blk hrow7.out 15, hcs2.out]; rfl
 have x25 : w7.cell? ⟨gT, 25, none⟩ = some (.bool true) := by rw [cell_blk hrow7.out 25, hcs2.out]; rfl
 have x26 : w7.cell? ⟨gT, 26, none⟩ = some (.bool true) := by rw [cell_blk hrow7.out 26, hcs2.out]; rfl
 have x29 : w7.cell? ⟨gT, 29, none⟩ = some (.bool true) := by rw [cell_blk hrow7.out 29, hcs2.out]; rfl
 have x30 : w7.cell? ⟨gT, 30, none⟩ = some (.int .i64 5) := by rw [cell_blk hrow7.out 30, hcs2.out]; rfl
 generalize dirs.getLastD [] = la at *
 generalize rootedL (folderL dirs) = ro at *
 generalize folderL dirs = D at *
 go_upto_region 9 with fail
 go_quiet (first
  | (go_at_call 32; exact Calls.quiet_of_same ((HLA.out _ (qdirs7.out.below (Below_drewN (Below.refl _ _) _))).mono fun _ _ ⟨he, hw⟩ => ⟨he, hw.symm⟩))
  | (go_at_call 33; exact Calls.quiet_of_same ((HRO.out _).mono fun _ _ ⟨he, hw⟩ => ⟨he, hw.symm⟩)))
 go_wp2_with fail
 go_ret
 exact ⟨rfl, hB7.out.trans (Below_drewN (Below.refl _ _) _)⟩

end Go.Proofs.YtjkecadfakjanaaGreatDoor

namespace Go.Proofs.YtjkecadfakjanaaGreatDoor
open Go.ChangeShapes Go.WideShapes Go.ChangeAt Go.RowKit
open Go.ChangeMaps (open_string shut_string)

theorem listReads : Tryz.prog.readableRec 22 = true := by kernel_rfl
theorem listRow : 22 < Tryz.prog.types.size := of_decide_eq_true (by kernel_rfl)
theorem open_list {H : Type} {enc : TypeId × Value -> H} {W : World} {v : Value} {d : DataW H} {p : List MemPlace} (h : DataW.Trod enc Tryz.prog W 0 (fun _ => true) true 22 v d p) (hv : Value.okWide Tryz.prog W .any 0 22 v) (hw : ∀ n ∈ d.weights Tryz.prog 22, n <= reachBytes) : ∃ l, StrsAt W v l /\ CapOK v := by
 obtain ⟨a, len, cap, rfl⟩ := okWide_slice Tryz.underlying22 hv
 obtain ⟨fuel, hf⟩ := h
 exact open_strsA (x := (d, p)) hf hw
theorem own : ownKnob Tryz.prog.godebug = none := by kernel_rfl
theorem laidOut : laidOutB Tryz.prog = true := by kernel_rfl
theorem siteReads : Tryz.prog.readableRec 25 = true := by kernel_rfl
theorem siteRow : 25 < Tryz.prog.types.size := of_decide_eq_true (by kernel_rfl)

def laidAll' : List (String × DataW Unit) := Rows.fnBuiltDataRow.laid

set_option maxRecDepth 100000 in
theorem lifted1 (os : Os) (started : os.Started) (H : Type) (enc : TypeId × Value -> H) :
  ReturnsInHanded {} Tryz.checked os 8 .any (fun w args => (Rows.fnBuiltDataSpec.pre enc Tryz.prog Tryz.f8 Rows.fnBuiltDataRow.domain false w args /\ laidMetH Tryz.prog laidAll' w) /\ sizedMet enc Tryz.prog Tryz.f8 (OpenSpec.ofChange Rows.fnBuiltDataSpec) false w args)
   (Rows.fnBuiltDataSpec.post enc Tryz.prog Tryz.f8 false true false false) := by
 refine returnsInHanded_of_change_and (C := Tryz.checked) (X := fun w _ => laidMetH Tryz.prog laidAll' w) (fun _ _ _ hh h => h.of_heap hh) own started (by kernel_rfl) Tryz.func8
  (ChangeSpec.witness_shaped (enc := enc) (C := Tryz.checked) (os := os) (X := fun w _ => laidMetH Tryz.prog laidAll' w) false (World.laidAll Tryz.prog os laidAll') #[.agg #[.slice none 0 0, .slice none 0 0, .slice none 0 0, .slice none 0 0], .string ByteArray.empty, .slice none 0 0] 8 (World.laidAll_os _ _ _)
   (World.shaped_of_ZipB (by kernel_rfl) (by kernel_rfl)) (by kernel_rfl) (by kernel_rfl) (by kernel_rfl)
   (by rw [MakeChecks.laidMetH_plain _ _ _ (by kernel_rfl)]; exact laidMet_laidAll _ (by kernel_rfl) (by kernel_rfl))) ?_
 intro W base args ds gs before hval0 hW hc hsz0 _ _
 have hsz : (DataW.weightsEach Tryz.prog (Tryz.f8.params.toList ++ Rows.fnBuiltDataSpec.plain.varTypes Tryz.prog) (ds ++ gs)).all (· <= reachBytes) = true := hsz0
 have hval : ∀ (j : Nat) t v, Tryz.f8.params[j]? = some t -> args[j]? = some v -> Value.okWide Tryz.prog W .any base t v := hval0
 have hW' := hW
 obtain ⟨p, q, hA0, hV, rfl, _, _⟩ := hW
 have hA : DataW.TrodAll enc Tryz.prog W 0 (fun _ => true) true Tryz.f8.params.toList args.toList ds p := hA0
 rw [Tryz.params8] at hA hval hsz
 obtain ⟨v0, v1, v2, d0, d1, d2, p0, p1, p2, rfl, rfl, rfl, h0, h1, h2⟩ := trodAll_three hA
 obtain ⟨rfl, rfl⟩ := trodVars_none hV
 obtain ⟨a1, rfl, rfl, rfl, y1⟩ := open_string Tryz.underlying9 (hval 1 9 v1 rfl rfl) h1
 have w1 : a1.size <= 140737488351232 := by
  have z := sized_string hsz (j := 1) (t := 9) rfl rfl
  rw [Array.length_toList] at z
  exact z
 have w2 : ∀ n ∈ d2.weights Tryz.prog 22, n <= reachBytes := fun n hn => by
  have := List.all_eq_true.1 hsz n (DataW.weights_mem_each (j := 2) (t := 22) rfl rfl n hn)
  simpa using this
 obtain ⟨l2, q2, c2⟩ := open_list h2 (hval 2 22 v2 rfl rfl) w2
 have hlt2 : ∀ x ∈ p2, x.block < W.heap.size := fun x hx => hW'.lt x (by simp [hx])
 have w0 : ∀ n ∈ d0.weights Tryz.prog 25, n <= reachBytes := fun n hn => by
  have := List.all_eq_true.1 hsz n (DataW.weights_mem_each (j := 0) (t := 25) rfl rfl n hn)
  simpa using this
 obtain ⟨vl, vd, vf, vc, site, rfl, hs, cl, cd, cc⟩ := open_site h0 (hval 0 25 v0 rfl rfl) w0
 have hlt : ∀ x ∈ p0, x.block < W.heap.size := fun x hx => hW'.lt x (by simp [hx])
 obtain ⟨l1, rfl⟩ := B_surj a1
 rw [B_size] at w1
 refine (w_FnBuiltData site l1 l2 vl vd vf vc v2 W hs cl cd cc w1 q2 c2).mono fun e W' ⟨he, bel⟩ => ?_
 subst he
 refine ⟨_, rfl, _, _, _, [], _, [], hW', trodAll_mk1 (shut_bool Tryz.underlying4 _), trodAll_mk3 (Below.trod laidOut siteReads siteRow h0 bel hlt) (shut_string Tryz.underlying9 y1) (Below.trod laidOut listReads listRow h2 bel hlt2), rfl, bel.frame _, fun h => by cases h⟩

theorem over1 : Rows.FnBuiltDataSaid :=
 OpenClaim.holds_of_wide 8 Tryz.f8 rfl rfl rfl rfl rfl rfl rfl ⟨rfl, rfl, rfl, rfl, rfl⟩ rfl rfl rfl rfl rfl (by kernel_rfl) Tryz.func8 (by kernel_rfl)
  (of_decide_eq_true (by kernel_rfl)) (by unfold Func.isWrapper; first | (rw [if_pos (by decide +kernel)]; kernel_rfl) | (rw [if_neg (by decide +kernel)]; exact ⟨rfl, rfl⟩))
  (fun os started H enc _ => lifted1 os started H enc)

theorem fnBuiltData_holds : Rows.FnBuiltDataCardSaid :=
 Claim7.holds_tied_plain_at .later [] [.data, .pinned, .pinned] true Rows.fnBuiltDataCard.stood.harness false over1 (fun _ h => by cases h) (by kernel_rfl) (fun _ h => by cases h) fnBuiltData_row_tie rfl ⟨rfl, rfl⟩ (by kernel_rfl) rfl
  (fun f fn hf hfn => by
   obtain rfl : f = 8 := Option.some.inj ((show Tryz.prog.funcNamed Rows.fnBuiltDataRow.func = some 8 by kernel_rfl).symm.trans hf) |>.symm
   obtain rfl : fn = Tryz.f8 := (Option.some.inj (Tryz.func8.symm.trans hfn)).symm
   exact ⟨by kernel_rfl, fun j t ht => by
    rw [Tryz.params8] at ht
    have hm : t ∈ [25, 9, 22] := by simpa using Array.mem_of_getElem? ht
    have hall : ([25, 9, 22].all fun u => !Tryz.prog.wantsStandIn u) = true := by kernel_rfl
    exact (show Tryz.prog.wantsStandIn t = false by simpa using List.all_eq_true.1 hall t (by simp at hm |-; exact hm))⟩)
  (by kernel_rfl)
#print axioms fnBuiltData_holds
end Go.Proofs.YtjkecadfakjanaaGreatDoor
