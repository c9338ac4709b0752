/- The walk of the law FnBaseRelBuilt: the base of a page in a bundle's folder, from the bundle on, is what stands behind the folder. Conditions: a site in memory, lists in memory, texts that fit into the platform's addresses. -/
import Derived.Test.YtjkecadfakjanaaGreatDoorKnown
import Derived.OrdersHeld
import Derived.Test.YtjkecadfakjanaaGreatDoorRelN
import Derived.Test.YtjkecadfakjanaaGreatDoorEqM
import Derived.Test.YtjkecadfakjanaaGreatDoorOpen
import Derived.Test.YtjkecadfakjanaaGreatDoorRows
import Derived.Test.YtjkecadfakjanaaGreatDoorCards
import Derived.Test.YtjkecadfakjanaaGreatDoorTie
import Derived.ProofKit
import Derived.OpenShut
import Derived.ShutString
import Derived.ChangeOld
import Derived.SizedLaws
import Derived.LaidMore
import Derived.Lay
import Derived.SevenTiedAt
import Derived.Stop.Joined
import Derived.Carry
set_option maxRecDepth 100000
set_option linter.unusedVariables false
set_option linter.unusedSimpArgs false
namespace Go.Proofs.YtjkecadfakjanaaGreatDoor
open Go.RowKit
attribute [local go_sem] B_extract B_toList B_append

theorem plains_words {l : List Str} (h : plainsL l = true) : ∀ d ∈ l, PlainW d := fun d hd => by
 unfold plainsL at h
 rw [Bool.and_eq_true, List.all_eq_true] at h
 exact plain_word (h.1 d hd)
theorem folder_few {l : List Str} (h : fewL l = true) : (folderL l).length <= 2000 := by rw [folder_size]; simpa [fewL] using h
theorem among_mem {l : List Str} {x : Str} (h : amongL l x = true) : x ∈ l := by
 unfold amongL at h
 rw [List.any_eq_true] at h
 obtain ⟨y, hy, e⟩ := h
 rw [<- eq_of_beq e]; exact hy
theorem fits_mem {l : List Str} (h : fits2 l = true) {x : Str} (hx : x ∈ l) : x.length <= 2147483647 := by
 obtain ⟨k, hk, rfl⟩ := List.getElem_of_mem hx
 exact (fits2_get h).2 k hk
theorem trim_rel (D W : Str) (h : List.isSuffixOf [47] D = false) : trimPreG (D ++ 47 :: W) (relBase D) = W := by
 have e : relBase D = D ++ [47] := by unfold relBase; rw [h]; rfl
 rw [e]
 unfold trimPreG
 rw [if_pos (by rw [List.isPrefixOf_iff_prefix]; exact ⟨W, by simp⟩)]
 rw [show D ++ 47 :: W = (D ++ [47]) ++ W by simp, List.drop_left]

set_option maxHeartbeats 8000000 in
theorem w_FnBaseRelBuilt (site : SiteM) (dirs : List Str) (more : List Str) (name : Str) (ext : Int) (vl vd vf vc vdirs vmore : Value) (w : World) (hv : SiteAt w vl vd vf vc site) (hcl : CapOK vl) (hcd : CapOK vd) (hcc : CapOK vc) (hdirs0 : StrsAt w vdirs dirs) (hcdirs0 : CapOK vdirs) (hmore0 : StrsAt w vmore more) (hcmore0 : CapOK vmore) (hname0 : name.length <= 140737488351232) (hext0 : -9223372036854775808 <= ext /\ ext <= 9223372036854775807) :
  Calls Tryz.prog 6 #[.agg #[vl, vd, vf, vc], vdirs, vmore, .string (B name), .int .i64 ext] w fun e w' => e = .returned (.bool true) /\ Below w.heap.size w w' := by
 obtain ⟨E, hE⟩ : ∃ E, E = pickL site.content ext := ⟨_, rfl⟩
 have hEf : E ≠ [] -> amongL site.content E = true /\ plainL E = true := by rw [hE]; exact pick_ne
 obtain ⟨hd0, da, dcap, hvd, hdc⟩ := hdirs0
 subst hvd
 have hdirs0 : StrsAt w (.slice da dirs.length dcap) dirs := ⟨hd0, da, dcap, rfl, hdc⟩
 clear hdc
 have HZ : Hid (∀ wx, SiteAt wx vl vd vf vc site -> Calls Tryz.prog 12 #[.agg #[vl, vd, vf, vc]] wx fun e w' => e = .returned (.bool (siteFits site)) /\ Below wx.heap.size wx w') := fun wx h => c_zzFits1 site vl vd vf vc wx h
 have HZdirs : Hid (∀ wx, StrsAt wx (.slice da dirs.length dcap) dirs -> Calls Tryz.prog 19 #[(.slice da dirs.length dcap)] wx fun e w' => e = .returned (.bool (fits2 dirs)) /\ wx = w') := fun wx h => c_zzFits2 dirs (.slice da dirs.length dcap) wx h
 have HPSdirs : Hid (fits2 dirs = true -> ∀ wx, StrsAt wx (.slice da dirs.length dcap) dirs -> Calls Tryz.prog 20 #[(.slice da dirs.length dcap)] wx fun e w' => e = .returned (.bool (plainsL dirs)) /\ Below wx.heap.size wx w') := fun hf wx h => c_plains dirs (.slice da dirs.length dcap) wx h hf
 have HFOdirs : Hid (fewL dirs = true -> ∀ wx, StrsAt wx (.slice da dirs.length dcap) dirs -> Calls Tryz.prog 23 #[(.slice da dirs.length dcap)] wx fun e w' => e = .returned (.string (B (folderL dirs))) /\ wx = w') := fun hf wx h => c_folder dirs (.slice da dirs.length dcap) wx h hf
 have HZmore : Hid (∀ wx, StrsAt wx vmore more -> Calls Tryz.prog 19 #[vmore] wx fun e w' => e = .returned (.bool (fits2 more)) /\ wx = w') := fun wx h => c_zzFits2 more vmore wx h
 have HPSmore : Hid (fits2 more = true -> ∀ wx, StrsAt wx vmore more -> Calls Tryz.prog 20 #[vmore] wx fun e w' => e = .returned (.bool (plainsL more)) /\ Below wx.heap.size wx w') := fun hf wx h => c_plains more vmore wx h hf
 have HFOmore : Hid (fewL more = true -> ∀ wx, StrsAt wx vmore more -> Calls Tryz.prog 23 #[vmore] wx fun e w' => e = .returned (.string (B (folderL more))) /\ wx = w') := fun hf wx h => c_folder more vmore wx h hf
 have HPname : Hid (name.length <= 2147483647 -> ∀ wx, Calls Tryz.prog 21 #[.string (B name)] wx fun e w' => e = .returned (.bool (plainL name)) /\ Below wx.heap.size wx w') := fun hl wx => c_plainW name wx (by omega)
 have HCT : Hid (siteFits site = true -> ∀ wx, SiteAt wx vl vd vf vc site -> Calls Tryz.prog 26 #[.agg #[vl, vd, vf, vc], .int .i64 ext] wx fun e w' => e = .returned (.string (B E)) /\ Below wx.heap.size wx w') := fun hsf wx h => by
  rw [hE]
  exact c_content site ext vl vd vf vc wx h (by unfold siteFits at hsf; simp only [Bool.and_eq_true] at hsf; exact hsf.2)
 have HEL : Hid (amongL site.content E = true -> siteFits site = true -> E.length <= 2147483647) := fun h hsf => by
  have hsc : fits2 site.content = true := by unfold siteFits at hsf; simp only [Bool.and_eq_true] at hsf; exact hsf.2
  exact fits_mem hsc (among_mem h)
 have HKN : Hid ((fewL dirs = true) -> (fewL more = true) -> (name.length <= 2147483647) -> (E.length <= 2147483647) -> siteFits site = true -> ∀ wx, SiteAt wx vl vd vf vc site -> Calls Tryz.prog 24 #[.agg #[vl, vd, vf, vc], .string (B kContent), .string (B (folderL dirs ++ (folderL more ++ 47 :: (name ++ 46 :: E))))] wx
    fun e w' => ∃ v T, e = .returned (.tuple #[v, .bool (knownL site kContent (folderL dirs ++ (folderL more ++ 47 :: (name ++ 46 :: E))))]) /\ ToldAtN wx.heap.size w' v T /\ Below wx.heap.size wx w' /\ (knownL site kContent (folderL dirs ++ (folderL more ++ 47 :: (name ++ 46 :: E))) = true -> T = toldM (doParseM site kContent (normL (folderL dirs ++ (folderL more ++ 47 :: (name ++ 46 :: E))))))) := fun hf hm hn he hsf wx h => c_knownW site kContent (folderL dirs ++ (folderL more ++ 47 :: (name ++ 46 :: E))) vl vd vf vc wx h hcl hcd hcc hsf (by decide) (by have := folder_few hf; have := folder_few hm; simp only [List.length_append, List.length_cons, List.length_nil]; omega)
 have HBK : Hid (siteFits site = true -> (folderL dirs ++ (folderL more ++ 47 :: (name ++ 46 :: E))).length <= 2147483647 -> (folderL dirs ++ 47 :: 95 :: 105 :: 110 :: 100 :: 101 :: 120 :: 46 :: E).length <= 2147483647 -> ((specParse site kContent (folderL dirs ++ 47 :: 95 :: 105 :: 110 :: 100 :: 101 :: 120 :: 46 :: E)).base == [47]) = false -> (specParse site kContent (folderL dirs ++ 47 :: 95 :: 105 :: 110 :: 100 :: 101 :: 120 :: 46 :: E)).base.length + 1 <= (specParse site kContent (folderL dirs ++ (folderL more ++ 47 :: (name ++ 46 :: E)))).base.length -> (specParse site kContent (folderL dirs ++ (folderL more ++ 47 :: (name ++ 46 :: E)))).base.length <= 2147483647 -> ∀ wx, SiteAt wx vl vd vf vc site -> Calls Tryz.prog 28 #[.agg #[vl, vd, vf, vc], .string (B kContent), .string (B (folderL dirs ++ (folderL more ++ 47 :: (name ++ 46 :: E)))), .string (B (folderL dirs ++ 47 :: 95 :: 105 :: 110 :: 100 :: 101 :: 120 :: 46 :: E))] wx fun e w' => e = .returned (.bool (pathKnown site kContent (folderL dirs ++ (folderL more ++ 47 :: (name ++ 46 :: E))) && pathKnown site kContent (folderL dirs ++ 47 :: 95 :: 105 :: 110 :: 100 :: 101 :: 120 :: 46 :: E))) /\ Below wx.heap.size wx w') := fun hsf h1 h2 h3 h4 h5 wx h => c_BaseRelKnown site kContent (folderL dirs ++ (folderL more ++ 47 :: (name ++ 46 :: E))) (folderL dirs ++ 47 :: 95 :: 105 :: 110 :: 100 :: 101 :: 120 :: 46 :: E) vl vd vf vc wx h hcl hcd hcc hsf (by decide) h1 h2 h3 h4 h5
 have HBR : Hid (pathKnown site kContent (folderL dirs ++ (folderL more ++ 47 :: (name ++ 46 :: E))) = true -> pathKnown site kContent (folderL dirs ++ 47 :: 95 :: 105 :: 110 :: 100 :: 101 :: 120 :: 46 :: E) = true -> ((specParse site kContent (folderL dirs ++ 47 :: 95 :: 105 :: 110 :: 100 :: 101 :: 120 :: 46 :: E)).base == [47]) = false -> (specParse site kContent (folderL dirs ++ 47 :: 95 :: 105 :: 110 :: 100 :: 101 :: 120 :: 46 :: E)).base.length + 1 <= (specParse site kContent (folderL dirs ++ (folderL more ++ 47 :: (name ++ 46 :: E)))).base.length -> ∀ wx, SiteAt wx vl vd vf vc site -> Calls Tryz.prog 29 #[.agg #[vl, vd, vf, vc], .string (B kContent), .string (B (folderL dirs ++ (folderL more ++ 47 :: (name ++ 46 :: E)))), .string (B (folderL dirs ++ 47 :: 95 :: 105 :: 110 :: 100 :: 101 :: 120 :: 46 :: E))] wx fun e w' => e = .returned (.string (B ((specParse site kContent (folderL dirs ++ (folderL more ++ 47 :: (name ++ 46 :: E)))).base.drop ((specParse site kContent (folderL dirs ++ 47 :: 95 :: 105 :: 110 :: 100 :: 101 :: 120 :: 46 :: E)).base.length + 1)))) /\ Below wx.heap.size wx w') := fun hk hk' q1 q2 wx h => by
  rw [<- parse_eq hk, <- parse_eq hk'] at *
  obtain ⟨h1, h2, h3, h4, h5⟩ := pathKnown_site hk
  obtain ⟨i1, i2, i3, i4, i5⟩ := pathKnown_site hk'
  exact c_implBaseRel wx site kContent (folderL dirs ++ (folderL more ++ 47 :: (name ++ 46 :: E))) (folderL dirs ++ 47 :: 95 :: 105 :: 110 :: 100 :: 101 :: 120 :: 46 :: E) vl vd vf vc h (siteKnown_once h1) (by omega) h3 (by omega) i3 q1 q2
 have HPR : Hid (pathKnown site kContent (folderL dirs ++ (folderL more ++ 47 :: (name ++ 46 :: E))) = true -> pathKnown site kContent (folderL dirs ++ 47 :: 95 :: 105 :: 110 :: 100 :: 101 :: 120 :: 46 :: E) = true -> ∀ wx, SiteAt wx vl vd vf vc site -> Calls Tryz.prog 30 #[.agg #[vl, vd, vf, vc], .string (B kContent), .string (B (folderL dirs ++ (folderL more ++ 47 :: (name ++ 46 :: E)))), .string (B (folderL dirs ++ 47 :: 95 :: 105 :: 110 :: 100 :: 101 :: 120 :: 46 :: E))] wx fun e w' => e = .returned (.string (B (trimPreG (specParse site kContent (folderL dirs ++ (folderL more ++ 47 :: (name ++ 46 :: E)))).path (relBase (specParse site kContent (folderL dirs ++ 47 :: 95 :: 105 :: 110 :: 100 :: 101 :: 120 :: 46 :: E)).base)))) /\ Below wx.heap.size wx w') := fun hk hk' wx h => by
  rw [<- parse_eq hk, <- parse_eq hk']
  obtain ⟨h1, h2, h3, h4, h5⟩ := pathKnown_site hk
  obtain ⟨i1, i2, i3, i4, i5⟩ := pathKnown_site hk'
  exact c_implPathRel wx site kContent (folderL dirs ++ (folderL more ++ 47 :: (name ++ 46 :: E))) (folderL dirs ++ 47 :: 95 :: 105 :: 110 :: 100 :: 101 :: 120 :: 46 :: E) vl vd vf vc h (siteKnown_once h1) (by omega) h3 (by omega) i3
 replace hE := Lib.hid hE
 obtain ⟨obs, hobs⟩ : ∃ o : Obj, o = .cells #[vl, vd, vf, vc] 25 := ⟨_, rfl⟩
 have hB1 : Hid (Below w.heap.size w (w.alloc obs)) := Below_alloc w obs
 have hsb1 : Hid ((w.alloc obs).heap[w.heap.size]? = some (.cells #[vl, vd, vf, vc] 25)) := by show _ = _; rw [hobs]; exact blk_new w _
 have HV1 : Hid (SiteAt (w.alloc obs) vl vd vf vc site) := hv.alloc obs
 have qdirs1 : Hid (StrsAt (w.alloc obs) (.slice da dirs.length dcap) dirs) := hdirs0.below (Below_alloc w obs)
 have qmore1 : Hid (StrsAt (w.alloc obs) vmore more) := hmore0.below (Below_alloc w obs)
 clear hv hcl hcd hcc hdirs0 hcdirs0 hmore0 hcmore0
 go_enter Tryz.func6, Tryz.ntmps6
 go_wp2_with fail
 rw [<- hobs]
 generalize w.alloc obs = w1 at hB1 hsb1 HV1 qdirs1 qmore1 |-
 refine (HZ.out _ HV1.out).mono ?_; rintro e w2 ⟨rfl, b⟩
 have hsb2 := Lib.hid (blk_below hsb1.out b)
 have HV2 := Lib.hid (HV1.out.below b)
 have qdirs2 := Lib.hid (qdirs1.out.below b)
 have qmore2 := Lib.hid (qmore1.out.below b)
 have hB2 := Lib.hid (belowThen hB1.out b (Nat.le_refl _))
 clear b hB1 hsb1 HV1 qdirs1 qmore1
 cases hz : siteFits site with
 | false =>
  go_wp2_with fail
  go_ret
  exact ⟨rfl, hB2.out⟩
 | true =>
 go_wp2_with fail
 refine (HZdirs.out _ qdirs2.out).mono ?_; rintro e w' ⟨rfl, rfl⟩
 cases hzdirs : fits2 dirs with
 | false =>
  go_wp2_with fail
  go_ret
  exact ⟨rfl, hB2.out⟩
 | true =>
 go_wp2_with fail
 refine (HZmore.out _ qmore2.out).mono ?_; rintro e w' ⟨rfl, rfl⟩
 cases hzmore : fits2 more with
 | false =>
  go_wp2_with fail
  go_ret
  exact ⟨rfl, hB2.out⟩
 | true =>
 by_cases hlname : name.length <= 2147483647
 rotate_left 1
 ·skip
  go_wp2_with fail
  go_ret
  exact ⟨rfl, hB2.out⟩
 clear HZ HZdirs HZmore
 obtain ⟨z0, z1, z2, z3⟩ : w2.cell? ⟨w.heap.size, 0, none⟩ = some vl /\ w2.cell? ⟨w.heap.size, 1, none⟩ = some vd /\ w2.cell? ⟨w.heap.size, 2, none⟩ = some vf /\ w2.cell? ⟨w.heap.size, 3, none⟩ = some vc := ⟨cell_blk hsb2.out 0, cell_blk hsb2.out 1, cell_blk hsb2.out 2, cell_blk hsb2.out 3⟩
 go_wp2_with fail
 refine (HCT.out hz _ HV2.out).mono ?_; rintro e w3 ⟨rfl, b⟩
 have hsb3 := Lib.hid (blk_below hsb2.out b)
 have HV3 := Lib.hid (HV2.out.below b)
 have qdirs3 := Lib.hid (qdirs2.out.below b)
 have qmore3 := Lib.hid (qmore2.out.below b)
 have hB3 := Lib.hid (belowThen hB2.out b (Nat.le_refl _))
 clear b hB2 hsb2 HV2 qdirs2 qmore2 z0 z1 z2 z3
 clear HCT
 go_wp2_with fail
 refine (HPSdirs.out hzdirs _ qdirs3.out).mono ?_; rintro e w4 ⟨rfl, b⟩
 have hsb4 := Lib.hid (blk_below hsb3.out b)
 have HV4 := Lib.hid (HV3.out.below b)
 have qdirs4 := Lib.hid (qdirs3.out.below b)
 have qmore4 := Lib.hid (qmore3.out.below b)
 have hB4 := Lib.hid (belowThen hB3.out b (Nat.le_refl _))
 clear b hB3 hsb3 HV3 qdirs3 qmore3
 cases hpdirs : plainsL dirs with
 | false =>
  go_wp2_with fail
  go_ret
  exact ⟨rfl, hB4.out⟩
 | true =>
 clear HPSdirs
 have hfdirs : fewL dirs = true := by unfold plainsL at hpdirs; rw [Bool.and_eq_true] at hpdirs; exact hpdirs.2
 go_wp2_with fail
 refine (HPSmore.out hzmore _ qmore4.out).mono ?_; rintro e w5 ⟨rfl, b⟩
 have hsb5 := Lib.hid (blk_below hsb4.out b)
 have HV5 := Lib.hid (HV4.out.below b)
 have qdirs5 := Lib.hid (qdirs4.out.below b)
 have qmore5 := Lib.hid (qmore4.out.below b)
 have hB5 := Lib.hid (belowThen hB4.out b (Nat.le_refl _))
 clear b hB4 hsb4 HV4 qdirs4 qmore4
 cases hpmore : plainsL more with
 | false =>
  go_wp2_with fail
  go_ret
  exact ⟨rfl, hB5.out⟩
 | true =>
 clear HPSmore
 have hfmore : fewL more = true := by unfold plainsL at hpmore; rw [Bool.and_eq_true] at hpmore; exact hpmore.2
 go_wp2_with fail
 refine (HPname.out hlname _).mono ?_; rintro e w6 ⟨rfl, b⟩
 have hsb6 := Lib.hid (blk_below hsb5.out b)
 have HV6 := Lib.hid (HV5.out.below b)
 have qdirs6 := Lib.hid (qdirs5.out.below b)
 have qmore6 := Lib.hid (qmore5.out.below b)
 have hB6 := Lib.hid (belowThen hB5.out b (Nat.le_refl _))
 clear b hB5 hsb5 HV5 qdirs5 qmore5
 cases hpname : plainL name with
 | false =>
  go_wp2_with fail
  go_ret
  exact ⟨rfl, hB6.out⟩
 | true =>
 clear HPname
 cases hem : E.isEmpty with
 | true =>
  go_wp2_with fail
  go_ret
  exact ⟨rfl, hB6.out⟩
 | false =>
 obtain ⟨hEm, hEp⟩ := hEf (List.isEmpty_eq_false_iff.1 hem)
 have hlE := HEL.out hEm hz
 clear hEf HEL
 by_cases hdn : dirs = []
 ·have hn0 : decide ((dirs.length : Int) = 0) = true := by rw [hdn]; rfl
  go_wp2_with fail
  go_ret
  exact ⟨rfl, hB6.out⟩
 have hlpos : 0 < dirs.length := List.length_pos_iff.2 hdn
 have hn0 : decide ((dirs.length : Int) = 0) = false := by rw [decide_eq_false_iff_not]; omega
 have hfl := folder_few hfdirs
 have hfm := folder_few hfmore
 replace hdn := Lib.hid hdn
 go_wp2_with fail
 refine (HFOdirs.out hfdirs _ qdirs6.out).mono ?_; rintro e w' ⟨rfl, rfl⟩
 clear hn0
 go_wp2_with fail
 refine (HFOdirs.out hfdirs _ qdirs6.out).mono ?_; rintro e w' ⟨rfl, rfl⟩
 go_wp2_with fail
 refine (HFOmore.out hfmore _ qmore6.out).mono ?_; rintro e w' ⟨rfl, rfl⟩
 have HKN2 := Lib.hid (HKN.out hfdirs hfmore hlname hlE hz)
 clear HKN
 obtain ⟨z0, z1, z2, z3⟩ : w6.cell? ⟨w.heap.size, 0, none⟩ = some vl /\ w6.cell? ⟨w.heap.size, 1, none⟩ = some vd /\ w6.cell? ⟨w.heap.size, 2, none⟩ = some vf /\ w6.cell? ⟨w.heap.size, 3, none⟩ = some vc := ⟨cell_blk hsb6.out 0, cell_blk hsb6.out 1, cell_blk hsb6.out 2, cell_blk hsb6.out 3⟩
 go_wp2_with fail
 refine (HKN2.out _ HV6.out).mono ?_; rintro e w7 ⟨v, T, rfl, ⟨ql, qi, qu, rfl, ⟨s1, n1⟩, ⟨s2, n2⟩, ⟨s3, n3⟩⟩, b, hT⟩
 obtain ⟨a1, l1, c1, rfl⟩ := s1.slice
 obtain ⟨a2, l2, c2, rfl⟩ := s2.slice
 obtain ⟨a3, l3, c3, rfl⟩ := s3.slice
 obtain ⟨cs, hcs, hsz, hone⟩ := told_cells T a1 a2 a3 l1 l2 l3 c1 c2 c3
 rw [hcs]
 replace s2 := Lib.hid s2
 replace s3 := Lib.hid s3
 replace hcs := Lib.hid hcs
 replace hT := Lib.hid hT
 clear n1 n2 n3 s1 HKN2
 have hsb7 := Lib.hid (blk_below hsb6.out b)
 have HV7 := Lib.hid (HV6.out.below b)
 have qdirs7 := Lib.hid (qdirs6.out.below b)
 have qmore7 := Lib.hid (qmore6.out.below b)
 have hB7 := Lib.hid (belowThen hB6.out b (Nat.le_refl _))
 clear b hB6 hsb6 HV6 qdirs6 qmore6 z0 z1 z2 z3
 go_wp2_with (refine wpList_store_row rfl 29 (.tmp 14) (.tmp 80) rfl w7.heap.size cs rfl rfl 29 _ (blk_new w7 _) (by rw [hsz]; kernel_rfl) (by rw [hsz]; rfl) hone (Hid.out ?_))
 have hrow8 := Lib.hid (setRow_heap (w7.alloc (.cells #[.string (B []), .string (B []), .string (B []), .string (B []), .string (B []), .string (B []), .string (B []), .string (B []), .string (B []), .string (B []), .string (B []), .string (B []), .string (B []), .string (B []), .string (B []), .string (B []), .string (B []), .string (B []), .string (B []), .string (B []), .string (B []), .slice none 0 0, .slice none 0 0, .slice none 0 0, .bool false, .bool false, .bool false, .bool false, .bool false, .bool false, .int .i64 0] 29)) w7.heap.size _ cs _ _ (blk_new w7 _))
 have b : Below w7.heap.size w7 ((w7.alloc (.cells #[.string (B []), .string (B []), .string (B []), .string (B []), .string (B []), .string (B []), .string (B []), .string (B []), .string (B []), .string (B []), .string (B []), .string (B []), .string (B []), .string (B []), .string (B []), .string (B []), .string (B []), .string (B []), .string (B []), .string (B []), .string (B []), .slice none 0 0, .slice none 0 0, .slice none 0 0, .bool false, .bool false, .bool false, .bool false, .bool false, .bool false, .int .i64 0] 29)).setRow w7.heap.size cs) := (Below_alloc w7 _).trans ⟨rfl, rfl, rfl, by simp, fun k hk => setRow_other _ _ _ _ (by omega)⟩
 have t28 := Lib.hid (s2.out.below b)
 have t38 := Lib.hid (s3.out.below b)
 clear s2 s3
 have hsb8 := Lib.hid (blk_below hsb7.out b)
 have HV8 := Lib.hid (HV7.out.below b)
 have qdirs8 := Lib.hid (qdirs7.out.below b)
 have qmore8 := Lib.hid (qmore7.out.below b)
 have hB8 := Lib.hid (belowThen hB7.out b (Nat.le_refl _))
 clear b hB7 hsb7 HV7 qdirs7 qmore7
 generalize (w7.alloc _).setRow _ _ = w8 at hB8 hsb8 HV8 qdirs8 qmore8 hrow8 t28 t38 |-
 generalize w7.heap.size = gT at hrow8 |-
 refine Lib.hid ?_
 cases hk : knownL site kContent (folderL dirs ++ (folderL more ++ 47 :: (name ++ 46 :: E))) with
 | false =>
  go_wp2_with fail
  go_ret
  exact ⟨rfl, hB8.out⟩
 | true =>
 have hT2 := hT.out hk
 have hpk : pathKnown site kContent (folderL dirs ++ (folderL more ++ 47 :: (name ++ 46 :: E))) = true := by unfold knownL at hk; rw [Bool.and_eq_true] at hk; exact hk.2
 have hT0 := hT2
 rw [parse_eq hpk] at hT2
 have hcs2 : Hid (cs = #[.string (B T.component), .string (B T.container), .string (B T.containerDir), .string (B T.section_), .string (B T.name), .string (B T.nameNoExt), .string (B T.baseName), .string (B T.nameNoId), .string (B T.dir), .string (B T.path), .string (B T.pathNoLang), .string (B T.pathNoId), .string (B T.pathBefore), .string (B T.base), .string (B T.idBase), .string (B T.ext), .string (B T.format), .string (B T.kind), .string (B T.layout), .string (B T.lang), .string (B T.custom), .slice a1 l1 c1, .slice a2 l2 c2, .slice a3 l3 c3, .bool T.disabled, .bool T.isContent, .bool T.isBundle, .bool T.isBranch, .bool T.isLeaf, .bool T.isData, .int .i64 T.typ]) := (Value.agg.inj hcs.out).symm
 clear hT
 obtain ⟨hO1, hO2, hO3, hO4⟩ := owner_base (site := site) (plains_words hpdirs) (plain_word hEp) hEm hdn.out
 replace hO1 : (specParse site kContent (folderL dirs ++ 47 :: 95 :: 105 :: 110 :: 100 :: 101 :: 120 :: 46 :: E)).base = folderL dirs := hO1
 have hPT := built_page_one (site := site) (dirs := dirs ++ more) (n := name) (e := E) (fun d hd => (List.mem_append.1 hd).elim (plains_words hpdirs d) (plains_words hpmore d)) (plain_word hpname) (plain_word hEp) hEm
 rw [folder_append, List.append_assoc] at hPT
 have hP1 : (specParse site kContent (folderL dirs ++ (folderL more ++ 47 :: (name ++ 46 :: E)))).base = folderL dirs ++ (folderL more ++ 47 :: name) := hPT.base.trans (by rw [folder_append, List.append_assoc])
 have hP2 : (specParse site kContent (folderL dirs ++ (folderL more ++ 47 :: (name ++ 46 :: E)))).path = folderL dirs ++ (folderL more ++ 47 :: (name ++ 46 :: E)) := by rw [hPT.path, folder_append, List.append_assoc]
 obtain ⟨W, hW⟩ : ∃ W, folderL more ++ 47 :: name = 47 :: W := by
  have h := folder_head more name
  cases hh : folderL more ++ 47 :: name with
  | nil => rw [hh] at h; cases h
  | cons c t => rw [hh] at h; cases h; exact ⟨t, rfl⟩
 have hW2 : folderL more ++ 47 :: (name ++ 46 :: E) = 47 :: (W ++ 46 :: E) := by
  rw [show folderL more ++ 47 :: (name ++ 46 :: E) = (folderL more ++ 47 :: name) ++ 46 :: E by simp, hW]; rfl
 obtain ⟨k1, k2, k3, k4, k5⟩ := pathKnown_site hpk
 have hlP : (folderL dirs ++ (folderL more ++ 47 :: (name ++ 46 :: E))).length <= 2147483647 := by omega
 have hlP2 := k5
 simp only [List.length_append, List.length_cons] at hlP2
 have q1 : ((specParse site kContent (folderL dirs ++ 47 :: 95 :: 105 :: 110 :: 100 :: 101 :: 120 :: 46 :: E)).base == [47]) = false := by rw [hO1, beq_eq_false_iff_ne]; exact hO2
 have q2 : (specParse site kContent (folderL dirs ++ 47 :: 95 :: 105 :: 110 :: 100 :: 101 :: 120 :: 46 :: E)).base.length + 1 <= (specParse site kContent (folderL dirs ++ (folderL more ++ 47 :: (name ++ 46 :: E)))).base.length := by rw [hO1, hP1]; simp only [List.length_append, List.length_cons]; omega
 have HBK2 := Lib.hid (HBK.out hz hlP (by simp only [List.length_append, List.length_cons]; omega) q1 q2 (by rw [hP1]; simp only [List.length_append, List.length_cons]; omega))
 clear hPT hT0 hT2 hcs2 k1 k2 k3 k4 k5 hlP HBK
 replace hO1 := Lib.hid hO1
 replace hO2 := Lib.hid hO2
 replace hO3 := Lib.hid hO3
 replace hO4 := Lib.hid hO4
 replace hP1 := Lib.hid hP1
 replace hP2 := Lib.hid hP2
 replace hW := Lib.hid hW
 replace hW2 := Lib.hid hW2
 replace q1 := Lib.hid q1
 replace q2 := Lib.hid q2
 replace hpk := Lib.hid hpk
 replace hlP2 := Lib.hid hlP2
 obtain ⟨z0, z1, z2, z3⟩ : w8.cell? ⟨w.heap.size, 0, none⟩ = some vl /\ w8.cell? ⟨w.heap.size, 1, none⟩ = some vd /\ w8.cell? ⟨w.heap.size, 2, none⟩ = some vf /\ w8.cell? ⟨w.heap.size, 3, none⟩ = some vc := ⟨cell_blk hsb8.out 0, cell_blk hsb8.out 1, cell_blk hsb8.out 2, cell_blk hsb8.out 3⟩
 go_wp2_with fail
 refine (HBK2.out _ HV8.out).mono ?_; rintro e w9 ⟨rfl, b⟩
 have hsb9 := Lib.hid (blk_below hsb8.out b)
 have HV9 := Lib.hid (HV8.out.below b)
 have qdirs9 := Lib.hid (qdirs8.out.below b)
 have qmore9 := Lib.hid (qmore8.out.below b)
 have hrow9 := Lib.hid (blk_below hrow8.out b)
 have t29 := Lib.hid (t28.out.below b)
 have t39 := Lib.hid (t38.out.below b)
 have hB9 := Lib.hid (belowThen hB8.out b (Nat.le_refl _))
 clear b hB8 hsb8 HV8 qdirs8 qmore8 hrow8 t28 t38 z0 z1 z2 z3
 cases hbk : (pathKnown site kContent (folderL dirs ++ (folderL more ++ 47 :: (name ++ 46 :: E))) && pathKnown site kContent (folderL dirs ++ 47 :: 95 :: 105 :: 110 :: 100 :: 101 :: 120 :: 46 :: E)) with
 | false =>
  go_wp2_with fail
  go_ret
  exact ⟨rfl, hB9.out⟩
 | true =>
 have hpo : pathKnown site kContent (folderL dirs ++ 47 :: 95 :: 105 :: 110 :: 100 :: 101 :: 120 :: 46 :: E) = true := (Bool.and_eq_true _ _ ▸ hbk : _ /\ _).2
 have HB2 := Lib.hid (HBR.out hpk.out hpo q1.out q2.out)
 have HP2 := Lib.hid (HPR.out hpk.out hpo)
 have eB : (specParse site kContent (folderL dirs ++ (folderL more ++ 47 :: (name ++ 46 :: E)))).base.drop ((specParse site kContent (folderL dirs ++ 47 :: 95 :: 105 :: 110 :: 100 :: 101 :: 120 :: 46 :: E)).base.length + 1) = W := by
  rw [hO1.out, hP1.out, hW.out, show folderL dirs ++ 47 :: W = (folderL dirs ++ [47]) ++ W by simp, show (folderL dirs).length + 1 = (folderL dirs ++ [47]).length by simp, List.drop_left]
 have eP : trimPreG (specParse site kContent (folderL dirs ++ (folderL more ++ 47 :: (name ++ 46 :: E)))).path (relBase (specParse site kContent (folderL dirs ++ 47 :: 95 :: 105 :: 110 :: 100 :: 101 :: 120 :: 46 :: E)).base) = W ++ 46 :: E := by
  rw [hO1.out, hP2.out, hW2.out]; exact trim_rel _ _ hO4.out
 rw [eB] at HB2
 rw [eP] at HP2
 have hlW : W.length <= 2147483647 + 2100 := by
  have h := congrArg List.length hW.out
  simp only [List.length_append, List.length_cons] at h; omega
 clear HBR HPR HBK2 hO1 hO2 hO3 hO4 hP1 hP2 hW2 q1 q2 eB eP hbk hpo hpk hk hlP2
 go_wp2_with fail
 refine (HFOmore.out hfmore _ qmore9.out).mono ?_; rintro e w' ⟨rfl, rfl⟩
 go_upto_region 11 with fail
 rw [hW.out]
 have hi1 : (1 : Int) <= ((47 :: W).length : Int) := by rw [List.length_cons]; omega
 refine wp_region_held (S := fun w' => Below w9.drew.heap.size w9.drew w') (by kernel_rfl) ?_
 change wpAnyH _ _ _ _ _ _ _ _ w9.drew
 have hsbr : Hid (w9.drew.heap[w.heap.size]? = some (.cells #[vl, vd, vf, vc] 25)) := hsb9.out
 have HVr : Hid (SiteAt w9.drew vl vd vf vc site) := HV9.out.below (Below_drewN (Below.refl _ _) 1)
 have b0 : Hid (Below w.heap.size w w9.drew) := Below_drewN hB9.out 1
 generalize w9.drew = wr at hsbr HVr b0 |-
 have hd : Below wr.heap.size wr wr := Below.refl _ _
 refine wpAnyH_take (i := 0) (v := .agg #[vl, vd, vf, vc]) rfl (by kernel_rfl) (by kernel_rfl) (by kernel_rfl) (fun _ _ _ h => h) (yieldsIf_load_mid (by rfl) 25 (.tmp 5) rfl (w.heap.size) 0 rfl (#[vl, vd, vf, vc]).toList _ (fun w' hw' => range_blk (blk_below hsbr.out hw')) Tryz.underlying25 rfl (by kernel_rfl)) hd ?_
 try simp only [List.getElem_toArray, List.getElem_cons_succ, List.getElem_cons_zero, Act.put, List.setIfInBounds_toArray, List.set_cons_zero, List.set_cons_succ]
 refine wpAnyH_take (i := 1) (v := .string (B (folderL dirs ++ (folderL more ++ 47 :: (name ++ 46 :: E))))) rfl (by kernel_rfl) (by kernel_rfl) (by kernel_rfl) (fun _ _ _ h => h) (Or.inl ⟨by rfl, fun w' hw' => by
   go_simp <;> omega⟩) hd ?_
 try simp only [List.getElem_toArray, List.getElem_cons_succ, List.getElem_cons_zero, Act.put, List.setIfInBounds_toArray, List.set_cons_zero, List.set_cons_succ]
 refine wpAnyH_take (i := 2) (v := .string (B (folderL dirs ++ 47 :: 95 :: 105 :: 110 :: 100 :: 101 :: 120 :: 46 :: E))) rfl (by kernel_rfl) (by kernel_rfl) (by kernel_rfl) (fun _ _ _ h => h) (Or.inl ⟨by rfl, fun w' hw' => by
   go_simp <;> omega⟩) hd ?_
 try simp only [List.getElem_toArray, List.getElem_cons_succ, List.getElem_cons_zero, Act.put, List.setIfInBounds_toArray, List.set_cons_zero, List.set_cons_succ]
 refine wpAnyH_take (i := 4) (v := .string (B (47 :: W))) rfl (by kernel_rfl) (by kernel_rfl) (by kernel_rfl) (fun _ _ _ h => h) (Or.inl ⟨by rfl, fun w' hw' => by
   go_simp <;> omega⟩) hd ?_
 try simp only [List.getElem_toArray, List.getElem_cons_succ, List.getElem_cons_zero, Act.put, List.setIfInBounds_toArray, List.set_cons_zero, List.set_cons_succ]
 refine wpAnyH_take (i := 5) (v := .string (B W)) rfl (by kernel_rfl) (by kernel_rfl) (by kernel_rfl) (fun _ _ _ h => h) (Or.inl ⟨by rfl, fun w' hw' => by
   go_simp <;> omega⟩) hd ?_
 try simp only [List.getElem_toArray, List.getElem_cons_succ, List.getElem_cons_zero, Act.put, List.setIfInBounds_toArray, List.set_cons_zero, List.set_cons_succ]
 refine wpAnyH_all (rs := [3]) (by kernel_rfl) (by simp) ?_
 intro i hi
 obtain rfl := List.mem_singleton.1 hi
 refine wpOp_step rfl (fun K hK => ?_)
 rw [if_pos (by rfl)]
 go_simp
 refine (HB2.out _ (HVr.out.below hd)).mono ?_; rintro e y7 ⟨rfl, b7⟩
 have hd : Below wr.heap.size wr y7 := belowThen hd b7 (Nat.le_refl _)
 refine hK _ _ ⟨hd, ?_⟩
 clear hK K b7
 try simp only [List.getElem_toArray, List.getElem_cons_succ, List.getElem_cons_zero, Act.put, List.setIfInBounds_toArray, List.set_cons_zero, List.set_cons_succ]
 refine wpAnyH_take (i := 6) (v := .bool true) rfl (by kernel_rfl) (by kernel_rfl) (by kernel_rfl) (fun _ _ _ h => h) (Or.inl ⟨by rfl, fun w' hw' => by
   go_simp <;> omega⟩) hd ?_
 try simp only [List.getElem_toArray, List.getElem_cons_succ, List.getElem_cons_zero, Act.put, List.setIfInBounds_toArray, List.set_cons_zero, List.set_cons_succ]
 refine wpAnyH_take (i := 7) (v := .bool true) rfl (by kernel_rfl) (by kernel_rfl) (by kernel_rfl) (fun _ _ _ h => h) (Or.inl ⟨by rfl, fun w' hw' => by
   go_simp <;> omega⟩) hd ?_
 try simp only [List.getElem_toArray, List.getElem_cons_succ, List.getElem_cons_zero, Act.put, List.setIfInBounds_toArray, List.set_cons_zero, List.set_cons_succ]
 refine wpAnyH_take (i := 8) (v := .agg #[vl, vd, vf, vc]) rfl (by kernel_rfl) (by kernel_rfl) (by kernel_rfl) (fun _ _ _ h => h) (yieldsIf_load_mid (by rfl) 25 (.tmp 5) rfl (w.heap.size) 0 rfl (#[vl, vd, vf, vc]).toList _ (fun w' hw' => range_blk (blk_below hsbr.out hw')) Tryz.underlying25 rfl (by kernel_rfl)) hd ?_
 try simp only [List.getElem_toArray, List.getElem_cons_succ, List.getElem_cons_zero, Act.put, List.setIfInBounds_toArray, List.set_cons_zero, List.set_cons_succ]
 refine wpAnyH_take (i := 9) (v := .string (B (folderL dirs ++ (folderL more ++ 47 :: (name ++ 46 :: E))))) rfl (by kernel_rfl) (by kernel_rfl) (by kernel_rfl) (fun _ _ _ h => h) (Or.inl ⟨by rfl, fun w' hw' => by
   go_simp <;> omega⟩) hd ?_
 try simp only [List.getElem_toArray, List.getElem_cons_succ, List.getElem_cons_zero, Act.put, List.setIfInBounds_toArray, List.set_cons_zero, List.set_cons_succ]
 refine wpAnyH_take (i := 10) (v := .string (B (folderL dirs ++ 47 :: 95 :: 105 :: 110 :: 100 :: 101 :: 120 :: 46 :: E))) rfl (by kernel_rfl) (by kernel_rfl) (by kernel_rfl) (fun _ _ _ h => h) (Or.inl ⟨by rfl, fun w' hw' => by
   go_simp <;> omega⟩) hd ?_
 try simp only [List.getElem_toArray, List.getElem_cons_succ, List.getElem_cons_zero, Act.put, List.setIfInBounds_toArray, List.set_cons_zero, List.set_cons_succ]
 refine wpAnyH_take (i := 12) (v := .string (B (47 :: W))) rfl (by kernel_rfl) (by kernel_rfl) (by kernel_rfl) (fun _ _ _ h => h) (Or.inl ⟨by rfl, fun w' hw' => by
   go_simp <;> omega⟩) hd ?_
 try simp only [List.getElem_toArray, List.getElem_cons_succ, List.getElem_cons_zero, Act.put, List.setIfInBounds_toArray, List.set_cons_zero, List.set_cons_succ]
 refine wpAnyH_take (i := 13) (v := .string (B (47 :: (W ++ [46])))) rfl (by kernel_rfl) (by kernel_rfl) (by kernel_rfl) (fun _ _ _ h => h) (Or.inl ⟨by rfl, fun w' hw' => by
   go_simp <;> omega⟩) hd ?_
 try simp only [List.getElem_toArray, List.getElem_cons_succ, List.getElem_cons_zero, Act.put, List.setIfInBounds_toArray, List.set_cons_zero, List.set_cons_succ]
 refine wpAnyH_take (i := 14) (v := .string (B E)) rfl (by kernel_rfl) (by kernel_rfl) (by kernel_rfl) (fun _ _ _ h => h) (Or.inl ⟨by rfl, fun w' hw' => by
   go_simp <;> omega⟩) hd ?_
 try simp only [List.getElem_toArray, List.getElem_cons_succ, List.getElem_cons_zero, Act.put, List.setIfInBounds_toArray, List.set_cons_zero, List.set_cons_succ]
 refine wpAnyH_take (i := 15) (v := .string (B (47 :: (W ++ 46 :: E)))) rfl (by kernel_rfl) (by kernel_rfl) (by kernel_rfl) (fun _ _ _ h => h) (Or.inl ⟨by rfl, fun w' hw' => by
   go_simp <;> omega⟩) hd ?_
 try simp only [List.getElem_toArray, List.getElem_cons_succ, List.getElem_cons_zero, Act.put, List.setIfInBounds_toArray, List.set_cons_zero, List.set_cons_succ]
 refine wpAnyH_take (i := 16) (v := .string (B (W ++ 46 :: E))) rfl (by kernel_rfl) (by kernel_rfl) (by kernel_rfl) (fun _ _ _ h => h) (Or.inl ⟨by rfl, fun w' hw' => by
   go_simp
   rw [if_pos (by omega), List.take_of_length_le (by simp)]⟩) hd ?_
 try simp only [List.getElem_toArray, List.getElem_cons_succ, List.getElem_cons_zero, Act.put, List.setIfInBounds_toArray, List.set_cons_zero, List.set_cons_succ]
 refine wpAnyH_all (rs := [11]) (by kernel_rfl) (by simp) ?_
 intro i hi
 obtain rfl := List.mem_singleton.1 hi
 refine wpOp_step rfl (fun K hK => ?_)
 rw [if_pos (by rfl)]
 go_simp
 refine (HP2.out _ (HVr.out.below hd)).mono ?_; rintro e y8 ⟨rfl, b8⟩
 have hd : Below wr.heap.size wr y8 := belowThen hd b8 (Nat.le_refl _)
 refine hK _ _ ⟨hd, ?_⟩
 clear hK K b8
 try simp only [List.getElem_toArray, List.getElem_cons_succ, List.getElem_cons_zero, Act.put, List.setIfInBounds_toArray, List.set_cons_zero, List.set_cons_succ]
 refine wpAnyH_take (i := 17) (v := .bool true) rfl (by kernel_rfl) (by kernel_rfl) (by kernel_rfl) (fun _ _ _ h => h) (Or.inl ⟨by rfl, fun w' hw' => by
   go_simp <;> omega⟩) hd ?_
 try simp only [List.getElem_toArray, List.getElem_cons_succ, List.getElem_cons_zero, Act.put, List.setIfInBounds_toArray, List.set_cons_zero, List.set_cons_succ]
 refine wpAnyH_take (i := 18) (v := .bool true) rfl (by kernel_rfl) (by kernel_rfl) (by kernel_rfl) (fun _ _ _ h => h) (Or.inl ⟨by rfl, fun w' hw' => by
   go_simp <;> omega⟩) hd ?_
 try simp only [List.getElem_toArray, List.getElem_cons_succ, List.getElem_cons_zero, Act.put, List.setIfInBounds_toArray, List.set_cons_zero, List.set_cons_succ]
 refine wpAnyH_take (i := 19) (v := .bool true) rfl (by kernel_rfl) (by kernel_rfl) (by kernel_rfl) (fun _ _ _ h => h) (Or.inl ⟨by rfl, fun w' hw' => by
   go_simp <;> omega⟩) hd ?_
 try simp only [List.getElem_toArray, List.getElem_cons_succ, List.getElem_cons_zero, Act.put, List.setIfInBounds_toArray, List.set_cons_zero, List.set_cons_succ]
 refine wpAnyH_done (by kernel_rfl) ?_ _
 have hend := Lib.hid (belowThen b0.out hd (Nat.le_refl _))
 go_wp2_with fail
 go_ret
 exact ⟨rfl, hend.out⟩

end Go.Proofs.YtjkecadfakjanaaGreatDoor

namespace Go.Proofs.YtjkecadfakjanaaGreatDoor
open Go.ChangeShapes Go.WideShapes Go.ChangeAt Go.RowKit
open Go.ChangeMaps (open_string shut_string)

theorem trodAll_five {H : Type} {enc : TypeId × Value -> H} {P : Program} {w : World} {base : Nat} {spare : Nat -> Bool} {held : Bool} {t0 t1 t2 t3 t4 : TypeId} {args : Array Value} {ds : List (DataW H)} {ps : List MemPlace} (h : DataW.TrodAll enc P w base spare held [t0, t1, t2, t3, t4] args.toList ds ps) :
  ∃ v0 v1 v2 v3 v4 d0 d1 d2 d3 d4 p0 p1 p2 p3 p4, args = #[v0, v1, v2, v3, v4] /\ ds = [d0, d1, d2, d3, d4] /\ ps = p0 ++ p1 ++ p2 ++ p3 ++ p4 /\ DataW.Trod enc P w base spare held t0 v0 d0 p0 /\ DataW.Trod enc P w base spare held t1 v1 d1 p1 /\ DataW.Trod enc P w base spare held t2 v2 d2 p2 /\ DataW.Trod enc P w base spare held t3 v3 d3 p3 /\ DataW.Trod enc P w base spare held t4 v4 d4 p4 := by
 obtain ⟨v0, vs0, d0, ds0, p0, q0, hargs, rfl, rfl, h0, r0⟩ := trodAll_cons h
 obtain ⟨v1, vs1, d1, ds1, p1, q1, rfl, rfl, rfl, h1, r1⟩ := trodAll_cons r0
 obtain ⟨v2, vs2, d2, ds2, p2, q2, rfl, rfl, rfl, h2, r2⟩ := trodAll_cons r1
 obtain ⟨v3, vs3, d3, ds3, p3, q3, rfl, rfl, rfl, h3, r3⟩ := trodAll_cons r2
 obtain ⟨v4, vs4, d4, ds4, p4, q4, rfl, rfl, rfl, h4, r4⟩ := trodAll_cons r3
 obtain ⟨rfl, rfl, rfl⟩ := trodAll_nil r4
 exact ⟨v0, v1, v2, v3, v4, d0, d1, d2, d3, d4, p0, p1, p2, p3, p4, by cases args; simp_all, rfl, by simp, h0, h1, h2, h3, h4⟩
theorem trodAll_mk5 {H : Type} {enc : TypeId × Value -> H} {P : Program} {w : World} {base : Nat} {spare : Nat -> Bool} {held : Bool} {t0 t1 t2 t3 t4 : TypeId} {v0 v1 v2 v3 v4 : Value} {d0 d1 d2 d3 d4 : DataW H} {p0 p1 p2 p3 p4 : List MemPlace} (h0 : DataW.Trod enc P w base spare held t0 v0 d0 p0) (h1 : DataW.Trod enc P w base spare held t1 v1 d1 p1) (h2 : DataW.Trod enc P w base spare held t2 v2 d2 p2) (h3 : DataW.Trod enc P w base spare held t3 v3 d3 p3) (h4 : DataW.Trod enc P w base spare held t4 v4 d4 p4) :
  DataW.TrodAll enc P w base spare held [t0, t1, t2, t3, t4] [v0, v1, v2, v3, v4] [d0, d1, d2, d3, d4] (p0 ++ (p1 ++ (p2 ++ (p3 ++ p4)))) := ⟨p0, p1 ++ (p2 ++ (p3 ++ p4)), h0, trodAll_mk4 h1 h2 h3 h4, rfl⟩
theorem wf_i64 {n : Int} (h : (Lit.int .i64 n).wf = true) : -9223372036854775808 <= n /\ n <= 9223372036854775807 := by
 have h2 : (decide (IntKind.i64.min <= n) && decide (n <= IntKind.i64.max)) = true := h
 rw [Bool.and_eq_true, decide_eq_true_eq, decide_eq_true_eq] at h2
 have e1 : IntKind.i64.min = -9223372036854775808 := by decide
 have e2 : IntKind.i64.max = 9223372036854775807 := by decide
 rw [e1, e2] at h2
 exact h2
theorem listReads : Tryz.prog.readableRec 22 = true := by kernel_rfl
theorem listRow : 22 < Tryz.prog.types.size := of_decide_eq_true (by kernel_rfl)
theorem open_list {H : Type} {enc : TypeId × Value -> H} {W : World} {v : Value} {d : DataW H} {p : List MemPlace} (h : DataW.Trod enc Tryz.prog W 0 (fun _ => true) true 22 v d p) (hv : Value.okWide Tryz.prog W .any 0 22 v) (hw : ∀ n ∈ d.weights Tryz.prog 22, n <= reachBytes) : ∃ l, StrsAt W v l /\ CapOK v := by
 obtain ⟨a, len, cap, rfl⟩ := okWide_slice Tryz.underlying22 hv
 obtain ⟨fuel, hf⟩ := h
 exact open_strsA (x := (d, p)) hf hw
theorem own : ownKnob Tryz.prog.godebug = none := by kernel_rfl
theorem laidOut : laidOutB Tryz.prog = true := by kernel_rfl
theorem siteReads : Tryz.prog.readableRec 25 = true := by kernel_rfl
theorem siteRow : 25 < Tryz.prog.types.size := of_decide_eq_true (by kernel_rfl)

def laidAll' : List (String × DataW Unit) := Rows.fnBaseRelBuiltRow.laid

set_option maxRecDepth 100000 in
theorem lifted1 (os : Os) (started : os.Started) (H : Type) (enc : TypeId × Value -> H) :
  ReturnsInHanded {} Tryz.checked os 6 .any (fun w args => (Rows.fnBaseRelBuiltSpec.pre enc Tryz.prog Tryz.f6 Rows.fnBaseRelBuiltRow.domain false w args /\ laidMetH Tryz.prog laidAll' w) /\ sizedMet enc Tryz.prog Tryz.f6 (OpenSpec.ofChange Rows.fnBaseRelBuiltSpec) false w args)
   (Rows.fnBaseRelBuiltSpec.post enc Tryz.prog Tryz.f6 false true false false) := by
 refine returnsInHanded_of_change_and (C := Tryz.checked) (X := fun w _ => laidMetH Tryz.prog laidAll' w) (fun _ _ _ hh h => h.of_heap hh) own started (by kernel_rfl) Tryz.func6
  (ChangeSpec.witness_shaped (enc := enc) (C := Tryz.checked) (os := os) (X := fun w _ => laidMetH Tryz.prog laidAll' w) false (World.laidAll Tryz.prog os laidAll') #[.agg #[.slice none 0 0, .slice none 0 0, .slice none 0 0, .slice none 0 0], .slice none 0 0, .slice none 0 0, .string ByteArray.empty, .int .i64 0] 8 (World.laidAll_os _ _ _)
   (World.shaped_of_ZipB (by kernel_rfl) (by kernel_rfl)) (by kernel_rfl) (by kernel_rfl) (by kernel_rfl)
   (by rw [MakeChecks.laidMetH_plain _ _ _ (by kernel_rfl)]; exact laidMet_laidAll _ (by kernel_rfl) (by kernel_rfl))) ?_
 intro W base args ds gs before hval0 hW hc hsz0 _ _
 have hsz : (DataW.weightsEach Tryz.prog (Tryz.f6.params.toList ++ Rows.fnBaseRelBuiltSpec.plain.varTypes Tryz.prog) (ds ++ gs)).all (· <= reachBytes) = true := hsz0
 have hval : ∀ (j : Nat) t v, Tryz.f6.params[j]? = some t -> args[j]? = some v -> Value.okWide Tryz.prog W .any base t v := hval0
 have hW' := hW
 obtain ⟨p, q, hA0, hV, rfl, _, _⟩ := hW
 have hA : DataW.TrodAll enc Tryz.prog W 0 (fun _ => true) true Tryz.f6.params.toList args.toList ds p := hA0
 rw [Tryz.params6] at hA hval hsz
 obtain ⟨v0, v1, v2, v3, v4, d0, d1, d2, d3, d4, p0, p1, p2, p3, p4, rfl, rfl, rfl, h0, h1, h2, h3, h4⟩ := trodAll_five hA
 obtain ⟨rfl, rfl⟩ := trodVars_none hV
 obtain ⟨a3, rfl, rfl, rfl, y3⟩ := open_string Tryz.underlying9 (hval 3 9 v3 rfl rfl) h3
 obtain ⟨a4, rfl, rfl, rfl, y4⟩ := open_int Tryz.underlying3 (hval 4 3 v4 rfl rfl) h4
 have w1 : ∀ n ∈ d1.weights Tryz.prog 22, n <= reachBytes := fun n hn => by
  have := List.all_eq_true.1 hsz n (DataW.weights_mem_each (j := 1) (t := 22) rfl rfl n hn)
  simpa using this
 obtain ⟨l1, q1, c1⟩ := open_list h1 (hval 1 22 v1 rfl rfl) w1
 have hlt1 : ∀ x ∈ p1, x.block < W.heap.size := fun x hx => hW'.lt x (by simp [hx])
 have w2 : ∀ n ∈ d2.weights Tryz.prog 22, n <= reachBytes := fun n hn => by
  have := List.all_eq_true.1 hsz n (DataW.weights_mem_each (j := 2) (t := 22) rfl rfl n hn)
  simpa using this
 obtain ⟨l2, q2, c2⟩ := open_list h2 (hval 2 22 v2 rfl rfl) w2
 have hlt2 : ∀ x ∈ p2, x.block < W.heap.size := fun x hx => hW'.lt x (by simp [hx])
 have w3 : a3.size <= 140737488351232 := by
  have z := sized_string hsz (j := 3) (t := 9) rfl rfl
  rw [Array.length_toList] at z
  exact z
 have w0 : ∀ n ∈ d0.weights Tryz.prog 25, n <= reachBytes := fun n hn => by
  have := List.all_eq_true.1 hsz n (DataW.weights_mem_each (j := 0) (t := 25) rfl rfl n hn)
  simpa using this
 obtain ⟨vl, vd, vf, vc, site, rfl, hs, cl, cd, cc⟩ := open_site h0 (hval 0 25 v0 rfl rfl) w0
 have hlt : ∀ x ∈ p0, x.block < W.heap.size := fun x hx => hW'.lt x (by simp [hx])
 obtain ⟨l3, rfl⟩ := B_surj a3
 rw [B_size] at w3
 refine (w_FnBaseRelBuilt site l1 l2 l3 a4 vl vd vf vc v1 v2 W hs cl cd cc q1 c1 q2 c2 w3 (wf_i64 y4)).mono fun e W' ⟨he, bel⟩ => ?_
 subst he
 refine ⟨_, rfl, _, _, _, [], _, [], hW', trodAll_mk1 (shut_bool Tryz.underlying4 _), trodAll_mk5 (Below.trod laidOut siteReads siteRow h0 bel hlt) (Below.trod laidOut listReads listRow h1 bel hlt1) (Below.trod laidOut listReads listRow h2 bel hlt2) (shut_string Tryz.underlying9 y3) (shut_int Tryz.underlying3 y4), rfl, bel.frame _, fun h => by cases h⟩

theorem over1 : Rows.FnBaseRelBuiltSaid :=
 OpenClaim.holds_of_wide 6 Tryz.f6 rfl rfl rfl rfl rfl rfl rfl ⟨rfl, rfl, rfl, rfl, rfl⟩ rfl rfl rfl rfl rfl (by kernel_rfl) Tryz.func6 (by kernel_rfl)
  (of_decide_eq_true (by kernel_rfl)) (by unfold Func.isWrapper; first | (rw [if_pos (by decide +kernel)]; kernel_rfl) | (rw [if_neg (by decide +kernel)]; exact ⟨rfl, rfl⟩))
  (fun os started H enc _ => lifted1 os started H enc)

theorem fnBaseRelBuilt_holds : Rows.FnBaseRelBuiltCardSaid :=
 Claim7.holds_tied_plain_at .later [] [.data, .pinned, .pinned] true Rows.fnBaseRelBuiltCard.stood.harness false over1 (fun _ h => by cases h) (by kernel_rfl) (fun _ h => by cases h) fnBaseRelBuilt_row_tie rfl ⟨rfl, rfl⟩ (by kernel_rfl) rfl
  (fun f fn hf hfn => by
   obtain rfl : f = 6 := Option.some.inj ((show Tryz.prog.funcNamed Rows.fnBaseRelBuiltRow.func = some 6 by kernel_rfl).symm.trans hf) |>.symm
   obtain rfl : fn = Tryz.f6 := (Option.some.inj (Tryz.func6.symm.trans hfn)).symm
   exact ⟨by kernel_rfl, fun j t ht => by
    rw [Tryz.params6] at ht
    have hm : t ∈ [25, 22, 22, 9, 3] := by simpa using Array.mem_of_getElem? ht
    have hall : ([25, 22, 3, 9].all fun u => !Tryz.prog.wantsStandIn u) = true := by kernel_rfl
    exact (show Tryz.prog.wantsStandIn t = false by simpa using List.all_eq_true.1 hall t (by simp at hm |-; first | exact hm | omega | (rcases hm with h | h | h <;> simp [h]) | (rcases hm with h | h | h | h <;> simp [h]) | (rcases hm with h | h | h | h | h <;> simp [h])))⟩)
  (by kernel_rfl)
#print axioms fnBaseRelBuilt_holds
end Go.Proofs.YtjkecadfakjanaaGreatDoor
