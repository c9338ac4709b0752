/- The walk of the law FnPathRelBack: what a path is from its owner on is the path, or, behind the base of its owner and a slash, the path again. Conditions: a site in memory, texts that fit into the platform's addresses. -/
import Derived.Test.YtfekhbnefogkdaaGreatDoorKnown
import Derived.Test.YtfekhbnefogkdaaGreatDoorSimM
import Derived.Test.YtfekhbnefogkdaaGreatDoorViewP
import Derived.Test.YtfekhbnefogkdaaGreatDoorHelpA
import Derived.Test.YtfekhbnefogkdaaGreatDoorLawP
import Derived.Test.YtfekhbnefogkdaaGreatDoorOpen
import Derived.Test.YtfekhbnefogkdaaGreatDoorRows
import Derived.Test.YtfekhbnefogkdaaGreatDoorCards
import Derived.Test.YtfekhbnefogkdaaGreatDoorTie
import Derived.ProofKit
import Derived.OpenShut
import Derived.ShutString
import Derived.ChangeOld
import Derived.SizedLaws
import Derived.LaidMore
import Derived.Lay
import Derived.SevenTiedAt
import Derived.Stop.Joined
import Derived.Carry
set_option maxRecDepth 100000
set_option linter.unusedVariables false
set_option linter.unusedSimpArgs false
namespace Go.Proofs.YtfekhbnefogkdaaGreatDoor
open Go.RowKit
attribute [local go_sem] B_extract B_toList B_append

theorem ends_suffix (s : Str) : endsL s [47] = List.isSuffixOf [47] s := by
 rcases List.eq_nil_or_concat s with rfl | ⟨t, c, rfl⟩
 ·rfl
 ·have e : endsL (t ++ [c]) [47] = ([c] == [47]) := by
   unfold endsL
   rw [List.length_append, List.length_singleton, List.length_singleton, Nat.add_sub_cancel, List.drop_left, decide_eq_true (by omega), Bool.true_and]
  rw [List.concat_eq_append, e, Bool.eq_iff_iff, List.isSuffixOf_iff_suffix]
  constructor
  ·intro h
   rw [eq_of_beq h]
   exact List.suffix_append t [47]
  ·rintro ⟨u, hu⟩
   rw [<- List.append_inj_right' hu rfl]
   rfl

set_option maxHeartbeats 8000000 in
theorem w_FnPathRelBack (site : SiteM) (comp s o : Str) (vl vd vf vc : Value) (w : World) (hv : SiteAt w vl vd vf vc site) (hcl : CapOK vl) (hcd : CapOK vd) (hcc : CapOK vc) (hc0 : comp.length <= 140737488351232) (hs0 : s.length <= 140737488351232) (ho0 : o.length <= 140737488351232) :
  Calls Tryz.prog 7 #[.agg #[vl, vd, vf, vc], .string (B comp), .string (B s), .string (B o)] w fun e w' => e = .returned (.bool true) /\ Below w.heap.size w w' := by
 have HZ : Hid (∀ wx, SiteAt wx vl vd vf vc site -> Calls Tryz.prog 9 #[.agg #[vl, vd, vf, vc]] wx fun e w' => e = .returned (.bool (siteFits site)) /\ Below wx.heap.size wx w') := fun wx h => c_zzFits1 site vl vd vf vc wx h
 have HKN : Hid (siteFits site = true -> comp.length <= 2147483647 -> s.length <= 2147483647 -> ∀ wx, SiteAt wx vl vd vf vc site -> Calls Tryz.prog 10 #[.agg #[vl, vd, vf, vc], .string (B comp), .string (B s)] wx
   fun e w' => ∃ v T, e = .returned (.tuple #[v, .bool (knownL site comp s)]) /\ ToldAtN wx.heap.size w' v T /\ Below wx.heap.size wx w' /\ (knownL site comp s = true -> T = toldM (doParseM site comp (normL s)))) := fun hf h1 h2 wx h => c_known site comp s vl vd vf vc wx h hcl hcd hcc hf h1 h2
 have HKO : Hid (siteFits site = true -> comp.length <= 2147483647 -> o.length <= 2147483647 -> ∀ wx, SiteAt wx vl vd vf vc site -> Calls Tryz.prog 10 #[.agg #[vl, vd, vf, vc], .string (B comp), .string (B o)] wx
   fun e w' => ∃ v T, e = .returned (.tuple #[v, .bool (knownL site comp o)]) /\ ToldAtN wx.heap.size w' v T /\ Below wx.heap.size wx w' /\ (knownL site comp o = true -> T = toldM (doParseM site comp (normL o)))) := fun hf h1 h2 wx h => c_known site comp o vl vd vf vc wx h hcl hcd hcc hf h1 h2
 have HPK : Hid (knownL site comp s = true -> pathKnown site comp s = true) := fun h => by unfold knownL at h; rw [Bool.and_eq_true] at h; exact h.2
 have HPO : Hid (knownL site comp o = true -> pathKnown site comp o = true) := fun h => by unfold knownL at h; rw [Bool.and_eq_true] at h; exact h.2
 have HRK : Hid (siteFits site = true -> comp.length <= 2147483647 -> s.length <= 2147483647 -> o.length <= 2147483647 -> ∀ wx, SiteAt wx vl vd vf vc site -> Calls Tryz.prog 22 #[.agg #[vl, vd, vf, vc], .string (B comp), .string (B s), .string (B o)] wx fun e w' => e = .returned (.bool (pathKnown site comp s && pathKnown site comp o)) /\ Below wx.heap.size wx w') := fun hf h1 h2 h3 wx h => c_RelKnown site comp s o vl vd vf vc wx h hcl hcd hcc hf h1 h2 h3
 have HIR : Hid (pathKnown site comp s = true -> pathKnown site comp o = true -> ∀ wx, SiteAt wx vl vd vf vc site -> Calls Tryz.prog 23 #[.agg #[vl, vd, vf, vc], .string (B comp), .string (B s), .string (B o)] wx fun e w' => e = .returned (.string (B (trimPreG (toldM (doParseM site comp (normL s))).path (relBase (toldM (doParseM site comp (normL o))).base)))) /\ Below wx.heap.size wx w') := fun hk hk' wx h => by
  obtain ⟨h1, h2, h3, h4, h5⟩ := pathKnown_site hk
  obtain ⟨_, _, g3, _, g5⟩ := pathKnown_site hk'
  exact c_implPathRel wx site comp s o vl vd vf vc h (siteKnown_once h1) (by omega) h3 (by omega) g3
 obtain ⟨obs, hobs⟩ : ∃ o : Obj, o = .cells #[vl, vd, vf, vc] 25 := ⟨_, rfl⟩
 have hB1 : Hid (Below w.heap.size w (w.alloc obs)) := Below_alloc w obs
 have hsb : Hid ((w.alloc obs).heap[w.heap.size]? = some (.cells #[vl, vd, vf, vc] 25)) := by show _ = _; rw [hobs]; exact blk_new w _
 have HV1 : Hid (SiteAt (w.alloc obs) vl vd vf vc site) := hv.alloc obs
 clear hv hcl hcd hcc
 cases h1 : siteFits site with
 | false =>
  rw [h1] at HZ
  go_enter Tryz.func7, Tryz.ntmps7
  go_wp2_with fail
  rw [<- hobs]
  generalize w.alloc obs = w1 at hB1 hsb HV1 |-
  refine (HZ.out _ HV1.out).mono ?_; rintro e w2 ⟨rfl, b2⟩
  have hB2 := Lib.hid (belowThen hB1.out b2 (Nat.le_refl _))
  go_wp2_with fail
  go_ret
  exact ⟨rfl, hB2.out⟩
 | true =>
 rw [h1] at HZ
 by_cases h2 : comp.length <= 2147483647
 rotate_left 1
 ·skip
  go_enter Tryz.func7, Tryz.ntmps7
  go_wp2_with fail
  rw [<- hobs]
  generalize w.alloc obs = w1 at hB1 hsb HV1 |-
  refine (HZ.out _ HV1.out).mono ?_; rintro e w2 ⟨rfl, b2⟩
  have hB2 := Lib.hid (belowThen hB1.out b2 (Nat.le_refl _))
  go_wp2_with fail
  go_ret
  exact ⟨rfl, hB2.out⟩
 by_cases h3 : s.length <= 2147483647
 rotate_left 1
 ·skip
  go_enter Tryz.func7, Tryz.ntmps7
  go_wp2_with fail
  rw [<- hobs]
  generalize w.alloc obs = w1 at hB1 hsb HV1 |-
  refine (HZ.out _ HV1.out).mono ?_; rintro e w2 ⟨rfl, b2⟩
  have hB2 := Lib.hid (belowThen hB1.out b2 (Nat.le_refl _))
  go_wp2_with fail
  go_ret
  exact ⟨rfl, hB2.out⟩
 by_cases h4 : o.length <= 2147483647
 rotate_left 1
 ·skip
  go_enter Tryz.func7, Tryz.ntmps7
  go_wp2_with fail
  rw [<- hobs]
  generalize w.alloc obs = w1 at hB1 hsb HV1 |-
  refine (HZ.out _ HV1.out).mono ?_; rintro e w2 ⟨rfl, b2⟩
  have hB2 := Lib.hid (belowThen hB1.out b2 (Nat.le_refl _))
  go_wp2_with fail
  go_ret
  exact ⟨rfl, hB2.out⟩
 obtain ⟨K1, hK1⟩ : ∃ K, K = knownL site comp s := ⟨_, rfl⟩
 obtain ⟨K2, hK2⟩ : ∃ K, K = knownL site comp o := ⟨_, rfl⟩
 rw [<- hK1] at HKN
 rw [<- hK2] at HKO
 replace hK1 := Lib.hid hK1
 replace hK2 := Lib.hid hK2
 go_enter Tryz.func7, Tryz.ntmps7
 go_wp2_with fail
 rw [<- hobs]
 generalize w.alloc obs = w1 at hB1 hsb HV1 |-
 refine (HZ.out _ HV1.out).mono ?_; rintro e w2 ⟨rfl, b2⟩
 have hB2 := Lib.hid (belowThen hB1.out b2 (Nat.le_refl _))
 have hsb2 := Lib.hid (blk_below hsb.out b2)
 have HV2 := Lib.hid (HV1.out.below b2)
 obtain ⟨k0, k1, k2, k3⟩ : w2.cell? ⟨w.heap.size, 0, none⟩ = some vl /\ w2.cell? ⟨w.heap.size, 1, none⟩ = some vd /\ w2.cell? ⟨w.heap.size, 2, none⟩ = some vf /\ w2.cell? ⟨w.heap.size, 3, none⟩ = some vc := ⟨cell_blk hsb2.out 0, cell_blk hsb2.out 1, cell_blk hsb2.out 2, cell_blk hsb2.out 3⟩
 clear b2 hsb HV1 hB1 HZ
 go_wp2_with fail
 refine (HKN.out h1 h2 h3 _ HV2.out).mono ?_; rintro e w3 ⟨v, T, rfl, ⟨ql, qi, qu, rfl, ⟨s1, n1⟩, ⟨s2, n2⟩, ⟨s3, n3⟩⟩, b3, hT⟩
 clear k0 k1 k2 k3 HKN
 obtain ⟨a1, l1, c1, rfl⟩ := s1.slice
 obtain ⟨a2, l2, c2, rfl⟩ := s2.slice
 obtain ⟨a3, l3, c3, rfl⟩ := s3.slice
 obtain ⟨cs, hcs, hsz, hone⟩ := told_cells T a1 a2 a3 l1 l2 l3 c1 c2 c3
 rw [hcs]
 have hB3 := Lib.hid (belowThen hB2.out b3 (Nat.le_refl _))
 have hz3 : w.heap.size <= w3.heap.size := hB3.out.size
 replace s1 := Lib.hid s1
 replace s2 := Lib.hid s2
 replace s3 := Lib.hid s3
 replace hcs := Lib.hid hcs
 have hV3 := Lib.hid (HV2.out.below b3)
 have hsb3 := Lib.hid (blk_below hsb2.out b3)
 clear n1 n2 n3 b3 hB2 hsb2 HV2
 go_wp2_with (refine wpList_store_row rfl 28 (.tmp 9) (.tmp 38) rfl w3.heap.size cs rfl rfl 28 _ (blk_new w3 _) (by rw [hsz]; kernel_rfl) (by rw [hsz]; rfl) hone (Hid.out ?_))
 have hrow := Lib.hid (setRow_heap (w3.alloc (.cells #[.string (B []), .string (B []), .string (B []), .string (B []), .string (B []), .string (B []), .string (B []), .string (B []), .string (B []), .string (B []), .string (B []), .string (B []), .string (B []), .string (B []), .string (B []), .string (B []), .string (B []), .string (B []), .string (B []), .string (B []), .string (B []), .slice none 0 0, .slice none 0 0, .slice none 0 0, .bool false, .bool false, .bool false, .bool false, .bool false, .bool false, .int .i64 0] 28)) w3.heap.size _ cs _ _ (blk_new w3 _))
 have hbel3 : Hid (Below w3.heap.size w3 ((w3.alloc (.cells #[.string (B []), .string (B []), .string (B []), .string (B []), .string (B []), .string (B []), .string (B []), .string (B []), .string (B []), .string (B []), .string (B []), .string (B []), .string (B []), .string (B []), .string (B []), .string (B []), .string (B []), .string (B []), .string (B []), .string (B []), .string (B []), .slice none 0 0, .slice none 0 0, .slice none 0 0, .bool false, .bool false, .bool false, .bool false, .bool false, .bool false, .int .i64 0] 28)).setRow w3.heap.size cs)) := (Below_alloc w3 _).trans ⟨rfl, rfl, rfl, by simp, fun k hk => setRow_other _ _ _ _ (by omega)⟩
 have hbel := Lib.hid (belowThen hB3.out hbel3.out (Nat.le_refl _))
 have t1 := Lib.hid (s1.out.below hbel3.out)
 have t2 := Lib.hid (s2.out.below hbel3.out)
 have t3 := Lib.hid (s3.out.below hbel3.out)
 have hV4 := Lib.hid (hV3.out.below hbel3.out)
 have hsb4 := Lib.hid (blk_below hsb3.out hbel3.out)
 clear s1 s2 s3 hV3 hB3 hbel3 hsb3
 generalize (w3.alloc _).setRow _ _ = wf at hrow hbel t1 t2 t3 hV4 hsb4 |-
 generalize w3.heap.size = gT at hrow |-
 refine Lib.hid ?_
 obtain ⟨z0, z1, z2, z3⟩ : wf.cell? ⟨w.heap.size, 0, none⟩ = some vl /\ wf.cell? ⟨w.heap.size, 1, none⟩ = some vd /\ wf.cell? ⟨w.heap.size, 2, none⟩ = some vf /\ wf.cell? ⟨w.heap.size, 3, none⟩ = some vc := ⟨cell_blk hsb4.out 0, cell_blk hsb4.out 1, cell_blk hsb4.out 2, cell_blk hsb4.out 3⟩
 go_wp2_with fail
 refine (HKO.out h1 h2 h4 _ hV4.out).mono ?_; rintro e w5 ⟨v5, T', rfl, ⟨ql, qi, qu, rfl, ⟨s1, n1⟩, ⟨s2, n2⟩, ⟨s3, n3⟩⟩, b5, hT'⟩
 clear z0 z1 z2 z3 HKO
 obtain ⟨p1, m1, d1, rfl⟩ := s1.slice
 obtain ⟨p2, m2, d2, rfl⟩ := s2.slice
 obtain ⟨p3, m3, d3, rfl⟩ := s3.slice
 obtain ⟨ds, hds, hdz, hdone⟩ := told_cells T' p1 p2 p3 m1 m2 m3 d1 d2 d3
 rw [hds]
 replace hds := Lib.hid hds
 replace hdz := Lib.hid hdz
 replace hT' := Lib.hid hT'
 replace hT := Lib.hid hT
 have hrow5 := Lib.hid (blk_below hrow.out b5)
 have hsb5 := Lib.hid (blk_below hsb4.out b5)
 have hV5 := Lib.hid (hV4.out.below b5)
 have hbel5 := Lib.hid (belowThen hbel.out b5 (Nat.le_refl _))
 clear b5 n1 n2 n3 s1 s2 s3 hrow hsb4 hV4 hbel t1 t2 t3
 go_wp2_with (refine wpList_store_row rfl 28 (.tmp 11) (.tmp 45) rfl w5.heap.size ds rfl rfl 28 _ (blk_new w5 _) (by rw [hdz.out]; kernel_rfl) (by rw [hdz.out]; rfl) hdone (Hid.out ?_))
 have hrow2 := Lib.hid (setRow_heap (w5.alloc (.cells #[.string (B []), .string (B []), .string (B []), .string (B []), .string (B []), .string (B []), .string (B []), .string (B []), .string (B []), .string (B []), .string (B []), .string (B []), .string (B []), .string (B []), .string (B []), .string (B []), .string (B []), .string (B []), .string (B []), .string (B []), .string (B []), .slice none 0 0, .slice none 0 0, .slice none 0 0, .bool false, .bool false, .bool false, .bool false, .bool false, .bool false, .int .i64 0] 28)) w5.heap.size _ ds _ _ (blk_new w5 _))
 have b8 : Below w5.heap.size w5 ((w5.alloc (.cells #[.string (B []), .string (B []), .string (B []), .string (B []), .string (B []), .string (B []), .string (B []), .string (B []), .string (B []), .string (B []), .string (B []), .string (B []), .string (B []), .string (B []), .string (B []), .string (B []), .string (B []), .string (B []), .string (B []), .string (B []), .string (B []), .slice none 0 0, .slice none 0 0, .slice none 0 0, .bool false, .bool false, .bool false, .bool false, .bool false, .bool false, .int .i64 0] 28)).setRow w5.heap.size ds) := (Below_alloc w5 _).trans ⟨rfl, rfl, rfl, by simp, fun k hk => setRow_other _ _ _ _ (by omega)⟩
 have hrow8 := Lib.hid (blk_below hrow5.out b8)
 have hsb8 := Lib.hid (blk_below hsb5.out b8)
 have hV8 := Lib.hid (hV5.out.below b8)
 have hbel8 := Lib.hid (belowThen hbel5.out b8 (Nat.le_refl _))
 clear b8 hrow5 hsb5 hV5 hbel5
 generalize (w5.alloc _).setRow _ _ = wg at hrow2 hrow8 hsb8 hV8 hbel8 |-
 generalize w5.heap.size = gU at hrow2 |-
 refine Lib.hid ?_
 obtain ⟨z0, z1, z2, z3⟩ : wg.cell? ⟨w.heap.size, 0, none⟩ = some vl /\ wg.cell? ⟨w.heap.size, 1, none⟩ = some vd /\ wg.cell? ⟨w.heap.size, 2, none⟩ = some vf /\ wg.cell? ⟨w.heap.size, 3, none⟩ = some vc := ⟨cell_blk hsb8.out 0, cell_blk hsb8.out 1, cell_blk hsb8.out 2, cell_blk hsb8.out 3⟩
 cases hk : K1 with
 | false =>
  go_wp2_with fail
  go_ret
  exact ⟨rfl, hbel8.out⟩
 | true =>
 cases hko : K2 with
 | false =>
  go_wp2_with fail
  go_ret
  exact ⟨rfl, hbel8.out⟩
 | true =>
 have hpk := HPK.out (hK1.out.symm.trans hk)
 have hpo := HPO.out (hK2.out.symm.trans hko)
 have eT := hT.out hk
 have eT' := hT'.out hko
 have hFx : Facts site comp s T := by have h := facts hpk; rw [<- eT] at h; exact h
 have hlo := (pathKnown_site hpo).2.2.2.2
 have hbl : T'.base.length <= 900000 := by
  have e : T'.base = (doParseM site comp (normL o)).base := by rw [eT']; rfl
  have h := base_len (doParseM site comp (normL o))
  rw [(doParse_finished site comp (normL o)).s_] at h
  have h2 := normPath_len (normL o)
  rw [normL_len] at h2
  rw [e]; omega
 have hpl := hFx.len
 have hpe : T.path.isEmpty = false := List.isEmpty_eq_false_iff.2 hFx.ne
 have HR2 := Lib.hid (HRK.out h1 h2 h3 h4)
 rw [hpk, hpo, Bool.true_and] at HR2
 have HI2 := Lib.hid (HIR.out hpk hpo)
 rw [<- eT, <- eT'] at HI2
 clear HRK HIR HPK HPO hT hT' eT eT' hFx hlo
 have hcs2 : Hid (cs = #[.string (B T.component), .string (B T.container), .string (B T.containerDir), .string (B T.section_), .string (B T.name), .string (B T.nameNoExt), .string (B T.baseName), .string (B T.nameNoId), .string (B T.dir), .string (B T.path), .string (B T.pathNoLang), .string (B T.pathNoId), .string (B T.pathBefore), .string (B T.base), .string (B T.idBase), .string (B T.ext), .string (B T.format), .string (B T.kind), .string (B T.layout), .string (B T.lang), .string (B T.custom), .slice a1 l1 c1, .slice a2 l2 c2, .slice a3 l3 c3, .bool T.disabled, .bool T.isContent, .bool T.isBundle, .bool T.isBranch, .bool T.isLeaf, .bool T.isData, .int .i64 T.typ]) := (Value.agg.inj hcs.out).symm
 have hds2 : Hid (ds = #[.string (B T'.component), .string (B T'.container), .string (B T'.containerDir), .string (B T'.section_), .string (B T'.name), .string (B T'.nameNoExt), .string (B T'.baseName), .string (B T'.nameNoId), .string (B T'.dir), .string (B T'.path), .string (B T'.pathNoLang), .string (B T'.pathNoId), .string (B T'.pathBefore), .string (B T'.base), .string (B T'.idBase), .string (B T'.ext), .string (B T'.format), .string (B T'.kind), .string (B T'.layout), .string (B T'.lang), .string (B T'.custom), .slice p1 m1 d1, .slice p2 m2 d2, .slice p3 m3 d3, .bool T'.disabled, .bool T'.isContent, .bool T'.isBundle, .bool T'.isBranch, .bool T'.isLeaf, .bool T'.isData, .int .i64 T'.typ]) := (Value.agg.inj hds.out).symm
 go_wp2_with fail
 refine (HR2.out _ hV8.out).mono ?_; rintro e wh ⟨rfl, b9⟩
 have hrowP := Lib.hid (blk_below hrow2.out b9)
 have hrowQ := Lib.hid (blk_below hrow8.out b9)
 have hsb9 := Lib.hid (blk_below hsb8.out b9)
 have hV9 := Lib.hid (hV8.out.below b9)
 have hbel9 := Lib.hid (belowThen hbel8.out b9 (Nat.le_refl _))
 clear b9 hrow2 hrow8 hsb8 hV8 hbel8 z0 z1 z2 z3 HR2
 obtain ⟨z0, z1, z2, z3⟩ : wh.cell? ⟨w.heap.size, 0, none⟩ = some vl /\ wh.cell? ⟨w.heap.size, 1, none⟩ = some vd /\ wh.cell? ⟨w.heap.size, 2, none⟩ = some vf /\ wh.cell? ⟨w.heap.size, 3, none⟩ = some vc := ⟨cell_blk hsb9.out 0, cell_blk hsb9.out 1, cell_blk hsb9.out 2, cell_blk hsb9.out 3⟩
 go_wp2_with fail
 refine (HI2.out _ hV9.out).mono ?_; rintro e wi ⟨rfl, b10⟩
 have hrow2 := Lib.hid (blk_below hrowP.out b10)
 have hrow8 := Lib.hid (blk_below hrowQ.out b10)
 have hbel8 := Lib.hid (belowThen hbel9.out b10 (Nat.le_refl _))
 clear b10 hrowP hrowQ hsb9 hV9 hbel9 z0 z1 z2 z3 HI2
 have x9 : wi.cell? ⟨gT, 9, none⟩ = some (.string (B T.path)) := by rw [cell_blk hrow8.out 9, hcs2.out]; rfl
 have y13 : wi.cell? ⟨gU, 13, none⟩ = some (.string (B T'.base)) := by rw [cell_blk hrow2.out 13, hds2.out]; rfl
 clear hcs2 hds2 hcs hds hsz hdz hone hdone hrow2 hrow8
 generalize T.path = P at *
 generalize T'.base = Q at *
 have HEN := Lib.hid (c_ends Q [47] wi (by omega) (by decide))
 rw [ends_suffix] at HEN
 have HRB : Hid (relBase Q = if List.isSuffixOf [47] Q then Q else Q ++ [47]) := rfl
 have HTG : Hid (∀ x : Str, trimPreG P x = if x.isPrefixOf P then P.drop x.length else P) := fun x => rfl
 have HPT : Hid (∀ x : Str, startsL P x = true -> x ++ P.drop x.length = P /\ x.length <= P.length) := fun x hx => by
  obtain ⟨t, rfl⟩ := List.isPrefixOf_iff_prefix.1 hx
  exact ⟨by rw [List.drop_left], by simp⟩
 cases hs : List.isSuffixOf [47] Q with
 | false =>
  have hrb : relBase Q = (Q ++ [47]) := by rw [HRB.out, hs]; rfl
  rw [hs] at HEN
  rw [hrb]
  have HBG := Lib.hid (fun wx => c_begins P (Q ++ [47]) wx (by omega) (by first | omega | (rw [List.length_append, List.length_singleton]; omega)))
  clear hrb HRB hs
  cases hb : startsL P (Q ++ [47]) with
  | true =>
   have hp : trimPreG P (Q ++ [47]) = P.drop ((Q ++ [47])).length := by rw [HTG.out]; exact if_pos hb
   obtain ⟨ha, hl⟩ := HPT.out _ hb
   rw [hp]
   rw [hb] at HBG
   clear hp HTG HPT hb
   have hrl : (P.drop ((Q ++ [47])).length).length <= P.length := by rw [List.length_drop]; omega
   generalize P.drop ((Q ++ [47])).length = R at ha hrl |-
   have g : ((Q ++ [47]) ++ R == P) = true := by rw [ha]; simp
   replace g := Lib.hid g
   clear ha
   go_wp2_with fail
   refine HEN.out.mono ?_; rintro e w' ⟨rfl, rfl⟩
   go_wp2_with fail
   refine (HBG.out _).mono ?_; rintro e w' ⟨rfl, rfl⟩
   go_wp2_with fail
   go_ret
   exact ⟨ret_bool (by have h := g.out; first | exact h.symm | exact h | (simp at h |-; first | exact h | exact h.symm)), hbel8.out⟩
  | false =>
   have hp : trimPreG P (Q ++ [47]) = P := by rw [HTG.out]; exact if_neg (by unfold startsL at hb; rw [hb]; decide)
   rw [hp]
   rw [hb] at HBG
   clear hp HTG HPT hb
   go_wp2_with fail
   refine HEN.out.mono ?_; rintro e w' ⟨rfl, rfl⟩
   go_wp2_with fail
   refine (HBG.out _).mono ?_; rintro e w' ⟨rfl, rfl⟩
   go_wp2_with fail
   go_ret
   exact ⟨ret_bool (by simp), hbel8.out⟩
 | true =>
  have hrb : relBase Q = Q := by rw [HRB.out, hs]; rfl
  rw [hs] at HEN
  rw [hrb]
  have HBG := Lib.hid (fun wx => c_begins P Q wx (by omega) (by first | omega | (rw [List.length_append, List.length_singleton]; omega)))
  clear hrb HRB hs
  cases hb : startsL P Q with
  | true =>
   have hp : trimPreG P Q = P.drop (Q).length := by rw [HTG.out]; exact if_pos hb
   obtain ⟨ha, hl⟩ := HPT.out _ hb
   rw [hp]
   rw [hb] at HBG
   clear hp HTG HPT hb
   have hrl : (P.drop (Q).length).length <= P.length := by rw [List.length_drop]; omega
   generalize P.drop (Q).length = R at ha hrl |-
   have g : (Q ++ R == P) = true := by rw [ha]; simp
   replace g := Lib.hid g
   clear ha
   go_wp2_with fail
   refine HEN.out.mono ?_; rintro e w' ⟨rfl, rfl⟩
   go_wp2_with fail
   refine (HBG.out _).mono ?_; rintro e w' ⟨rfl, rfl⟩
   go_wp2_with fail
   go_ret
   exact ⟨ret_bool (by have h := g.out; first | exact h.symm | exact h | (simp at h |-; first | exact h | exact h.symm)), hbel8.out⟩
  | false =>
   have hp : trimPreG P Q = P := by rw [HTG.out]; exact if_neg (by unfold startsL at hb; rw [hb]; decide)
   rw [hp]
   rw [hb] at HBG
   clear hp HTG HPT hb
   go_wp2_with fail
   refine HEN.out.mono ?_; rintro e w' ⟨rfl, rfl⟩
   go_wp2_with fail
   refine (HBG.out _).mono ?_; rintro e w' ⟨rfl, rfl⟩
   go_wp2_with fail
   go_ret
   exact ⟨ret_bool (by simp), hbel8.out⟩

end Go.Proofs.YtfekhbnefogkdaaGreatDoor

namespace Go.Proofs.YtfekhbnefogkdaaGreatDoor
open Go.ChangeShapes Go.WideShapes Go.ChangeAt Go.RowKit
open Go.ChangeMaps (open_string shut_string)

theorem own : ownKnob Tryz.prog.godebug = none := by kernel_rfl
theorem laidOut : laidOutB Tryz.prog = true := by kernel_rfl
theorem siteReads : Tryz.prog.readableRec 25 = true := by kernel_rfl
theorem siteRow : 25 < Tryz.prog.types.size := of_decide_eq_true (by kernel_rfl)

def laidAll' : List (String × DataW Unit) := Rows.fnPathRelBackRow.laid

set_option maxRecDepth 100000 in
theorem lifted1 (os : Os) (started : os.Started) (H : Type) (enc : TypeId × Value -> H) :
  ReturnsInHanded {} Tryz.checked os 7 .any (fun w args => (Rows.fnPathRelBackSpec.pre enc Tryz.prog Tryz.f7 Rows.fnPathRelBackRow.domain false w args /\ laidMetH Tryz.prog laidAll' w) /\ sizedMet enc Tryz.prog Tryz.f7 (OpenSpec.ofChange Rows.fnPathRelBackSpec) false w args)
   (Rows.fnPathRelBackSpec.post enc Tryz.prog Tryz.f7 false true false false) := by
 refine returnsInHanded_of_change_and (C := Tryz.checked) (X := fun w _ => laidMetH Tryz.prog laidAll' w) (fun _ _ _ hh h => h.of_heap hh) own started (by kernel_rfl) Tryz.func7
  (ChangeSpec.witness_shaped (enc := enc) (C := Tryz.checked) (os := os) (X := fun w _ => laidMetH Tryz.prog laidAll' w) false (World.laidAll Tryz.prog os laidAll') #[.agg #[.slice none 0 0, .slice none 0 0, .slice none 0 0, .slice none 0 0], .string ByteArray.empty, .string ByteArray.empty, .string ByteArray.empty] 8 (World.laidAll_os _ _ _)
   (World.shaped_of_ZipB (by kernel_rfl) (by kernel_rfl)) (by kernel_rfl) (by kernel_rfl) (by kernel_rfl)
   (by rw [MakeChecks.laidMetH_plain _ _ _ (by kernel_rfl)]; exact laidMet_laidAll _ (by kernel_rfl) (by kernel_rfl))) ?_
 intro W base args ds gs before hval0 hW hc hsz0 _ _
 have hsz : (DataW.weightsEach Tryz.prog (Tryz.f7.params.toList ++ Rows.fnPathRelBackSpec.plain.varTypes Tryz.prog) (ds ++ gs)).all (· <= reachBytes) = true := hsz0
 have hval : ∀ (j : Nat) t v, Tryz.f7.params[j]? = some t -> args[j]? = some v -> Value.okWide Tryz.prog W .any base t v := hval0
 have hW' := hW
 obtain ⟨p, q, hA0, hV, rfl, _, _⟩ := hW
 have hA : DataW.TrodAll enc Tryz.prog W 0 (fun _ => true) true Tryz.f7.params.toList args.toList ds p := hA0
 rw [Tryz.params7] at hA hval hsz
 obtain ⟨v0, v1, v2, v3, d0, d1, d2, d3, p0, p1, p2, p3, rfl, rfl, rfl, h0, h1, h2, h3⟩ := trodAll_four hA
 obtain ⟨rfl, rfl⟩ := trodVars_none hV
 obtain ⟨a1, rfl, rfl, rfl, y1⟩ := open_string Tryz.underlying9 (hval 1 9 v1 rfl rfl) h1
 obtain ⟨a2, rfl, rfl, rfl, y2⟩ := open_string Tryz.underlying9 (hval 2 9 v2 rfl rfl) h2
 obtain ⟨a3, rfl, rfl, rfl, y3⟩ := open_string Tryz.underlying9 (hval 3 9 v3 rfl rfl) h3
 have w1 : a1.size <= 140737488351232 := by
  have z := sized_string hsz (j := 1) (t := 9) rfl rfl
  rw [Array.length_toList] at z
  exact z
 have w2 : a2.size <= 140737488351232 := by
  have z := sized_string hsz (j := 2) (t := 9) rfl rfl
  rw [Array.length_toList] at z
  exact z
 have w3 : a3.size <= 140737488351232 := by
  have z := sized_string hsz (j := 3) (t := 9) rfl rfl
  rw [Array.length_toList] at z
  exact z
 have w0 : ∀ n ∈ d0.weights Tryz.prog 25, n <= reachBytes := fun n hn => by
  have := List.all_eq_true.1 hsz n (DataW.weights_mem_each (j := 0) (t := 25) rfl rfl n hn)
  simpa using this
 obtain ⟨vl, vd, vf, vc, site, rfl, hs, cl, cd, cc⟩ := open_site h0 (hval 0 25 v0 rfl rfl) w0
 have hlt : ∀ x ∈ p0, x.block < W.heap.size := fun x hx => hW'.lt x (by simp [hx])
 obtain ⟨l1, rfl⟩ := B_surj a1
 obtain ⟨l2, rfl⟩ := B_surj a2
 obtain ⟨l3, rfl⟩ := B_surj a3
 rw [B_size] at w1 w2 w3
 refine (w_FnPathRelBack site l1 l2 l3 vl vd vf vc W hs cl cd cc w1 w2 w3).mono fun e W' ⟨he, bel⟩ => ?_
 subst he
 refine ⟨_, rfl, _, _, _, [], _, [], hW', trodAll_mk1 (shut_bool Tryz.underlying4 _), trodAll_mk4 (Below.trod laidOut siteReads siteRow h0 bel hlt) (shut_string Tryz.underlying9 y1) (shut_string Tryz.underlying9 y2) (shut_string Tryz.underlying9 y3), rfl, bel.frame _, fun h => by cases h⟩

theorem over1 : Rows.FnPathRelBackSaid :=
 OpenClaim.holds_of_wide 7 Tryz.f7 rfl rfl rfl rfl rfl rfl rfl ⟨rfl, rfl, rfl, rfl, rfl⟩ rfl rfl rfl rfl rfl (by kernel_rfl) Tryz.func7 (by kernel_rfl)
  (of_decide_eq_true (by kernel_rfl)) (by unfold Func.isWrapper; first | (rw [if_pos (by decide +kernel)]; kernel_rfl) | (rw [if_neg (by decide +kernel)]; exact ⟨rfl, rfl⟩))
  (fun os started H enc _ => lifted1 os started H enc)

theorem fnPathRelBack_holds : Rows.FnPathRelBackCardSaid :=
 Claim7.holds_tied_plain_at .later [] [.data, .pinned, .pinned] true Rows.fnPathRelBackCard.stood.harness false over1 (fun _ h => by cases h) (by kernel_rfl) (fun _ h => by cases h) fnPathRelBack_row_tie rfl ⟨rfl, rfl⟩ (by kernel_rfl) rfl
  (fun f fn hf hfn => by
   obtain rfl : f = 7 := Option.some.inj ((show Tryz.prog.funcNamed Rows.fnPathRelBackRow.func = some 7 by kernel_rfl).symm.trans hf) |>.symm
   obtain rfl : fn = Tryz.f7 := (Option.some.inj (Tryz.func7.symm.trans hfn)).symm
   exact ⟨by kernel_rfl, fun j t ht => by
    rw [Tryz.params7] at ht
    have hm : t ∈ [25, 9, 9, 9] := by simpa using Array.mem_of_getElem? ht
    have hall : ([25, 9, 9].all fun u => !Tryz.prog.wantsStandIn u) = true := by kernel_rfl
    exact (show Tryz.prog.wantsStandIn t = false by simpa using List.all_eq_true.1 hall t (by simp at hm |-; exact hm))⟩)
  (by kernel_rfl)
#print axioms fnPathRelBack_holds
end Go.Proofs.YtfekhbnefogkdaaGreatDoor
