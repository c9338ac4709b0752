/- The walk of the law FnUnnormalizedSmall: a path in its own letters, made normal, is the path; its last part, its folder and its container likewise. Conditions: a site in memory, texts that fit into the platform's addresses. -/
import Derived.Test.YtfekhbnefogkdaaGreatDoorKnown
import Derived.Test.YtfekhbnefogkdaaGreatDoorSimM
import Derived.Test.YtfekhbnefogkdaaGreatDoorUnnI
import Derived.Test.YtfekhbnefogkdaaGreatDoorImplN
import Derived.Test.YtfekhbnefogkdaaGreatDoorHelpM
import Derived.Test.YtfekhbnefogkdaaGreatDoorTwice
import Derived.Test.YtfekhbnefogkdaaGreatDoorLawP
import Derived.Test.YtfekhbnefogkdaaGreatDoorOpen
import Derived.Test.YtfekhbnefogkdaaGreatDoorRows
import Derived.Test.YtfekhbnefogkdaaGreatDoorCards
import Derived.Test.YtfekhbnefogkdaaGreatDoorTie
import Derived.ProofKit
import Derived.OpenShut
import Derived.ShutString
import Derived.ChangeOld
import Derived.SizedLaws
import Derived.LaidMore
import Derived.Lay
import Derived.SevenTiedAt
import Derived.Stop.Joined
import Derived.Carry
set_option maxRecDepth 100000
set_option linter.unusedVariables false
set_option linter.unusedSimpArgs false
namespace Go.Proofs.YtfekhbnefogkdaaGreatDoor
open Go.RowKit
attribute [local go_sem] B_extract B_toList B_append

set_option maxHeartbeats 8000000 in
theorem w_FnUnnormalizedSmall (site : SiteM) (comp s : Str) (vl vd vf vc : Value) (w : World) (hv : SiteAt w vl vd vf vc site) (hcl : CapOK vl) (hcd : CapOK vd) (hcc : CapOK vc) (hc0 : comp.length <= 140737488351232) (hs0 : s.length <= 140737488351232) :
  Calls Tryz.prog 6 #[.agg #[vl, vd, vf, vc], .string (B comp), .string (B s)] w fun e w' => e = .returned (.bool true) /\ Below w.heap.size w w' := by
 have HZ : Hid (∀ wx, SiteAt wx vl vd vf vc site -> Calls Tryz.prog 9 #[.agg #[vl, vd, vf, vc]] wx fun e w' => e = .returned (.bool (siteFits site)) /\ Below wx.heap.size wx w') := fun wx h => c_zzFits1 site vl vd vf vc wx h
 have HKN : Hid (siteFits site = true -> comp.length <= 2147483647 -> s.length <= 2147483647 -> ∀ wx, SiteAt wx vl vd vf vc site -> Calls Tryz.prog 10 #[.agg #[vl, vd, vf, vc], .string (B comp), .string (B s)] wx
   fun e w' => ∃ v T, e = .returned (.tuple #[v, .bool (knownL site comp s)]) /\ ToldAtN wx.heap.size w' v T /\ Below wx.heap.size wx w' /\ (knownL site comp s = true -> T = toldM (doParseM site comp (normL s)))) := fun hf h1 h2 wx h => c_known site comp s vl vd vf vc wx h hcl hcd hcc hf h1 h2
 have HPK : Hid (knownL site comp s = true -> pathKnown site comp s = true) := fun h => by unfold knownL at h; rw [Bool.and_eq_true] at h; exact h.2
 have HUK : Hid (siteFits site = true -> comp.length <= 2147483647 -> s.length <= 2147483647 -> ∀ wx, SiteAt wx vl vd vf vc site -> Calls Tryz.prog 19 #[.agg #[vl, vd, vf, vc], .string (B comp), .string (B s)] wx fun e w' => e = .returned (.bool (pathKnown site comp s)) /\ Below wx.heap.size wx w') := fun hf hc hs wx h => c_UnnKnown site comp s vl vd vf vc wx h hcl hcd hcc hf hc hs
 have HIU : Hid (pathKnown site comp s = true -> ∀ wx, SiteAt wx vl vd vf vc site -> Calls Tryz.prog 20 #[.agg #[vl, vd, vf, vc], .string (B comp), .string (B s)] wx fun e w' => ∃ v, e = .returned v /\ ToldAtN wx.heap.size w' v (toldM (doParseM site comp s)) /\ Below wx.heap.size wx w') := fun hk wx h => by
  obtain ⟨h1, h2, h3, h4, h5⟩ := pathKnown_site hk
  exact c_implUnn wx site comp s vl vd vf vc h (siteKnown_once h1) (by omega) h3
 obtain ⟨obs, hobs⟩ : ∃ o : Obj, o = .cells #[vl, vd, vf, vc] 25 := ⟨_, rfl⟩
 have hB1 : Hid (Below w.heap.size w (w.alloc obs)) := Below_alloc w obs
 have hsb : Hid ((w.alloc obs).heap[w.heap.size]? = some (.cells #[vl, vd, vf, vc] 25)) := by show _ = _; rw [hobs]; exact blk_new w _
 have HV1 : Hid (SiteAt (w.alloc obs) vl vd vf vc site) := hv.alloc obs
 clear hv hcl hcd hcc
 cases h1 : siteFits site with
 | false =>
  rw [h1] at HZ
  go_enter Tryz.func6, Tryz.ntmps6
  go_wp2_with fail
  rw [<- hobs]
  generalize w.alloc obs = w1 at hB1 hsb HV1 |-
  refine (HZ.out _ HV1.out).mono ?_; rintro e w2 ⟨rfl, b2⟩
  have hB2 := Lib.hid (belowThen hB1.out b2 (Nat.le_refl _))
  go_wp2_with fail
  go_ret
  exact ⟨rfl, hB2.out⟩
 | true =>
 rw [h1] at HZ
 by_cases h2 : comp.length <= 2147483647
 rotate_left 1
 ·skip
  go_enter Tryz.func6, Tryz.ntmps6
  go_wp2_with fail
  rw [<- hobs]
  generalize w.alloc obs = w1 at hB1 hsb HV1 |-
  refine (HZ.out _ HV1.out).mono ?_; rintro e w2 ⟨rfl, b2⟩
  have hB2 := Lib.hid (belowThen hB1.out b2 (Nat.le_refl _))
  go_wp2_with fail
  go_ret
  exact ⟨rfl, hB2.out⟩
 by_cases h3 : s.length <= 2147483647
 rotate_left 1
 ·skip
  go_enter Tryz.func6, Tryz.ntmps6
  go_wp2_with fail
  rw [<- hobs]
  generalize w.alloc obs = w1 at hB1 hsb HV1 |-
  refine (HZ.out _ HV1.out).mono ?_; rintro e w2 ⟨rfl, b2⟩
  have hB2 := Lib.hid (belowThen hB1.out b2 (Nat.le_refl _))
  go_wp2_with fail
  go_ret
  exact ⟨rfl, hB2.out⟩
 cases hk : knownL site comp s with
 | false =>
  go_enter Tryz.func6, Tryz.ntmps6
  go_wp2_with fail
  rw [<- hobs]
  generalize w.alloc obs = w1 at hB1 hsb HV1 |-
  refine (HZ.out _ HV1.out).mono ?_; rintro e w2 ⟨rfl, b2⟩
  have hB2 := Lib.hid (belowThen hB1.out b2 (Nat.le_refl _))
  have hsb2 := Lib.hid (blk_below hsb.out b2)
  have HV2 := Lib.hid (HV1.out.below b2)
  obtain ⟨k0, k1, k2, k3⟩ : w2.cell? ⟨w.heap.size, 0, none⟩ = some vl /\ w2.cell? ⟨w.heap.size, 1, none⟩ = some vd /\ w2.cell? ⟨w.heap.size, 2, none⟩ = some vf /\ w2.cell? ⟨w.heap.size, 3, none⟩ = some vc := ⟨cell_blk hsb2.out 0, cell_blk hsb2.out 1, cell_blk hsb2.out 2, cell_blk hsb2.out 3⟩
  clear b2 hsb HV1 hB1 HZ
  go_wp2_with fail
  refine (HKN.out h1 h2 h3 _ HV2.out).mono ?_; rintro e w3 ⟨v, T, rfl, ⟨ql, qi, qu, rfl, ⟨s1, n1⟩, ⟨s2, n2⟩, ⟨s3, n3⟩⟩, b3, hT⟩
  clear k0 k1 k2 k3 HKN
  rw [hk]
  obtain ⟨a1, l1, c1, rfl⟩ := s1.slice
  obtain ⟨a2, l2, c2, rfl⟩ := s2.slice
  obtain ⟨a3, l3, c3, rfl⟩ := s3.slice
  obtain ⟨cs, hcs, hsz, hone⟩ := told_cells T a1 a2 a3 l1 l2 l3 c1 c2 c3
  rw [hcs]
  have hB3 := Lib.hid (belowThen hB2.out b3 (Nat.le_refl _))
  have hz3 : w.heap.size <= w3.heap.size := hB3.out.size
  replace s1 := Lib.hid s1
  replace s2 := Lib.hid s2
  replace s3 := Lib.hid s3
  replace hcs := Lib.hid hcs
  have hV3 := Lib.hid (HV2.out.below b3)
  have hsb3 := Lib.hid (blk_below hsb2.out b3)
  clear n1 n2 n3 b3 hB2 hsb2 HV2
  go_wp2_with (refine wpList_store_row rfl 28 (.tmp 7) (.tmp 28) rfl w3.heap.size cs rfl rfl 28 _ (blk_new w3 _) (by rw [hsz]; kernel_rfl) (by rw [hsz]; rfl) hone (Hid.out ?_))
  have hrow := Lib.hid (setRow_heap (w3.alloc (.cells #[.string (B []), .string (B []), .string (B []), .string (B []), .string (B []), .string (B []), .string (B []), .string (B []), .string (B []), .string (B []), .string (B []), .string (B []), .string (B []), .string (B []), .string (B []), .string (B []), .string (B []), .string (B []), .string (B []), .string (B []), .string (B []), .slice none 0 0, .slice none 0 0, .slice none 0 0, .bool false, .bool false, .bool false, .bool false, .bool false, .bool false, .int .i64 0] 28)) w3.heap.size _ cs _ _ (blk_new w3 _))
  have hbel3 : Hid (Below w3.heap.size w3 ((w3.alloc (.cells #[.string (B []), .string (B []), .string (B []), .string (B []), .string (B []), .string (B []), .string (B []), .string (B []), .string (B []), .string (B []), .string (B []), .string (B []), .string (B []), .string (B []), .string (B []), .string (B []), .string (B []), .string (B []), .string (B []), .string (B []), .string (B []), .slice none 0 0, .slice none 0 0, .slice none 0 0, .bool false, .bool false, .bool false, .bool false, .bool false, .bool false, .int .i64 0] 28)).setRow w3.heap.size cs)) := (Below_alloc w3 _).trans ⟨rfl, rfl, rfl, by simp, fun k hk => setRow_other _ _ _ _ (by omega)⟩
  have hbel := Lib.hid (belowThen hB3.out hbel3.out (Nat.le_refl _))
  have t1 := Lib.hid (s1.out.below hbel3.out)
  have t2 := Lib.hid (s2.out.below hbel3.out)
  have t3 := Lib.hid (s3.out.below hbel3.out)
  have hV4 := Lib.hid (hV3.out.below hbel3.out)
  have hsb4 := Lib.hid (blk_below hsb3.out hbel3.out)
  clear s1 s2 s3 hV3 hB3 hbel3 hsb3
  generalize (w3.alloc _).setRow _ _ = wf at hrow hbel t1 t2 t3 hV4 hsb4 |-
  generalize w3.heap.size = gT at hrow |-
  refine Lib.hid ?_
  go_wp2_with fail
  go_ret
  exact ⟨rfl, hbel.out⟩
 | true =>
  go_enter Tryz.func6, Tryz.ntmps6
  go_wp2_with fail
  rw [<- hobs]
  generalize w.alloc obs = w1 at hB1 hsb HV1 |-
  refine (HZ.out _ HV1.out).mono ?_; rintro e w2 ⟨rfl, b2⟩
  have hB2 := Lib.hid (belowThen hB1.out b2 (Nat.le_refl _))
  have hsb2 := Lib.hid (blk_below hsb.out b2)
  have HV2 := Lib.hid (HV1.out.below b2)
  obtain ⟨k0, k1, k2, k3⟩ : w2.cell? ⟨w.heap.size, 0, none⟩ = some vl /\ w2.cell? ⟨w.heap.size, 1, none⟩ = some vd /\ w2.cell? ⟨w.heap.size, 2, none⟩ = some vf /\ w2.cell? ⟨w.heap.size, 3, none⟩ = some vc := ⟨cell_blk hsb2.out 0, cell_blk hsb2.out 1, cell_blk hsb2.out 2, cell_blk hsb2.out 3⟩
  clear b2 hsb HV1 hB1 HZ
  go_wp2_with fail
  refine (HKN.out h1 h2 h3 _ HV2.out).mono ?_; rintro e w3 ⟨v, T, rfl, ⟨ql, qi, qu, rfl, ⟨s1, n1⟩, ⟨s2, n2⟩, ⟨s3, n3⟩⟩, b3, hT⟩
  clear k0 k1 k2 k3 HKN
  rw [hk]
  obtain ⟨a1, l1, c1, rfl⟩ := s1.slice
  obtain ⟨a2, l2, c2, rfl⟩ := s2.slice
  obtain ⟨a3, l3, c3, rfl⟩ := s3.slice
  obtain ⟨cs, hcs, hsz, hone⟩ := told_cells T a1 a2 a3 l1 l2 l3 c1 c2 c3
  rw [hcs]
  have hB3 := Lib.hid (belowThen hB2.out b3 (Nat.le_refl _))
  have hz3 : w.heap.size <= w3.heap.size := hB3.out.size
  replace s1 := Lib.hid s1
  replace s2 := Lib.hid s2
  replace s3 := Lib.hid s3
  replace hcs := Lib.hid hcs
  have hV3 := Lib.hid (HV2.out.below b3)
  have hsb3 := Lib.hid (blk_below hsb2.out b3)
  clear n1 n2 n3 b3 hB2 hsb2 HV2
  go_wp2_with (refine wpList_store_row rfl 28 (.tmp 7) (.tmp 28) rfl w3.heap.size cs rfl rfl 28 _ (blk_new w3 _) (by rw [hsz]; kernel_rfl) (by rw [hsz]; rfl) hone (Hid.out ?_))
  have hrow := Lib.hid (setRow_heap (w3.alloc (.cells #[.string (B []), .string (B []), .string (B []), .string (B []), .string (B []), .string (B []), .string (B []), .string (B []), .string (B []), .string (B []), .string (B []), .string (B []), .string (B []), .string (B []), .string (B []), .string (B []), .string (B []), .string (B []), .string (B []), .string (B []), .string (B []), .slice none 0 0, .slice none 0 0, .slice none 0 0, .bool false, .bool false, .bool false, .bool false, .bool false, .bool false, .int .i64 0] 28)) w3.heap.size _ cs _ _ (blk_new w3 _))
  have hbel3 : Hid (Below w3.heap.size w3 ((w3.alloc (.cells #[.string (B []), .string (B []), .string (B []), .string (B []), .string (B []), .string (B []), .string (B []), .string (B []), .string (B []), .string (B []), .string (B []), .string (B []), .string (B []), .string (B []), .string (B []), .string (B []), .string (B []), .string (B []), .string (B []), .string (B []), .string (B []), .slice none 0 0, .slice none 0 0, .slice none 0 0, .bool false, .bool false, .bool false, .bool false, .bool false, .bool false, .int .i64 0] 28)).setRow w3.heap.size cs)) := (Below_alloc w3 _).trans ⟨rfl, rfl, rfl, by simp, fun k hk => setRow_other _ _ _ _ (by omega)⟩
  have hbel := Lib.hid (belowThen hB3.out hbel3.out (Nat.le_refl _))
  have t1 := Lib.hid (s1.out.below hbel3.out)
  have t2 := Lib.hid (s2.out.below hbel3.out)
  have t3 := Lib.hid (s3.out.below hbel3.out)
  have hV4 := Lib.hid (hV3.out.below hbel3.out)
  have hsb4 := Lib.hid (blk_below hsb3.out hbel3.out)
  clear s1 s2 s3 hV3 hB3 hbel3 hsb3
  generalize (w3.alloc _).setRow _ _ = wf at hrow hbel t1 t2 t3 hV4 hsb4 |-
  generalize w3.heap.size = gT at hrow |-
  refine Lib.hid ?_
  have hT2 : Hid (T = toldM (doParseM site comp (normL s))) := hT hk
  have hpk := HPK.out hk
  have hFx : Hid (Facts site comp s T) := by have h := facts hpk; rw [<- hT2.out] at h; exact h
  obtain ⟨e1, e2, e3, e4, hs400⟩ := pathKnown_len hpk
  clear hT e1 e2 e4
  have f1 : (T.path == []) = false := by rw [beq_eq_false_iff_ne]; exact hFx.out.ne
  have hcs2 : Hid (cs = #[.string (B T.component), .string (B T.container), .string (B T.containerDir), .string (B T.section_), .string (B T.name), .string (B T.nameNoExt), .string (B T.baseName), .string (B T.nameNoId), .string (B T.dir), .string (B T.path), .string (B T.pathNoLang), .string (B T.pathNoId), .string (B T.pathBefore), .string (B T.base), .string (B T.idBase), .string (B T.ext), .string (B T.format), .string (B T.kind), .string (B T.layout), .string (B T.lang), .string (B T.custom), .slice a1 l1 c1, .slice a2 l2 c2, .slice a3 l3 c3, .bool T.disabled, .bool T.isContent, .bool T.isBundle, .bool T.isBranch, .bool T.isLeaf, .bool T.isData, .int .i64 T.typ]) := (Value.agg.inj hcs.out).symm
  have hsbA := hsb4
  have hrowA := hrow
  have hVA := hV4
  have hbelA := hbel
  have t1A := t1
  have t2A := t2
  have t3A := t3
  clear hsb4 hrow hV4 hbel t1 t2 t3
  obtain ⟨TT, hTT⟩ : ∃ x, x = toldM (doParseM site comp s) := ⟨_, rfl⟩
  have HI2 := Lib.hid (HIU.out hpk)
  have HK2 := Lib.hid (HUK.out h1 h2 h3)
  rw [<- hTT] at HI2
  rw [hpk] at HK2
  have hS : SmallOf TT T := by rw [hTT, hT2.out]; exact unn_small hpk
  have hpe : TT.path.isEmpty = false := List.isEmpty_eq_false_iff.2 hS.ne
  have HN9 : Hid (∀ wx, Calls Tryz.prog 21 #[.string (B TT.path)] wx fun e w' => e = .returned (.string (B T.path)) /\ Below wx.heap.size wx w') := fun wx => by rw [<- hS.path]; exact c_implNormalize TT.path wx (by have := hS.lp; omega) hS.ap
  have HN4 : Hid (∀ wx, Calls Tryz.prog 21 #[.string (B TT.name)] wx fun e w' => e = .returned (.string (B T.name)) /\ Below wx.heap.size wx w') := fun wx => by rw [<- hS.name]; exact c_implNormalize TT.name wx (by have := hS.ln; omega) hS.an
  have HN8 : Hid (∀ wx, Calls Tryz.prog 21 #[.string (B TT.dir)] wx fun e w' => e = .returned (.string (B T.dir)) /\ Below wx.heap.size wx w') := fun wx => by rw [<- hS.dir]; exact c_implNormalize TT.dir wx (by have := hS.ld; omega) hS.ad
  have HN1 : Hid (∀ wx, Calls Tryz.prog 21 #[.string (B TT.container)] wx fun e w' => e = .returned (.string (B T.container)) /\ Below wx.heap.size wx w') := fun wx => by rw [<- hS.container]; exact c_implNormalize TT.container wx (by have := hS.lc; omega) hS.ac
  clear HIU HUK hT2 hTT hS hFx f1
  obtain ⟨z0, z1, z2, z3⟩ : wf.cell? ⟨w.heap.size, 0, none⟩ = some vl /\ wf.cell? ⟨w.heap.size, 1, none⟩ = some vd /\ wf.cell? ⟨w.heap.size, 2, none⟩ = some vf /\ wf.cell? ⟨w.heap.size, 3, none⟩ = some vc := ⟨cell_blk hsbA.out 0, cell_blk hsbA.out 1, cell_blk hsbA.out 2, cell_blk hsbA.out 3⟩
  go_wp2_with fail
  refine (HK2.out _ hVA.out).mono ?_; rintro e w5 ⟨rfl, b5⟩
  have hrow5 := Lib.hid (blk_below hrowA.out b5)
  have hsb5 := Lib.hid (blk_below hsbA.out b5)
  have hV5 := Lib.hid (hVA.out.below b5)
  have hbel5 := Lib.hid (belowThen hbelA.out b5 (Nat.le_refl _))
  have t15 := Lib.hid (t1A.out.below b5)
  have t25 := Lib.hid (t2A.out.below b5)
  have t35 := Lib.hid (t3A.out.below b5)
  clear hrowA hsbA hVA hbelA t1A t2A t3A z0 z1 z2 z3
  obtain ⟨z0, z1, z2, z3⟩ : w5.cell? ⟨w.heap.size, 0, none⟩ = some vl /\ w5.cell? ⟨w.heap.size, 1, none⟩ = some vd /\ w5.cell? ⟨w.heap.size, 2, none⟩ = some vf /\ w5.cell? ⟨w.heap.size, 3, none⟩ = some vc := ⟨cell_blk hsb5.out 0, cell_blk hsb5.out 1, cell_blk hsb5.out 2, cell_blk hsb5.out 3⟩
  clear b5 HK2
  go_wp2_with fail
  refine (HI2.out _ hV5.out).mono ?_; rintro e w7 ⟨v7, rfl, ⟨ql, qi, qu, rfl, ⟨s1, n1⟩, ⟨s2, n2⟩, ⟨s3, n3⟩⟩, b7⟩
  obtain ⟨p1, m1, d1, rfl⟩ := s1.slice
  obtain ⟨p2, m2, d2, rfl⟩ := s2.slice
  obtain ⟨p3, m3, d3, rfl⟩ := s3.slice
  obtain ⟨ds, hds, hdz, hdone⟩ := told_cells TT p1 p2 p3 m1 m2 m3 d1 d2 d3
  rw [hds]
  replace hds := Lib.hid hds
  replace s2 := Lib.hid s2
  replace hdz := Lib.hid hdz
  have hrow7 := Lib.hid (blk_below hrow5.out b7)
  have hsb7 := Lib.hid (blk_below hsb5.out b7)
  have hV7 := Lib.hid (hV5.out.below b7)
  have hbel7 := Lib.hid (belowThen hbel5.out b7 (Nat.le_refl _))
  have t17 := Lib.hid (t15.out.below b7)
  have t27 := Lib.hid (t25.out.below b7)
  have t37 := Lib.hid (t35.out.below b7)
  clear hrow5 hsb5 hV5 hbel5 t15 t25 t35 z0 z1 z2 z3
  clear b7 n1 n2 n3 s1 s3
  go_wp2_with (refine wpList_store_row rfl 28 (.tmp 9) (.tmp 42) rfl w7.heap.size ds rfl rfl 28 _ (blk_new w7 _) (by rw [hdz.out]; kernel_rfl) (by rw [hdz.out]; rfl) hdone (Hid.out ?_))
  have hrow2 := Lib.hid (setRow_heap (w7.alloc (.cells #[.string (B []), .string (B []), .string (B []), .string (B []), .string (B []), .string (B []), .string (B []), .string (B []), .string (B []), .string (B []), .string (B []), .string (B []), .string (B []), .string (B []), .string (B []), .string (B []), .string (B []), .string (B []), .string (B []), .string (B []), .string (B []), .slice none 0 0, .slice none 0 0, .slice none 0 0, .bool false, .bool false, .bool false, .bool false, .bool false, .bool false, .int .i64 0] 28)) w7.heap.size _ ds _ _ (blk_new w7 _))
  have b8 : Below w7.heap.size w7 ((w7.alloc (.cells #[.string (B []), .string (B []), .string (B []), .string (B []), .string (B []), .string (B []), .string (B []), .string (B []), .string (B []), .string (B []), .string (B []), .string (B []), .string (B []), .string (B []), .string (B []), .string (B []), .string (B []), .string (B []), .string (B []), .string (B []), .string (B []), .slice none 0 0, .slice none 0 0, .slice none 0 0, .bool false, .bool false, .bool false, .bool false, .bool false, .bool false, .int .i64 0] 28)).setRow w7.heap.size ds) := (Below_alloc w7 _).trans ⟨rfl, rfl, rfl, by simp, fun k hk => setRow_other _ _ _ _ (by omega)⟩
  have u2 := Lib.hid (s2.out.below b8)
  have hrow8 := Lib.hid (blk_below hrow7.out b8)
  have hbel8 := Lib.hid (belowThen hbel7.out b8 (Nat.le_refl _))
  have t28 := Lib.hid (t27.out.below b8)
  clear b8 hrow7 hsb7 hV7 hbel7 t17 t27 t37 s2
  generalize (w7.alloc _).setRow _ _ = wf at hrow2 hrow8 hbel8 t28 u2 |-
  generalize w7.heap.size = gU at hrow2 |-
  refine Lib.hid ?_
  have hds2 : Hid (ds = #[.string (B TT.component), .string (B TT.container), .string (B TT.containerDir), .string (B TT.section_), .string (B TT.name), .string (B TT.nameNoExt), .string (B TT.baseName), .string (B TT.nameNoId), .string (B TT.dir), .string (B TT.path), .string (B TT.pathNoLang), .string (B TT.pathNoId), .string (B TT.pathBefore), .string (B TT.base), .string (B TT.idBase), .string (B TT.ext), .string (B TT.format), .string (B TT.kind), .string (B TT.layout), .string (B TT.lang), .string (B TT.custom), .slice p1 m1 d1, .slice p2 m2 d2, .slice p3 m3 d3, .bool TT.disabled, .bool TT.isContent, .bool TT.isBundle, .bool TT.isBranch, .bool TT.isLeaf, .bool TT.isData, .int .i64 TT.typ]) := (Value.agg.inj hds.out).symm
  clear t28 u2 HI2
  go_upto_region 7 with fail
  refine wp_region_held (S := fun w' => Below wf.drew.heap.size wf.drew w') (by kernel_rfl) ?_
  change wpAnyH _ _ _ _ _ _ _ _ wf.drew
  replace hrow2 : Hid (wf.drew.heap[gU]? = some (.cells ds 28)) := hrow2.out
  replace hrow8 : Hid (wf.drew.heap[gT]? = some (.cells cs 28)) := hrow8.out
  replace hbel8 : Hid (Below w.heap.size w wf.drew) := Below_drewN hbel8.out 1
  generalize wf.drew = wr at hrow2 hrow8 hbel8 |-
  have hd : Below wr.heap.size wr wr := Below.refl _ _
  refine wpAnyH_take (i := 0) (v := .pointer (some ⟨gU, 9, none⟩)) rfl (by kernel_rfl) (by kernel_rfl) (by kernel_rfl) (fun _ _ _ h => h) (Or.inl ⟨by rfl, fun w' hw' => by
    go_simp⟩) hd ?_
  try simp only [List.getElem_toArray, List.getElem_cons_succ, List.getElem_cons_zero, Act.put, List.setIfInBounds_toArray, List.set_cons_zero, List.set_cons_succ]
  refine wpAnyH_take (i := 1) (v := .string (B TT.path)) rfl (by kernel_rfl) (by kernel_rfl) (by kernel_rfl) (fun _ _ _ h => h) (Or.inl ⟨by rfl, fun w' hw' => by
    have y : w'.cell? ⟨gU, 9, none⟩ = some (.string (B TT.path)) := by rw [cell_blk (blk_below hrow2.out hw') 9, hds2.out]; rfl
    go_simp⟩) hd ?_
  try simp only [List.getElem_toArray, List.getElem_cons_succ, List.getElem_cons_zero, Act.put, List.setIfInBounds_toArray, List.set_cons_zero, List.set_cons_succ]
  refine wpAnyH_take (i := 2) (v := .bool true) rfl (by kernel_rfl) (by kernel_rfl) (by kernel_rfl) (fun _ _ _ h => h) (Or.inl ⟨by rfl, fun w' hw' => by
    go_simp⟩) hd ?_
  try simp only [List.getElem_toArray, List.getElem_cons_succ, List.getElem_cons_zero, Act.put, List.setIfInBounds_toArray, List.set_cons_zero, List.set_cons_succ]
  refine wpAnyH_take (i := 3) (v := .bool true) rfl (by kernel_rfl) (by kernel_rfl) (by kernel_rfl) (fun _ _ _ h => h) (Or.inl ⟨by rfl, fun w' hw' => by
    go_simp⟩) hd ?_
  try simp only [List.getElem_toArray, List.getElem_cons_succ, List.getElem_cons_zero, Act.put, List.setIfInBounds_toArray, List.set_cons_zero, List.set_cons_succ]
  refine wpAnyH_take (i := 4) (v := .pointer (some ⟨gU, 9, none⟩)) rfl (by kernel_rfl) (by kernel_rfl) (by kernel_rfl) (fun _ _ _ h => h) (Or.inl ⟨by rfl, fun w' hw' => by
    go_simp⟩) hd ?_
  try simp only [List.getElem_toArray, List.getElem_cons_succ, List.getElem_cons_zero, Act.put, List.setIfInBounds_toArray, List.set_cons_zero, List.set_cons_succ]
  refine wpAnyH_take (i := 5) (v := .string (B TT.path)) rfl (by kernel_rfl) (by kernel_rfl) (by kernel_rfl) (fun _ _ _ h => h) (Or.inl ⟨by rfl, fun w' hw' => by
    have y : w'.cell? ⟨gU, 9, none⟩ = some (.string (B TT.path)) := by rw [cell_blk (blk_below hrow2.out hw') 9, hds2.out]; rfl
    go_simp⟩) hd ?_
  refine wpAnyH_take (i := 7) (v := .pointer (some ⟨gT, 9, none⟩)) rfl (by kernel_rfl) (by kernel_rfl) (by kernel_rfl) (fun _ _ _ h => h) (Or.inl ⟨by rfl, fun w' hw' => by
    go_simp⟩) hd ?_
  try simp only [List.getElem_toArray, List.getElem_cons_succ, List.getElem_cons_zero, Act.put, List.setIfInBounds_toArray, List.set_cons_zero, List.set_cons_succ]
  refine wpAnyH_take (i := 8) (v := .string (B T.path)) rfl (by kernel_rfl) (by kernel_rfl) (by kernel_rfl) (fun _ _ _ h => h) (Or.inl ⟨by rfl, fun w' hw' => by
    have y : w'.cell? ⟨gT, 9, none⟩ = some (.string (B T.path)) := by rw [cell_blk (blk_below hrow8.out hw') 9, hcs2.out]; rfl
    go_simp⟩) hd ?_
  try simp only [List.getElem_toArray, List.getElem_cons_succ, List.getElem_cons_zero, Act.put, List.setIfInBounds_toArray, List.set_cons_zero, List.set_cons_succ]
  refine wpAnyH_all (rs := [6]) (by kernel_rfl) (by simp) ?_
  intro i hi
  obtain rfl := List.mem_singleton.1 hi
  refine wpOp_step rfl (fun K hK => ?_)
  rw [if_pos (by rfl)]
  go_simp
  refine (HN9.out _).mono ?_; rintro e w10 ⟨rfl, b10⟩
  have hd : Below wr.heap.size wr w10 := belowThen hd b10 (Nat.le_refl _)
  refine hK _ _ ⟨hd, ?_⟩
  clear hK K
  try simp only [List.getElem_toArray, List.getElem_cons_succ, List.getElem_cons_zero, Act.put, List.setIfInBounds_toArray, List.set_cons_zero, List.set_cons_succ]
  refine wpAnyH_take (i := 9) (v := .bool true) rfl (by kernel_rfl) (by kernel_rfl) (by kernel_rfl) (fun _ _ _ h => h) (Or.inl ⟨by rfl, fun w' hw' => by
    go_simp⟩) hd ?_
  try simp only [List.getElem_toArray, List.getElem_cons_succ, List.getElem_cons_zero, Act.put, List.setIfInBounds_toArray, List.set_cons_zero, List.set_cons_succ]
  refine wpAnyH_take (i := 10) (v := .bool true) rfl (by kernel_rfl) (by kernel_rfl) (by kernel_rfl) (fun _ _ _ h => h) (Or.inl ⟨by rfl, fun w' hw' => by
    go_simp⟩) hd ?_
  try simp only [List.getElem_toArray, List.getElem_cons_succ, List.getElem_cons_zero, Act.put, List.setIfInBounds_toArray, List.set_cons_zero, List.set_cons_succ]
  refine wpAnyH_take (i := 11) (v := .bool true) rfl (by kernel_rfl) (by kernel_rfl) (by kernel_rfl) (fun _ _ _ h => h) (Or.inl ⟨by rfl, fun w' hw' => by
    go_simp⟩) hd ?_
  try simp only [List.getElem_toArray, List.getElem_cons_succ, List.getElem_cons_zero, Act.put, List.setIfInBounds_toArray, List.set_cons_zero, List.set_cons_succ]
  refine wpAnyH_take (i := 12) (v := .pointer (some ⟨gU, 4, none⟩)) rfl (by kernel_rfl) (by kernel_rfl) (by kernel_rfl) (fun _ _ _ h => h) (Or.inl ⟨by rfl, fun w' hw' => by
    go_simp⟩) hd ?_
  try simp only [List.getElem_toArray, List.getElem_cons_succ, List.getElem_cons_zero, Act.put, List.setIfInBounds_toArray, List.set_cons_zero, List.set_cons_succ]
  refine wpAnyH_take (i := 13) (v := .string (B TT.name)) rfl (by kernel_rfl) (by kernel_rfl) (by kernel_rfl) (fun _ _ _ h => h) (Or.inl ⟨by rfl, fun w' hw' => by
    have y : w'.cell? ⟨gU, 4, none⟩ = some (.string (B TT.name)) := by rw [cell_blk (blk_below hrow2.out hw') 4, hds2.out]; rfl
    go_simp⟩) hd ?_
  refine wpAnyH_take (i := 15) (v := .pointer (some ⟨gT, 4, none⟩)) rfl (by kernel_rfl) (by kernel_rfl) (by kernel_rfl) (fun _ _ _ h => h) (Or.inl ⟨by rfl, fun w' hw' => by
    go_simp⟩) hd ?_
  try simp only [List.getElem_toArray, List.getElem_cons_succ, List.getElem_cons_zero, Act.put, List.setIfInBounds_toArray, List.set_cons_zero, List.set_cons_succ]
  refine wpAnyH_take (i := 16) (v := .string (B T.name)) rfl (by kernel_rfl) (by kernel_rfl) (by kernel_rfl) (fun _ _ _ h => h) (Or.inl ⟨by rfl, fun w' hw' => by
    have y : w'.cell? ⟨gT, 4, none⟩ = some (.string (B T.name)) := by rw [cell_blk (blk_below hrow8.out hw') 4, hcs2.out]; rfl
    go_simp⟩) hd ?_
  try simp only [List.getElem_toArray, List.getElem_cons_succ, List.getElem_cons_zero, Act.put, List.setIfInBounds_toArray, List.set_cons_zero, List.set_cons_succ]
  refine wpAnyH_all (rs := [14]) (by kernel_rfl) (by simp) ?_
  intro i hi
  obtain rfl := List.mem_singleton.1 hi
  refine wpOp_step rfl (fun K hK => ?_)
  rw [if_pos (by rfl)]
  go_simp
  refine (HN4.out _).mono ?_; rintro e w11 ⟨rfl, b11⟩
  have hd : Below wr.heap.size wr w11 := belowThen hd b11 (Nat.le_refl _)
  refine hK _ _ ⟨hd, ?_⟩
  clear hK K
  try simp only [List.getElem_toArray, List.getElem_cons_succ, List.getElem_cons_zero, Act.put, List.setIfInBounds_toArray, List.set_cons_zero, List.set_cons_succ]
  refine wpAnyH_take (i := 17) (v := .bool true) rfl (by kernel_rfl) (by kernel_rfl) (by kernel_rfl) (fun _ _ _ h => h) (Or.inl ⟨by rfl, fun w' hw' => by
    go_simp⟩) hd ?_
  try simp only [List.getElem_toArray, List.getElem_cons_succ, List.getElem_cons_zero, Act.put, List.setIfInBounds_toArray, List.set_cons_zero, List.set_cons_succ]
  refine wpAnyH_take (i := 18) (v := .bool true) rfl (by kernel_rfl) (by kernel_rfl) (by kernel_rfl) (fun _ _ _ h => h) (Or.inl ⟨by rfl, fun w' hw' => by
    go_simp⟩) hd ?_
  try simp only [List.getElem_toArray, List.getElem_cons_succ, List.getElem_cons_zero, Act.put, List.setIfInBounds_toArray, List.set_cons_zero, List.set_cons_succ]
  refine wpAnyH_take (i := 19) (v := .bool true) rfl (by kernel_rfl) (by kernel_rfl) (by kernel_rfl) (fun _ _ _ h => h) (Or.inl ⟨by rfl, fun w' hw' => by
    go_simp⟩) hd ?_
  try simp only [List.getElem_toArray, List.getElem_cons_succ, List.getElem_cons_zero, Act.put, List.setIfInBounds_toArray, List.set_cons_zero, List.set_cons_succ]
  refine wpAnyH_take (i := 20) (v := .pointer (some ⟨gU, 8, none⟩)) rfl (by kernel_rfl) (by kernel_rfl) (by kernel_rfl) (fun _ _ _ h => h) (Or.inl ⟨by rfl, fun w' hw' => by
    go_simp⟩) hd ?_
  try simp only [List.getElem_toArray, List.getElem_cons_succ, List.getElem_cons_zero, Act.put, List.setIfInBounds_toArray, List.set_cons_zero, List.set_cons_succ]
  refine wpAnyH_take (i := 21) (v := .string (B TT.dir)) rfl (by kernel_rfl) (by kernel_rfl) (by kernel_rfl) (fun _ _ _ h => h) (Or.inl ⟨by rfl, fun w' hw' => by
    have y : w'.cell? ⟨gU, 8, none⟩ = some (.string (B TT.dir)) := by rw [cell_blk (blk_below hrow2.out hw') 8, hds2.out]; rfl
    go_simp⟩) hd ?_
  refine wpAnyH_take (i := 23) (v := .pointer (some ⟨gT, 8, none⟩)) rfl (by kernel_rfl) (by kernel_rfl) (by kernel_rfl) (fun _ _ _ h => h) (Or.inl ⟨by rfl, fun w' hw' => by
    go_simp⟩) hd ?_
  try simp only [List.getElem_toArray, List.getElem_cons_succ, List.getElem_cons_zero, Act.put, List.setIfInBounds_toArray, List.set_cons_zero, List.set_cons_succ]
  refine wpAnyH_take (i := 24) (v := .string (B T.dir)) rfl (by kernel_rfl) (by kernel_rfl) (by kernel_rfl) (fun _ _ _ h => h) (Or.inl ⟨by rfl, fun w' hw' => by
    have y : w'.cell? ⟨gT, 8, none⟩ = some (.string (B T.dir)) := by rw [cell_blk (blk_below hrow8.out hw') 8, hcs2.out]; rfl
    go_simp⟩) hd ?_
  try simp only [List.getElem_toArray, List.getElem_cons_succ, List.getElem_cons_zero, Act.put, List.setIfInBounds_toArray, List.set_cons_zero, List.set_cons_succ]
  refine wpAnyH_all (rs := [22]) (by kernel_rfl) (by simp) ?_
  intro i hi
  obtain rfl := List.mem_singleton.1 hi
  refine wpOp_step rfl (fun K hK => ?_)
  rw [if_pos (by rfl)]
  go_simp
  refine (HN8.out _).mono ?_; rintro e w12 ⟨rfl, b12⟩
  have hd : Below wr.heap.size wr w12 := belowThen hd b12 (Nat.le_refl _)
  refine hK _ _ ⟨hd, ?_⟩
  clear hK K
  try simp only [List.getElem_toArray, List.getElem_cons_succ, List.getElem_cons_zero, Act.put, List.setIfInBounds_toArray, List.set_cons_zero, List.set_cons_succ]
  refine wpAnyH_take (i := 25) (v := .bool true) rfl (by kernel_rfl) (by kernel_rfl) (by kernel_rfl) (fun _ _ _ h => h) (Or.inl ⟨by rfl, fun w' hw' => by
    go_simp⟩) hd ?_
  try simp only [List.getElem_toArray, List.getElem_cons_succ, List.getElem_cons_zero, Act.put, List.setIfInBounds_toArray, List.set_cons_zero, List.set_cons_succ]
  refine wpAnyH_take (i := 26) (v := .bool true) rfl (by kernel_rfl) (by kernel_rfl) (by kernel_rfl) (fun _ _ _ h => h) (Or.inl ⟨by rfl, fun w' hw' => by
    go_simp⟩) hd ?_
  try simp only [List.getElem_toArray, List.getElem_cons_succ, List.getElem_cons_zero, Act.put, List.setIfInBounds_toArray, List.set_cons_zero, List.set_cons_succ]
  refine wpAnyH_take (i := 27) (v := .bool true) rfl (by kernel_rfl) (by kernel_rfl) (by kernel_rfl) (fun _ _ _ h => h) (Or.inl ⟨by rfl, fun w' hw' => by
    go_simp⟩) hd ?_
  try simp only [List.getElem_toArray, List.getElem_cons_succ, List.getElem_cons_zero, Act.put, List.setIfInBounds_toArray, List.set_cons_zero, List.set_cons_succ]
  refine wpAnyH_take (i := 28) (v := .pointer (some ⟨gU, 1, none⟩)) rfl (by kernel_rfl) (by kernel_rfl) (by kernel_rfl) (fun _ _ _ h => h) (Or.inl ⟨by rfl, fun w' hw' => by
    go_simp⟩) hd ?_
  try simp only [List.getElem_toArray, List.getElem_cons_succ, List.getElem_cons_zero, Act.put, List.setIfInBounds_toArray, List.set_cons_zero, List.set_cons_succ]
  refine wpAnyH_take (i := 29) (v := .string (B TT.container)) rfl (by kernel_rfl) (by kernel_rfl) (by kernel_rfl) (fun _ _ _ h => h) (Or.inl ⟨by rfl, fun w' hw' => by
    have y : w'.cell? ⟨gU, 1, none⟩ = some (.string (B TT.container)) := by rw [cell_blk (blk_below hrow2.out hw') 1, hds2.out]; rfl
    go_simp⟩) hd ?_
  refine wpAnyH_take (i := 31) (v := .pointer (some ⟨gT, 1, none⟩)) rfl (by kernel_rfl) (by kernel_rfl) (by kernel_rfl) (fun _ _ _ h => h) (Or.inl ⟨by rfl, fun w' hw' => by
    go_simp⟩) hd ?_
  try simp only [List.getElem_toArray, List.getElem_cons_succ, List.getElem_cons_zero, Act.put, List.setIfInBounds_toArray, List.set_cons_zero, List.set_cons_succ]
  refine wpAnyH_take (i := 32) (v := .string (B T.container)) rfl (by kernel_rfl) (by kernel_rfl) (by kernel_rfl) (fun _ _ _ h => h) (Or.inl ⟨by rfl, fun w' hw' => by
    have y : w'.cell? ⟨gT, 1, none⟩ = some (.string (B T.container)) := by rw [cell_blk (blk_below hrow8.out hw') 1, hcs2.out]; rfl
    go_simp⟩) hd ?_
  try simp only [List.getElem_toArray, List.getElem_cons_succ, List.getElem_cons_zero, Act.put, List.setIfInBounds_toArray, List.set_cons_zero, List.set_cons_succ]
  refine wpAnyH_all (rs := [30]) (by kernel_rfl) (by simp) ?_
  intro i hi
  obtain rfl := List.mem_singleton.1 hi
  refine wpOp_step rfl (fun K hK => ?_)
  rw [if_pos (by rfl)]
  go_simp
  refine (HN1.out _).mono ?_; rintro e w13 ⟨rfl, b13⟩
  have hd : Below wr.heap.size wr w13 := belowThen hd b13 (Nat.le_refl _)
  refine hK _ _ ⟨hd, ?_⟩
  clear hK K
  try simp only [List.getElem_toArray, List.getElem_cons_succ, List.getElem_cons_zero, Act.put, List.setIfInBounds_toArray, List.set_cons_zero, List.set_cons_succ]
  refine wpAnyH_take (i := 33) (v := .bool true) rfl (by kernel_rfl) (by kernel_rfl) (by kernel_rfl) (fun _ _ _ h => h) (Or.inl ⟨by rfl, fun w' hw' => by
    go_simp⟩) hd ?_
  try simp only [List.getElem_toArray, List.getElem_cons_succ, List.getElem_cons_zero, Act.put, List.setIfInBounds_toArray, List.set_cons_zero, List.set_cons_succ]
  refine wpAnyH_take (i := 34) (v := .bool true) rfl (by kernel_rfl) (by kernel_rfl) (by kernel_rfl) (fun _ _ _ h => h) (Or.inl ⟨by rfl, fun w' hw' => by
    go_simp⟩) hd ?_
  try simp only [List.getElem_toArray, List.getElem_cons_succ, List.getElem_cons_zero, Act.put, List.setIfInBounds_toArray, List.set_cons_zero, List.set_cons_succ]
  refine wpAnyH_all (rs := [35]) (by kernel_rfl) (by simp) ?_
  intro i hi
  obtain rfl := List.mem_singleton.1 hi
  refine wpOp_step rfl (fun K hK => ?_)
  rw [if_pos (by rfl)]
  go_simp
  refine hK _ _ ⟨hd, ?_⟩
  clear hK K
  try simp only [List.getElem_toArray, List.getElem_cons_succ, List.getElem_cons_zero, Act.put, List.setIfInBounds_toArray, List.set_cons_zero, List.set_cons_succ]
  refine wpAnyH_done (by kernel_rfl) ?_ _
  have hend := Lib.hid (belowThen hbel8.out hd (Nat.le_refl _))
  go_wp2_with fail
  go_ret
  exact ⟨rfl, hend.out⟩

end Go.Proofs.YtfekhbnefogkdaaGreatDoor

namespace Go.Proofs.YtfekhbnefogkdaaGreatDoor
open Go.ChangeShapes Go.WideShapes Go.ChangeAt Go.RowKit
open Go.ChangeMaps (open_string shut_string)

theorem own : ownKnob Tryz.prog.godebug = none := by kernel_rfl
theorem laidOut : laidOutB Tryz.prog = true := by kernel_rfl
theorem siteReads : Tryz.prog.readableRec 25 = true := by kernel_rfl
theorem siteRow : 25 < Tryz.prog.types.size := of_decide_eq_true (by kernel_rfl)

def laidAll' : List (String × DataW Unit) := Rows.fnUnnormalizedSmallRow.laid

set_option maxRecDepth 100000 in
theorem lifted1 (os : Os) (started : os.Started) (H : Type) (enc : TypeId × Value -> H) :
  ReturnsInHanded {} Tryz.checked os 6 .any (fun w args => (Rows.fnUnnormalizedSmallSpec.pre enc Tryz.prog Tryz.f6 Rows.fnUnnormalizedSmallRow.domain false w args /\ laidMetH Tryz.prog laidAll' w) /\ sizedMet enc Tryz.prog Tryz.f6 (OpenSpec.ofChange Rows.fnUnnormalizedSmallSpec) false w args)
   (Rows.fnUnnormalizedSmallSpec.post enc Tryz.prog Tryz.f6 false true false false) := by
 refine returnsInHanded_of_change_and (C := Tryz.checked) (X := fun w _ => laidMetH Tryz.prog laidAll' w) (fun _ _ _ hh h => h.of_heap hh) own started (by kernel_rfl) Tryz.func6
  (ChangeSpec.witness_shaped (enc := enc) (C := Tryz.checked) (os := os) (X := fun w _ => laidMetH Tryz.prog laidAll' w) false (World.laidAll Tryz.prog os laidAll') #[.agg #[.slice none 0 0, .slice none 0 0, .slice none 0 0, .slice none 0 0], .string ByteArray.empty, .string ByteArray.empty] 8 (World.laidAll_os _ _ _)
   (World.shaped_of_ZipB (by kernel_rfl) (by kernel_rfl)) (by kernel_rfl) (by kernel_rfl) (by kernel_rfl)
   (by rw [MakeChecks.laidMetH_plain _ _ _ (by kernel_rfl)]; exact laidMet_laidAll _ (by kernel_rfl) (by kernel_rfl))) ?_
 intro W base args ds gs before hval0 hW hc hsz0 _ _
 have hsz : (DataW.weightsEach Tryz.prog (Tryz.f6.params.toList ++ Rows.fnUnnormalizedSmallSpec.plain.varTypes Tryz.prog) (ds ++ gs)).all (· <= reachBytes) = true := hsz0
 have hval : ∀ (j : Nat) t v, Tryz.f6.params[j]? = some t -> args[j]? = some v -> Value.okWide Tryz.prog W .any base t v := hval0
 have hW' := hW
 obtain ⟨p, q, hA0, hV, rfl, _, _⟩ := hW
 have hA : DataW.TrodAll enc Tryz.prog W 0 (fun _ => true) true Tryz.f6.params.toList args.toList ds p := hA0
 rw [Tryz.params6] at hA hval hsz
 obtain ⟨v0, v1, v2, d0, d1, d2, p0, p1, p2, rfl, rfl, rfl, h0, h1, h2⟩ := trodAll_three hA
 obtain ⟨rfl, rfl⟩ := trodVars_none hV
 obtain ⟨a1, rfl, rfl, rfl, y1⟩ := open_string Tryz.underlying9 (hval 1 9 v1 rfl rfl) h1
 obtain ⟨a2, rfl, rfl, rfl, y2⟩ := open_string Tryz.underlying9 (hval 2 9 v2 rfl rfl) h2
 have w1 : a1.size <= 140737488351232 := by
  have z := sized_string hsz (j := 1) (t := 9) rfl rfl
  rw [Array.length_toList] at z
  exact z
 have w2 : a2.size <= 140737488351232 := by
  have z := sized_string hsz (j := 2) (t := 9) rfl rfl
  rw [Array.length_toList] at z
  exact z
 have w0 : ∀ n ∈ d0.weights Tryz.prog 25, n <= reachBytes := fun n hn => by
  have := List.all_eq_true.1 hsz n (DataW.weights_mem_each (j := 0) (t := 25) rfl rfl n hn)
  simpa using this
 obtain ⟨vl, vd, vf, vc, site, rfl, hs, cl, cd, cc⟩ := open_site h0 (hval 0 25 v0 rfl rfl) w0
 have hlt : ∀ x ∈ p0, x.block < W.heap.size := fun x hx => hW'.lt x (by simp [hx])
 obtain ⟨l1, rfl⟩ := B_surj a1
 obtain ⟨l2, rfl⟩ := B_surj a2
 rw [B_size] at w1 w2
 refine (w_FnUnnormalizedSmall site l1 l2 vl vd vf vc W hs cl cd cc w1 w2).mono fun e W' ⟨he, bel⟩ => ?_
 subst he
 refine ⟨_, rfl, _, _, _, [], _, [], hW', trodAll_mk1 (shut_bool Tryz.underlying4 _), trodAll_mk3 (Below.trod laidOut siteReads siteRow h0 bel hlt) (shut_string Tryz.underlying9 y1) (shut_string Tryz.underlying9 y2), rfl, bel.frame _, fun h => by cases h⟩

theorem over1 : Rows.FnUnnormalizedSmallSaid :=
 OpenClaim.holds_of_wide 6 Tryz.f6 rfl rfl rfl rfl rfl rfl rfl ⟨rfl, rfl, rfl, rfl, rfl⟩ rfl rfl rfl rfl rfl (by kernel_rfl) Tryz.func6 (by kernel_rfl)
  (of_decide_eq_true (by kernel_rfl)) (by unfold Func.isWrapper; first | (rw [if_pos (by decide +kernel)]; kernel_rfl) | (rw [if_neg (by decide +kernel)]; exact ⟨rfl, rfl⟩))
  (fun os started H enc _ => lifted1 os started H enc)

theorem fnUnnormalizedSmall_holds : Rows.FnUnnormalizedSmallCardSaid :=
 Claim7.holds_tied_plain_at .later [] [.data, .pinned, .pinned] true Rows.fnUnnormalizedSmallCard.stood.harness false over1 (fun _ h => by cases h) (by kernel_rfl) (fun _ h => by cases h) fnUnnormalizedSmall_row_tie rfl ⟨rfl, rfl⟩ (by kernel_rfl) rfl
  (fun f fn hf hfn => by
   obtain rfl : f = 6 := Option.some.inj ((show Tryz.prog.funcNamed Rows.fnUnnormalizedSmallRow.func = some 6 by kernel_rfl).symm.trans hf) |>.symm
   obtain rfl : fn = Tryz.f6 := (Option.some.inj (Tryz.func6.symm.trans hfn)).symm
   exact ⟨by kernel_rfl, fun j t ht => by
    rw [Tryz.params6] at ht
    have hm : t ∈ [25, 9, 9] := by simpa using Array.mem_of_getElem? ht
    have hall : ([25, 9].all fun u => !Tryz.prog.wantsStandIn u) = true := by kernel_rfl
    exact (show Tryz.prog.wantsStandIn t = false by simpa using List.all_eq_true.1 hall t (by simp at hm |-; exact hm))⟩)
  (by kernel_rfl)
#print axioms fnUnnormalizedSmall_holds
end Go.Proofs.YtfekhbnefogkdaaGreatDoor
