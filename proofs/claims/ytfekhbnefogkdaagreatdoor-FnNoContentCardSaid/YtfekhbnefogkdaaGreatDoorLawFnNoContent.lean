/- The walk of the law FnNoContent: a site without extensions of content has neither pages nor bundles of its own; the words of a path are the same. Conditions: a site in memory, texts that fit into the platform's addresses. -/
import Derived.Test.YtfekhbnefogkdaaGreatDoorKnown
import Derived.Test.YtfekhbnefogkdaaGreatDoorSimM
import Derived.Test.YtfekhbnefogkdaaGreatDoorHelpV
import Derived.Test.YtfekhbnefogkdaaGreatDoorHelpM
import Derived.Test.YtfekhbnefogkdaaGreatDoorTwice
import Derived.Test.YtfekhbnefogkdaaGreatDoorKnowA
import Derived.Test.YtfekhbnefogkdaaGreatDoorLawP
import Derived.Test.YtfekhbnefogkdaaGreatDoorOpen
import Derived.Test.YtfekhbnefogkdaaGreatDoorRows
import Derived.Test.YtfekhbnefogkdaaGreatDoorCards
import Derived.Test.YtfekhbnefogkdaaGreatDoorTie
import Derived.ProofKit
import Derived.OpenShut
import Derived.ShutString
import Derived.ChangeOld
import Derived.SizedLaws
import Derived.LaidMore
import Derived.Lay
import Derived.SevenTiedAt
import Derived.Stop.Joined
import Derived.Carry
set_option maxRecDepth 100000
set_option linter.unusedVariables false
set_option linter.unusedSimpArgs false
namespace Go.Proofs.YtfekhbnefogkdaaGreatDoor
open Go.RowKit
attribute [local go_sem] B_extract B_toList B_append

theorem site_one {w : World} {vl vd vf vc : Value} {site : SiteM} (h : SiteAt w vl vd vf vc site) : (#[vl, vd, vf, vc] : Array Value).all (·.oneCell') = true := by
 obtain ⟨_, _, _, rfl, _⟩ := h.l
 obtain ⟨_, _, _, rfl, _⟩ := h.d
 obtain ⟨_, _, _, rfl, _⟩ := h.f
 obtain ⟨_, _, _, rfl, _⟩ := h.c
 simp [Value.oneCell']
theorem capOK_nil : CapOK (.slice none 0 0) := fun a n c e => by
 obtain ⟨_, rfl, rfl⟩ := Value.slice.inj e
 exact Nat.le_refl _
theorem fits_bare {site : SiteM} (h : siteFits site = true) : siteFits (bareL site) = true := by
 unfold siteFits at h |-
 simp only [Bool.and_eq_true] at h |-
 exact ⟨h.1, rfl⟩

set_option maxHeartbeats 8000000 in
theorem w_FnNoContent (site : SiteM) (comp s : Str) (vl vd vf vc : Value) (w : World) (hv : SiteAt w vl vd vf vc site) (hcl : CapOK vl) (hcd : CapOK vd) (hcc : CapOK vc) (hc0 : comp.length <= 140737488351232) (hs0 : s.length <= 140737488351232) :
  Calls Tryz.prog 5 #[.agg #[vl, vd, vf, vc], .string (B comp), .string (B s)] w fun e w' => e = .returned (.bool true) /\ Below w.heap.size w w' := by
 have HZ : Hid (∀ wx, SiteAt wx vl vd vf vc site -> Calls Tryz.prog 9 #[.agg #[vl, vd, vf, vc]] wx fun e w' => e = .returned (.bool (siteFits site)) /\ Below wx.heap.size wx w') := fun wx h => c_zzFits1 site vl vd vf vc wx h
 have HKN : Hid (siteFits site = true -> comp.length <= 2147483647 -> s.length <= 2147483647 -> ∀ wx, SiteAt wx vl vd vf vc site -> Calls Tryz.prog 10 #[.agg #[vl, vd, vf, vc], .string (B comp), .string (B s)] wx
   fun e w' => ∃ v T, e = .returned (.tuple #[v, .bool (knownL site comp s)]) /\ ToldAtN wx.heap.size w' v T /\ Below wx.heap.size wx w' /\ (knownL site comp s = true -> T = toldM (doParseM site comp (normL s)))) := fun hf h1 h2 wx h => c_known site comp s vl vd vf vc wx h hcl hcd hcc hf h1 h2
 have HPK : Hid (knownL site comp s = true -> pathKnown site comp s = true) := fun h => by unfold knownL at h; rw [Bool.and_eq_true] at h; exact h.2
 have hone4 : Hid ((#[vl, vd, vf, vc] : Array Value).all (·.oneCell') = true) := site_one hv
 have HPB : Hid (siteFits site = true -> comp.length <= 2147483647 -> s.length <= 2147483647 -> ∀ wx, SiteAt wx vl vd vf (.slice none 0 0) (bareL site) -> Calls Tryz.prog 12 #[.agg #[vl, vd, vf, .slice none 0 0], .string (B comp), .string (B s)] wx fun e w' => e = .returned (.bool (pathKnown (bareL site) comp s)) /\ Below wx.heap.size wx w') := fun hf hc hs wx h => c_PathKnown (bareL site) comp s vl vd vf (.slice none 0 0) wx h hcl hcd capOK_nil (fits_bare hf) hc hs
 have HIB : Hid (pathKnown (bareL site) comp s = true -> ∀ wx, SiteAt wx vl vd vf (.slice none 0 0) (bareL site) -> Calls Tryz.prog 14 #[.agg #[vl, vd, vf, .slice none 0 0], .string (B comp), .string (B s)] wx fun e w' => ∃ v, e = .returned v /\ ToldAtN wx.heap.size w' v (toldM (doParseM (bareL site) comp (normL s))) /\ Below wx.heap.size wx w') := fun hk wx h => by
  obtain ⟨h1, h2, h3, h4, h5⟩ := pathKnown_site hk
  exact c_implParse wx (bareL site) comp s vl vd vf (.slice none 0 0) h (siteKnown_once h1) (by omega) h3
 obtain ⟨obs, hobs⟩ : ∃ o : Obj, o = .cells #[vl, vd, vf, vc] 25 := ⟨_, rfl⟩
 have hB1 : Hid (Below w.heap.size w (w.alloc obs)) := Below_alloc w obs
 have hsb : Hid ((w.alloc obs).heap[w.heap.size]? = some (.cells #[vl, vd, vf, vc] 25)) := by show _ = _; rw [hobs]; exact blk_new w _
 have HV1 : Hid (SiteAt (w.alloc obs) vl vd vf vc site) := hv.alloc obs
 clear hv hcl hcd hcc
 cases h1 : siteFits site with
 | false =>
  rw [h1] at HZ
  go_enter Tryz.func5, Tryz.ntmps5
  go_wp2_with fail
  rw [<- hobs]
  generalize w.alloc obs = w1 at hB1 hsb HV1 |-
  refine (HZ.out _ HV1.out).mono ?_; rintro e w2 ⟨rfl, b2⟩
  have hB2 := Lib.hid (belowThen hB1.out b2 (Nat.le_refl _))
  go_wp2_with fail
  go_ret
  exact ⟨rfl, hB2.out⟩
 | true =>
 rw [h1] at HZ
 by_cases h2 : comp.length <= 2147483647
 rotate_left 1
 ·skip
  go_enter Tryz.func5, Tryz.ntmps5
  go_wp2_with fail
  rw [<- hobs]
  generalize w.alloc obs = w1 at hB1 hsb HV1 |-
  refine (HZ.out _ HV1.out).mono ?_; rintro e w2 ⟨rfl, b2⟩
  have hB2 := Lib.hid (belowThen hB1.out b2 (Nat.le_refl _))
  go_wp2_with fail
  go_ret
  exact ⟨rfl, hB2.out⟩
 by_cases h3 : s.length <= 2147483647
 rotate_left 1
 ·skip
  go_enter Tryz.func5, Tryz.ntmps5
  go_wp2_with fail
  rw [<- hobs]
  generalize w.alloc obs = w1 at hB1 hsb HV1 |-
  refine (HZ.out _ HV1.out).mono ?_; rintro e w2 ⟨rfl, b2⟩
  have hB2 := Lib.hid (belowThen hB1.out b2 (Nat.le_refl _))
  go_wp2_with fail
  go_ret
  exact ⟨rfl, hB2.out⟩
 cases hk : knownL site comp s with
 | false =>
  go_enter Tryz.func5, Tryz.ntmps5
  go_wp2_with fail
  rw [<- hobs]
  generalize w.alloc obs = w1 at hB1 hsb HV1 |-
  refine (HZ.out _ HV1.out).mono ?_; rintro e w2 ⟨rfl, b2⟩
  have hB2 := Lib.hid (belowThen hB1.out b2 (Nat.le_refl _))
  have hsb2 := Lib.hid (blk_below hsb.out b2)
  have HV2 := Lib.hid (HV1.out.below b2)
  obtain ⟨k0, k1, k2, k3⟩ : w2.cell? ⟨w.heap.size, 0, none⟩ = some vl /\ w2.cell? ⟨w.heap.size, 1, none⟩ = some vd /\ w2.cell? ⟨w.heap.size, 2, none⟩ = some vf /\ w2.cell? ⟨w.heap.size, 3, none⟩ = some vc := ⟨cell_blk hsb2.out 0, cell_blk hsb2.out 1, cell_blk hsb2.out 2, cell_blk hsb2.out 3⟩
  clear b2 hsb HV1 hB1 HZ
  go_wp2_with fail
  refine (HKN.out h1 h2 h3 _ HV2.out).mono ?_; rintro e w3 ⟨v, T, rfl, ⟨ql, qi, qu, rfl, ⟨s1, n1⟩, ⟨s2, n2⟩, ⟨s3, n3⟩⟩, b3, hT⟩
  clear k0 k1 k2 k3 HKN
  rw [hk]
  obtain ⟨a1, l1, c1, rfl⟩ := s1.slice
  obtain ⟨a2, l2, c2, rfl⟩ := s2.slice
  obtain ⟨a3, l3, c3, rfl⟩ := s3.slice
  obtain ⟨cs, hcs, hsz, hone⟩ := told_cells T a1 a2 a3 l1 l2 l3 c1 c2 c3
  rw [hcs]
  have hB3 := Lib.hid (belowThen hB2.out b3 (Nat.le_refl _))
  have hz3 : w.heap.size <= w3.heap.size := hB3.out.size
  replace s1 := Lib.hid s1
  replace s2 := Lib.hid s2
  replace s3 := Lib.hid s3
  replace hcs := Lib.hid hcs
  have hV3 := Lib.hid (HV2.out.below b3)
  have hsb3 := Lib.hid (blk_below hsb2.out b3)
  clear n1 n2 n3 b3 hB2 hsb2 HV2
  go_wp2_with (refine wpList_store_row rfl 28 (.tmp 7) (.tmp 29) rfl w3.heap.size cs rfl rfl 28 _ (blk_new w3 _) (by rw [hsz]; kernel_rfl) (by rw [hsz]; rfl) hone (Hid.out ?_))
  have hrow := Lib.hid (setRow_heap (w3.alloc (.cells #[.string (B []), .string (B []), .string (B []), .string (B []), .string (B []), .string (B []), .string (B []), .string (B []), .string (B []), .string (B []), .string (B []), .string (B []), .string (B []), .string (B []), .string (B []), .string (B []), .string (B []), .string (B []), .string (B []), .string (B []), .string (B []), .slice none 0 0, .slice none 0 0, .slice none 0 0, .bool false, .bool false, .bool false, .bool false, .bool false, .bool false, .int .i64 0] 28)) w3.heap.size _ cs _ _ (blk_new w3 _))
  have hbel3 : Hid (Below w3.heap.size w3 ((w3.alloc (.cells #[.string (B []), .string (B []), .string (B []), .string (B []), .string (B []), .string (B []), .string (B []), .string (B []), .string (B []), .string (B []), .string (B []), .string (B []), .string (B []), .string (B []), .string (B []), .string (B []), .string (B []), .string (B []), .string (B []), .string (B []), .string (B []), .slice none 0 0, .slice none 0 0, .slice none 0 0, .bool false, .bool false, .bool false, .bool false, .bool false, .bool false, .int .i64 0] 28)).setRow w3.heap.size cs)) := (Below_alloc w3 _).trans ⟨rfl, rfl, rfl, by simp, fun k hk => setRow_other _ _ _ _ (by omega)⟩
  have hbel := Lib.hid (belowThen hB3.out hbel3.out (Nat.le_refl _))
  have t1 := Lib.hid (s1.out.below hbel3.out)
  have t2 := Lib.hid (s2.out.below hbel3.out)
  have t3 := Lib.hid (s3.out.below hbel3.out)
  have hV4 := Lib.hid (hV3.out.below hbel3.out)
  have hsb4 := Lib.hid (blk_below hsb3.out hbel3.out)
  clear s1 s2 s3 hV3 hB3 hbel3 hsb3
  generalize (w3.alloc _).setRow _ _ = wf at hrow hbel t1 t2 t3 hV4 hsb4 |-
  generalize w3.heap.size = gT at hrow |-
  refine Lib.hid ?_
  obtain ⟨z0, z1, z2, z3⟩ : wf.cell? ⟨w.heap.size, 0, none⟩ = some vl /\ wf.cell? ⟨w.heap.size, 1, none⟩ = some vd /\ wf.cell? ⟨w.heap.size, 2, none⟩ = some vf /\ wf.cell? ⟨w.heap.size, 3, none⟩ = some vc := ⟨cell_blk hsb4.out 0, cell_blk hsb4.out 1, cell_blk hsb4.out 2, cell_blk hsb4.out 3⟩
  go_wp2_with (refine wpList_store_row rfl 25 (.tmp 9) (.tmp 31) rfl wf.heap.size #[vl, vd, vf, vc] rfl rfl 25 _ (blk_new wf _) (by kernel_rfl) (by rfl) hone4.out (Hid.out ?_))
  have hsB0 := Lib.hid (setRow_heap (wf.alloc (.cells #[.slice none 0 0, .slice none 0 0, .slice none 0 0, .slice none 0 0] 25)) wf.heap.size _ #[vl, vd, vf, vc] _ _ (blk_new wf _))
  have b0 : Hid (Below wf.heap.size wf ((wf.alloc (.cells #[.slice none 0 0, .slice none 0 0, .slice none 0 0, .slice none 0 0] 25)).setRow wf.heap.size #[vl, vd, vf, vc])) := (Below_alloc wf _).trans ⟨rfl, rfl, rfl, by simp, fun k hk => setRow_other _ _ _ _ (by omega)⟩
  generalize (wf.alloc _).setRow _ _ = wb0 at hsB0 b0 |-
  refine Lib.hid ?_
  have kb0 : wb0.cell? ⟨wf.heap.size, 0, none⟩ = some vl := cell_blk hsB0.out 0
  have kb1 : wb0.cell? ⟨wf.heap.size, 1, none⟩ = some vd := cell_blk hsB0.out 1
  have kb2 : wb0.cell? ⟨wf.heap.size, 2, none⟩ = some vf := cell_blk hsB0.out 2
  have kb3 : wb0.cell? ⟨wf.heap.size, 3, none⟩ = some vc := cell_blk hsB0.out 3
  have fb3 : wb0.frozen? ⟨wf.heap.size, 3, none⟩ = false := free_blk hsB0.out 3
  have b5 : Hid (Below wf.heap.size wf (wb0.setCell ⟨wf.heap.size, 3, none⟩ (.slice none 0 0))) := b0.out.setCell (Nat.le_refl _) _
  have hsB : Hid ((wb0.setCell ⟨wf.heap.size, 3, none⟩ (.slice none 0 0)).heap[wf.heap.size]? = some (.cells #[vl, vd, vf, .slice none 0 0] 25)) := by show _ = _; rw [blk_set _ hsB0.out]; rfl
  go_wp2_with fail
  clear kb0 kb1 kb2 kb3 fb3 hsB0 b0
  go_ret
  exact ⟨rfl, belowThen hbel.out b5.out (Nat.le_refl _)⟩
 | true =>
  go_enter Tryz.func5, Tryz.ntmps5
  go_wp2_with fail
  rw [<- hobs]
  generalize w.alloc obs = w1 at hB1 hsb HV1 |-
  refine (HZ.out _ HV1.out).mono ?_; rintro e w2 ⟨rfl, b2⟩
  have hB2 := Lib.hid (belowThen hB1.out b2 (Nat.le_refl _))
  have hsb2 := Lib.hid (blk_below hsb.out b2)
  have HV2 := Lib.hid (HV1.out.below b2)
  obtain ⟨k0, k1, k2, k3⟩ : w2.cell? ⟨w.heap.size, 0, none⟩ = some vl /\ w2.cell? ⟨w.heap.size, 1, none⟩ = some vd /\ w2.cell? ⟨w.heap.size, 2, none⟩ = some vf /\ w2.cell? ⟨w.heap.size, 3, none⟩ = some vc := ⟨cell_blk hsb2.out 0, cell_blk hsb2.out 1, cell_blk hsb2.out 2, cell_blk hsb2.out 3⟩
  clear b2 hsb HV1 hB1 HZ
  go_wp2_with fail
  refine (HKN.out h1 h2 h3 _ HV2.out).mono ?_; rintro e w3 ⟨v, T, rfl, ⟨ql, qi, qu, rfl, ⟨s1, n1⟩, ⟨s2, n2⟩, ⟨s3, n3⟩⟩, b3, hT⟩
  clear k0 k1 k2 k3 HKN
  rw [hk]
  obtain ⟨a1, l1, c1, rfl⟩ := s1.slice
  obtain ⟨a2, l2, c2, rfl⟩ := s2.slice
  obtain ⟨a3, l3, c3, rfl⟩ := s3.slice
  obtain ⟨cs, hcs, hsz, hone⟩ := told_cells T a1 a2 a3 l1 l2 l3 c1 c2 c3
  rw [hcs]
  have hB3 := Lib.hid (belowThen hB2.out b3 (Nat.le_refl _))
  have hz3 : w.heap.size <= w3.heap.size := hB3.out.size
  replace s1 := Lib.hid s1
  replace s2 := Lib.hid s2
  replace s3 := Lib.hid s3
  replace hcs := Lib.hid hcs
  have hV3 := Lib.hid (HV2.out.below b3)
  have hsb3 := Lib.hid (blk_below hsb2.out b3)
  clear n1 n2 n3 b3 hB2 hsb2 HV2
  go_wp2_with (refine wpList_store_row rfl 28 (.tmp 7) (.tmp 29) rfl w3.heap.size cs rfl rfl 28 _ (blk_new w3 _) (by rw [hsz]; kernel_rfl) (by rw [hsz]; rfl) hone (Hid.out ?_))
  have hrow := Lib.hid (setRow_heap (w3.alloc (.cells #[.string (B []), .string (B []), .string (B []), .string (B []), .string (B []), .string (B []), .string (B []), .string (B []), .string (B []), .string (B []), .string (B []), .string (B []), .string (B []), .string (B []), .string (B []), .string (B []), .string (B []), .string (B []), .string (B []), .string (B []), .string (B []), .slice none 0 0, .slice none 0 0, .slice none 0 0, .bool false, .bool false, .bool false, .bool false, .bool false, .bool false, .int .i64 0] 28)) w3.heap.size _ cs _ _ (blk_new w3 _))
  have hbel3 : Hid (Below w3.heap.size w3 ((w3.alloc (.cells #[.string (B []), .string (B []), .string (B []), .string (B []), .string (B []), .string (B []), .string (B []), .string (B []), .string (B []), .string (B []), .string (B []), .string (B []), .string (B []), .string (B []), .string (B []), .string (B []), .string (B []), .string (B []), .string (B []), .string (B []), .string (B []), .slice none 0 0, .slice none 0 0, .slice none 0 0, .bool false, .bool false, .bool false, .bool false, .bool false, .bool false, .int .i64 0] 28)).setRow w3.heap.size cs)) := (Below_alloc w3 _).trans ⟨rfl, rfl, rfl, by simp, fun k hk => setRow_other _ _ _ _ (by omega)⟩
  have hbel := Lib.hid (belowThen hB3.out hbel3.out (Nat.le_refl _))
  have t1 := Lib.hid (s1.out.below hbel3.out)
  have t2 := Lib.hid (s2.out.below hbel3.out)
  have t3 := Lib.hid (s3.out.below hbel3.out)
  have hV4 := Lib.hid (hV3.out.below hbel3.out)
  have hsb4 := Lib.hid (blk_below hsb3.out hbel3.out)
  clear s1 s2 s3 hV3 hB3 hbel3 hsb3
  generalize (w3.alloc _).setRow _ _ = wf at hrow hbel t1 t2 t3 hV4 hsb4 |-
  generalize w3.heap.size = gT at hrow |-
  refine Lib.hid ?_
  have hT2 : Hid (T = toldM (doParseM site comp (normL s))) := hT hk
  have hpk := HPK.out hk
  have hFx : Hid (Facts site comp s T) := by have h := facts hpk; rw [<- hT2.out] at h; exact h
  obtain ⟨e1, e2, e3, e4, hs400⟩ := pathKnown_len hpk
  clear hT e1 e2 e4
  have f1 : (T.path == []) = false := by rw [beq_eq_false_iff_ne]; exact hFx.out.ne
  have hcs2 : Hid (cs = #[.string (B T.component), .string (B T.container), .string (B T.containerDir), .string (B T.section_), .string (B T.name), .string (B T.nameNoExt), .string (B T.baseName), .string (B T.nameNoId), .string (B T.dir), .string (B T.path), .string (B T.pathNoLang), .string (B T.pathNoId), .string (B T.pathBefore), .string (B T.base), .string (B T.idBase), .string (B T.ext), .string (B T.format), .string (B T.kind), .string (B T.layout), .string (B T.lang), .string (B T.custom), .slice a1 l1 c1, .slice a2 l2 c2, .slice a3 l3 c3, .bool T.disabled, .bool T.isContent, .bool T.isBundle, .bool T.isBranch, .bool T.isLeaf, .bool T.isData, .int .i64 T.typ]) := (Value.agg.inj hcs.out).symm
  have hsbA := hsb4
  have hrowA := hrow
  have hVA := hV4
  have hbelA := hbel
  have t1A := t1
  have t2A := t2
  have t3A := t3
  clear hsb4 hrow hV4 hbel t1 t2 t3
  obtain ⟨z0, z1, z2, z3⟩ : wf.cell? ⟨w.heap.size, 0, none⟩ = some vl /\ wf.cell? ⟨w.heap.size, 1, none⟩ = some vd /\ wf.cell? ⟨w.heap.size, 2, none⟩ = some vf /\ wf.cell? ⟨w.heap.size, 3, none⟩ = some vc := ⟨cell_blk hsbA.out 0, cell_blk hsbA.out 1, cell_blk hsbA.out 2, cell_blk hsbA.out 3⟩
  have HP2 := Lib.hid (HPB.out h1 h2 h3)
  go_wp2_with (refine wpList_store_row rfl 25 (.tmp 9) (.tmp 31) rfl wf.heap.size #[vl, vd, vf, vc] rfl rfl 25 _ (blk_new wf _) (by kernel_rfl) (by rfl) hone4.out (Hid.out ?_))
  have hsB0 := Lib.hid (setRow_heap (wf.alloc (.cells #[.slice none 0 0, .slice none 0 0, .slice none 0 0, .slice none 0 0] 25)) wf.heap.size _ #[vl, vd, vf, vc] _ _ (blk_new wf _))
  have b0 : Hid (Below wf.heap.size wf ((wf.alloc (.cells #[.slice none 0 0, .slice none 0 0, .slice none 0 0, .slice none 0 0] 25)).setRow wf.heap.size #[vl, vd, vf, vc])) := (Below_alloc wf _).trans ⟨rfl, rfl, rfl, by simp, fun k hk => setRow_other _ _ _ _ (by omega)⟩
  generalize (wf.alloc _).setRow _ _ = wb0 at hsB0 b0 |-
  refine Lib.hid ?_
  have kb0 : wb0.cell? ⟨wf.heap.size, 0, none⟩ = some vl := cell_blk hsB0.out 0
  have kb1 : wb0.cell? ⟨wf.heap.size, 1, none⟩ = some vd := cell_blk hsB0.out 1
  have kb2 : wb0.cell? ⟨wf.heap.size, 2, none⟩ = some vf := cell_blk hsB0.out 2
  have kb3 : wb0.cell? ⟨wf.heap.size, 3, none⟩ = some vc := cell_blk hsB0.out 3
  have fb3 : wb0.frozen? ⟨wf.heap.size, 3, none⟩ = false := free_blk hsB0.out 3
  have b5 : Hid (Below wf.heap.size wf (wb0.setCell ⟨wf.heap.size, 3, none⟩ (.slice none 0 0))) := b0.out.setCell (Nat.le_refl _) _
  have hsB : Hid ((wb0.setCell ⟨wf.heap.size, 3, none⟩ (.slice none 0 0)).heap[wf.heap.size]? = some (.cells #[vl, vd, vf, .slice none 0 0] 25)) := by show _ = _; rw [blk_set _ hsB0.out]; rfl
  go_wp2_with fail
  clear kb0 kb1 kb2 kb3 fb3 hsB0 b0
  generalize wb0.setCell _ _ = wb at b5 hsB |-
  replace b5 := b5.out
  have hrow5 := Lib.hid (blk_below hrowA.out b5)
  have hsb5 := Lib.hid (blk_below hsbA.out b5)
  have hV5 := Lib.hid (hVA.out.below b5)
  have hbel5 := Lib.hid (belowThen hbelA.out b5 (Nat.le_refl _))
  have t15 := Lib.hid (t1A.out.below b5)
  have t25 := Lib.hid (t2A.out.below b5)
  have t35 := Lib.hid (t3A.out.below b5)
  clear hrowA hsbA hVA hbelA t1A t2A t3A z0 z1 z2 z3
  clear b5
  generalize wf.heap.size = gB at hsB |-
  have hVB : Hid (SiteAt wb vl vd vf (.slice none 0 0) (bareL site)) := ⟨hV5.out.l, hV5.out.d, hV5.out.f, StrsAt.nil _⟩
  refine (HP2.out _ hVB.out).mono ?_; rintro e w6 ⟨rfl, b6⟩
  replace hsB := Lib.hid (blk_below hsB.out b6)
  replace hVB := Lib.hid (hVB.out.below b6)
  have hrow6 := Lib.hid (blk_below hrow5.out b6)
  have hsb6 := Lib.hid (blk_below hsb5.out b6)
  have hV6 := Lib.hid (hV5.out.below b6)
  have hbel6 := Lib.hid (belowThen hbel5.out b6 (Nat.le_refl _))
  have t16 := Lib.hid (t15.out.below b6)
  have t26 := Lib.hid (t25.out.below b6)
  have t36 := Lib.hid (t35.out.below b6)
  clear hrow5 hsb5 hV5 hbel5 t15 t25 t35
  clear b6 HP2 HPB
  cases hk2 : pathKnown (bareL site) comp s with
  | false =>
   go_wp2_with fail
   go_ret
   exact ⟨rfl, hbel6.out⟩
  | true =>
  have HI2 := Lib.hid (HIB.out hk2)
  obtain ⟨TT, hTT, ht0, g4, gw, gi, gu⟩ := told_bare hpk hk2
  rw [<- hTT] at HI2
  rw [<- hT2.out] at g4 gw gi gu
  have hpe : T.path.isEmpty = false := List.isEmpty_eq_false_iff.2 hFx.out.ne
  have HWD : Hid (∀ (a b c a' b' c' : Value) (wx : World), Calls Tryz.prog 17 #[toldVal TT a b c, toldVal T a' b' c'] wx fun e w' => e = .returned (.bool true) /\ Below wx.heap.size wx w') := fun a b c a' b' c' wx => c_words2 TT T gw a b c a' b' c' wx
  replace gi := Lib.hid gi
  replace gu := Lib.hid gu
  clear HIB hT2 hTT gw hFx f1
  obtain ⟨z0, z1, z2, z3⟩ : w6.cell? ⟨gB, 0, none⟩ = some vl /\ w6.cell? ⟨gB, 1, none⟩ = some vd /\ w6.cell? ⟨gB, 2, none⟩ = some vf /\ w6.cell? ⟨gB, 3, none⟩ = some (.slice none 0 0) := ⟨cell_blk hsB.out 0, cell_blk hsB.out 1, cell_blk hsB.out 2, cell_blk hsB.out 3⟩
  go_wp2_with fail
  refine (HI2.out _ hVB.out).mono ?_; rintro e w7 ⟨v7, rfl, ⟨ql, qi, qu, rfl, ⟨s1, n1⟩, ⟨s2, n2⟩, ⟨s3, n3⟩⟩, b7⟩
  obtain ⟨p1, m1, d1, rfl⟩ := s1.slice
  obtain ⟨p2, m2, d2, rfl⟩ := s2.slice
  obtain ⟨p3, m3, d3, rfl⟩ := s3.slice
  obtain ⟨ds, hds, hdz, hdone⟩ := told_cells TT p1 p2 p3 m1 m2 m3 d1 d2 d3
  rw [hds]
  replace hds := Lib.hid hds
  replace s2 := Lib.hid s2
  replace s3 := Lib.hid s3
  replace hdz := Lib.hid hdz
  have hrow7 := Lib.hid (blk_below hrow6.out b7)
  have hsb7 := Lib.hid (blk_below hsb6.out b7)
  have hV7 := Lib.hid (hV6.out.below b7)
  have hbel7 := Lib.hid (belowThen hbel6.out b7 (Nat.le_refl _))
  have t17 := Lib.hid (t16.out.below b7)
  have t27 := Lib.hid (t26.out.below b7)
  have t37 := Lib.hid (t36.out.below b7)
  clear hrow6 hsb6 hV6 hbel6 t16 t26 t36 z0 z1 z2 z3
  have s37 := Lib.hid s3
  clear b7 n1 n2 n3 s1 s3
  go_wp2_with (refine wpList_store_row rfl 28 (.tmp 10) (.tmp 45) rfl w7.heap.size ds rfl rfl 28 _ (blk_new w7 _) (by rw [hdz.out]; kernel_rfl) (by rw [hdz.out]; rfl) hdone (Hid.out ?_))
  have hrow2 := Lib.hid (setRow_heap (w7.alloc (.cells #[.string (B []), .string (B []), .string (B []), .string (B []), .string (B []), .string (B []), .string (B []), .string (B []), .string (B []), .string (B []), .string (B []), .string (B []), .string (B []), .string (B []), .string (B []), .string (B []), .string (B []), .string (B []), .string (B []), .string (B []), .string (B []), .slice none 0 0, .slice none 0 0, .slice none 0 0, .bool false, .bool false, .bool false, .bool false, .bool false, .bool false, .int .i64 0] 28)) w7.heap.size _ ds _ _ (blk_new w7 _))
  have b8 : Below w7.heap.size w7 ((w7.alloc (.cells #[.string (B []), .string (B []), .string (B []), .string (B []), .string (B []), .string (B []), .string (B []), .string (B []), .string (B []), .string (B []), .string (B []), .string (B []), .string (B []), .string (B []), .string (B []), .string (B []), .string (B []), .string (B []), .string (B []), .string (B []), .string (B []), .slice none 0 0, .slice none 0 0, .slice none 0 0, .bool false, .bool false, .bool false, .bool false, .bool false, .bool false, .int .i64 0] 28)).setRow w7.heap.size ds) := (Below_alloc w7 _).trans ⟨rfl, rfl, rfl, by simp, fun k hk => setRow_other _ _ _ _ (by omega)⟩
  have u2 := Lib.hid (s2.out.below b8)
  have u3 := Lib.hid (s37.out.out.below b8)
  have hrow8 := Lib.hid (blk_below hrow7.out b8)
  have hbel8 := Lib.hid (belowThen hbel7.out b8 (Nat.le_refl _))
  have t28 := Lib.hid (t27.out.below b8)
  have t38 := Lib.hid (t37.out.below b8)
  clear b8 hrow7 hsb7 hV7 hbel7 t17 t27 t37 s2 s37
  generalize (w7.alloc _).setRow _ _ = wf at hrow2 hrow8 hbel8 t28 t38 u2 u3 |-
  generalize w7.heap.size = gU at hrow2 |-
  refine Lib.hid ?_
  have hds2 : Hid (ds = #[.string (B TT.component), .string (B TT.container), .string (B TT.containerDir), .string (B TT.section_), .string (B TT.name), .string (B TT.nameNoExt), .string (B TT.baseName), .string (B TT.nameNoId), .string (B TT.dir), .string (B TT.path), .string (B TT.pathNoLang), .string (B TT.pathNoId), .string (B TT.pathBefore), .string (B TT.base), .string (B TT.idBase), .string (B TT.ext), .string (B TT.format), .string (B TT.kind), .string (B TT.layout), .string (B TT.lang), .string (B TT.custom), .slice p1 m1 d1, .slice p2 m2 d2, .slice p3 m3 d3, .bool TT.disabled, .bool TT.isContent, .bool TT.isBundle, .bool TT.isBranch, .bool TT.isLeaf, .bool TT.isData, .int .i64 TT.typ]) := (Value.agg.inj hds.out).symm
  rw [g4] at hds2
  clear g4 hsB hVB HI2
  have y4 : wf.cell? ⟨gU, 4, none⟩ = some (.string (B T.name)) := by rw [cell_blk hrow2.out 4, hds2.out]; rfl
  have y30 : wf.cell? ⟨gU, 30, none⟩ = some (.int .i64 TT.typ) := by rw [cell_blk hrow2.out 30, hds2.out]; rfl
  have x4 : wf.cell? ⟨gT, 4, none⟩ = some (.string (B T.name)) := by rw [cell_blk hrow8.out 4, hcs2.out]; rfl
  have x9 : wf.cell? ⟨gT, 9, none⟩ = some (.string (B T.path)) := by rw [cell_blk hrow8.out 9, hcs2.out]; rfl
  rcases ht0 with ht0 | ht0
  all_goals
   go_wp2_with (refine wpList_load_g (by rfl) 28 (.tmp 10) rfl gU 0 rfl ds.toList _ (range_blk hrow2.out) Tryz.underlying28 rfl (by rw [Array.length_toList, hdz.out]; kernel_rfl) (Hid.out ?_))
   refine Lib.hid ?_
   go_wp2_with (refine wpList_load_g (by rfl) 28 (.tmp 7) rfl gT 0 rfl cs.toList _ (range_blk hrow8.out) Tryz.underlying28 rfl (by rw [Array.length_toList, hsz]; kernel_rfl) (Hid.out ?_))
   refine Lib.hid ?_
   go_wp2_with fail
   rw [<- hds.out, <- hcs.out]
   refine (HWD.out _ _ _ _ _ _ _).mono ?_; rintro e wg ⟨rfl, b9⟩
   replace hrow2 := Lib.hid (blk_below hrow2.out b9)
   replace hrow8 := Lib.hid (blk_below hrow8.out b9)
   replace hbel8 := Lib.hid (belowThen hbel8.out b9 (Nat.le_refl _))
   replace t28 := Lib.hid (t28.out.below b9)
   replace t38 := Lib.hid (t38.out.below b9)
   replace u2 := Lib.hid (u2.out.below b9)
   replace u3 := Lib.hid (u3.out.below b9)
   clear x4 x9 y4 y30 b9
   have y22 : wg.cell? ⟨gU, 22, none⟩ = some (.slice p2 m2 d2) := by rw [cell_blk hrow2.out 22, hds2.out]; rfl
   have x22 : wg.cell? ⟨gT, 22, none⟩ = some (.slice a2 l2 c2) := by rw [cell_blk hrow8.out 22, hcs2.out]; rfl
   have y23 : wg.cell? ⟨gU, 23, none⟩ = some (.slice p3 m3 d3) := by rw [cell_blk hrow2.out 23, hds2.out]; rfl
   have x23 : wg.cell? ⟨gT, 23, none⟩ = some (.slice a3 l3 c3) := by rw [cell_blk hrow8.out 23, hcs2.out]; rfl
   rw [gi.out] at u2
   rw [gu.out] at u3
   go_wp2_with fail
   refine (c_texts T.ids _ _ _ u2.out t28.out).mono ?_; rintro e wi ⟨rfl, nd, rfl⟩
   go_wp2_with fail
   refine (c_texts T.unknown _ _ (wg.drewN nd) u3.out t38.out).mono ?_; rintro e wj ⟨rfl, ne, rfl⟩
   go_wp2_with fail
   go_ret
   exact ⟨rfl, Below_drewN hbel8.out (nd + ne)⟩

end Go.Proofs.YtfekhbnefogkdaaGreatDoor

namespace Go.Proofs.YtfekhbnefogkdaaGreatDoor
open Go.ChangeShapes Go.WideShapes Go.ChangeAt Go.RowKit
open Go.ChangeMaps (open_string shut_string)

theorem own : ownKnob Tryz.prog.godebug = none := by kernel_rfl
theorem laidOut : laidOutB Tryz.prog = true := by kernel_rfl
theorem siteReads : Tryz.prog.readableRec 25 = true := by kernel_rfl
theorem siteRow : 25 < Tryz.prog.types.size := of_decide_eq_true (by kernel_rfl)

def laidAll' : List (String × DataW Unit) := Rows.fnNoContentRow.laid

set_option maxRecDepth 100000 in
theorem lifted1 (os : Os) (started : os.Started) (H : Type) (enc : TypeId × Value -> H) :
  ReturnsInHanded {} Tryz.checked os 5 .any (fun w args => (Rows.fnNoContentSpec.pre enc Tryz.prog Tryz.f5 Rows.fnNoContentRow.domain false w args /\ laidMetH Tryz.prog laidAll' w) /\ sizedMet enc Tryz.prog Tryz.f5 (OpenSpec.ofChange Rows.fnNoContentSpec) false w args)
   (Rows.fnNoContentSpec.post enc Tryz.prog Tryz.f5 false true false false) := by
 refine returnsInHanded_of_change_and (C := Tryz.checked) (X := fun w _ => laidMetH Tryz.prog laidAll' w) (fun _ _ _ hh h => h.of_heap hh) own started (by kernel_rfl) Tryz.func5
  (ChangeSpec.witness_shaped (enc := enc) (C := Tryz.checked) (os := os) (X := fun w _ => laidMetH Tryz.prog laidAll' w) false (World.laidAll Tryz.prog os laidAll') #[.agg #[.slice none 0 0, .slice none 0 0, .slice none 0 0, .slice none 0 0], .string ByteArray.empty, .string ByteArray.empty] 8 (World.laidAll_os _ _ _)
   (World.shaped_of_ZipB (by kernel_rfl) (by kernel_rfl)) (by kernel_rfl) (by kernel_rfl) (by kernel_rfl)
   (by rw [MakeChecks.laidMetH_plain _ _ _ (by kernel_rfl)]; exact laidMet_laidAll _ (by kernel_rfl) (by kernel_rfl))) ?_
 intro W base args ds gs before hval0 hW hc hsz0 _ _
 have hsz : (DataW.weightsEach Tryz.prog (Tryz.f5.params.toList ++ Rows.fnNoContentSpec.plain.varTypes Tryz.prog) (ds ++ gs)).all (· <= reachBytes) = true := hsz0
 have hval : ∀ (j : Nat) t v, Tryz.f5.params[j]? = some t -> args[j]? = some v -> Value.okWide Tryz.prog W .any base t v := hval0
 have hW' := hW
 obtain ⟨p, q, hA0, hV, rfl, _, _⟩ := hW
 have hA : DataW.TrodAll enc Tryz.prog W 0 (fun _ => true) true Tryz.f5.params.toList args.toList ds p := hA0
 rw [Tryz.params5] at hA hval hsz
 obtain ⟨v0, v1, v2, d0, d1, d2, p0, p1, p2, rfl, rfl, rfl, h0, h1, h2⟩ := trodAll_three hA
 obtain ⟨rfl, rfl⟩ := trodVars_none hV
 obtain ⟨a1, rfl, rfl, rfl, y1⟩ := open_string Tryz.underlying9 (hval 1 9 v1 rfl rfl) h1
 obtain ⟨a2, rfl, rfl, rfl, y2⟩ := open_string Tryz.underlying9 (hval 2 9 v2 rfl rfl) h2
 have w1 : a1.size <= 140737488351232 := by
  have z := sized_string hsz (j := 1) (t := 9) rfl rfl
  rw [Array.length_toList] at z
  exact z
 have w2 : a2.size <= 140737488351232 := by
  have z := sized_string hsz (j := 2) (t := 9) rfl rfl
  rw [Array.length_toList] at z
  exact z
 have w0 : ∀ n ∈ d0.weights Tryz.prog 25, n <= reachBytes := fun n hn => by
  have := List.all_eq_true.1 hsz n (DataW.weights_mem_each (j := 0) (t := 25) rfl rfl n hn)
  simpa using this
 obtain ⟨vl, vd, vf, vc, site, rfl, hs, cl, cd, cc⟩ := open_site h0 (hval 0 25 v0 rfl rfl) w0
 have hlt : ∀ x ∈ p0, x.block < W.heap.size := fun x hx => hW'.lt x (by simp [hx])
 obtain ⟨l1, rfl⟩ := B_surj a1
 obtain ⟨l2, rfl⟩ := B_surj a2
 rw [B_size] at w1 w2
 refine (w_FnNoContent site l1 l2 vl vd vf vc W hs cl cd cc w1 w2).mono fun e W' ⟨he, bel⟩ => ?_
 subst he
 refine ⟨_, rfl, _, _, _, [], _, [], hW', trodAll_mk1 (shut_bool Tryz.underlying4 _), trodAll_mk3 (Below.trod laidOut siteReads siteRow h0 bel hlt) (shut_string Tryz.underlying9 y1) (shut_string Tryz.underlying9 y2), rfl, bel.frame _, fun h => by cases h⟩

theorem over1 : Rows.FnNoContentSaid :=
 OpenClaim.holds_of_wide 5 Tryz.f5 rfl rfl rfl rfl rfl rfl rfl ⟨rfl, rfl, rfl, rfl, rfl⟩ rfl rfl rfl rfl rfl (by kernel_rfl) Tryz.func5 (by kernel_rfl)
  (of_decide_eq_true (by kernel_rfl)) (by unfold Func.isWrapper; first | (rw [if_pos (by decide +kernel)]; kernel_rfl) | (rw [if_neg (by decide +kernel)]; exact ⟨rfl, rfl⟩))
  (fun os started H enc _ => lifted1 os started H enc)

theorem fnNoContent_holds : Rows.FnNoContentCardSaid :=
 Claim7.holds_tied_plain_at .later [] [.data, .pinned, .pinned] true Rows.fnNoContentCard.stood.harness false over1 (fun _ h => by cases h) (by kernel_rfl) (fun _ h => by cases h) fnNoContent_row_tie rfl ⟨rfl, rfl⟩ (by kernel_rfl) rfl
  (fun f fn hf hfn => by
   obtain rfl : f = 5 := Option.some.inj ((show Tryz.prog.funcNamed Rows.fnNoContentRow.func = some 5 by kernel_rfl).symm.trans hf) |>.symm
   obtain rfl : fn = Tryz.f5 := (Option.some.inj (Tryz.func5.symm.trans hfn)).symm
   exact ⟨by kernel_rfl, fun j t ht => by
    rw [Tryz.params5] at ht
    have hm : t ∈ [25, 9, 9] := by simpa using Array.mem_of_getElem? ht
    have hall : ([25, 9].all fun u => !Tryz.prog.wantsStandIn u) = true := by kernel_rfl
    exact (show Tryz.prog.wantsStandIn t = false by simpa using List.all_eq_true.1 hall t (by simp at hm |-; exact hm))⟩)
  (by kernel_rfl)
#print axioms fnNoContent_holds
end Go.Proofs.YtfekhbnefogkdaaGreatDoor
