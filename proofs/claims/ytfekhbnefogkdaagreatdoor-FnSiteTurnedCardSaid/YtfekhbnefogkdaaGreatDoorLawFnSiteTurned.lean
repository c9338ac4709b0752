/- The walk of the law FnSiteTurned: with its languages, disabled ones, formats and extensions the other way round a site has the same paths. Conditions: a site in memory, texts that fit into the platform's addresses. -/
import Derived.Test.YtfekhbnefogkdaaGreatDoorKnown
import Derived.Test.YtfekhbnefogkdaaGreatDoorSimM
import Derived.Test.YtfekhbnefogkdaaGreatDoorTurn
import Derived.Test.YtfekhbnefogkdaaGreatDoorAlike
import Derived.Test.YtfekhbnefogkdaaGreatDoorKnowA
import Derived.Test.YtfekhbnefogkdaaGreatDoorTwice
import Derived.Test.YtfekhbnefogkdaaGreatDoorLawP
import Derived.Test.YtfekhbnefogkdaaGreatDoorOpen
import Derived.Test.YtfekhbnefogkdaaGreatDoorRows
import Derived.Test.YtfekhbnefogkdaaGreatDoorCards
import Derived.Test.YtfekhbnefogkdaaGreatDoorTie
import Derived.ProofKit
import Derived.OpenShut
import Derived.ShutString
import Derived.ChangeOld
import Derived.SizedLaws
import Derived.LaidMore
import Derived.Lay
import Derived.SevenTiedAt
import Derived.Stop.Joined
import Derived.Carry
set_option maxRecDepth 100000
set_option linter.unusedVariables false
set_option linter.unusedSimpArgs false
namespace Go.Proofs.YtfekhbnefogkdaaGreatDoor
open Go.RowKit
attribute [local go_sem] B_extract B_toList B_append

theorem site_one {w : World} {vl vd vf vc : Value} {site : SiteM} (h : SiteAt w vl vd vf vc site) : (#[vl, vd, vf, vc] : Array Value).all (·.oneCell') = true := by
 obtain ⟨_, _, _, rfl, _⟩ := h.l
 obtain ⟨_, _, _, rfl, _⟩ := h.d
 obtain ⟨_, _, _, rfl, _⟩ := h.f
 obtain ⟨_, _, _, rfl, _⟩ := h.c
 simp [Value.oneCell']
theorem fits2_rev {l : List Str} (h : fits2 l = true) : fits2 l.reverse = true := by
 unfold fits2 at h |-
 rw [List.length_reverse, List.all_reverse]; exact h
theorem fits3_rev {l : List (Str × Str)} (h : fits3 l = true) : fits3 l.reverse = true := by
 unfold fits3 at h |-
 rw [List.length_reverse, List.all_reverse]; exact h
theorem fits_turned {site : SiteM} (h : siteFits site = true) : siteFits (turnedL site) = true := by
 unfold siteFits at h |-
 simp only [Bool.and_eq_true] at h |-
 exact ⟨⟨⟨fits2_rev h.1.1.1, fits2_rev h.1.1.2⟩, fits3_rev h.1.2⟩, fits2_rev h.2⟩
theorem sumFmt_len : ∀ l : List (Str × Str), l.length <= sumFmt l
 | [] => Nat.le_refl _
 | x :: t => by
  have h := sumFmt_len t
  have e : sumFmt (x :: t) = (1 + x.1.length + x.2.length) + sumFmt t := by unfold sumFmt; simp
  rw [List.length_cons, e]; omega
theorem known_lens {site : SiteM} {comp s : Str} (h : knownL site comp s = true) : site.languages.length <= 2000 /\ site.disabled.length <= 2000 /\ site.formats.length <= 2000 /\ site.content.length <= 2000 := by
 unfold knownL shortL fewL at h
 simp only [Bool.and_eq_true, decide_eq_true_eq] at h
 have := sumFmt_len site.formats
 omega

set_option maxHeartbeats 8000000 in
theorem w_FnSiteTurned (site : SiteM) (comp s : Str) (vl vd vf vc : Value) (w : World) (hv : SiteAt w vl vd vf vc site) (hcl : CapOK vl) (hcd : CapOK vd) (hcc : CapOK vc) (hc0 : comp.length <= 140737488351232) (hs0 : s.length <= 140737488351232) :
  Calls Tryz.prog 3 #[.agg #[vl, vd, vf, vc], .string (B comp), .string (B s)] w fun e w' => e = .returned (.bool true) /\ Below w.heap.size w w' := by
 have HZ : Hid (∀ wx, SiteAt wx vl vd vf vc site -> Calls Tryz.prog 9 #[.agg #[vl, vd, vf, vc]] wx fun e w' => e = .returned (.bool (siteFits site)) /\ Below wx.heap.size wx w') := fun wx h => c_zzFits1 site vl vd vf vc wx h
 have HKN : Hid (siteFits site = true -> comp.length <= 2147483647 -> s.length <= 2147483647 -> ∀ wx, SiteAt wx vl vd vf vc site -> Calls Tryz.prog 10 #[.agg #[vl, vd, vf, vc], .string (B comp), .string (B s)] wx
   fun e w' => ∃ v T, e = .returned (.tuple #[v, .bool (knownL site comp s)]) /\ ToldAtN wx.heap.size w' v T /\ Below wx.heap.size wx w' /\ (knownL site comp s = true -> T = toldM (doParseM site comp (normL s)))) := fun hf h1 h2 wx h => c_known site comp s vl vd vf vc wx h hcl hcd hcc hf h1 h2
 have HPK : Hid (knownL site comp s = true -> pathKnown site comp s = true) := fun h => by unfold knownL at h; rw [Bool.and_eq_true] at h; exact h.2
 have HTU : Hid (knownL site comp s = true -> ∀ wx, SiteAt wx vl vd vf vc site -> Calls Tryz.prog 11 #[.agg #[vl, vd, vf, vc]] wx fun e w' => ∃ xl xd xf xc, e = .returned (.agg #[xl, xd, xf, xc]) /\ SiteAt w' xl xd xf xc (turnedL site) /\ CapOK xl /\ CapOK xd /\ CapOK xc /\ Below wx.heap.size wx w') := fun hk wx h => by
  obtain ⟨q0, q1, q2, q3⟩ := known_lens hk
  exact c_turned site vl vd vf vc wx h q0 q1 q2 q3
 have HPB : Hid (siteFits site = true -> comp.length <= 2147483647 -> s.length <= 2147483647 -> ∀ xl xd xf xc wx, SiteAt wx xl xd xf xc (turnedL site) -> CapOK xl -> CapOK xd -> CapOK xc -> Calls Tryz.prog 12 #[.agg #[xl, xd, xf, xc], .string (B comp), .string (B s)] wx fun e w' => e = .returned (.bool (pathKnown (turnedL site) comp s)) /\ Below wx.heap.size wx w') := fun hf hc hs xl xd xf xc wx h c1 c2 c3 => c_PathKnown (turnedL site) comp s xl xd xf xc wx h c1 c2 c3 (fits_turned hf) hc hs
 have HIB : Hid (pathKnown (turnedL site) comp s = true -> ∀ xl xd xf xc wx, SiteAt wx xl xd xf xc (turnedL site) -> Calls Tryz.prog 14 #[.agg #[xl, xd, xf, xc], .string (B comp), .string (B s)] wx fun e w' => ∃ v, e = .returned v /\ ToldAtN wx.heap.size w' v (toldM (doParseM (turnedL site) comp (normL s))) /\ Below wx.heap.size wx w') := fun hk xl xd xf xc wx h => by
  obtain ⟨h1, h2, h3, h4, h5⟩ := pathKnown_site hk
  exact c_implParse wx (turnedL site) comp s xl xd xf xc h (siteKnown_once h1) (by omega) h3
 obtain ⟨obs, hobs⟩ : ∃ o : Obj, o = .cells #[vl, vd, vf, vc] 25 := ⟨_, rfl⟩
 have hB1 : Hid (Below w.heap.size w (w.alloc obs)) := Below_alloc w obs
 have hsb : Hid ((w.alloc obs).heap[w.heap.size]? = some (.cells #[vl, vd, vf, vc] 25)) := by show _ = _; rw [hobs]; exact blk_new w _
 have HV1 : Hid (SiteAt (w.alloc obs) vl vd vf vc site) := hv.alloc obs
 clear hv hcl hcd hcc
 cases h1 : siteFits site with
 | false =>
  rw [h1] at HZ
  go_enter Tryz.func3, Tryz.ntmps3
  go_wp2_with fail
  rw [<- hobs]
  generalize w.alloc obs = w1 at hB1 hsb HV1 |-
  refine (HZ.out _ HV1.out).mono ?_; rintro e w2 ⟨rfl, b2⟩
  have hB2 := Lib.hid (belowThen hB1.out b2 (Nat.le_refl _))
  go_wp2_with fail
  go_ret
  exact ⟨rfl, hB2.out⟩
 | true =>
 rw [h1] at HZ
 by_cases h2 : comp.length <= 2147483647
 rotate_left 1
 ·skip
  go_enter Tryz.func3, Tryz.ntmps3
  go_wp2_with fail
  rw [<- hobs]
  generalize w.alloc obs = w1 at hB1 hsb HV1 |-
  refine (HZ.out _ HV1.out).mono ?_; rintro e w2 ⟨rfl, b2⟩
  have hB2 := Lib.hid (belowThen hB1.out b2 (Nat.le_refl _))
  go_wp2_with fail
  go_ret
  exact ⟨rfl, hB2.out⟩
 by_cases h3 : s.length <= 2147483647
 rotate_left 1
 ·skip
  go_enter Tryz.func3, Tryz.ntmps3
  go_wp2_with fail
  rw [<- hobs]
  generalize w.alloc obs = w1 at hB1 hsb HV1 |-
  refine (HZ.out _ HV1.out).mono ?_; rintro e w2 ⟨rfl, b2⟩
  have hB2 := Lib.hid (belowThen hB1.out b2 (Nat.le_refl _))
  go_wp2_with fail
  go_ret
  exact ⟨rfl, hB2.out⟩
 cases hk : knownL site comp s with
 | false =>
  go_enter Tryz.func3, Tryz.ntmps3
  go_wp2_with fail
  rw [<- hobs]
  generalize w.alloc obs = w1 at hB1 hsb HV1 |-
  refine (HZ.out _ HV1.out).mono ?_; rintro e w2 ⟨rfl, b2⟩
  have hB2 := Lib.hid (belowThen hB1.out b2 (Nat.le_refl _))
  have hsb2 := Lib.hid (blk_below hsb.out b2)
  have HV2 := Lib.hid (HV1.out.below b2)
  obtain ⟨k0, k1, k2, k3⟩ : w2.cell? ⟨w.heap.size, 0, none⟩ = some vl /\ w2.cell? ⟨w.heap.size, 1, none⟩ = some vd /\ w2.cell? ⟨w.heap.size, 2, none⟩ = some vf /\ w2.cell? ⟨w.heap.size, 3, none⟩ = some vc := ⟨cell_blk hsb2.out 0, cell_blk hsb2.out 1, cell_blk hsb2.out 2, cell_blk hsb2.out 3⟩
  clear b2 hsb HV1 hB1 HZ
  go_wp2_with fail
  refine (HKN.out h1 h2 h3 _ HV2.out).mono ?_; rintro e w3 ⟨v, T, rfl, ⟨ql, qi, qu, rfl, ⟨s1, n1⟩, ⟨s2, n2⟩, ⟨s3, n3⟩⟩, b3, hT⟩
  clear k0 k1 k2 k3 HKN
  rw [hk]
  obtain ⟨a1, l1, c1, rfl⟩ := s1.slice
  obtain ⟨a2, l2, c2, rfl⟩ := s2.slice
  obtain ⟨a3, l3, c3, rfl⟩ := s3.slice
  obtain ⟨cs, hcs, hsz, hone⟩ := told_cells T a1 a2 a3 l1 l2 l3 c1 c2 c3
  rw [hcs]
  have hB3 := Lib.hid (belowThen hB2.out b3 (Nat.le_refl _))
  have hz3 : w.heap.size <= w3.heap.size := hB3.out.size
  replace s1 := Lib.hid s1
  replace s2 := Lib.hid s2
  replace s3 := Lib.hid s3
  replace hcs := Lib.hid hcs
  have hV3 := Lib.hid (HV2.out.below b3)
  have hsb3 := Lib.hid (blk_below hsb2.out b3)
  clear n1 n2 n3 b3 hB2 hsb2 HV2
  go_wp2_with (refine wpList_store_row rfl 28 (.tmp 7) (.tmp 28) rfl w3.heap.size cs rfl rfl 28 _ (blk_new w3 _) (by rw [hsz]; kernel_rfl) (by rw [hsz]; rfl) hone (Hid.out ?_))
  have hrow := Lib.hid (setRow_heap (w3.alloc (.cells #[.string (B []), .string (B []), .string (B []), .string (B []), .string (B []), .string (B []), .string (B []), .string (B []), .string (B []), .string (B []), .string (B []), .string (B []), .string (B []), .string (B []), .string (B []), .string (B []), .string (B []), .string (B []), .string (B []), .string (B []), .string (B []), .slice none 0 0, .slice none 0 0, .slice none 0 0, .bool false, .bool false, .bool false, .bool false, .bool false, .bool false, .int .i64 0] 28)) w3.heap.size _ cs _ _ (blk_new w3 _))
  have hbel3 : Hid (Below w3.heap.size w3 ((w3.alloc (.cells #[.string (B []), .string (B []), .string (B []), .string (B []), .string (B []), .string (B []), .string (B []), .string (B []), .string (B []), .string (B []), .string (B []), .string (B []), .string (B []), .string (B []), .string (B []), .string (B []), .string (B []), .string (B []), .string (B []), .string (B []), .string (B []), .slice none 0 0, .slice none 0 0, .slice none 0 0, .bool false, .bool false, .bool false, .bool false, .bool false, .bool false, .int .i64 0] 28)).setRow w3.heap.size cs)) := (Below_alloc w3 _).trans ⟨rfl, rfl, rfl, by simp, fun k hk => setRow_other _ _ _ _ (by omega)⟩
  have hbel := Lib.hid (belowThen hB3.out hbel3.out (Nat.le_refl _))
  have t1 := Lib.hid (s1.out.below hbel3.out)
  have t2 := Lib.hid (s2.out.below hbel3.out)
  have t3 := Lib.hid (s3.out.below hbel3.out)
  have hV4 := Lib.hid (hV3.out.below hbel3.out)
  have hsb4 := Lib.hid (blk_below hsb3.out hbel3.out)
  clear s1 s2 s3 hV3 hB3 hbel3 hsb3
  generalize (w3.alloc _).setRow _ _ = wf at hrow hbel t1 t2 t3 hV4 hsb4 |-
  generalize w3.heap.size = gT at hrow |-
  refine Lib.hid ?_
  go_wp2_with fail
  go_ret
  exact ⟨rfl, hbel.out⟩
 | true =>
  go_enter Tryz.func3, Tryz.ntmps3
  go_wp2_with fail
  rw [<- hobs]
  generalize w.alloc obs = w1 at hB1 hsb HV1 |-
  refine (HZ.out _ HV1.out).mono ?_; rintro e w2 ⟨rfl, b2⟩
  have hB2 := Lib.hid (belowThen hB1.out b2 (Nat.le_refl _))
  have hsb2 := Lib.hid (blk_below hsb.out b2)
  have HV2 := Lib.hid (HV1.out.below b2)
  obtain ⟨k0, k1, k2, k3⟩ : w2.cell? ⟨w.heap.size, 0, none⟩ = some vl /\ w2.cell? ⟨w.heap.size, 1, none⟩ = some vd /\ w2.cell? ⟨w.heap.size, 2, none⟩ = some vf /\ w2.cell? ⟨w.heap.size, 3, none⟩ = some vc := ⟨cell_blk hsb2.out 0, cell_blk hsb2.out 1, cell_blk hsb2.out 2, cell_blk hsb2.out 3⟩
  clear b2 hsb HV1 hB1 HZ
  go_wp2_with fail
  refine (HKN.out h1 h2 h3 _ HV2.out).mono ?_; rintro e w3 ⟨v, T, rfl, ⟨ql, qi, qu, rfl, ⟨s1, n1⟩, ⟨s2, n2⟩, ⟨s3, n3⟩⟩, b3, hT⟩
  clear k0 k1 k2 k3 HKN
  rw [hk]
  obtain ⟨a1, l1, c1, rfl⟩ := s1.slice
  obtain ⟨a2, l2, c2, rfl⟩ := s2.slice
  obtain ⟨a3, l3, c3, rfl⟩ := s3.slice
  obtain ⟨cs, hcs, hsz, hone⟩ := told_cells T a1 a2 a3 l1 l2 l3 c1 c2 c3
  rw [hcs]
  have hB3 := Lib.hid (belowThen hB2.out b3 (Nat.le_refl _))
  have hz3 : w.heap.size <= w3.heap.size := hB3.out.size
  replace s1 := Lib.hid s1
  replace s2 := Lib.hid s2
  replace s3 := Lib.hid s3
  replace hcs := Lib.hid hcs
  have hV3 := Lib.hid (HV2.out.below b3)
  have hsb3 := Lib.hid (blk_below hsb2.out b3)
  clear n1 n2 n3 b3 hB2 hsb2 HV2
  go_wp2_with (refine wpList_store_row rfl 28 (.tmp 7) (.tmp 28) rfl w3.heap.size cs rfl rfl 28 _ (blk_new w3 _) (by rw [hsz]; kernel_rfl) (by rw [hsz]; rfl) hone (Hid.out ?_))
  have hrow := Lib.hid (setRow_heap (w3.alloc (.cells #[.string (B []), .string (B []), .string (B []), .string (B []), .string (B []), .string (B []), .string (B []), .string (B []), .string (B []), .string (B []), .string (B []), .string (B []), .string (B []), .string (B []), .string (B []), .string (B []), .string (B []), .string (B []), .string (B []), .string (B []), .string (B []), .slice none 0 0, .slice none 0 0, .slice none 0 0, .bool false, .bool false, .bool false, .bool false, .bool false, .bool false, .int .i64 0] 28)) w3.heap.size _ cs _ _ (blk_new w3 _))
  have hbel3 : Hid (Below w3.heap.size w3 ((w3.alloc (.cells #[.string (B []), .string (B []), .string (B []), .string (B []), .string (B []), .string (B []), .string (B []), .string (B []), .string (B []), .string (B []), .string (B []), .string (B []), .string (B []), .string (B []), .string (B []), .string (B []), .string (B []), .string (B []), .string (B []), .string (B []), .string (B []), .slice none 0 0, .slice none 0 0, .slice none 0 0, .bool false, .bool false, .bool false, .bool false, .bool false, .bool false, .int .i64 0] 28)).setRow w3.heap.size cs)) := (Below_alloc w3 _).trans ⟨rfl, rfl, rfl, by simp, fun k hk => setRow_other _ _ _ _ (by omega)⟩
  have hbel := Lib.hid (belowThen hB3.out hbel3.out (Nat.le_refl _))
  have t1 := Lib.hid (s1.out.below hbel3.out)
  have t2 := Lib.hid (s2.out.below hbel3.out)
  have t3 := Lib.hid (s3.out.below hbel3.out)
  have hV4 := Lib.hid (hV3.out.below hbel3.out)
  have hsb4 := Lib.hid (blk_below hsb3.out hbel3.out)
  clear s1 s2 s3 hV3 hB3 hbel3 hsb3
  generalize (w3.alloc _).setRow _ _ = wf at hrow hbel t1 t2 t3 hV4 hsb4 |-
  generalize w3.heap.size = gT at hrow |-
  refine Lib.hid ?_
  have hT2 : Hid (T = toldM (doParseM site comp (normL s))) := hT hk
  have hpk := HPK.out hk
  have hFx : Hid (Facts site comp s T) := by have h := facts hpk; rw [<- hT2.out] at h; exact h
  obtain ⟨e1, e2, e3, e4, hs400⟩ := pathKnown_len hpk
  clear hT e1 e2 e4
  have f1 : (T.path == []) = false := by rw [beq_eq_false_iff_ne]; exact hFx.out.ne
  have hcs2 : Hid (cs = #[.string (B T.component), .string (B T.container), .string (B T.containerDir), .string (B T.section_), .string (B T.name), .string (B T.nameNoExt), .string (B T.baseName), .string (B T.nameNoId), .string (B T.dir), .string (B T.path), .string (B T.pathNoLang), .string (B T.pathNoId), .string (B T.pathBefore), .string (B T.base), .string (B T.idBase), .string (B T.ext), .string (B T.format), .string (B T.kind), .string (B T.layout), .string (B T.lang), .string (B T.custom), .slice a1 l1 c1, .slice a2 l2 c2, .slice a3 l3 c3, .bool T.disabled, .bool T.isContent, .bool T.isBundle, .bool T.isBranch, .bool T.isLeaf, .bool T.isData, .int .i64 T.typ]) := (Value.agg.inj hcs.out).symm
  have hsbA := hsb4
  have hrowA := hrow
  have hVA := hV4
  have hbelA := hbel
  have t1A := t1
  have t2A := t2
  have t3A := t3
  clear hsb4 hrow hV4 hbel t1 t2 t3
  have x9 : wf.cell? ⟨gT, 9, none⟩ = some (.string (B T.path)) := by rw [cell_blk hrowA.out 9, hcs2.out]; rfl
  obtain ⟨z0, z1, z2, z3⟩ : wf.cell? ⟨w.heap.size, 0, none⟩ = some vl /\ wf.cell? ⟨w.heap.size, 1, none⟩ = some vd /\ wf.cell? ⟨w.heap.size, 2, none⟩ = some vf /\ wf.cell? ⟨w.heap.size, 3, none⟩ = some vc := ⟨cell_blk hsbA.out 0, cell_blk hsbA.out 1, cell_blk hsbA.out 2, cell_blk hsbA.out 3⟩
  have HT2 := Lib.hid (HTU.out hk)
  clear HTU
  go_wp2_with fail
  refine (HT2.out _ hVA.out).mono ?_; rintro e w5 ⟨xl, xd, xf, xc, rfl, hVT, ct1, ct2, ct3, b5⟩
  replace hVT := Lib.hid hVT
  have hrow5 := Lib.hid (blk_below hrowA.out b5)
  have hsb5 := Lib.hid (blk_below hsbA.out b5)
  have hV5 := Lib.hid (hVA.out.below b5)
  have hbel5 := Lib.hid (belowThen hbelA.out b5 (Nat.le_refl _))
  have t15 := Lib.hid (t1A.out.below b5)
  have t25 := Lib.hid (t2A.out.below b5)
  have t35 := Lib.hid (t3A.out.below b5)
  clear hrowA hsbA hVA hbelA t1A t2A t3A z0 z1 z2 z3 x9
  clear b5 HT2
  have hone4 := Lib.hid (site_one hVT.out)
  have HP2 := Lib.hid (fun wx h => HPB.out h1 h2 h3 xl xd xf xc wx h ct1 ct2 ct3)
  have HI3 := Lib.hid (fun hk wx h => HIB.out hk xl xd xf xc wx h)
  clear HPB HIB ct1 ct2 ct3
  go_wp2_with (refine wpList_store_row rfl 25 (.tmp 9) (.tmp 40) rfl w5.heap.size #[xl, xd, xf, xc] rfl rfl 25 _ (blk_new w5 _) (by kernel_rfl) (by rfl) hone4.out (Hid.out ?_))
  have hsB := Lib.hid (setRow_heap (w5.alloc (.cells #[.slice none 0 0, .slice none 0 0, .slice none 0 0, .slice none 0 0] 25)) w5.heap.size _ #[xl, xd, xf, xc] _ _ (blk_new w5 _))
  have b6 : Below w5.heap.size w5 ((w5.alloc (.cells #[.slice none 0 0, .slice none 0 0, .slice none 0 0, .slice none 0 0] 25)).setRow w5.heap.size #[xl, xd, xf, xc]) := (Below_alloc w5 _).trans ⟨rfl, rfl, rfl, by simp, fun k hk => setRow_other _ _ _ _ (by omega)⟩
  have hVB := Lib.hid (hVT.out.below b6)
  have hrow6 := Lib.hid (blk_below hrow5.out b6)
  have hsb6 := Lib.hid (blk_below hsb5.out b6)
  have hV6 := Lib.hid (hV5.out.below b6)
  have hbel6 := Lib.hid (belowThen hbel5.out b6 (Nat.le_refl _))
  have t16 := Lib.hid (t15.out.below b6)
  have t26 := Lib.hid (t25.out.below b6)
  have t36 := Lib.hid (t35.out.below b6)
  clear hrow5 hsb5 hV5 hbel5 t15 t25 t35
  clear b6 hVT
  generalize (w5.alloc _).setRow _ _ = w6 at hsB hVB hrow6 hsb6 hV6 hbel6 t16 t26 t36 |-
  generalize w5.heap.size = gB at hsB |-
  refine Lib.hid ?_
  obtain ⟨z0, z1, z2, z3⟩ : w6.cell? ⟨gB, 0, none⟩ = some xl /\ w6.cell? ⟨gB, 1, none⟩ = some xd /\ w6.cell? ⟨gB, 2, none⟩ = some xf /\ w6.cell? ⟨gB, 3, none⟩ = some xc := ⟨cell_blk hsB.out 0, cell_blk hsB.out 1, cell_blk hsB.out 2, cell_blk hsB.out 3⟩
  go_wp2_with fail
  refine (HP2.out _ hVB.out).mono ?_; rintro e w7 ⟨rfl, b7⟩
  replace hsB := Lib.hid (blk_below hsB.out b7)
  replace hVB := Lib.hid (hVB.out.below b7)
  have hrow7 := Lib.hid (blk_below hrow6.out b7)
  have hsb7 := Lib.hid (blk_below hsb6.out b7)
  have hV7 := Lib.hid (hV6.out.below b7)
  have hbel7 := Lib.hid (belowThen hbel6.out b7 (Nat.le_refl _))
  have t17 := Lib.hid (t16.out.below b7)
  have t27 := Lib.hid (t26.out.below b7)
  have t37 := Lib.hid (t36.out.below b7)
  clear hrow6 hsb6 hV6 hbel6 t16 t26 t36 z0 z1 z2 z3
  clear b7 HP2
  cases hk2 : pathKnown (turnedL site) comp s with
  | false =>
   go_wp2_with fail
   go_ret
   exact ⟨rfl, hbel7.out⟩
  | true =>
  have HI2 := Lib.hid (HI3.out hk2)
  rw [told_turned hpk hk2, <- hT2.out] at HI2
  clear HI3 hT2 hsb7 hV7
  go_upto_region 9 with fail
  refine wp_region_held (S := fun w' => Below w7.drew.heap.size w7.drew w') (by kernel_rfl) ?_
  change wpAnyH _ _ _ _ _ _ _ _ w7.drew
  replace hrow7 : Hid (w7.drew.heap[gT]? = some (.cells cs 28)) := hrow7.out
  replace hsB : Hid (w7.drew.heap[gB]? = some (.cells #[xl, xd, xf, xc] 25)) := hsB.out
  replace hVB : Hid (SiteAt w7.drew xl xd xf xc (turnedL site)) := hVB.out.below (Below_drewN (Below.refl _ _) 1)
  replace t17 : Hid (StrsAt w7.drew _ T.langs) := t17.out.below (Below_drewN (Below.refl _ _) 1)
  replace t27 : Hid (StrsAt w7.drew _ T.ids) := t27.out.below (Below_drewN (Below.refl _ _) 1)
  replace t37 : Hid (StrsAt w7.drew _ T.unknown) := t37.out.below (Below_drewN (Below.refl _ _) 1)
  replace hbel7 : Hid (Below w.heap.size w w7.drew) := Below_drewN hbel7.out 1
  generalize w7.drew = wr at hrow7 hsB hVB t17 t27 t37 hbel7 |-
  have hd : Below wr.heap.size wr wr := Below.refl _ _
  refine wpAnyH_take (i := 0) (v := .agg #[xl, xd, xf, xc]) rfl (by kernel_rfl) (by kernel_rfl) (by kernel_rfl) (fun _ _ _ h => h) (yieldsIf_load_mid (by rfl) 25 (.tmp 9) rfl (gB) 0 rfl (#[xl, xd, xf, xc]).toList _ (fun w' hw' => range_blk (blk_below hsB.out hw')) Tryz.underlying25 rfl (by kernel_rfl)) hd ?_
  refine wpAnyH_take (i := 1) (v := .string (B comp)) rfl (by kernel_rfl) (by kernel_rfl) (by kernel_rfl) (fun _ _ _ h => h) (Or.inl ⟨by rfl, fun w' hw' => by go_simp⟩) hd ?_
  refine wpAnyH_take (i := 2) (v := .string (B s)) rfl (by kernel_rfl) (by kernel_rfl) (by kernel_rfl) (fun _ _ _ h => h) (Or.inl ⟨by rfl, fun w' hw' => by go_simp⟩) hd ?_
  try simp only [List.getElem_toArray, List.getElem_cons_succ, List.getElem_cons_zero, Act.put, List.setIfInBounds_toArray, List.set_cons_zero, List.set_cons_succ]
  refine wpAnyH_take (i := 4) (v := .agg cs) rfl (by kernel_rfl) (by kernel_rfl) (by kernel_rfl) (fun _ _ _ h => h) (yieldsIf_load_mid (by rfl) 28 (.tmp 7) rfl (gT) 0 rfl (cs).toList _ (fun w' hw' => range_blk (blk_below hrow7.out hw')) Tryz.underlying28 rfl (by rw [Array.length_toList, hsz]; kernel_rfl)) hd ?_
  try simp only [List.getElem_toArray, List.getElem_cons_succ, List.getElem_cons_zero, Act.put, List.setIfInBounds_toArray, List.set_cons_zero, List.set_cons_succ]
  refine wpAnyH_all (rs := [3]) (by kernel_rfl) (by simp) ?_
  intro i hi
  obtain rfl := List.mem_singleton.1 hi
  refine wpOp_step rfl (fun K hK => ?_)
  rw [if_pos (by rfl)]
  go_simp
  refine (HI2.out _ (hVB.out.below hd)).mono ?_; rintro e w8 ⟨v8, rfl, ⟨ql, qi, qu, rfl, ⟨s1, n1⟩, ⟨s2, n2⟩, ⟨s3, n3⟩⟩, b8⟩
  have hd : Below wr.heap.size wr w8 := belowThen hd b8 (Nat.le_refl _)
  refine hK _ _ ⟨hd, ?_⟩
  clear hK K
  try simp only [List.getElem_toArray, List.getElem_cons_succ, List.getElem_cons_zero, Act.put, List.setIfInBounds_toArray, List.set_cons_zero, List.set_cons_succ]
  refine wpAnyH_all (rs := [5]) (by kernel_rfl) (by simp) ?_
  intro i hi
  obtain rfl := List.mem_singleton.1 hi
  refine wpOp_step rfl (fun K hK => ?_)
  rw [if_pos (by rfl)]
  go_simp
  rw [<- hcs.out]
  refine (c_alike T f1 _ _ _ _ _ _ _ s1 s2 s3 (t17.out.below hd) (t27.out.below hd) (t37.out.below hd)).mono ?_; rintro e w9 ⟨rfl, b9⟩
  have hd : Below wr.heap.size wr w9 := belowThen hd b9 (Nat.le_refl _)
  refine hK _ _ ⟨hd, ?_⟩
  clear hK K
  try simp only [List.getElem_toArray, List.getElem_cons_succ, List.getElem_cons_zero, Act.put, List.setIfInBounds_toArray, List.set_cons_zero, List.set_cons_succ]
  refine wpAnyH_all (rs := [6]) (by kernel_rfl) (by simp) ?_
  intro i hi
  obtain rfl := List.mem_singleton.1 hi
  refine wpOp_step rfl (fun K hK => ?_)
  rw [if_pos (by rfl)]
  go_simp
  refine hK _ _ ⟨hd, ?_⟩
  clear hK K
  try simp only [List.getElem_toArray, List.getElem_cons_succ, List.getElem_cons_zero, Act.put, List.setIfInBounds_toArray, List.set_cons_zero, List.set_cons_succ]
  refine wpAnyH_done (by kernel_rfl) ?_ _
  have hend := Lib.hid (belowThen hbel7.out hd (Nat.le_refl _))
  go_wp2_with fail
  go_ret
  exact ⟨rfl, hend.out⟩

end Go.Proofs.YtfekhbnefogkdaaGreatDoor

namespace Go.Proofs.YtfekhbnefogkdaaGreatDoor
open Go.ChangeShapes Go.WideShapes Go.ChangeAt Go.RowKit
open Go.ChangeMaps (open_string shut_string)

theorem own : ownKnob Tryz.prog.godebug = none := by kernel_rfl
theorem laidOut : laidOutB Tryz.prog = true := by kernel_rfl
theorem siteReads : Tryz.prog.readableRec 25 = true := by kernel_rfl
theorem siteRow : 25 < Tryz.prog.types.size := of_decide_eq_true (by kernel_rfl)

def laidAll' : List (String × DataW Unit) := Rows.fnSiteTurnedRow.laid

set_option maxRecDepth 100000 in
theorem lifted1 (os : Os) (started : os.Started) (H : Type) (enc : TypeId × Value -> H) :
  ReturnsInHanded {} Tryz.checked os 3 .any (fun w args => (Rows.fnSiteTurnedSpec.pre enc Tryz.prog Tryz.f3 Rows.fnSiteTurnedRow.domain false w args /\ laidMetH Tryz.prog laidAll' w) /\ sizedMet enc Tryz.prog Tryz.f3 (OpenSpec.ofChange Rows.fnSiteTurnedSpec) false w args)
   (Rows.fnSiteTurnedSpec.post enc Tryz.prog Tryz.f3 false true false false) := by
 refine returnsInHanded_of_change_and (C := Tryz.checked) (X := fun w _ => laidMetH Tryz.prog laidAll' w) (fun _ _ _ hh h => h.of_heap hh) own started (by kernel_rfl) Tryz.func3
  (ChangeSpec.witness_shaped (enc := enc) (C := Tryz.checked) (os := os) (X := fun w _ => laidMetH Tryz.prog laidAll' w) false (World.laidAll Tryz.prog os laidAll') #[.agg #[.slice none 0 0, .slice none 0 0, .slice none 0 0, .slice none 0 0], .string ByteArray.empty, .string ByteArray.empty] 8 (World.laidAll_os _ _ _)
   (World.shaped_of_ZipB (by kernel_rfl) (by kernel_rfl)) (by kernel_rfl) (by kernel_rfl) (by kernel_rfl)
   (by rw [MakeChecks.laidMetH_plain _ _ _ (by kernel_rfl)]; exact laidMet_laidAll _ (by kernel_rfl) (by kernel_rfl))) ?_
 intro W base args ds gs before hval0 hW hc hsz0 _ _
 have hsz : (DataW.weightsEach Tryz.prog (Tryz.f3.params.toList ++ Rows.fnSiteTurnedSpec.plain.varTypes Tryz.prog) (ds ++ gs)).all (· <= reachBytes) = true := hsz0
 have hval : ∀ (j : Nat) t v, Tryz.f3.params[j]? = some t -> args[j]? = some v -> Value.okWide Tryz.prog W .any base t v := hval0
 have hW' := hW
 obtain ⟨p, q, hA0, hV, rfl, _, _⟩ := hW
 have hA : DataW.TrodAll enc Tryz.prog W 0 (fun _ => true) true Tryz.f3.params.toList args.toList ds p := hA0
 rw [Tryz.params3] at hA hval hsz
 obtain ⟨v0, v1, v2, d0, d1, d2, p0, p1, p2, rfl, rfl, rfl, h0, h1, h2⟩ := trodAll_three hA
 obtain ⟨rfl, rfl⟩ := trodVars_none hV
 obtain ⟨a1, rfl, rfl, rfl, y1⟩ := open_string Tryz.underlying9 (hval 1 9 v1 rfl rfl) h1
 obtain ⟨a2, rfl, rfl, rfl, y2⟩ := open_string Tryz.underlying9 (hval 2 9 v2 rfl rfl) h2
 have w1 : a1.size <= 140737488351232 := by
  have z := sized_string hsz (j := 1) (t := 9) rfl rfl
  rw [Array.length_toList] at z
  exact z
 have w2 : a2.size <= 140737488351232 := by
  have z := sized_string hsz (j := 2) (t := 9) rfl rfl
  rw [Array.length_toList] at z
  exact z
 have w0 : ∀ n ∈ d0.weights Tryz.prog 25, n <= reachBytes := fun n hn => by
  have := List.all_eq_true.1 hsz n (DataW.weights_mem_each (j := 0) (t := 25) rfl rfl n hn)
  simpa using this
 obtain ⟨vl, vd, vf, vc, site, rfl, hs, cl, cd, cc⟩ := open_site h0 (hval 0 25 v0 rfl rfl) w0
 have hlt : ∀ x ∈ p0, x.block < W.heap.size := fun x hx => hW'.lt x (by simp [hx])
 obtain ⟨l1, rfl⟩ := B_surj a1
 obtain ⟨l2, rfl⟩ := B_surj a2
 rw [B_size] at w1 w2
 refine (w_FnSiteTurned site l1 l2 vl vd vf vc W hs cl cd cc w1 w2).mono fun e W' ⟨he, bel⟩ => ?_
 subst he
 refine ⟨_, rfl, _, _, _, [], _, [], hW', trodAll_mk1 (shut_bool Tryz.underlying4 _), trodAll_mk3 (Below.trod laidOut siteReads siteRow h0 bel hlt) (shut_string Tryz.underlying9 y1) (shut_string Tryz.underlying9 y2), rfl, bel.frame _, fun h => by cases h⟩

theorem over1 : Rows.FnSiteTurnedSaid :=
 OpenClaim.holds_of_wide 3 Tryz.f3 rfl rfl rfl rfl rfl rfl rfl ⟨rfl, rfl, rfl, rfl, rfl⟩ rfl rfl rfl rfl rfl (by kernel_rfl) Tryz.func3 (by kernel_rfl)
  (of_decide_eq_true (by kernel_rfl)) (by unfold Func.isWrapper; first | (rw [if_pos (by decide +kernel)]; kernel_rfl) | (rw [if_neg (by decide +kernel)]; exact ⟨rfl, rfl⟩))
  (fun os started H enc _ => lifted1 os started H enc)

theorem fnSiteTurned_holds : Rows.FnSiteTurnedCardSaid :=
 Claim7.holds_tied_plain_at .later [] [.data, .pinned, .pinned] true Rows.fnSiteTurnedCard.stood.harness false over1 (fun _ h => by cases h) (by kernel_rfl) (fun _ h => by cases h) fnSiteTurned_row_tie rfl ⟨rfl, rfl⟩ (by kernel_rfl) rfl
  (fun f fn hf hfn => by
   obtain rfl : f = 3 := Option.some.inj ((show Tryz.prog.funcNamed Rows.fnSiteTurnedRow.func = some 3 by kernel_rfl).symm.trans hf) |>.symm
   obtain rfl : fn = Tryz.f3 := (Option.some.inj (Tryz.func3.symm.trans hfn)).symm
   exact ⟨by kernel_rfl, fun j t ht => by
    rw [Tryz.params3] at ht
    have hm : t ∈ [25, 9, 9] := by simpa using Array.mem_of_getElem? ht
    have hall : ([25, 9].all fun u => !Tryz.prog.wantsStandIn u) = true := by kernel_rfl
    exact (show Tryz.prog.wantsStandIn t = false by simpa using List.all_eq_true.1 hall t (by simp at hm |-; exact hm))⟩)
  (by kernel_rfl)
#print axioms fnSiteTurned_holds
end Go.Proofs.YtfekhbnefogkdaaGreatDoor
