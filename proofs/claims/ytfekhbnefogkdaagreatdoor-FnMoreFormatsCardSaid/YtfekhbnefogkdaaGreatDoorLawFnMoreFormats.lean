/- The walk of the law FnMoreFormats: an output format more whose name stands nowhere in a path changes nothing. Conditions: a site in memory, texts that fit into the platform's addresses. Printed by gen_more.py. -/
import Derived.Test.YtfekhbnefogkdaaGreatDoorKnown
import Derived.Test.YtfekhbnefogkdaaGreatDoorSimM
import Derived.Test.YtfekhbnefogkdaaGreatDoorMore
import Derived.Test.YtfekhbnefogkdaaGreatDoorAlike
import Derived.Test.YtfekhbnefogkdaaGreatDoorKnowA
import Derived.Test.YtfekhbnefogkdaaGreatDoorTwice
import Derived.Test.YtfekhbnefogkdaaGreatDoorLawP
import Derived.Deep.RegionHeld3
import Derived.Test.YtfekhbnefogkdaaGreatDoorOpen
import Derived.Test.YtfekhbnefogkdaaGreatDoorRows
import Derived.Test.YtfekhbnefogkdaaGreatDoorCards
import Derived.Test.YtfekhbnefogkdaaGreatDoorTie
import Derived.ProofKit
import Derived.OpenShut
import Derived.ShutString
import Derived.ChangeOld
import Derived.SizedLaws
import Derived.LaidMore
import Derived.Lay
import Derived.SevenTiedAt
import Derived.Stop.Joined
import Derived.Carry
set_option maxRecDepth 100000
set_option linter.unusedVariables false
set_option linter.unusedSimpArgs false
namespace Go.Proofs.YtfekhbnefogkdaaGreatDoor
open Go.RowKit
attribute [local go_sem] B_extract B_toList B_append

theorem site_one {w : World} {vl vd vf vc : Value} {site : SiteM} (h : SiteAt w vl vd vf vc site) : (#[vl, vd, vf, vc] : Array Value).all (·.oneCell') = true := by
 obtain ⟨_, _, _, rfl, _⟩ := h.l
 obtain ⟨_, _, _, rfl, _⟩ := h.d
 obtain ⟨_, _, _, rfl, _⟩ := h.f
 obtain ⟨_, _, _, rfl, _⟩ := h.c
 simp [Value.oneCell']
theorem fits_more {site : SiteM} {f : Str × Str} (h : siteFits site = true) (hf : fits4 f = true) (hl : site.formats.length <= 2147483646) : siteFits (moreL site f) = true := by
 unfold siteFits at h |-
 simp only [Bool.and_eq_true] at h |-
 refine ⟨⟨⟨h.1.1.1, h.1.1.2⟩, ?_⟩, h.2⟩
 have h3 := h.1.2
 unfold fits3 at h3 |-
 simp only [Bool.and_eq_true] at h3 |-
 refine ⟨?_, ?_⟩
 ·show (!bigB (site.formats ++ [f]).length) = true
  rw [List.length_append, List.length_singleton]
  unfold bigB
  simp
  omega
 ·show (site.formats ++ [f]).all fits4 = true
  rw [List.all_append, h3.2]
  simp [hf]
theorem fits_fmts {site : SiteM} (h : siteFits site = true) : site.formats.length <= 2147483647 := by
 unfold siteFits fits3 at h
 simp only [Bool.and_eq_true] at h
 have := h.1.2.1
 unfold bigB at this
 simp at this
 omega
theorem fits4_len {f : Str × Str} (h : fits4 f = true) : f.1.length <= 2147483647 /\ f.2.length <= 2147483647 := by
 unfold fits4 bigB at h
 simp at h
 omega
theorem sumFmt_len : ∀ l : List (Str × Str), l.length <= sumFmt l
 | [] => Nat.le_refl _
 | x :: t => by
  have h := sumFmt_len t
  have e : sumFmt (x :: t) = (1 + x.1.length + x.2.length) + sumFmt t := by unfold sumFmt; simp
  rw [List.length_cons, e]; omega
theorem known_fmts {site : SiteM} {comp s : Str} (h : knownL site comp s = true) : site.formats.length <= 2000 := by
 unfold knownL shortL fewL at h
 simp only [Bool.and_eq_true, decide_eq_true_eq] at h
 have := sumFmt_len site.formats
 omega
theorem strange_more {site : SiteM} {comp s : Str} {f : Str × Str} (h2 : pathKnown (moreL site f) comp s = true) (h : strangeL s f.1 = true) : holdsL (normL s) f.1 = false := by
 have hsk := (pathKnown_len h2).1
 have hfw : siteWord f.1 = true := by
  unfold siteKnown at hsk
  simp only [Bool.and_eq_true, List.all_eq_true] at hsk
  exact (hsk.2 f (by show f ∈ site.formats ++ [f]; simp)).1
 unfold strangeL at h
 rw [norm_word hfw] at h
 simp at h
 exact h.2

set_option maxHeartbeats 16000000 in
theorem w_FnMoreFormats (site : SiteM) (comp s : Str) (f : Str × Str) (vl vd vf vc : Value) (w : World) (hv : SiteAt w vl vd vf vc site) (hcl : CapOK vl) (hcd : CapOK vd) (hcc : CapOK vc) (hc0 : comp.length <= 140737488351232) (hs0 : s.length <= 140737488351232) (hf1 : f.1.length <= 140737488351232) (hf2 : f.2.length <= 140737488351232) :
  Calls Tryz.prog 4 #[.agg #[vl, vd, vf, vc], .string (B comp), .string (B s), .agg #[.string (B f.1), .string (B f.2)]] w fun e w' => e = .returned (.bool true) /\ Below w.heap.size w w' := by
 have HZ : Hid (∀ wx, SiteAt wx vl vd vf vc site -> Calls Tryz.prog 9 #[.agg #[vl, vd, vf, vc]] wx fun e w' => e = .returned (.bool (siteFits site)) /\ Below wx.heap.size wx w') := fun wx h => c_zzFits1 site vl vd vf vc wx h
 have HZ4 : Hid (∀ wx, Calls Tryz.prog 15 #[.agg #[.string (B f.1), .string (B f.2)]] wx fun e w' => e = .returned (.bool (fits4 f)) /\ Below wx.heap.size wx w') := fun wx => c_zzFits4 f wx
 have HKN : Hid (siteFits site = true -> comp.length <= 2147483647 -> s.length <= 2147483647 -> ∀ wx, SiteAt wx vl vd vf vc site -> Calls Tryz.prog 10 #[.agg #[vl, vd, vf, vc], .string (B comp), .string (B s)] wx
   fun e w' => ∃ v T, e = .returned (.tuple #[v, .bool (knownL site comp s)]) /\ ToldAtN wx.heap.size w' v T /\ Below wx.heap.size wx w' /\ (knownL site comp s = true -> T = toldM (doParseM site comp (normL s)))) := fun hf h1 h2 wx h => c_known site comp s vl vd vf vc wx h hcl hcd hcc hf h1 h2
 have HPK : Hid (knownL site comp s = true -> pathKnown site comp s = true) := fun h => by unfold knownL at h; rw [Bool.and_eq_true] at h; exact h.2
 have HST : Hid (s.length <= 2147483647 -> fits4 f = true -> ∀ wx, Calls Tryz.prog 16 #[.string (B s), .string (B f.1)] wx fun e w' => e = .returned (.bool (strangeL s f.1)) /\ Below wx.heap.size wx w') := fun h1 h2 wx => c_strange s f.1 wx h1 (fits4_len h2).1
 have HPB : Hid (siteFits site = true -> comp.length <= 2147483647 -> s.length <= 2147483647 -> fits4 f = true -> knownL site comp s = true -> ∀ xf wx, SiteAt wx vl vd xf vc (moreL site f) -> Calls Tryz.prog 12 #[.agg #[vl, vd, xf, vc], .string (B comp), .string (B s)] wx fun e w' => e = .returned (.bool (pathKnown (moreL site f) comp s)) /\ Below wx.heap.size wx w') := fun hf hc hs h4 hk xf wx h => c_PathKnown (moreL site f) comp s vl vd xf vc wx h hcl hcd hcc (fits_more hf h4 (by have := known_fmts hk; omega)) hc hs
 have HIB : Hid (pathKnown (moreL site f) comp s = true -> ∀ xf wx, SiteAt wx vl vd xf vc (moreL site f) -> Calls Tryz.prog 14 #[.agg #[vl, vd, xf, vc], .string (B comp), .string (B s)] wx fun e w' => ∃ v, e = .returned v /\ ToldAtN wx.heap.size w' v (toldM (doParseM (moreL site f) comp (normL s))) /\ Below wx.heap.size wx w') := fun hk xf wx h => by
  obtain ⟨h1, h2, h3, h4, h5⟩ := pathKnown_site hk
  exact c_implParse wx (moreL site f) comp s vl vd xf vc h (siteKnown_once h1) (by omega) h3
 have hone4 : Hid ((#[vl, vd, vf, vc] : Array Value).all (·.oneCell') = true) := site_one hv
 obtain ⟨obs, hobs⟩ : ∃ o : Obj, o = .cells #[vl, vd, vf, vc] 25 := ⟨_, rfl⟩
 obtain ⟨obm, hobm⟩ : ∃ o : Obj, o = .cells #[.string (B f.1), .string (B f.2)] 36 := ⟨_, rfl⟩
 have hB1 : Hid (Below w.heap.size w ((w.alloc obs).alloc obm)) := (Below_alloc w obs).trans ((Below_alloc (w.alloc obs) obm).mono (by simp))
 have hsb : Hid (((w.alloc obs).alloc obm).heap[w.heap.size]? = some (.cells #[vl, vd, vf, vc] 25)) := by
  have := blk_old (w.alloc obs) obm (blk_new w obs)
  rw [hobs] at this |-; exact this
 have hmb : Hid (((w.alloc obs).alloc obm).heap[w.heap.size + 1]? = some (.cells #[.string (B f.1), .string (B f.2)] 36)) := by
  have := blk_new (w.alloc obs) obm
  rw [show (w.alloc obs).heap.size = w.heap.size + 1 by simp, hobm] at this
  rw [hobm]; exact this
 have HV1 : Hid (SiteAt ((w.alloc obs).alloc obm) vl vd vf vc site) := (hv.alloc obs).alloc obm
 clear hv hcl hcd hcc
 cases h1 : siteFits site with
 | false =>
  rw [h1] at HZ
  go_enter Tryz.func4, Tryz.ntmps4
  go_wp2_with fail
  rw [<- hobs, <- hobm]
  generalize (w.alloc obs).alloc obm = w1 at hB1 hsb hmb HV1 |-
  refine (HZ.out _ HV1.out).mono ?_; rintro e w2 ⟨rfl, b2⟩
  have hB2 := Lib.hid (belowThen hB1.out b2 (Nat.le_refl _))
  go_wp2_with fail
  go_ret
  exact ⟨rfl, hB2.out⟩
 | true =>
 rw [h1] at HZ
 by_cases h2 : comp.length <= 2147483647
 rotate_left 1
 ·skip
  go_enter Tryz.func4, Tryz.ntmps4
  go_wp2_with fail
  rw [<- hobs, <- hobm]
  generalize (w.alloc obs).alloc obm = w1 at hB1 hsb hmb HV1 |-
  refine (HZ.out _ HV1.out).mono ?_; rintro e w2 ⟨rfl, b2⟩
  have hB2 := Lib.hid (belowThen hB1.out b2 (Nat.le_refl _))
  go_wp2_with fail
  go_ret
  exact ⟨rfl, hB2.out⟩
 by_cases h3 : s.length <= 2147483647
 rotate_left 1
 ·skip
  go_enter Tryz.func4, Tryz.ntmps4
  go_wp2_with fail
  rw [<- hobs, <- hobm]
  generalize (w.alloc obs).alloc obm = w1 at hB1 hsb hmb HV1 |-
  refine (HZ.out _ HV1.out).mono ?_; rintro e w2 ⟨rfl, b2⟩
  have hB2 := Lib.hid (belowThen hB1.out b2 (Nat.le_refl _))
  go_wp2_with fail
  go_ret
  exact ⟨rfl, hB2.out⟩
 have hfl := Lib.hid (fits_fmts h1)
 go_enter Tryz.func4, Tryz.ntmps4
 go_wp2_with fail
 rw [<- hobs, <- hobm]
 generalize (w.alloc obs).alloc obm = w1 at hB1 hsb hmb HV1 |-
 refine (HZ.out _ HV1.out).mono ?_; rintro e w2 ⟨rfl, b2⟩
 have hB2 := Lib.hid (belowThen hB1.out b2 (Nat.le_refl _))
 have hsb2 := Lib.hid (blk_below hsb.out b2)
 have hmb2 := Lib.hid (blk_below hmb.out b2)
 have HV2 := Lib.hid (HV1.out.below b2)
 obtain ⟨k0, k1, k2, k3⟩ : w2.cell? ⟨w.heap.size, 0, none⟩ = some vl /\ w2.cell? ⟨w.heap.size, 1, none⟩ = some vd /\ w2.cell? ⟨w.heap.size, 2, none⟩ = some vf /\ w2.cell? ⟨w.heap.size, 3, none⟩ = some vc := ⟨cell_blk hsb2.out 0, cell_blk hsb2.out 1, cell_blk hsb2.out 2, cell_blk hsb2.out 3⟩
 obtain ⟨m0, m1⟩ : w2.cell? ⟨w.heap.size + 1, 0, none⟩ = some (.string (B f.1)) /\ w2.cell? ⟨w.heap.size + 1, 1, none⟩ = some (.string (B f.2)) := ⟨cell_blk hmb2.out 0, cell_blk hmb2.out 1⟩
 clear b2 hsb hmb HV1 hB1 HZ
 go_wp2_with fail
 refine (HZ4.out _).mono ?_; rintro e w3 ⟨rfl, b3⟩
 have hB3 := Lib.hid (belowThen hB2.out b3 (Nat.le_refl _))
 have hsb3 := Lib.hid (blk_below hsb2.out b3)
 have hmb3 := Lib.hid (blk_below hmb2.out b3)
 have HV3 := Lib.hid (HV2.out.below b3)
 clear k0 k1 k2 k3 m0 m1 b3 hsb2 hmb2 HV2 HZ4 hB2
 obtain ⟨k0, k1, k2, k3⟩ : w3.cell? ⟨w.heap.size, 0, none⟩ = some vl /\ w3.cell? ⟨w.heap.size, 1, none⟩ = some vd /\ w3.cell? ⟨w.heap.size, 2, none⟩ = some vf /\ w3.cell? ⟨w.heap.size, 3, none⟩ = some vc := ⟨cell_blk hsb3.out 0, cell_blk hsb3.out 1, cell_blk hsb3.out 2, cell_blk hsb3.out 3⟩
 obtain ⟨m0, m1⟩ : w3.cell? ⟨w.heap.size + 1, 0, none⟩ = some (.string (B f.1)) /\ w3.cell? ⟨w.heap.size + 1, 1, none⟩ = some (.string (B f.2)) := ⟨cell_blk hmb3.out 0, cell_blk hmb3.out 1⟩
 cases h4 : fits4 f with
 | false =>
  go_wp2_with fail
  go_ret
  exact ⟨rfl, hB3.out⟩
 | true =>
 go_wp2_with fail
 refine (HKN.out h1 h2 h3 _ HV3.out).mono ?_; rintro e w4 ⟨v, T, rfl, ⟨ql, qi, qu, rfl, ⟨s1, n1⟩, ⟨s2, n2⟩, ⟨s3, n3⟩⟩, b4, hT⟩
 clear k0 k1 k2 k3 m0 m1 HKN
 have HP2 := Lib.hid (HPB.out h1 h2 h3 h4)
 have HS2 := Lib.hid (HST.out h3 h4)
 clear HPB HST h1 h2 h3 h4
 obtain ⟨a1, l1, c1, rfl⟩ := s1.slice
 obtain ⟨a2, l2, c2, rfl⟩ := s2.slice
 obtain ⟨a3, l3, c3, rfl⟩ := s3.slice
 obtain ⟨cs, hcs, hsz, hone⟩ := told_cells T a1 a2 a3 l1 l2 l3 c1 c2 c3
 rw [hcs]
 obtain ⟨kb, hkb⟩ : ∃ k, k = knownL site comp s := ⟨_, rfl⟩
 rw [<- hkb] at hT HP2 HPK |-
 replace hkb := Lib.hid hkb
 replace hT := Lib.hid hT
 have hB4 := Lib.hid (belowThen hB3.out b4 (Nat.le_refl _))
 have hsb4 := Lib.hid (blk_below hsb3.out b4)
 have hmb4 := Lib.hid (blk_below hmb3.out b4)
 have HV4 := Lib.hid (HV3.out.below b4)
 replace s1 := Lib.hid s1
 replace s2 := Lib.hid s2
 replace s3 := Lib.hid s3
 replace hcs := Lib.hid hcs
 clear n1 n2 n3 b4 hB3 hsb3 hmb3 HV3
 obtain ⟨k0, k1, k2, k3⟩ : w4.cell? ⟨w.heap.size, 0, none⟩ = some vl /\ w4.cell? ⟨w.heap.size, 1, none⟩ = some vd /\ w4.cell? ⟨w.heap.size, 2, none⟩ = some vf /\ w4.cell? ⟨w.heap.size, 3, none⟩ = some vc := ⟨cell_blk hsb4.out 0, cell_blk hsb4.out 1, cell_blk hsb4.out 2, cell_blk hsb4.out 3⟩
 go_wp2_with (refine wpList_store_row rfl 28 (.tmp 9) (.tmp 35) rfl w4.heap.size cs rfl rfl 28 _ (blk_new w4 _) (by rw [hsz]; kernel_rfl) (by rw [hsz]; rfl) hone (Hid.out ?_))
 have hrow := Lib.hid (setRow_heap (w4.alloc (.cells #[.string (B []), .string (B []), .string (B []), .string (B []), .string (B []), .string (B []), .string (B []), .string (B []), .string (B []), .string (B []), .string (B []), .string (B []), .string (B []), .string (B []), .string (B []), .string (B []), .string (B []), .string (B []), .string (B []), .string (B []), .string (B []), .slice none 0 0, .slice none 0 0, .slice none 0 0, .bool false, .bool false, .bool false, .bool false, .bool false, .bool false, .int .i64 0] 28)) w4.heap.size _ cs _ _ (blk_new w4 _))
 have b5 : Below w4.heap.size w4 ((w4.alloc (.cells #[.string (B []), .string (B []), .string (B []), .string (B []), .string (B []), .string (B []), .string (B []), .string (B []), .string (B []), .string (B []), .string (B []), .string (B []), .string (B []), .string (B []), .string (B []), .string (B []), .string (B []), .string (B []), .string (B []), .string (B []), .string (B []), .slice none 0 0, .slice none 0 0, .slice none 0 0, .bool false, .bool false, .bool false, .bool false, .bool false, .bool false, .int .i64 0] 28)).setRow w4.heap.size cs) := (Below_alloc w4 _).trans ⟨rfl, rfl, rfl, by simp, fun k hk => setRow_other _ _ _ _ (by omega)⟩
 have hB5 := Lib.hid (belowThen hB4.out b5 (Nat.le_refl _))
 have hsb5 := Lib.hid (blk_below hsb4.out b5)
 have hmb5 := Lib.hid (blk_below hmb4.out b5)
 have HV5 := Lib.hid (HV4.out.below b5)
 have t1 := Lib.hid (s1.out.below b5)
 have t2 := Lib.hid (s2.out.below b5)
 have t3 := Lib.hid (s3.out.below b5)
 clear s1 s2 s3 hB4 b5 hsb4 hmb4 HV4 k0 k1 k2 k3
 generalize (w4.alloc _).setRow _ _ = w5 at hrow hB5 hsb5 hmb5 HV5 t1 t2 t3 |-
 generalize w4.heap.size = gT at hrow |-
 refine Lib.hid ?_
 obtain ⟨k0, k1, k2, k3⟩ : w5.cell? ⟨w.heap.size, 0, none⟩ = some vl /\ w5.cell? ⟨w.heap.size, 1, none⟩ = some vd /\ w5.cell? ⟨w.heap.size, 2, none⟩ = some vf /\ w5.cell? ⟨w.heap.size, 3, none⟩ = some vc := ⟨cell_blk hsb5.out 0, cell_blk hsb5.out 1, cell_blk hsb5.out 2, cell_blk hsb5.out 3⟩
 obtain ⟨m0, m1⟩ : w5.cell? ⟨w.heap.size + 1, 0, none⟩ = some (.string (B f.1)) /\ w5.cell? ⟨w.heap.size + 1, 1, none⟩ = some (.string (B f.2)) := ⟨cell_blk hmb5.out 0, cell_blk hmb5.out 1⟩
 go_wp2_with (refine wpList_store_row rfl 25 (.tmp 11) (.tmp 37) rfl w5.heap.size #[vl, vd, vf, vc] rfl rfl 25 _ (blk_new w5 _) (by kernel_rfl) (by rfl) hone4.out (Hid.out ?_))
 have P0 : Hid (Ap w5 ((w5.alloc (.cells #[.slice none 0 0, .slice none 0 0, .slice none 0 0, .slice none 0 0] 25)).setRow w5.heap.size #[vl, vd, vf, vc]) #[vl, vd, vf, vc]) := ⟨(Below_alloc w5 _).trans ⟨rfl, rfl, rfl, by simp, fun k hk => setRow_other _ _ _ _ (by omega)⟩, setRow_heap (w5.alloc (.cells #[.slice none 0 0, .slice none 0 0, .slice none 0 0, .slice none 0 0] 25)) w5.heap.size _ #[vl, vd, vf, vc] _ _ (blk_new w5 _)⟩
 generalize (w5.alloc _).setRow _ _ = w6 at P0 |-
 refine Lib.hid ?_
 clear k0 k1 k2 k3 m0 m1 hone4
 go_upto_region 5 with fail
 go_cut [] from 38 to 45 (fun wc => ∃ a c, Ap w5 wc #[vl, vd, .slice a (site.formats ++ [f]).length c, vc] /\ FmtsAt wc (.slice a (site.formats ++ [f]).length c) (site.formats ++ [f]))
 case first =>
  have HVF : Hid (∀ wx, Below w5.heap.size w5 wx -> FmtsAt wx vf site.formats) := fun wx hb => (HV5.out.below hb).f
  have q2 : Hid (w5.cell? ⟨w.heap.size, 2, none⟩ = some vf) := cell_blk hsb5.out 2
  have ap : Ap w5 w6.drew #[vl, vd, vf, vc] := ⟨Below_drewN P0.out.bel 1, P0.out.blk⟩
  clear P0 HV5 t1 t2 t3 hrow hT HPK HP2 HS2 HIB
  refine wp_region_held (S := fun w' => Below w5.heap.size w5 w') (by kernel_rfl) ?_
  change wpAnyH _ _ _ _ _ _ _ _ w6.drew
  generalize w6.drew = wr at ap |-
  refine wpAnyH_take (i := 1) (v := .pointer (some ⟨w.heap.size, 2, none⟩)) rfl (by kernel_rfl) (by kernel_rfl) (by kernel_rfl) (fun _ _ _ h => h) (Or.inl ⟨by rfl, fun w' hw' => by
    go_simp⟩) ap.bel ?_
  try simp only [List.getElem_toArray, List.getElem_cons_succ, List.getElem_cons_zero, Act.put, List.setIfInBounds_toArray, List.set_cons_zero, List.set_cons_succ]
  refine wpAnyH_take (i := 2) (v := vf) rfl (by kernel_rfl) (by kernel_rfl) (by kernel_rfl) (fun _ _ _ h => h) (Or.inl ⟨by rfl, fun w' hw' => by
    have y : w'.cell? ⟨w.heap.size, 2, none⟩ = some vf := ((bcell hw').1 _ _ (lt_of_block hsb5.out)).trans q2.out
    go_simp⟩) ap.bel ?_
  try simp only [List.getElem_toArray, List.getElem_cons_succ, List.getElem_cons_zero, Act.put, List.setIfInBounds_toArray, List.set_cons_zero, List.set_cons_succ]
  refine wpAnyH_take (i := 4) (v := .agg #[.string (B f.1), .string (B f.2)]) rfl (by kernel_rfl) (by kernel_rfl) (by kernel_rfl) (fun _ _ _ h => h) (yieldsIf_load_mid (by rfl) 36 (.tmp 7) rfl (w.heap.size + 1) 0 rfl (#[.string (B f.1), .string (B f.2)]).toList _ (fun w' hw' => range_blk (blk_below hmb5.out hw')) Tryz.underlying36 rfl (by kernel_rfl)) ap.bel ?_
  try simp only [List.getElem_toArray, List.getElem_cons_succ, List.getElem_cons_zero, Act.put, List.setIfInBounds_toArray, List.set_cons_zero, List.set_cons_succ]
  refine wpAnyH_all (rs := [0, 5]) (by kernel_rfl) (by simp) ?_
  intro i hi
  rcases List.mem_cons.1 hi with rfl | hi
  ·skip
   refine wpOp_run' rfl rfl _ _ run_none ⟨(ap.alloc _).bel, ?_⟩
   have own0 := World.ownsRow_made (base := w5.heap.size + 1) (e := 36) (size := 2) wr #[] 0 ap.lt (by decide) rfl
   try simp only [List.getElem_toArray, List.getElem_cons_succ, List.getElem_cons_zero, Act.put, List.setIfInBounds_toArray, List.set_cons_zero, List.set_cons_succ]
   replace ap := ap.alloc (.cells #[] 36)
   generalize wr.alloc (.cells #[] 36) = wb at ap own0 |-
   refine wpAnyH_all (rs := [3, 5]) (by kernel_rfl) (by simp) ?_
   intro i hi
   rcases List.mem_cons.1 hi with rfl | hi
   ·skip
    obtain ⟨v3, wA, hr3, own3, hg3, hb3⟩ := app_fmts own0 (HVF.out _ ap.bel) hfl.out ap.lt
    refine wpOp_app rfl rfl (.tmp 38) (.tmp 40) 23 rfl _ _ rfl rfl hr3 ⟨(ap.grown hg3 (fun k hk => (own0.lt k hk).1)).bel, ?_⟩
    replace ap := ap.grown hg3 (fun k hk => (own0.lt k hk).1)
    try simp only [List.getElem_toArray, List.getElem_cons_succ, List.getElem_cons_zero, Act.put, List.setIfInBounds_toArray, List.set_cons_zero, List.set_cons_succ]
    refine wpAnyH_all (rs := [5]) (by kernel_rfl) (by simp) ?_
    intro i hi
    obtain rfl := List.mem_singleton.1 hi
    refine wpOp_run' rfl rfl _ _ (run_one (by rfl)) ⟨(ap.alloc _).bel, ?_⟩
    try simp only [List.getElem_toArray, List.getElem_cons_succ, List.getElem_cons_zero, Act.put, List.setIfInBounds_toArray, List.set_cons_zero, List.set_cons_succ]
    have h5 := blk_new wA (.cells #[.string (B f.1), .string (B f.2)] 36)
    replace own3 := own3.alloc (.cells #[.string (B f.1), .string (B f.2)] 36)
    replace ap := ap.alloc (.cells #[.string (B f.1), .string (B f.2)] 36)
    generalize wA.alloc (.cells #[.string (B f.1), .string (B f.2)] 36) = wc at ap own3 h5 |-
    obtain ⟨g6, c6, wE, hr6, own6, hg6⟩ := app_one own3 h5 hfl.out ap.lt
    refine wpAnyH_all (rs := [6]) (by kernel_rfl) (by simp) ?_
    intro i hi
    obtain rfl := List.mem_singleton.1 hi
    refine wpOp_app rfl rfl (.tmp 41) (.tmp 43) 23 rfl _ _ rfl rfl hr6 ⟨(ap.grown hg6 (fun k hk => (own3.lt k hk).1)).bel, ?_⟩
    replace ap := ap.grown hg6 (fun k hk => (own3.lt k hk).1)
    try simp only [List.getElem_toArray, List.getElem_cons_succ, List.getElem_cons_zero, Act.put, List.setIfInBounds_toArray, List.set_cons_zero, List.set_cons_succ]
    refine wpAnyH_take (i := 7) (v := .pointer (some ⟨w5.heap.size, 2, none⟩)) rfl (by kernel_rfl) (by kernel_rfl) (by kernel_rfl) (fun _ _ _ h => h) (Or.inl ⟨by rfl, fun w' hw' => by
      go_simp⟩) ap.bel ?_
    try simp only [List.getElem_toArray, List.getElem_cons_succ, List.getElem_cons_zero, Act.put, List.setIfInBounds_toArray, List.set_cons_zero, List.set_cons_succ]
    refine wpAnyH_all (rs := [8]) (by kernel_rfl) (by simp) ?_
    intro i hi
    obtain rfl := List.mem_singleton.1 hi
    have x2 : wE.cell? ⟨w5.heap.size, 2, none⟩ = some vf := cell_blk ap.blk 2
    have y2 : wE.frozen? ⟨w5.heap.size, 2, none⟩ = false := free_blk ap.blk 2
    have apE : Ap w5 (wE.setCell ⟨w5.heap.size, 2, none⟩ (.slice (some ⟨g6, 0, none⟩) (site.formats.length + 1) c6)) #[vl, vd, .slice (some ⟨g6, 0, none⟩) (site.formats.length + 1) c6, vc] := ap.set 2 _ _ rfl
    have fmE := fmts_set ap (F := site.formats ++ [f]) (by rw [List.length_append, List.length_singleton]; exact own6) (by rw [List.length_append, List.length_singleton]; have := hfl.out; omega) 2 (.slice (some ⟨g6, 0, none⟩) (site.formats.length + 1) c6)
    refine wpOp_step rfl (fun K hK => ?_)
    rw [if_pos (by rfl)]
    go_simp
    refine hK _ _ ⟨apE.bel, ?_⟩
    clear hK K
    try simp only [List.getElem_toArray, List.getElem_cons_succ, List.getElem_cons_zero, Act.put, List.setIfInBounds_toArray, List.set_cons_zero, List.set_cons_succ]
    refine wpAnyH_done (by kernel_rfl) ?_ _
    go_wp2_with fail
    go_meet
    refine ⟨some ⟨g6, 0, none⟩, c6, ?_, ?_⟩
    ·rw [List.length_append, List.length_singleton]; exact apE
    ·rw [List.length_append, List.length_singleton]; exact fmE
   ·obtain rfl := List.mem_singleton.1 hi
    refine wpOp_run' rfl rfl _ _ (run_one (by rfl)) ⟨(ap.alloc _).bel, ?_⟩
    try simp only [List.getElem_toArray, List.getElem_cons_succ, List.getElem_cons_zero, Act.put, List.setIfInBounds_toArray, List.set_cons_zero, List.set_cons_succ]
    have h5 := blk_new wb (.cells #[.string (B f.1), .string (B f.2)] 36)
    have hne : ∀ k, (Value.slice (some ⟨wr.heap.size, 0, none⟩) 0 0).ownBlock = some k -> k < wb.heap.size := fun k hk => (own0.lt k hk).2
    replace own0 := own0.alloc (.cells #[.string (B f.1), .string (B f.2)] 36)
    replace ap := ap.alloc (.cells #[.string (B f.1), .string (B f.2)] 36)
    have hl5 : wb.heap.size < (wb.alloc (.cells #[.string (B f.1), .string (B f.2)] 36)).heap.size := by simp
    generalize wb.alloc (.cells #[.string (B f.1), .string (B f.2)] 36) = wc at ap own0 h5 hl5 |-
    refine wpAnyH_all (rs := [3]) (by kernel_rfl) (by simp) ?_
    intro i hi
    obtain rfl := List.mem_singleton.1 hi
    obtain ⟨v3, wA, hr3, own3, hg3, hb3⟩ := app_fmts own0 (HVF.out _ ap.bel) hfl.out ap.lt
    refine wpOp_app rfl rfl (.tmp 38) (.tmp 40) 23 rfl _ _ rfl rfl hr3 ⟨(ap.grown hg3 (fun k hk => (own0.lt k hk).1)).bel, ?_⟩
    replace h5 : wA.heap[wb.heap.size]? = _ := (hg3.block _ hl5 (fun q => by have := hne _ q.symm; omega)).trans h5
    replace ap := ap.grown hg3 (fun k hk => (own0.lt k hk).1)
    try simp only [List.getElem_toArray, List.getElem_cons_succ, List.getElem_cons_zero, Act.put, List.setIfInBounds_toArray, List.set_cons_zero, List.set_cons_succ]
    obtain ⟨g6, c6, wE, hr6, own6, hg6⟩ := app_one own3 h5 hfl.out ap.lt
    refine wpAnyH_all (rs := [6]) (by kernel_rfl) (by simp) ?_
    intro i hi
    obtain rfl := List.mem_singleton.1 hi
    refine wpOp_app rfl rfl (.tmp 41) (.tmp 43) 23 rfl _ _ rfl rfl hr6 ⟨(ap.grown hg6 (fun k hk => (own3.lt k hk).1)).bel, ?_⟩
    replace ap := ap.grown hg6 (fun k hk => (own3.lt k hk).1)
    try simp only [List.getElem_toArray, List.getElem_cons_succ, List.getElem_cons_zero, Act.put, List.setIfInBounds_toArray, List.set_cons_zero, List.set_cons_succ]
    refine wpAnyH_take (i := 7) (v := .pointer (some ⟨w5.heap.size, 2, none⟩)) rfl (by kernel_rfl) (by kernel_rfl) (by kernel_rfl) (fun _ _ _ h => h) (Or.inl ⟨by rfl, fun w' hw' => by
      go_simp⟩) ap.bel ?_
    try simp only [List.getElem_toArray, List.getElem_cons_succ, List.getElem_cons_zero, Act.put, List.setIfInBounds_toArray, List.set_cons_zero, List.set_cons_succ]
    refine wpAnyH_all (rs := [8]) (by kernel_rfl) (by simp) ?_
    intro i hi
    obtain rfl := List.mem_singleton.1 hi
    have x2 : wE.cell? ⟨w5.heap.size, 2, none⟩ = some vf := cell_blk ap.blk 2
    have y2 : wE.frozen? ⟨w5.heap.size, 2, none⟩ = false := free_blk ap.blk 2
    have apE : Ap w5 (wE.setCell ⟨w5.heap.size, 2, none⟩ (.slice (some ⟨g6, 0, none⟩) (site.formats.length + 1) c6)) #[vl, vd, .slice (some ⟨g6, 0, none⟩) (site.formats.length + 1) c6, vc] := ap.set 2 _ _ rfl
    have fmE := fmts_set ap (F := site.formats ++ [f]) (by rw [List.length_append, List.length_singleton]; exact own6) (by rw [List.length_append, List.length_singleton]; have := hfl.out; omega) 2 (.slice (some ⟨g6, 0, none⟩) (site.formats.length + 1) c6)
    refine wpOp_step rfl (fun K hK => ?_)
    rw [if_pos (by rfl)]
    go_simp
    refine hK _ _ ⟨apE.bel, ?_⟩
    clear hK K
    try simp only [List.getElem_toArray, List.getElem_cons_succ, List.getElem_cons_zero, Act.put, List.setIfInBounds_toArray, List.set_cons_zero, List.set_cons_succ]
    refine wpAnyH_done (by kernel_rfl) ?_ _
    go_wp2_with fail
    go_meet
    refine ⟨some ⟨g6, 0, none⟩, c6, ?_, ?_⟩
    ·rw [List.length_append, List.length_singleton]; exact apE
    ·rw [List.length_append, List.length_singleton]; exact fmE
  ·obtain rfl := List.mem_singleton.1 hi
   refine wpOp_run' rfl rfl _ _ (run_one (by rfl)) ⟨(ap.alloc _).bel, ?_⟩
   try simp only [List.getElem_toArray, List.getElem_cons_succ, List.getElem_cons_zero, Act.put, List.setIfInBounds_toArray, List.set_cons_zero, List.set_cons_succ]
   have h5 := blk_new wr (.cells #[.string (B f.1), .string (B f.2)] 36)
   have hl5 : wr.heap.size < (wr.alloc (.cells #[.string (B f.1), .string (B f.2)] 36)).heap.size := by simp
   replace ap := ap.alloc (.cells #[.string (B f.1), .string (B f.2)] 36)
   generalize wr.alloc (.cells #[.string (B f.1), .string (B f.2)] 36) = wb at ap h5 hl5 |-
   refine wpAnyH_all (rs := [0]) (by kernel_rfl) (by simp) ?_
   intro i hi
   obtain rfl := List.mem_singleton.1 hi
   refine wpOp_run' rfl rfl _ _ run_none ⟨(ap.alloc _).bel, ?_⟩
   have own0 := World.ownsRow_made (base := w5.heap.size + 1) (e := 36) (size := 2) wb #[] 0 ap.lt (by decide) rfl
   try simp only [List.getElem_toArray, List.getElem_cons_succ, List.getElem_cons_zero, Act.put, List.setIfInBounds_toArray, List.set_cons_zero, List.set_cons_succ]
   replace h5 := blk_old wb (.cells #[] 36) h5
   replace ap := ap.alloc (.cells #[] 36)
   have hl6 : wb.heap.size < (wb.alloc (.cells #[] 36)).heap.size := by simp
   generalize wb.alloc (.cells #[] 36) = wc at ap own0 h5 hl6 |-
   refine wpAnyH_all (rs := [3]) (by kernel_rfl) (by simp) ?_
   intro i hi
   obtain rfl := List.mem_singleton.1 hi
   obtain ⟨v3, wA, hr3, own3, hg3, hb3⟩ := app_fmts own0 (HVF.out _ ap.bel) hfl.out ap.lt
   refine wpOp_app rfl rfl (.tmp 38) (.tmp 40) 23 rfl _ _ rfl rfl hr3 ⟨(ap.grown hg3 (fun k hk => (own0.lt k hk).1)).bel, ?_⟩
   replace h5 : wA.heap[wr.heap.size]? = _ := (hg3.block _ (by omega) (fun q => by have := Option.some.inj q; omega)).trans h5
   replace ap := ap.grown hg3 (fun k hk => (own0.lt k hk).1)
   try simp only [List.getElem_toArray, List.getElem_cons_succ, List.getElem_cons_zero, Act.put, List.setIfInBounds_toArray, List.set_cons_zero, List.set_cons_succ]
   obtain ⟨g6, c6, wE, hr6, own6, hg6⟩ := app_one own3 h5 hfl.out ap.lt
   refine wpAnyH_all (rs := [6]) (by kernel_rfl) (by simp) ?_
   intro i hi
   obtain rfl := List.mem_singleton.1 hi
   refine wpOp_app rfl rfl (.tmp 41) (.tmp 43) 23 rfl _ _ rfl rfl hr6 ⟨(ap.grown hg6 (fun k hk => (own3.lt k hk).1)).bel, ?_⟩
   replace ap := ap.grown hg6 (fun k hk => (own3.lt k hk).1)
   try simp only [List.getElem_toArray, List.getElem_cons_succ, List.getElem_cons_zero, Act.put, List.setIfInBounds_toArray, List.set_cons_zero, List.set_cons_succ]
   refine wpAnyH_take (i := 7) (v := .pointer (some ⟨w5.heap.size, 2, none⟩)) rfl (by kernel_rfl) (by kernel_rfl) (by kernel_rfl) (fun _ _ _ h => h) (Or.inl ⟨by rfl, fun w' hw' => by
     go_simp⟩) ap.bel ?_
   try simp only [List.getElem_toArray, List.getElem_cons_succ, List.getElem_cons_zero, Act.put, List.setIfInBounds_toArray, List.set_cons_zero, List.set_cons_succ]
   refine wpAnyH_all (rs := [8]) (by kernel_rfl) (by simp) ?_
   intro i hi
   obtain rfl := List.mem_singleton.1 hi
   have x2 : wE.cell? ⟨w5.heap.size, 2, none⟩ = some vf := cell_blk ap.blk 2
   have y2 : wE.frozen? ⟨w5.heap.size, 2, none⟩ = false := free_blk ap.blk 2
   have apE : Ap w5 (wE.setCell ⟨w5.heap.size, 2, none⟩ (.slice (some ⟨g6, 0, none⟩) (site.formats.length + 1) c6)) #[vl, vd, .slice (some ⟨g6, 0, none⟩) (site.formats.length + 1) c6, vc] := ap.set 2 _ _ rfl
   have fmE := fmts_set ap (F := site.formats ++ [f]) (by rw [List.length_append, List.length_singleton]; exact own6) (by rw [List.length_append, List.length_singleton]; have := hfl.out; omega) 2 (.slice (some ⟨g6, 0, none⟩) (site.formats.length + 1) c6)
   refine wpOp_step rfl (fun K hK => ?_)
   rw [if_pos (by rfl)]
   go_simp
   refine hK _ _ ⟨apE.bel, ?_⟩
   clear hK K
   try simp only [List.getElem_toArray, List.getElem_cons_succ, List.getElem_cons_zero, Act.put, List.setIfInBounds_toArray, List.set_cons_zero, List.set_cons_succ]
   refine wpAnyH_done (by kernel_rfl) ?_ _
   go_wp2_with fail
   go_meet
   refine ⟨some ⟨g6, 0, none⟩, c6, ?_, ?_⟩
   ·rw [List.length_append, List.length_singleton]; exact apE
   ·rw [List.length_append, List.length_singleton]; exact fmE
 case rest =>
 obtain ⟨xa, xc, P1, hfm⟩ := hcut
 clear P0
 replace P1 := Lib.hid P1
 replace hfm := Lib.hid hfm
 obtain ⟨w7, rfl⟩ : ∃ x : World, x = wc := ⟨_, rfl⟩
 generalize (site.formats ++ [f]).length = xn at P1 hfm |-
 obtain ⟨xf, hxf⟩ : ∃ x, x = Value.slice xa xn xc := ⟨_, rfl⟩
 rw [<- hxf] at P1 hfm
 have b7 := P1.out.bel
 have hrow7 := Lib.hid (blk_below hrow.out b7)
 have hbel7 := Lib.hid (belowThen hB5.out b7 (Nat.le_refl _))
 have t17 := Lib.hid (t1.out.below b7)
 have t27 := Lib.hid (t2.out.below b7)
 have t37 := Lib.hid (t3.out.below b7)
 have hmb7 := Lib.hid (blk_below hmb5.out b7)
 have hsB := Lib.hid P1.out.blk
 have hVB : Hid (SiteAt w7 vl vd xf vc (moreL site f)) := ⟨(HV5.out.below b7).l, (HV5.out.below b7).d, hfm.out, (HV5.out.below b7).c⟩
 clear b7 P1 hfm hrow hB5 hsb5 hmb5 HV5 t1 t2 t3 hxf
 generalize w5.heap.size = gB at hsB |-
 cases hk : kb with
 | false =>
  go_wp2_with fail
  go_ret
  exact ⟨rfl, hbel7.out⟩
 | true =>
 have hT2 : Hid (T = toldM (doParseM site comp (normL s))) := hT.out hk
 have hpk := HPK.out hk
 have hFx : Hid (Facts site comp s T) := by have h := facts hpk; rw [<- hT2.out] at h; exact h
 have f1 : (T.path == []) = false := by rw [beq_eq_false_iff_ne]; exact hFx.out.ne
 have HP3 := Lib.hid (HP2.out hk xf)
 clear hT HPK HP2 hFx hkb
 have m0 : w7.cell? ⟨w.heap.size + 1, 0, none⟩ = some (.string (B f.1)) := cell_blk hmb7.out 0
 go_wp2_with fail
 refine (HS2.out _).mono ?_; rintro e w8 ⟨rfl, b8⟩
 replace hsB := Lib.hid (blk_below hsB.out b8)
 replace hVB := Lib.hid (hVB.out.below b8)
 have hrow8 := Lib.hid (blk_below hrow7.out b8)
 have hbel8 := Lib.hid (belowThen hbel7.out b8 (Nat.le_refl _))
 have t18 := Lib.hid (t17.out.below b8)
 have t28 := Lib.hid (t27.out.below b8)
 have t38 := Lib.hid (t37.out.below b8)
 clear b8 hrow7 hbel7 t17 t27 t37 hmb7 m0 HS2
 cases hst : strangeL s f.1 with
 | false =>
  go_wp2_with fail
  go_ret
  exact ⟨rfl, hbel8.out⟩
 | true =>
 obtain ⟨z0, z1, z2, z3⟩ : w8.cell? ⟨gB, 0, none⟩ = some vl /\ w8.cell? ⟨gB, 1, none⟩ = some vd /\ w8.cell? ⟨gB, 2, none⟩ = some xf /\ w8.cell? ⟨gB, 3, none⟩ = some vc := ⟨cell_blk hsB.out 0, cell_blk hsB.out 1, cell_blk hsB.out 2, cell_blk hsB.out 3⟩
 go_wp2_with fail
 refine (HP3.out _ hVB.out).mono ?_; rintro e w9 ⟨rfl, b9⟩
 replace hsB := Lib.hid (blk_below hsB.out b9)
 replace hVB := Lib.hid (hVB.out.below b9)
 have hrow9 := Lib.hid (blk_below hrow8.out b9)
 have hbel9 := Lib.hid (belowThen hbel8.out b9 (Nat.le_refl _))
 have t19 := Lib.hid (t18.out.below b9)
 have t29 := Lib.hid (t28.out.below b9)
 have t39 := Lib.hid (t38.out.below b9)
 clear b9 hrow8 hbel8 t18 t28 t38 z0 z1 z2 z3 HP3
 cases hk2 : pathKnown (moreL site f) comp s with
 | false =>
  go_wp2_with fail
  go_ret
  exact ⟨rfl, hbel9.out⟩
 | true =>
 have HI2 : Hid (∀ wx, SiteAt wx vl vd xf vc (moreL site f) -> Calls Tryz.prog 14 #[.agg #[vl, vd, xf, vc], .string (B comp), .string (B s)] wx fun e w' => ∃ v, e = .returned v /\ ToldAtN wx.heap.size w' v (toldM (doParseM (moreL site f) comp (normL s))) /\ Below wx.heap.size wx w') := fun wx h => HIB.out hk2 xf wx h
 rw [told_more hpk hk2 (strange_more hk2 hst), <- hT2.out] at HI2
 clear HIB hT2
 go_upto_region 8 with fail
 refine wp_region_held (S := fun w' => Below w9.drew.heap.size w9.drew w') (by kernel_rfl) ?_
 change wpAnyH _ _ _ _ _ _ _ _ w9.drew
 replace hrow9 : Hid (w9.drew.heap[gT]? = some (.cells cs 28)) := hrow9.out
 replace hsB : Hid (w9.drew.heap[gB]? = some (.cells #[vl, vd, xf, vc] 25)) := hsB.out
 replace hVB : Hid (SiteAt w9.drew vl vd xf vc (moreL site f)) := hVB.out.below (Below_drewN (Below.refl _ _) 1)
 replace t19 : Hid (StrsAt w9.drew _ T.langs) := t19.out.below (Below_drewN (Below.refl _ _) 1)
 replace t29 : Hid (StrsAt w9.drew _ T.ids) := t29.out.below (Below_drewN (Below.refl _ _) 1)
 replace t39 : Hid (StrsAt w9.drew _ T.unknown) := t39.out.below (Below_drewN (Below.refl _ _) 1)
 replace hbel9 : Hid (Below w.heap.size w w9.drew) := Below_drewN hbel9.out 1
 generalize w9.drew = wr at hrow9 hsB hVB t19 t29 t39 hbel9 |-
 have hd : Below wr.heap.size wr wr := Below.refl _ _
 refine wpAnyH_take (i := 0) (v := .agg #[vl, vd, xf, vc]) rfl (by kernel_rfl) (by kernel_rfl) (by kernel_rfl) (fun _ _ _ h => h) (yieldsIf_load_mid (by rfl) 25 (.tmp 11) rfl (gB) 0 rfl (#[vl, vd, xf, vc]).toList _ (fun w' hw' => range_blk (blk_below hsB.out hw')) Tryz.underlying25 rfl (by kernel_rfl)) hd ?_
 refine wpAnyH_take (i := 1) (v := .string (B comp)) rfl (by kernel_rfl) (by kernel_rfl) (by kernel_rfl) (fun _ _ _ h => h) (Or.inl ⟨by rfl, fun w' hw' => by go_simp⟩) hd ?_
 refine wpAnyH_take (i := 2) (v := .string (B s)) rfl (by kernel_rfl) (by kernel_rfl) (by kernel_rfl) (fun _ _ _ h => h) (Or.inl ⟨by rfl, fun w' hw' => by go_simp⟩) hd ?_
 try simp only [List.getElem_toArray, List.getElem_cons_succ, List.getElem_cons_zero, Act.put, List.setIfInBounds_toArray, List.set_cons_zero, List.set_cons_succ]
 refine wpAnyH_take (i := 4) (v := .agg cs) rfl (by kernel_rfl) (by kernel_rfl) (by kernel_rfl) (fun _ _ _ h => h) (yieldsIf_load_mid (by rfl) 28 (.tmp 9) rfl (gT) 0 rfl (cs).toList _ (fun w' hw' => range_blk (blk_below hrow9.out hw')) Tryz.underlying28 rfl (by rw [Array.length_toList, hsz]; kernel_rfl)) hd ?_
 try simp only [List.getElem_toArray, List.getElem_cons_succ, List.getElem_cons_zero, Act.put, List.setIfInBounds_toArray, List.set_cons_zero, List.set_cons_succ]
 refine wpAnyH_all (rs := [3]) (by kernel_rfl) (by simp) ?_
 intro i hi
 obtain rfl := List.mem_singleton.1 hi
 refine wpOp_step rfl (fun K hK => ?_)
 rw [if_pos (by rfl)]
 go_simp
 refine (HI2.out _ (hVB.out.below hd)).mono ?_; rintro e wy ⟨v8, rfl, ⟨ql, qi, qu, rfl, ⟨s1, n1⟩, ⟨s2, n2⟩, ⟨s3, n3⟩⟩, b8⟩
 have hd : Below wr.heap.size wr wy := belowThen hd b8 (Nat.le_refl _)
 refine hK _ _ ⟨hd, ?_⟩
 clear hK K
 try simp only [List.getElem_toArray, List.getElem_cons_succ, List.getElem_cons_zero, Act.put, List.setIfInBounds_toArray, List.set_cons_zero, List.set_cons_succ]
 refine wpAnyH_all (rs := [5]) (by kernel_rfl) (by simp) ?_
 intro i hi
 obtain rfl := List.mem_singleton.1 hi
 refine wpOp_step rfl (fun K hK => ?_)
 rw [if_pos (by rfl)]
 go_simp
 rw [<- hcs.out]
 refine (c_alike T f1 _ _ _ _ _ _ _ s1 s2 s3 (t19.out.below hd) (t29.out.below hd) (t39.out.below hd)).mono ?_; rintro e wz ⟨rfl, b9⟩
 have hd : Below wr.heap.size wr wz := belowThen hd b9 (Nat.le_refl _)
 refine hK _ _ ⟨hd, ?_⟩
 clear hK K
 try simp only [List.getElem_toArray, List.getElem_cons_succ, List.getElem_cons_zero, Act.put, List.setIfInBounds_toArray, List.set_cons_zero, List.set_cons_succ]
 refine wpAnyH_all (rs := [6]) (by kernel_rfl) (by simp) ?_
 intro i hi
 obtain rfl := List.mem_singleton.1 hi
 refine wpOp_step rfl (fun K hK => ?_)
 rw [if_pos (by rfl)]
 go_simp
 refine hK _ _ ⟨hd, ?_⟩
 clear hK K
 try simp only [List.getElem_toArray, List.getElem_cons_succ, List.getElem_cons_zero, Act.put, List.setIfInBounds_toArray, List.set_cons_zero, List.set_cons_succ]
 refine wpAnyH_done (by kernel_rfl) ?_ _
 have hend := Lib.hid (belowThen hbel9.out hd (Nat.le_refl _))
 go_wp2_with fail
 go_ret
 exact ⟨rfl, hend.out⟩

end Go.Proofs.YtfekhbnefogkdaaGreatDoor

namespace Go.Proofs.YtfekhbnefogkdaaGreatDoor
open Go.ChangeShapes Go.WideShapes Go.ChangeAt Go.RowKit
open Go.ChangeMaps (open_string shut_string)

theorem fmtReads : Tryz.prog.readableRec 36 = true := by kernel_rfl
theorem fmtRow : 36 < Tryz.prog.types.size := of_decide_eq_true (by kernel_rfl)
theorem open_fmt {H : Type} {enc : TypeId × Value -> H} {W : World} {v : Value} {d : DataW H} {p : List MemPlace} (h : DataW.Trod enc Tryz.prog W 0 (fun _ => true) true 36 v d p) (hv : Value.okWide Tryz.prog W .any 0 36 v) (hw : ∀ n ∈ d.weights Tryz.prog 36, n <= reachBytes) :
  ∃ f : Str × Str, v = .agg #[.string (B f.1), .string (B f.2)] /\ f.1.length <= 140737488351232 /\ f.2.length <= 140737488351232 := by
 obtain ⟨cs, rfl, hsz⟩ := okWide_struct Tryz.underlying36 hv
 rw [show Tryz.prog.cellsOf 36 = 2 by kernel_rfl] at hsz
 obtain ⟨cs⟩ := cs
 match cs, hsz with
 | [v0, v1], _ =>
 obtain ⟨fuel, hf⟩ := h
 obtain ⟨xs, n, _, hx, _, hlen, hall⟩ := DataW.trod_struct Tryz.underlying36 hf
 have hz : Tryz.prog.cellsOf 9 = 1 := by kernel_rfl
 match xs, hlen with
 | [y0, y1], _ =>
 have g0 := hall 0 _ rfl
 have g1 := hall 1 _ rfl
 simp [hz, Value.cells] at g0 g1
 have hd : d = .agg [y0.1, y1.1] := by simpa using congrArg Prod.fst hx
 subst hd
 have hw2 : ∀ n, n ∈ y0.1.weights Tryz.prog 9 \/ n ∈ y1.1.weights Tryz.prog 9 -> n <= reachBytes := fun n hn => hw n (by
  simp [DataW.weights, DataW.weightsEach, Tryz.underlying36]
  exact hn)
 obtain ⟨s0, e0, k0, _⟩ := DataW.trod_string Tryz.underlying9 g0
 obtain ⟨s1, e1, k1, _⟩ := DataW.trod_string Tryz.underlying9 g1
 have z0 := hw2 s0.data.toList.length (.inl (by rw [k0]; simp [DataW.weights]))
 have z1 := hw2 s1.data.toList.length (.inr (by rw [k1]; simp [DataW.weights]))
 have hrb : reachBytes = 140737488351232 := by decide
 rw [hrb] at z0 z1
 simp at e0 e1
 exact ⟨(s0.data.toList, s1.data.toList), by rw [<- B_list, <- B_list, e0, e1], z0, z1⟩
theorem own : ownKnob Tryz.prog.godebug = none := by kernel_rfl
theorem laidOut : laidOutB Tryz.prog = true := by kernel_rfl
theorem siteReads : Tryz.prog.readableRec 25 = true := by kernel_rfl
theorem siteRow : 25 < Tryz.prog.types.size := of_decide_eq_true (by kernel_rfl)

def laidAll' : List (String × DataW Unit) := Rows.fnMoreFormatsRow.laid

set_option maxRecDepth 100000 in
theorem lifted1 (os : Os) (started : os.Started) (H : Type) (enc : TypeId × Value -> H) :
  ReturnsInHanded {} Tryz.checked os 4 .any (fun w args => (Rows.fnMoreFormatsSpec.pre enc Tryz.prog Tryz.f4 Rows.fnMoreFormatsRow.domain false w args /\ laidMetH Tryz.prog laidAll' w) /\ sizedMet enc Tryz.prog Tryz.f4 (OpenSpec.ofChange Rows.fnMoreFormatsSpec) false w args)
   (Rows.fnMoreFormatsSpec.post enc Tryz.prog Tryz.f4 false true false false) := by
 refine returnsInHanded_of_change_and (C := Tryz.checked) (X := fun w _ => laidMetH Tryz.prog laidAll' w) (fun _ _ _ hh h => h.of_heap hh) own started (by kernel_rfl) Tryz.func4
  (ChangeSpec.witness_shaped (enc := enc) (C := Tryz.checked) (os := os) (X := fun w _ => laidMetH Tryz.prog laidAll' w) false (World.laidAll Tryz.prog os laidAll') #[.agg #[.slice none 0 0, .slice none 0 0, .slice none 0 0, .slice none 0 0], .string ByteArray.empty, .string ByteArray.empty, .agg #[.string ByteArray.empty, .string ByteArray.empty]] 8 (World.laidAll_os _ _ _)
   (World.shaped_of_ZipB (by kernel_rfl) (by kernel_rfl)) (by kernel_rfl) (by kernel_rfl) (by kernel_rfl)
   (by rw [MakeChecks.laidMetH_plain _ _ _ (by kernel_rfl)]; exact laidMet_laidAll _ (by kernel_rfl) (by kernel_rfl))) ?_
 intro W base args ds gs before hval0 hW hc hsz0 _ _
 have hsz : (DataW.weightsEach Tryz.prog (Tryz.f4.params.toList ++ Rows.fnMoreFormatsSpec.plain.varTypes Tryz.prog) (ds ++ gs)).all (· <= reachBytes) = true := hsz0
 have hval : ∀ (j : Nat) t v, Tryz.f4.params[j]? = some t -> args[j]? = some v -> Value.okWide Tryz.prog W .any base t v := hval0
 have hW' := hW
 obtain ⟨p, q, hA0, hV, rfl, _, _⟩ := hW
 have hA : DataW.TrodAll enc Tryz.prog W 0 (fun _ => true) true Tryz.f4.params.toList args.toList ds p := hA0
 rw [Tryz.params4] at hA hval hsz
 obtain ⟨v0, v1, v2, v3, d0, d1, d2, d3, p0, p1, p2, p3, rfl, rfl, rfl, h0, h1, h2, h3⟩ := trodAll_four hA
 obtain ⟨rfl, rfl⟩ := trodVars_none hV
 obtain ⟨a1, rfl, rfl, rfl, y1⟩ := open_string Tryz.underlying9 (hval 1 9 v1 rfl rfl) h1
 obtain ⟨a2, rfl, rfl, rfl, y2⟩ := open_string Tryz.underlying9 (hval 2 9 v2 rfl rfl) h2
 have w1 : a1.size <= 140737488351232 := by
  have z := sized_string hsz (j := 1) (t := 9) rfl rfl
  rw [Array.length_toList] at z
  exact z
 have w2 : a2.size <= 140737488351232 := by
  have z := sized_string hsz (j := 2) (t := 9) rfl rfl
  rw [Array.length_toList] at z
  exact z
 have w3 : ∀ n ∈ d3.weights Tryz.prog 36, n <= reachBytes := fun n hn => by
  have := List.all_eq_true.1 hsz n (DataW.weights_mem_each (j := 3) (t := 36) rfl rfl n hn)
  simpa using this
 obtain ⟨f3, rfl, q3, c3⟩ := open_fmt h3 (hval 3 36 v3 rfl rfl) w3
 have hlt3 : ∀ x ∈ p3, x.block < W.heap.size := fun x hx => hW'.lt x (by simp [hx])
 have w0 : ∀ n ∈ d0.weights Tryz.prog 25, n <= reachBytes := fun n hn => by
  have := List.all_eq_true.1 hsz n (DataW.weights_mem_each (j := 0) (t := 25) rfl rfl n hn)
  simpa using this
 obtain ⟨vl, vd, vf, vc, site, rfl, hs, cl, cd, cc⟩ := open_site h0 (hval 0 25 v0 rfl rfl) w0
 have hlt : ∀ x ∈ p0, x.block < W.heap.size := fun x hx => hW'.lt x (by simp [hx])
 obtain ⟨l1, rfl⟩ := B_surj a1
 rw [B_size] at w1
 obtain ⟨l2, rfl⟩ := B_surj a2
 rw [B_size] at w2
 refine (w_FnMoreFormats site l1 l2 f3 vl vd vf vc W hs cl cd cc w1 w2 q3 c3).mono fun e W' ⟨he, bel⟩ => ?_
 subst he
 refine ⟨_, rfl, _, _, _, [], _, [], hW', trodAll_mk1 (shut_bool Tryz.underlying4 _), trodAll_mk4 (Below.trod laidOut siteReads siteRow h0 bel hlt) (shut_string Tryz.underlying9 y1) (shut_string Tryz.underlying9 y2) (Below.trod laidOut fmtReads fmtRow h3 bel hlt3), rfl, bel.frame _, fun h => by cases h⟩

theorem over1 : Rows.FnMoreFormatsSaid :=
 OpenClaim.holds_of_wide 4 Tryz.f4 rfl rfl rfl rfl rfl rfl rfl ⟨rfl, rfl, rfl, rfl, rfl⟩ rfl rfl rfl rfl rfl (by kernel_rfl) Tryz.func4 (by kernel_rfl)
  (of_decide_eq_true (by kernel_rfl)) (by unfold Func.isWrapper; first | (rw [if_pos (by decide +kernel)]; kernel_rfl) | (rw [if_neg (by decide +kernel)]; exact ⟨rfl, rfl⟩))
  (fun os started H enc _ => lifted1 os started H enc)

theorem fnMoreFormats_holds : Rows.FnMoreFormatsCardSaid :=
 Claim7.holds_tied_plain_at .later [] [.data, .pinned, .pinned] true Rows.fnMoreFormatsCard.stood.harness false over1 (fun _ h => by cases h) (by kernel_rfl) (fun _ h => by cases h) fnMoreFormats_row_tie rfl ⟨rfl, rfl⟩ (by kernel_rfl) rfl
  (fun f fn hf hfn => by
   obtain rfl : f = 4 := Option.some.inj ((show Tryz.prog.funcNamed Rows.fnMoreFormatsRow.func = some 4 by kernel_rfl).symm.trans hf) |>.symm
   obtain rfl : fn = Tryz.f4 := (Option.some.inj (Tryz.func4.symm.trans hfn)).symm
   exact ⟨by kernel_rfl, fun j t ht => by
    rw [Tryz.params4] at ht
    have hm : t ∈ [25, 9, 9, 36] := by simpa using Array.mem_of_getElem? ht
    have hall : ([25, 9, 36].all fun u => !Tryz.prog.wantsStandIn u) = true := by kernel_rfl
    exact (show Tryz.prog.wantsStandIn t = false by simpa using List.all_eq_true.1 hall t (by simp at hm |-; first | exact hm | omega | (rcases hm with h | h | h <;> simp [h]) | (rcases hm with h | h | h | h <;> simp [h]) | (rcases hm with h | h | h | h | h <;> simp [h])))⟩)
  (by kernel_rfl)
#print axioms fnMoreFormats_holds
end Go.Proofs.YtfekhbnefogkdaaGreatDoor
