/- The walk of the law FnBaseReTypedBuilt: the base of a page below a section, with a type, is the page below the type. Conditions: a site in memory, lists in memory, texts that fit into the platform's addresses. -/
import Derived.Test.YtjkecadfakjanaaGreatDoorKnown
import Derived.Test.YtjkecadfakjanaaGreatDoorPlainX
import Derived.OrdersHeld
import Derived.Test.YtjkecadfakjanaaGreatDoorBuiltX
import Derived.Test.YtjkecadfakjanaaGreatDoorViewY
import Derived.Test.YtjkecadfakjanaaGreatDoorEqM
import Derived.Test.YtjkecadfakjanaaGreatDoorOpen
import Derived.Test.YtjkecadfakjanaaGreatDoorRows
import Derived.Test.YtjkecadfakjanaaGreatDoorCards
import Derived.Test.YtjkecadfakjanaaGreatDoorTie
import Derived.ProofKit
import Derived.OpenShut
import Derived.ShutString
import Derived.ChangeOld
import Derived.SizedLaws
import Derived.LaidMore
import Derived.Lay
import Derived.SevenTiedAt
import Derived.Stop.Joined
import Derived.Carry
set_option maxRecDepth 100000
set_option linter.unusedVariables false
set_option linter.unusedSimpArgs false
namespace Go.Proofs.YtjkecadfakjanaaGreatDoor
open Go.RowKit
attribute [local go_sem] B_extract B_toList B_append

theorem plains_words {l : List Str} (h : plainsL l = true) : ∀ d ∈ l, PlainW d := fun d hd => by
 unfold plainsL at h
 rw [Bool.and_eq_true, List.all_eq_true] at h
 exact plain_word (h.1 d hd)
theorem folder_few {l : List Str} (h : fewL l = true) : (folderL l).length <= 2000 := by rw [folder_size]; simpa [fewL] using h
theorem among_mem {l : List Str} {x : Str} (h : amongL l x = true) : x ∈ l := by
 unfold amongL at h
 rw [List.any_eq_true] at h
 obtain ⟨y, hy, e⟩ := h
 rw [<- eq_of_beq e]; exact hy
theorem len_sum : ∀ {l : List Str} {x : Str}, x ∈ l -> x.length <= sumLen l
 | y :: t, x, h => by
  have e : sumLen (y :: t) = y.length + sumLen t := by unfold sumLen; simp
  rcases List.mem_cons.1 h with rfl | h
  ·omega
  ·have := len_sum h; omega
theorem few_len {l : List Str} (h : fewL l = true) {x : Str} (hx : x ∈ l) : x.length <= 2000 := by
 have h2 : l.length + sumLen l <= 2000 := by simpa [fewL] using h
 have h3 := len_sum hx
 omega
theorem fits_mem {l : List Str} (h : fits2 l = true) {x : Str} (hx : x ∈ l) : x.length <= 2147483647 := by
 obtain ⟨k, hk, rfl⟩ := List.getElem_of_mem hx
 exact (fits2_get h).2 k hk
theorem strs_tail {w : World} {b off n cap : Nat} {d : Str} {r : List Str} (h : StrsAt w (.slice (some ⟨b, off, none⟩) n cap) (d :: r)) : StrsAt w (.slice (some ⟨b, off + 1, none⟩) (n - 1) (cap - 1)) r := by
 obtain ⟨h0, a, c, e, hc⟩ := h
 obtain ⟨rfl, rfl, rfl⟩ := Value.slice.inj e
 refine ⟨by rw [List.length_cons] at h0; omega, some ⟨b, off + 1, none⟩, cap - 1, by rw [List.length_cons, Nat.add_sub_cancel], fun i hi => ⟨b, off + 1, rfl, ?_⟩⟩
 obtain ⟨b', o', e', hx⟩ := hc (i + 1) (by rw [List.length_cons]; omega)
 obtain ⟨rfl, rfl, -⟩ := Addr.mk.inj (Option.some.inj e')
 rw [show off + 1 + i = off + (i + 1) by omega, hx]
 rfl

set_option maxHeartbeats 8000000 in
theorem w_FnBaseReTypedBuilt (site : SiteM) (dirs : List Str) (name : Str) (typ : Str) (ext : Int) (vl vd vf vc vdirs : Value) (w : World) (hv : SiteAt w vl vd vf vc site) (hcl : CapOK vl) (hcd : CapOK vd) (hcc : CapOK vc) (hdirs0 : StrsAt w vdirs dirs) (hcdirs0 : CapOK vdirs) (hname0 : name.length <= 140737488351232) (htyp0 : typ.length <= 140737488351232) (hext0 : -9223372036854775808 <= ext /\ ext <= 9223372036854775807) :
  Calls Tryz.prog 5 #[.agg #[vl, vd, vf, vc], vdirs, .string (B name), .string (B typ), .int .i64 ext] w fun e w' => e = .returned (.bool true) /\ Below w.heap.size w w' := by
 obtain ⟨E, hE⟩ : ∃ E, E = pickL site.content ext := ⟨_, rfl⟩
 have hEf : E ≠ [] -> amongL site.content E = true /\ plainL E = true := by rw [hE]; exact pick_ne
 obtain ⟨hd0, da, dcap, hvd, hdc⟩ := hdirs0
 have hdcap : dirs.length <= dcap := hcdirs0 _ _ _ hvd
 subst hvd
 have hdirs0 : StrsAt w (.slice da dirs.length dcap) dirs := ⟨hd0, da, dcap, rfl, hdc⟩
 clear hdc
 have HZ : Hid (∀ wx, SiteAt wx vl vd vf vc site -> Calls Tryz.prog 12 #[.agg #[vl, vd, vf, vc]] wx fun e w' => e = .returned (.bool (siteFits site)) /\ Below wx.heap.size wx w') := fun wx h => c_zzFits1 site vl vd vf vc wx h
 have HZdirs : Hid (∀ wx, StrsAt wx (.slice da dirs.length dcap) dirs -> Calls Tryz.prog 19 #[(.slice da dirs.length dcap)] wx fun e w' => e = .returned (.bool (fits2 dirs)) /\ wx = w') := fun wx h => c_zzFits2 dirs (.slice da dirs.length dcap) wx h
 have HPSdirs : Hid (fits2 dirs = true -> ∀ wx, StrsAt wx (.slice da dirs.length dcap) dirs -> Calls Tryz.prog 20 #[(.slice da dirs.length dcap)] wx fun e w' => e = .returned (.bool (plainsL dirs)) /\ Below wx.heap.size wx w') := fun hf wx h => c_plains dirs (.slice da dirs.length dcap) wx h hf
 have HFOdirs : Hid (fewL dirs = true -> ∀ wx, StrsAt wx (.slice da dirs.length dcap) dirs -> Calls Tryz.prog 23 #[(.slice da dirs.length dcap)] wx fun e w' => e = .returned (.string (B (folderL dirs))) /\ wx = w') := fun hf wx h => c_folder dirs (.slice da dirs.length dcap) wx h hf
 have HPname : Hid (name.length <= 2147483647 -> ∀ wx, Calls Tryz.prog 21 #[.string (B name)] wx fun e w' => e = .returned (.bool (plainL name)) /\ Below wx.heap.size wx w') := fun hl wx => c_plainW name wx (by omega)
 have HPtyp : Hid (typ.length <= 2147483647 -> ∀ wx, Calls Tryz.prog 21 #[.string (B typ)] wx fun e w' => e = .returned (.bool (plainL typ)) /\ Below wx.heap.size wx w') := fun hl wx => c_plainW typ wx (by omega)
 have HCT : Hid (siteFits site = true -> ∀ wx, SiteAt wx vl vd vf vc site -> Calls Tryz.prog 26 #[.agg #[vl, vd, vf, vc], .int .i64 ext] wx fun e w' => e = .returned (.string (B E)) /\ Below wx.heap.size wx w') := fun hsf wx h => by
  rw [hE]
  exact c_content site ext vl vd vf vc wx h (by unfold siteFits at hsf; simp only [Bool.and_eq_true] at hsf; exact hsf.2)
 have HEL : Hid (amongL site.content E = true -> siteFits site = true -> E.length <= 2147483647) := fun h hsf => by
  have hsc : fits2 site.content = true := by unfold siteFits at hsf; simp only [Bool.and_eq_true] at hsf; exact hsf.2
  exact fits_mem hsc (among_mem h)
 have HKN : Hid ((fewL dirs = true) -> (name.length <= 2147483647) -> (E.length <= 2147483647) -> siteFits site = true -> ∀ wx, SiteAt wx vl vd vf vc site -> Calls Tryz.prog 24 #[.agg #[vl, vd, vf, vc], .string (B [99, 111, 110, 116, 101, 110, 116]), .string (B (folderL dirs ++ 47 :: (name ++ 46 :: E)))] wx
    fun e w' => ∃ v T, e = .returned (.tuple #[v, .bool (knownL site [99, 111, 110, 116, 101, 110, 116] (folderL dirs ++ 47 :: (name ++ 46 :: E)))]) /\ ToldAtN wx.heap.size w' v T /\ Below wx.heap.size wx w' /\ (knownL site [99, 111, 110, 116, 101, 110, 116] (folderL dirs ++ 47 :: (name ++ 46 :: E)) = true -> T = toldM (doParseM site [99, 111, 110, 116, 101, 110, 116] (normL (folderL dirs ++ 47 :: (name ++ 46 :: E)))))) := fun hf hn he hsf wx h => c_knownW site [99, 111, 110, 116, 101, 110, 116] (folderL dirs ++ 47 :: (name ++ 46 :: E)) vl vd vf vc wx h hcl hcd hcc hsf (by decide) (by have := folder_few hf; simp only [List.length_append, List.length_cons, List.length_nil]; omega)
 have HRT : Hid (pathKnown site [99, 111, 110, 116, 101, 110, 116] (folderL dirs ++ 47 :: (name ++ 46 :: E)) = true -> typ ≠ [] -> typ.length <= 2147483647 -> (toldM (doParseM site [99, 111, 110, 116, 101, 110, 116] (normL (folderL dirs ++ 47 :: (name ++ 46 :: E))))).section_ ≠ typ -> (toldM (doParseM site [99, 111, 110, 116, 101, 110, 116] (normL (folderL dirs ++ 47 :: (name ++ 46 :: E))))).section_ ≠ [] -> (toldM (doParseM site [99, 111, 110, 116, 101, 110, 116] (normL (folderL dirs ++ 47 :: (name ++ 46 :: E))))).section_.length + 1 <= (toldM (doParseM site [99, 111, 110, 116, 101, 110, 116] (normL (folderL dirs ++ 47 :: (name ++ 46 :: E))))).base.length -> ∀ wx, SiteAt wx vl vd vf vc site -> Calls Tryz.prog 27 #[.agg #[vl, vd, vf, vc], .string (B [99, 111, 110, 116, 101, 110, 116]), .string (B (folderL dirs ++ 47 :: (name ++ 46 :: E))), .string (B typ)] wx fun e w' => e = .returned (.string (B (47 :: (typ ++ (toldM (doParseM site [99, 111, 110, 116, 101, 110, 116] (normL (folderL dirs ++ 47 :: (name ++ 46 :: E))))).base.drop ((toldM (doParseM site [99, 111, 110, 116, 101, 110, 116] (normL (folderL dirs ++ 47 :: (name ++ 46 :: E))))).section_.length + 1))))) /\ Below wx.heap.size wx w') := fun hk ht htl q1 q2 q3 wx h => by
  obtain ⟨h1, h2, h3, h4, h5⟩ := pathKnown_site hk
  exact c_implReTyped wx site [99, 111, 110, 116, 101, 110, 116] (folderL dirs ++ 47 :: (name ++ 46 :: E)) typ vl vd vf vc h (siteKnown_once h1) (by omega) h3 ht htl q1 q2 q3
 have HFD : Hid (∀ (v : Value) (l : List Str), fewL l = true -> ∀ wx, StrsAt wx v l -> Calls Tryz.prog 23 #[v] wx fun e w' => e = .returned (.string (B (folderL l))) /\ wx = w') := fun v l hf wx h => c_folder l v wx h hf
 replace hE := Lib.hid hE
 have HSF : Hid (siteFits site = true -> fits2 site.languages = true /\ fits2 site.content = true) := fun h => by
  unfold siteFits at h
  simp only [Bool.and_eq_true] at h
  exact ⟨h.1.1.1, h.2⟩
 obtain ⟨obs, hobs⟩ : ∃ o : Obj, o = .cells #[vl, vd, vf, vc] 25 := ⟨_, rfl⟩
 have hB1 : Hid (Below w.heap.size w (w.alloc obs)) := Below_alloc w obs
 have hsb1 : Hid ((w.alloc obs).heap[w.heap.size]? = some (.cells #[vl, vd, vf, vc] 25)) := by show _ = _; rw [hobs]; exact blk_new w _
 have HV1 : Hid (SiteAt (w.alloc obs) vl vd vf vc site) := hv.alloc obs
 have qdirs1 : Hid (StrsAt (w.alloc obs) (.slice da dirs.length dcap) dirs) := hdirs0.below (Below_alloc w obs)
 clear hv hcl hcd hcc hdirs0 hcdirs0
 go_enter Tryz.func5, Tryz.ntmps5
 go_wp2_with fail
 rw [<- hobs]
 generalize w.alloc obs = w1 at hB1 hsb1 HV1 qdirs1 |-
 refine (HZ.out _ HV1.out).mono ?_; rintro e w2 ⟨rfl, b⟩
 have hsb2 := Lib.hid (blk_below hsb1.out b)
 have HV2 := Lib.hid (HV1.out.below b)
 have qdirs2 := Lib.hid (qdirs1.out.below b)
 have hB2 := Lib.hid (belowThen hB1.out b (Nat.le_refl _))
 clear b hB1 hsb1 HV1 qdirs1
 cases hz : siteFits site with
 | false =>
  go_wp2_with fail
  go_ret
  exact ⟨rfl, hB2.out⟩
 | true =>
 go_wp2_with fail
 refine (HZdirs.out _ qdirs2.out).mono ?_; rintro e w' ⟨rfl, rfl⟩
 cases hzdirs : fits2 dirs with
 | false =>
  go_wp2_with fail
  go_ret
  exact ⟨rfl, hB2.out⟩
 | true =>
 by_cases hlname : name.length <= 2147483647
 rotate_left 1
 ·skip
  go_wp2_with fail
  go_ret
  exact ⟨rfl, hB2.out⟩
 by_cases hltyp : typ.length <= 2147483647
 rotate_left 1
 ·skip
  go_wp2_with fail
  go_ret
  exact ⟨rfl, hB2.out⟩
 clear HZ HZdirs
 obtain ⟨z0, z1, z2, z3⟩ : w2.cell? ⟨w.heap.size, 0, none⟩ = some vl /\ w2.cell? ⟨w.heap.size, 1, none⟩ = some vd /\ w2.cell? ⟨w.heap.size, 2, none⟩ = some vf /\ w2.cell? ⟨w.heap.size, 3, none⟩ = some vc := ⟨cell_blk hsb2.out 0, cell_blk hsb2.out 1, cell_blk hsb2.out 2, cell_blk hsb2.out 3⟩
 go_wp2_with fail
 refine (HCT.out hz _ HV2.out).mono ?_; rintro e w3 ⟨rfl, b⟩
 have hsb3 := Lib.hid (blk_below hsb2.out b)
 have HV3 := Lib.hid (HV2.out.below b)
 have qdirs3 := Lib.hid (qdirs2.out.below b)
 have hB3 := Lib.hid (belowThen hB2.out b (Nat.le_refl _))
 clear b hB2 hsb2 HV2 qdirs2 z0 z1 z2 z3
 clear HCT
 go_wp2_with fail
 refine (HPSdirs.out hzdirs _ qdirs3.out).mono ?_; rintro e w4 ⟨rfl, b⟩
 have hsb4 := Lib.hid (blk_below hsb3.out b)
 have HV4 := Lib.hid (HV3.out.below b)
 have qdirs4 := Lib.hid (qdirs3.out.below b)
 have hB4 := Lib.hid (belowThen hB3.out b (Nat.le_refl _))
 clear b hB3 hsb3 HV3 qdirs3
 cases hpdirs : plainsL dirs with
 | false =>
  go_wp2_with fail
  go_ret
  exact ⟨rfl, hB4.out⟩
 | true =>
 clear HPSdirs
 have hfdirs : fewL dirs = true := by unfold plainsL at hpdirs; rw [Bool.and_eq_true] at hpdirs; exact hpdirs.2
 by_cases hdn : dirs = []
 ·have hn0 : decide ((dirs.length : Int) = 0) = true := by rw [hdn]; rfl
  go_wp2_with fail
  go_ret
  exact ⟨rfl, hB4.out⟩
 obtain ⟨d0, dr, hdr⟩ : ∃ d0 dr, dirs = d0 :: dr := by
  cases dirs with
  | nil => exact absurd rfl hdn
  | cons a b => exact ⟨a, b, rfl⟩
 have hlpos : 0 < dirs.length := List.length_pos_iff.2 hdn
 replace hdr := Lib.hid hdr
 replace hdn := Lib.hid hdn
 have hn0 : decide ((dirs.length : Int) = 0) = false := by rw [decide_eq_false_iff_not]; omega
 obtain ⟨db, doff, hda⟩ : ∃ db doff, da = some ⟨db, doff, none⟩ := by
  obtain ⟨_, a', c', e, hc⟩ := qdirs4.out
  obtain ⟨rfl, -, rfl⟩ := Value.slice.inj e
  obtain ⟨b', o', e', -⟩ := hc 0 hlpos
  exact ⟨b', o', e'⟩
 subst hda
 go_wp2_with fail
 refine (HPname.out hlname _).mono ?_; rintro e w5 ⟨rfl, b⟩
 have hsb5 := Lib.hid (blk_below hsb4.out b)
 have HV5 := Lib.hid (HV4.out.below b)
 have qdirs5 := Lib.hid (qdirs4.out.below b)
 have hB5 := Lib.hid (belowThen hB4.out b (Nat.le_refl _))
 clear b hB4 hsb4 HV4 qdirs4
 cases hpname : plainL name with
 | false =>
  go_wp2_with fail
  go_ret
  exact ⟨rfl, hB5.out⟩
 | true =>
 clear HPname
 go_wp2_with fail
 refine (HPtyp.out hltyp _).mono ?_; rintro e w6 ⟨rfl, b⟩
 have hsb6 := Lib.hid (blk_below hsb5.out b)
 have HV6 := Lib.hid (HV5.out.below b)
 have qdirs6 := Lib.hid (qdirs5.out.below b)
 have hB6 := Lib.hid (belowThen hB5.out b (Nat.le_refl _))
 clear b hB5 hsb5 HV5 qdirs5
 cases hptyp : plainL typ with
 | false =>
  go_wp2_with fail
  go_ret
  exact ⟨rfl, hB6.out⟩
 | true =>
 clear HPtyp
 cases hem : E.isEmpty with
 | true =>
  go_wp2_with fail
  go_ret
  exact ⟨rfl, hB6.out⟩
 | false =>
 obtain ⟨hEm, hEp⟩ := hEf (List.isEmpty_eq_false_iff.1 hem)
 have hlE := HEL.out hEm hz
 clear hEf HEL
 have hx0 : w6.cell? ⟨db, doff, none⟩ = some (.string (B d0)) := by
  obtain ⟨_, a', c', e, hc⟩ := qdirs6.out
  obtain ⟨rfl, -, rfl⟩ := Value.slice.inj e
  obtain ⟨b', o', e', hx⟩ := hc 0 hlpos
  obtain ⟨rfl, rfl, -⟩ := Addr.mk.inj (Option.some.inj e')
  rw [Nat.add_zero] at hx
  rw [hx]
  simp only [hdr.out]
  rfl
 have hi0 : (0 : Int) < (dirs.length : Int) := by omega
 cases htd : (typ == d0) with
 | true =>
  go_wp2_with fail
  go_ret
  exact ⟨rfl, hB6.out⟩
 | false =>
 go_wp2_with fail
 refine (HFOdirs.out hfdirs _ qdirs6.out).mono ?_; rintro e w' ⟨rfl, rfl⟩
 clear hx0 hn0 hi0
 have hfl := folder_few hfdirs
 have HKN2 := Lib.hid (HKN.out hfdirs hlname hlE hz)
 clear HKN
 obtain ⟨z0, z1, z2, z3⟩ : w6.cell? ⟨w.heap.size, 0, none⟩ = some vl /\ w6.cell? ⟨w.heap.size, 1, none⟩ = some vd /\ w6.cell? ⟨w.heap.size, 2, none⟩ = some vf /\ w6.cell? ⟨w.heap.size, 3, none⟩ = some vc := ⟨cell_blk hsb6.out 0, cell_blk hsb6.out 1, cell_blk hsb6.out 2, cell_blk hsb6.out 3⟩
 go_wp2_with fail
 refine (HKN2.out _ HV6.out).mono ?_; rintro e w7 ⟨v, T, rfl, ⟨ql, qi, qu, rfl, ⟨s1, n1⟩, ⟨s2, n2⟩, ⟨s3, n3⟩⟩, b, hT⟩
 obtain ⟨a1, l1, c1, rfl⟩ := s1.slice
 obtain ⟨a2, l2, c2, rfl⟩ := s2.slice
 obtain ⟨a3, l3, c3, rfl⟩ := s3.slice
 obtain ⟨cs, hcs, hsz, hone⟩ := told_cells T a1 a2 a3 l1 l2 l3 c1 c2 c3
 rw [hcs]
 replace s2 := Lib.hid s2
 replace s3 := Lib.hid s3
 replace hcs := Lib.hid hcs
 replace hT := Lib.hid hT
 clear n1 n2 n3 s1 HKN2
 have hsb7 := Lib.hid (blk_below hsb6.out b)
 have HV7 := Lib.hid (HV6.out.below b)
 have qdirs7 := Lib.hid (qdirs6.out.below b)
 have hB7 := Lib.hid (belowThen hB6.out b (Nat.le_refl _))
 clear b hB6 hsb6 HV6 qdirs6 z0 z1 z2 z3
 go_wp2_with (refine wpList_store_row rfl 29 (.tmp 13) (.tmp 77) rfl w7.heap.size cs rfl rfl 29 _ (blk_new w7 _) (by rw [hsz]; kernel_rfl) (by rw [hsz]; rfl) hone (Hid.out ?_))
 have hrow8 := Lib.hid (setRow_heap (w7.alloc (.cells #[.string (B []), .string (B []), .string (B []), .string (B []), .string (B []), .string (B []), .string (B []), .string (B []), .string (B []), .string (B []), .string (B []), .string (B []), .string (B []), .string (B []), .string (B []), .string (B []), .string (B []), .string (B []), .string (B []), .string (B []), .string (B []), .slice none 0 0, .slice none 0 0, .slice none 0 0, .bool false, .bool false, .bool false, .bool false, .bool false, .bool false, .int .i64 0] 29)) w7.heap.size _ cs _ _ (blk_new w7 _))
 have b : Below w7.heap.size w7 ((w7.alloc (.cells #[.string (B []), .string (B []), .string (B []), .string (B []), .string (B []), .string (B []), .string (B []), .string (B []), .string (B []), .string (B []), .string (B []), .string (B []), .string (B []), .string (B []), .string (B []), .string (B []), .string (B []), .string (B []), .string (B []), .string (B []), .string (B []), .slice none 0 0, .slice none 0 0, .slice none 0 0, .bool false, .bool false, .bool false, .bool false, .bool false, .bool false, .int .i64 0] 29)).setRow w7.heap.size cs) := (Below_alloc w7 _).trans ⟨rfl, rfl, rfl, by simp, fun k hk => setRow_other _ _ _ _ (by omega)⟩
 have t28 := Lib.hid (s2.out.below b)
 have t38 := Lib.hid (s3.out.below b)
 clear s2 s3
 have hsb8 := Lib.hid (blk_below hsb7.out b)
 have HV8 := Lib.hid (HV7.out.below b)
 have qdirs8 := Lib.hid (qdirs7.out.below b)
 have hB8 := Lib.hid (belowThen hB7.out b (Nat.le_refl _))
 clear b hB7 hsb7 HV7 qdirs7
 generalize (w7.alloc _).setRow _ _ = w8 at hB8 hsb8 HV8 qdirs8 hrow8 t28 t38 |-
 generalize w7.heap.size = gT at hrow8 |-
 refine Lib.hid ?_
 cases hk : knownL site [99, 111, 110, 116, 101, 110, 116] (folderL dirs ++ 47 :: (name ++ 46 :: E)) with
 | false =>
  go_wp2_with fail
  go_ret
  exact ⟨rfl, hB8.out⟩
 | true =>
 have hT2 := hT.out hk
 have hpk : pathKnown site [99, 111, 110, 116, 101, 110, 116] (folderL dirs ++ 47 :: (name ++ 46 :: E)) = true := by unfold knownL at hk; rw [Bool.and_eq_true] at hk; exact hk.2
 have hT0 := hT2
 rw [parse_eq hpk] at hT2
 have hcs2 : Hid (cs = #[.string (B T.component), .string (B T.container), .string (B T.containerDir), .string (B T.section_), .string (B T.name), .string (B T.nameNoExt), .string (B T.baseName), .string (B T.nameNoId), .string (B T.dir), .string (B T.path), .string (B T.pathNoLang), .string (B T.pathNoId), .string (B T.pathBefore), .string (B T.base), .string (B T.idBase), .string (B T.ext), .string (B T.format), .string (B T.kind), .string (B T.layout), .string (B T.lang), .string (B T.custom), .slice a1 l1 c1, .slice a2 l2 c2, .slice a3 l3 c3, .bool T.disabled, .bool T.isContent, .bool T.isBundle, .bool T.isBranch, .bool T.isLeaf, .bool T.isData, .int .i64 T.typ]) := (Value.agg.inj hcs.out).symm
 clear hT
 have hR : PageT T dirs name [] E (name ++ 46 :: E) [E] := by rw [hT2]; exact built_page_one (plains_words hpdirs) (plain_word hpname) (plain_word hEp) hEm
 have hfr : fewL dr = true := by
  have h : dirs.length + sumLen dirs <= 2000 := by simpa [fewL] using hfdirs
  have e : sumLen (d0 :: dr) = d0.length + sumLen dr := by unfold sumLen; simp
  rw [hdr.out, e, List.length_cons] at h
  have h2 : dr.length + sumLen dr <= 2000 := by omega
  simpa [fewL] using h2
 have hs1 : T.section_ = d0 := by rw [hR.section_, hdr.out]; rfl
 have hd0 : d0 ≠ [] := (plains_words hpdirs d0 (by rw [hdr.out]; exact List.mem_cons_self)).ne
 have hb1 : T.base.drop (d0.length + 1) = folderL dr ++ 47 :: name := by
  rw [hR.base, hdr.out, folder_cons]
  show List.drop (d0.length + 1) (47 :: ((d0 ++ folderL dr) ++ 47 :: name)) = _
  rw [List.drop_succ_cons, List.append_assoc, List.drop_left]
 have hb2 : d0.length + 1 <= T.base.length := by
  rw [hR.base, hdr.out, folder_cons, List.length_append, List.length_cons, List.length_append]; omega
 have hRT2 := HRT.out hpk (plain_word hptyp).ne hltyp
 rw [<- hT0, hs1, hb1] at hRT2
 have HR2 := Lib.hid (hRT2 (fun e => by rw [e] at htd; simp at htd) hd0 hb2)
 have hfl2 := folder_few hfr
 have HFD2 := Lib.hid (fun v wx h => HFD.out v dr hfr wx h)
 have hq1 : Hid (dcap = 1 -> StrsAt w8 (.slice (some ⟨db, doff, none⟩) (dirs.length - 1) (dcap - 1)) dr) := fun h1 => by
  have e : dr = [] := by
   have h2 : dirs.length = dr.length + 1 := by rw [hdr.out]; rfl
   exact List.length_eq_zero_iff.1 (by omega)
  have e2 : dirs.length - 1 = 0 := by rw [hdr.out, e]; rfl
  rw [e, e2]
  exact ⟨by simp, some ⟨db, doff, none⟩, dcap - 1, rfl, fun i hi => by simp at hi⟩
 have hq2 : Hid (StrsAt w8 (.slice (some ⟨db, doff + 1, none⟩) (dirs.length - 1) (dcap - 1)) dr) := strs_tail (by have h := qdirs8.out; rw [show StrsAt w8 (.slice (some ⟨db, doff, none⟩) dirs.length dcap) dirs = StrsAt w8 (.slice (some ⟨db, doff, none⟩) dirs.length dcap) (d0 :: dr) by rw [<- hdr.out]] at h; exact h)
 obtain ⟨da2, hda2, hqt⟩ : ∃ da2, Hid (da2 = if dcap = 1 then some ⟨db, doff, none⟩ else some ⟨db, doff + 1, none⟩) /\ Hid (StrsAt w8 (.slice da2 (dirs.length - 1) (dcap - 1)) dr) := by
  by_cases h1 : dcap = 1
  ·exact ⟨some ⟨db, doff, none⟩, (if_pos h1).symm, hq1.out h1⟩
  ·exact ⟨some ⟨db, doff + 1, none⟩, (if_neg h1).symm, hq2.out⟩
 have hi1 : (1 : Int) <= (dirs.length : Int) := by omega
 clear hR hRT2 HRT HFD hT0 hT2 hs1 hb1 hb2 hd0 hcs2 htd hEm hEp hpdirs hpname hptyp hem
 go_upto_region 10 with fail
 refine wp_region_held (S := fun w' => Below w8.drew.heap.size w8.drew w') (by kernel_rfl) ?_
 change wpAnyH _ _ _ _ _ _ _ _ w8.drew
 have hsbr : Hid (w8.drew.heap[w.heap.size]? = some (.cells #[vl, vd, vf, vc] 25)) := hsb8.out
 have HVr : Hid (SiteAt w8.drew vl vd vf vc site) := HV8.out.below (Below_drewN (Below.refl _ _) 1)
 have hqr : Hid (StrsAt w8.drew (.slice da2 (dirs.length - 1) (dcap - 1)) dr) := hqt.out.below (Below_drewN (Below.refl _ _) 1)
 have b0 : Hid (Below w.heap.size w w8.drew) := Below_drewN hB8.out 1
 clear hqt hq1 hq2
 generalize w8.drew = wr at hsbr HVr hqr b0 |-
 have hd : Below wr.heap.size wr wr := Below.refl _ _
 refine wpAnyH_take (i := 0) (v := .agg #[vl, vd, vf, vc]) rfl (by kernel_rfl) (by kernel_rfl) (by kernel_rfl) (fun _ _ _ h => h) (yieldsIf_load_mid (by rfl) 25 (.tmp 5) rfl (w.heap.size) 0 rfl (#[vl, vd, vf, vc]).toList _ (fun w' hw' => range_blk (blk_below hsbr.out hw')) Tryz.underlying25 rfl (by kernel_rfl)) hd ?_
 try simp only [List.getElem_toArray, List.getElem_cons_succ, List.getElem_cons_zero, Act.put, List.setIfInBounds_toArray, List.set_cons_zero, List.set_cons_succ]
 refine wpAnyH_take (i := 1) (v := .string (B (folderL dirs ++ 47 :: (name ++ 46 :: E)))) rfl (by kernel_rfl) (by kernel_rfl) (by kernel_rfl) (fun _ _ _ h => h) (Or.inl ⟨by rfl, fun w' hw' => by
   go_simp <;> omega⟩) hd ?_
 try simp only [List.getElem_toArray, List.getElem_cons_succ, List.getElem_cons_zero, Act.put, List.setIfInBounds_toArray, List.set_cons_zero, List.set_cons_succ]
 refine wpAnyH_take (i := 2) (v := .string (B typ)) rfl (by kernel_rfl) (by kernel_rfl) (by kernel_rfl) (fun _ _ _ h => h) (Or.inl ⟨by rfl, fun w' hw' => by
   go_simp <;> omega⟩) hd ?_
 try simp only [List.getElem_toArray, List.getElem_cons_succ, List.getElem_cons_zero, Act.put, List.setIfInBounds_toArray, List.set_cons_zero, List.set_cons_succ]
 refine wpAnyH_take (i := 4) (v := .string (B typ)) rfl (by kernel_rfl) (by kernel_rfl) (by kernel_rfl) (fun _ _ _ h => h) (Or.inl ⟨by rfl, fun w' hw' => by
   go_simp <;> omega⟩) hd ?_
 try simp only [List.getElem_toArray, List.getElem_cons_succ, List.getElem_cons_zero, Act.put, List.setIfInBounds_toArray, List.set_cons_zero, List.set_cons_succ]
 refine wpAnyH_take (i := 5) (v := .string (B (47 :: typ))) rfl (by kernel_rfl) (by kernel_rfl) (by kernel_rfl) (fun _ _ _ h => h) (Or.inl ⟨by rfl, fun w' hw' => by
   go_simp <;> omega⟩) hd ?_
 try simp only [List.getElem_toArray, List.getElem_cons_succ, List.getElem_cons_zero, Act.put, List.setIfInBounds_toArray, List.set_cons_zero, List.set_cons_succ]
 refine wpAnyH_take (i := 6) (v := .slice (some ⟨db, doff, none⟩) dirs.length dcap) rfl (by kernel_rfl) (by kernel_rfl) (by kernel_rfl) (fun _ _ _ h => h) (Or.inl ⟨by rfl, fun w' hw' => by
   go_simp <;> omega⟩) hd ?_
 try simp only [List.getElem_toArray, List.getElem_cons_succ, List.getElem_cons_zero, Act.put, List.setIfInBounds_toArray, List.set_cons_zero, List.set_cons_succ]
 refine wpAnyH_take (i := 7) (v := .slice da2 (dirs.length - 1) (dcap - 1)) rfl (by kernel_rfl) (by kernel_rfl) (by kernel_rfl) (fun _ _ _ h => h) (Or.inl ⟨by rfl, fun w' hw' => by
   rw [hda2.out]; go_simp <;> omega⟩) hd ?_
 try simp only [List.getElem_toArray, List.getElem_cons_succ, List.getElem_cons_zero, Act.put, List.setIfInBounds_toArray, List.set_cons_zero, List.set_cons_succ]
 refine wpAnyH_take (i := 11) (v := .string (B name)) rfl (by kernel_rfl) (by kernel_rfl) (by kernel_rfl) (fun _ _ _ h => h) (Or.inl ⟨by rfl, fun w' hw' => by
   go_simp <;> omega⟩) hd ?_
 try simp only [List.getElem_toArray, List.getElem_cons_succ, List.getElem_cons_zero, Act.put, List.setIfInBounds_toArray, List.set_cons_zero, List.set_cons_succ]
 refine wpAnyH_all (rs := [3]) (by kernel_rfl) (by simp) ?_
 intro i hi
 obtain rfl := List.mem_singleton.1 hi
 refine wpOp_step rfl (fun K hK => ?_)
 rw [if_pos (by rfl)]
 go_simp
 refine (HR2.out _ (HVr.out.below hd)).mono ?_; rintro e y7 ⟨rfl, b7⟩
 have hd : Below wr.heap.size wr y7 := belowThen hd b7 (Nat.le_refl _)
 refine hK _ _ ⟨hd, ?_⟩
 clear hK K b7
 try simp only [List.getElem_toArray, List.getElem_cons_succ, List.getElem_cons_zero, Act.put, List.setIfInBounds_toArray, List.set_cons_zero, List.set_cons_succ]
 refine wpAnyH_all (rs := [8]) (by kernel_rfl) (by simp) ?_
 intro i hi
 obtain rfl := List.mem_singleton.1 hi
 refine wpOp_step rfl (fun K hK => ?_)
 rw [if_pos (by rfl)]
 go_simp
 refine (HFD2.out _ _ (hqr.out.below hd)).mono ?_; rintro e y8 ⟨rfl, rfl⟩
 refine hK _ _ ⟨hd, ?_⟩
 clear hK K
 try simp only [List.getElem_toArray, List.getElem_cons_succ, List.getElem_cons_zero, Act.put, List.setIfInBounds_toArray, List.set_cons_zero, List.set_cons_succ]
 refine wpAnyH_take (i := 9) (v := .string (B (47 :: (typ ++ folderL dr)))) rfl (by kernel_rfl) (by kernel_rfl) (by kernel_rfl) (fun _ _ _ h => h) (Or.inl ⟨by rfl, fun w' hw' => by
   go_simp <;> omega⟩) hd ?_
 try simp only [List.getElem_toArray, List.getElem_cons_succ, List.getElem_cons_zero, Act.put, List.setIfInBounds_toArray, List.set_cons_zero, List.set_cons_succ]
 refine wpAnyH_take (i := 10) (v := .string (B (47 :: (typ ++ (folderL dr ++ [47]))))) rfl (by kernel_rfl) (by kernel_rfl) (by kernel_rfl) (fun _ _ _ h => h) (Or.inl ⟨by rfl, fun w' hw' => by
   go_simp <;> omega⟩) hd ?_
 try simp only [List.getElem_toArray, List.getElem_cons_succ, List.getElem_cons_zero, Act.put, List.setIfInBounds_toArray, List.set_cons_zero, List.set_cons_succ]
 refine wpAnyH_take (i := 12) (v := .string (B (47 :: (typ ++ (folderL dr ++ 47 :: name))))) rfl (by kernel_rfl) (by kernel_rfl) (by kernel_rfl) (fun _ _ _ h => h) (Or.inl ⟨by rfl, fun w' hw' => by
   go_simp <;> omega⟩) hd ?_
 try simp only [List.getElem_toArray, List.getElem_cons_succ, List.getElem_cons_zero, Act.put, List.setIfInBounds_toArray, List.set_cons_zero, List.set_cons_succ]
 refine wpAnyH_take (i := 13) (v := .bool true) rfl (by kernel_rfl) (by kernel_rfl) (by kernel_rfl) (fun _ _ _ h => h) (Or.inl ⟨by rfl, fun w' hw' => by
   go_simp <;> omega⟩) hd ?_
 try simp only [List.getElem_toArray, List.getElem_cons_succ, List.getElem_cons_zero, Act.put, List.setIfInBounds_toArray, List.set_cons_zero, List.set_cons_succ]
 refine wpAnyH_take (i := 14) (v := .bool true) rfl (by kernel_rfl) (by kernel_rfl) (by kernel_rfl) (fun _ _ _ h => h) (Or.inl ⟨by rfl, fun w' hw' => by
   go_simp <;> omega⟩) hd ?_
 try simp only [List.getElem_toArray, List.getElem_cons_succ, List.getElem_cons_zero, Act.put, List.setIfInBounds_toArray, List.set_cons_zero, List.set_cons_succ]
 refine wpAnyH_done (by kernel_rfl) ?_ _
 have hend := Lib.hid (belowThen b0.out hd (Nat.le_refl _))
 go_wp2_with fail
 go_ret
 exact ⟨rfl, hend.out⟩

end Go.Proofs.YtjkecadfakjanaaGreatDoor

namespace Go.Proofs.YtjkecadfakjanaaGreatDoor
open Go.ChangeShapes Go.WideShapes Go.ChangeAt Go.RowKit
open Go.ChangeMaps (open_string shut_string)

theorem trodAll_five {H : Type} {enc : TypeId × Value -> H} {P : Program} {w : World} {base : Nat} {spare : Nat -> Bool} {held : Bool} {t0 t1 t2 t3 t4 : TypeId} {args : Array Value} {ds : List (DataW H)} {ps : List MemPlace} (h : DataW.TrodAll enc P w base spare held [t0, t1, t2, t3, t4] args.toList ds ps) :
  ∃ v0 v1 v2 v3 v4 d0 d1 d2 d3 d4 p0 p1 p2 p3 p4, args = #[v0, v1, v2, v3, v4] /\ ds = [d0, d1, d2, d3, d4] /\ ps = p0 ++ p1 ++ p2 ++ p3 ++ p4 /\ DataW.Trod enc P w base spare held t0 v0 d0 p0 /\ DataW.Trod enc P w base spare held t1 v1 d1 p1 /\ DataW.Trod enc P w base spare held t2 v2 d2 p2 /\ DataW.Trod enc P w base spare held t3 v3 d3 p3 /\ DataW.Trod enc P w base spare held t4 v4 d4 p4 := by
 obtain ⟨v0, vs0, d0, ds0, p0, q0, hargs, rfl, rfl, h0, r0⟩ := trodAll_cons h
 obtain ⟨v1, vs1, d1, ds1, p1, q1, rfl, rfl, rfl, h1, r1⟩ := trodAll_cons r0
 obtain ⟨v2, vs2, d2, ds2, p2, q2, rfl, rfl, rfl, h2, r2⟩ := trodAll_cons r1
 obtain ⟨v3, vs3, d3, ds3, p3, q3, rfl, rfl, rfl, h3, r3⟩ := trodAll_cons r2
 obtain ⟨v4, vs4, d4, ds4, p4, q4, rfl, rfl, rfl, h4, r4⟩ := trodAll_cons r3
 obtain ⟨rfl, rfl, rfl⟩ := trodAll_nil r4
 exact ⟨v0, v1, v2, v3, v4, d0, d1, d2, d3, d4, p0, p1, p2, p3, p4, by cases args; simp_all, rfl, by simp, h0, h1, h2, h3, h4⟩
theorem trodAll_mk5 {H : Type} {enc : TypeId × Value -> H} {P : Program} {w : World} {base : Nat} {spare : Nat -> Bool} {held : Bool} {t0 t1 t2 t3 t4 : TypeId} {v0 v1 v2 v3 v4 : Value} {d0 d1 d2 d3 d4 : DataW H} {p0 p1 p2 p3 p4 : List MemPlace} (h0 : DataW.Trod enc P w base spare held t0 v0 d0 p0) (h1 : DataW.Trod enc P w base spare held t1 v1 d1 p1) (h2 : DataW.Trod enc P w base spare held t2 v2 d2 p2) (h3 : DataW.Trod enc P w base spare held t3 v3 d3 p3) (h4 : DataW.Trod enc P w base spare held t4 v4 d4 p4) :
  DataW.TrodAll enc P w base spare held [t0, t1, t2, t3, t4] [v0, v1, v2, v3, v4] [d0, d1, d2, d3, d4] (p0 ++ (p1 ++ (p2 ++ (p3 ++ p4)))) := ⟨p0, p1 ++ (p2 ++ (p3 ++ p4)), h0, trodAll_mk4 h1 h2 h3 h4, rfl⟩
theorem wf_i64 {n : Int} (h : (Lit.int .i64 n).wf = true) : -9223372036854775808 <= n /\ n <= 9223372036854775807 := by
 have h2 : (decide (IntKind.i64.min <= n) && decide (n <= IntKind.i64.max)) = true := h
 rw [Bool.and_eq_true, decide_eq_true_eq, decide_eq_true_eq] at h2
 have e1 : IntKind.i64.min = -9223372036854775808 := by decide
 have e2 : IntKind.i64.max = 9223372036854775807 := by decide
 rw [e1, e2] at h2
 exact h2
theorem listReads : Tryz.prog.readableRec 22 = true := by kernel_rfl
theorem listRow : 22 < Tryz.prog.types.size := of_decide_eq_true (by kernel_rfl)
theorem open_list {H : Type} {enc : TypeId × Value -> H} {W : World} {v : Value} {d : DataW H} {p : List MemPlace} (h : DataW.Trod enc Tryz.prog W 0 (fun _ => true) true 22 v d p) (hv : Value.okWide Tryz.prog W .any 0 22 v) (hw : ∀ n ∈ d.weights Tryz.prog 22, n <= reachBytes) : ∃ l, StrsAt W v l /\ CapOK v := by
 obtain ⟨a, len, cap, rfl⟩ := okWide_slice Tryz.underlying22 hv
 obtain ⟨fuel, hf⟩ := h
 exact open_strsA (x := (d, p)) hf hw
theorem own : ownKnob Tryz.prog.godebug = none := by kernel_rfl
theorem laidOut : laidOutB Tryz.prog = true := by kernel_rfl
theorem siteReads : Tryz.prog.readableRec 25 = true := by kernel_rfl
theorem siteRow : 25 < Tryz.prog.types.size := of_decide_eq_true (by kernel_rfl)

def laidAll' : List (String × DataW Unit) := Rows.fnBaseReTypedBuiltRow.laid

set_option maxRecDepth 100000 in
theorem lifted1 (os : Os) (started : os.Started) (H : Type) (enc : TypeId × Value -> H) :
  ReturnsInHanded {} Tryz.checked os 5 .any (fun w args => (Rows.fnBaseReTypedBuiltSpec.pre enc Tryz.prog Tryz.f5 Rows.fnBaseReTypedBuiltRow.domain false w args /\ laidMetH Tryz.prog laidAll' w) /\ sizedMet enc Tryz.prog Tryz.f5 (OpenSpec.ofChange Rows.fnBaseReTypedBuiltSpec) false w args)
   (Rows.fnBaseReTypedBuiltSpec.post enc Tryz.prog Tryz.f5 false true false false) := by
 refine returnsInHanded_of_change_and (C := Tryz.checked) (X := fun w _ => laidMetH Tryz.prog laidAll' w) (fun _ _ _ hh h => h.of_heap hh) own started (by kernel_rfl) Tryz.func5
  (ChangeSpec.witness_shaped (enc := enc) (C := Tryz.checked) (os := os) (X := fun w _ => laidMetH Tryz.prog laidAll' w) false (World.laidAll Tryz.prog os laidAll') #[.agg #[.slice none 0 0, .slice none 0 0, .slice none 0 0, .slice none 0 0], .slice none 0 0, .string ByteArray.empty, .string ByteArray.empty, .int .i64 0] 8 (World.laidAll_os _ _ _)
   (World.shaped_of_ZipB (by kernel_rfl) (by kernel_rfl)) (by kernel_rfl) (by kernel_rfl) (by kernel_rfl)
   (by rw [MakeChecks.laidMetH_plain _ _ _ (by kernel_rfl)]; exact laidMet_laidAll _ (by kernel_rfl) (by kernel_rfl))) ?_
 intro W base args ds gs before hval0 hW hc hsz0 _ _
 have hsz : (DataW.weightsEach Tryz.prog (Tryz.f5.params.toList ++ Rows.fnBaseReTypedBuiltSpec.plain.varTypes Tryz.prog) (ds ++ gs)).all (· <= reachBytes) = true := hsz0
 have hval : ∀ (j : Nat) t v, Tryz.f5.params[j]? = some t -> args[j]? = some v -> Value.okWide Tryz.prog W .any base t v := hval0
 have hW' := hW
 obtain ⟨p, q, hA0, hV, rfl, _, _⟩ := hW
 have hA : DataW.TrodAll enc Tryz.prog W 0 (fun _ => true) true Tryz.f5.params.toList args.toList ds p := hA0
 rw [Tryz.params5] at hA hval hsz
 obtain ⟨v0, v1, v2, v3, v4, d0, d1, d2, d3, d4, p0, p1, p2, p3, p4, rfl, rfl, rfl, h0, h1, h2, h3, h4⟩ := trodAll_five hA
 obtain ⟨rfl, rfl⟩ := trodVars_none hV
 obtain ⟨a2, rfl, rfl, rfl, y2⟩ := open_string Tryz.underlying9 (hval 2 9 v2 rfl rfl) h2
 obtain ⟨a3, rfl, rfl, rfl, y3⟩ := open_string Tryz.underlying9 (hval 3 9 v3 rfl rfl) h3
 obtain ⟨a4, rfl, rfl, rfl, y4⟩ := open_int Tryz.underlying3 (hval 4 3 v4 rfl rfl) h4
 have w1 : ∀ n ∈ d1.weights Tryz.prog 22, n <= reachBytes := fun n hn => by
  have := List.all_eq_true.1 hsz n (DataW.weights_mem_each (j := 1) (t := 22) rfl rfl n hn)
  simpa using this
 obtain ⟨l1, q1, c1⟩ := open_list h1 (hval 1 22 v1 rfl rfl) w1
 have hlt1 : ∀ x ∈ p1, x.block < W.heap.size := fun x hx => hW'.lt x (by simp [hx])
 have w2 : a2.size <= 140737488351232 := by
  have z := sized_string hsz (j := 2) (t := 9) rfl rfl
  rw [Array.length_toList] at z
  exact z
 have w3 : a3.size <= 140737488351232 := by
  have z := sized_string hsz (j := 3) (t := 9) rfl rfl
  rw [Array.length_toList] at z
  exact z
 have w0 : ∀ n ∈ d0.weights Tryz.prog 25, n <= reachBytes := fun n hn => by
  have := List.all_eq_true.1 hsz n (DataW.weights_mem_each (j := 0) (t := 25) rfl rfl n hn)
  simpa using this
 obtain ⟨vl, vd, vf, vc, site, rfl, hs, cl, cd, cc⟩ := open_site h0 (hval 0 25 v0 rfl rfl) w0
 have hlt : ∀ x ∈ p0, x.block < W.heap.size := fun x hx => hW'.lt x (by simp [hx])
 obtain ⟨l2, rfl⟩ := B_surj a2
 rw [B_size] at w2
 obtain ⟨l3, rfl⟩ := B_surj a3
 rw [B_size] at w3
 refine (w_FnBaseReTypedBuilt site l1 l2 l3 a4 vl vd vf vc v1 W hs cl cd cc q1 c1 w2 w3 (wf_i64 y4)).mono fun e W' ⟨he, bel⟩ => ?_
 subst he
 refine ⟨_, rfl, _, _, _, [], _, [], hW', trodAll_mk1 (shut_bool Tryz.underlying4 _), trodAll_mk5 (Below.trod laidOut siteReads siteRow h0 bel hlt) (Below.trod laidOut listReads listRow h1 bel hlt1) (shut_string Tryz.underlying9 y2) (shut_string Tryz.underlying9 y3) (shut_int Tryz.underlying3 y4), rfl, bel.frame _, fun h => by cases h⟩

theorem over1 : Rows.FnBaseReTypedBuiltSaid :=
 OpenClaim.holds_of_wide 5 Tryz.f5 rfl rfl rfl rfl rfl rfl rfl ⟨rfl, rfl, rfl, rfl, rfl⟩ rfl rfl rfl rfl rfl (by kernel_rfl) Tryz.func5 (by kernel_rfl)
  (of_decide_eq_true (by kernel_rfl)) (by unfold Func.isWrapper; first | (rw [if_pos (by decide +kernel)]; kernel_rfl) | (rw [if_neg (by decide +kernel)]; exact ⟨rfl, rfl⟩))
  (fun os started H enc _ => lifted1 os started H enc)

theorem fnBaseReTypedBuilt_holds : Rows.FnBaseReTypedBuiltCardSaid :=
 Claim7.holds_tied_plain_at .later [] [.data, .pinned, .pinned] true Rows.fnBaseReTypedBuiltCard.stood.harness false over1 (fun _ h => by cases h) (by kernel_rfl) (fun _ h => by cases h) fnBaseReTypedBuilt_row_tie rfl ⟨rfl, rfl⟩ (by kernel_rfl) rfl
  (fun f fn hf hfn => by
   obtain rfl : f = 5 := Option.some.inj ((show Tryz.prog.funcNamed Rows.fnBaseReTypedBuiltRow.func = some 5 by kernel_rfl).symm.trans hf) |>.symm
   obtain rfl : fn = Tryz.f5 := (Option.some.inj (Tryz.func5.symm.trans hfn)).symm
   exact ⟨by kernel_rfl, fun j t ht => by
    rw [Tryz.params5] at ht
    have hm : t ∈ [25, 22, 9, 9, 3] := by simpa using Array.mem_of_getElem? ht
    have hall : ([25, 22, 3, 9].all fun u => !Tryz.prog.wantsStandIn u) = true := by kernel_rfl
    exact (show Tryz.prog.wantsStandIn t = false by simpa using List.all_eq_true.1 hall t (by simp at hm |-; first | exact hm | omega | (rcases hm with h | h | h <;> simp [h]) | (rcases hm with h | h | h | h <;> simp [h]) | (rcases hm with h | h | h | h | h <;> simp [h])))⟩)
  (by kernel_rfl)
#print axioms fnBaseReTypedBuilt_holds
end Go.Proofs.YtjkecadfakjanaaGreatDoor
