/- The walk of the law FnBuiltLayout: a layout that is built of folders, its name, perhaps a kind, and an extension that is no name of a format answers these. Conditions: a site in memory, lists in memory, texts that fit into the platform's addresses. -/
import Derived.Test.YtjkecadfakjanaaGreatDoorKnown
import Derived.Test.YtjkecadfakjanaaGreatDoorPlainX
import Derived.Test.YtjkecadfakjanaaGreatDoorBuiltX
import Derived.Test.YtjkecadfakjanaaGreatDoorHelpB
import Derived.Test.YtjkecadfakjanaaGreatDoorEqM
import Derived.Test.YtjkecadfakjanaaGreatDoorOpen
import Derived.Test.YtjkecadfakjanaaGreatDoorRows
import Derived.Test.YtjkecadfakjanaaGreatDoorCards
import Derived.Test.YtjkecadfakjanaaGreatDoorTie
import Derived.ProofKit
import Derived.OpenShut
import Derived.ShutString
import Derived.ChangeOld
import Derived.SizedLaws
import Derived.LaidMore
import Derived.Lay
import Derived.SevenTiedAt
import Derived.Stop.Joined
import Derived.Carry
set_option maxRecDepth 100000
set_option linter.unusedVariables false
set_option linter.unusedSimpArgs false
namespace Go.Proofs.YtjkecadfakjanaaGreatDoor
open Go.RowKit
attribute [local go_sem] B_extract B_toList B_append

theorem plains_words {l : List Str} (h : plainsL l = true) : ∀ d ∈ l, PlainW d := fun d hd => by
 unfold plainsL at h
 rw [Bool.and_eq_true, List.all_eq_true] at h
 exact plain_word (h.1 d hd)
theorem folder_few {l : List Str} (h : fewL l = true) : (folderL l).length <= 2000 := by rw [folder_size]; simpa [fewL] using h
theorem shaped_parts {site : SiteM} {n : Str} (h : shapedL site n = true) : PlainW n /\ Unmeant site n := by
 unfold shapedL at h
 rw [Bool.and_eq_true, Bool.not_eq_true'] at h
 obtain ⟨h1, h2⟩ := h
 unfold meantL at h2
 rw [Bool.or_eq_false_iff, Bool.or_eq_false_iff] at h2
 exact ⟨plain_word h1, h2.1, h2.2.1, h2.2.2⟩
theorem meant_un {site : SiteM} {n : Str} (h2 : meantL site n = false) : Unmeant site n := by
 unfold meantL at h2
 rw [Bool.or_eq_false_iff, Bool.or_eq_false_iff] at h2
 exact ⟨h2.1, h2.2.1, h2.2.2⟩
theorem kind_at : ∀ j, j < 5 -> ∃ K : Str, (#[Value.string (B [104, 111, 109, 101]), .string (B [112, 97, 103, 101]), .string (B [115, 101, 99, 116, 105, 111, 110]), .string (B [116, 97, 120, 111, 110, 111, 109, 121]), .string (B [116, 101, 114, 109])] : Array Value)[j]? = some (.string (B K)) /\ KindW K /\ K.length <= 8
 | 0, _ => ⟨[104, 111, 109, 101], rfl, ⟨by decide, (show ∀ c ∈ ([104, 111, 109, 101] : Str), siteWordB c = true from by decide), by decide⟩, by decide⟩
 | 1, _ => ⟨[112, 97, 103, 101], rfl, ⟨by decide, (show ∀ c ∈ ([112, 97, 103, 101] : Str), siteWordB c = true from by decide), by decide⟩, by decide⟩
 | 2, _ => ⟨[115, 101, 99, 116, 105, 111, 110], rfl, ⟨by decide, (show ∀ c ∈ ([115, 101, 99, 116, 105, 111, 110] : Str), siteWordB c = true from by decide), by decide⟩, by decide⟩
 | 3, _ => ⟨[116, 97, 120, 111, 110, 111, 109, 121], rfl, ⟨by decide, (show ∀ c ∈ ([116, 97, 120, 111, 110, 111, 109, 121] : Str), siteWordB c = true from by decide), by decide⟩, by decide⟩
 | 4, _ => ⟨[116, 101, 114, 109], rfl, ⟨by decide, (show ∀ c ∈ ([116, 101, 114, 109] : Str), siteWordB c = true from by decide), by decide⟩, by decide⟩
 | n + 5, h => absurd h (by omega)

set_option maxHeartbeats 8000000 in
theorem w_FnBuiltLayout (site : SiteM) (dirs : List Str) (layout : Str) (kind : Int) (ext : Str) (vl vd vf vc vdirs : Value) (w : World) (hv : SiteAt w vl vd vf vc site) (hcl : CapOK vl) (hcd : CapOK vd) (hcc : CapOK vc) (hdirs0 : StrsAt w vdirs dirs) (hcdirs0 : CapOK vdirs) (hlayout0 : layout.length <= 140737488351232) (hkind0 : -9223372036854775808 <= kind /\ kind <= 9223372036854775807) (hext0 : ext.length <= 140737488351232) :
  Calls Tryz.prog 9 #[.agg #[vl, vd, vf, vc], vdirs, .string (B layout), .int .i64 kind, .string (B ext)] w fun e w' => e = .returned (.bool true) /\ Below w.heap.size w w' := by
 have HZ : Hid (∀ wx, SiteAt wx vl vd vf vc site -> Calls Tryz.prog 12 #[.agg #[vl, vd, vf, vc]] wx fun e w' => e = .returned (.bool (siteFits site)) /\ Below wx.heap.size wx w') := fun wx h => c_zzFits1 site vl vd vf vc wx h
 have HZdirs : Hid (∀ wx, StrsAt wx vdirs dirs -> Calls Tryz.prog 19 #[vdirs] wx fun e w' => e = .returned (.bool (fits2 dirs)) /\ wx = w') := fun wx h => c_zzFits2 dirs vdirs wx h
 have HPSdirs : Hid (fits2 dirs = true -> ∀ wx, StrsAt wx vdirs dirs -> Calls Tryz.prog 20 #[vdirs] wx fun e w' => e = .returned (.bool (plainsL dirs)) /\ Below wx.heap.size wx w') := fun hf wx h => c_plains dirs vdirs wx h hf
 have HFOdirs : Hid (fewL dirs = true -> ∀ wx, StrsAt wx vdirs dirs -> Calls Tryz.prog 23 #[vdirs] wx fun e w' => e = .returned (.string (B (folderL dirs))) /\ wx = w') := fun hf wx h => c_folder dirs vdirs wx h hf
 have HPlayout : Hid (layout.length <= 2147483647 -> ∀ wx, Calls Tryz.prog 21 #[.string (B layout)] wx fun e w' => e = .returned (.bool (plainL layout)) /\ Below wx.heap.size wx w') := fun hl wx => c_plainW layout wx (by omega)
 have HPext : Hid (ext.length <= 2147483647 -> ∀ wx, Calls Tryz.prog 21 #[.string (B ext)] wx fun e w' => e = .returned (.bool (plainL ext)) /\ Below wx.heap.size wx w') := fun hl wx => c_plainW ext wx (by omega)
 have HSHlayout : Hid (layout.length <= 2147483647 -> ∀ wx, SiteAt wx vl vd vf vc site -> Calls Tryz.prog 34 #[.agg #[vl, vd, vf, vc], .string (B layout)] wx fun e w' => e = .returned (.bool (shapedL site layout)) /\ Below wx.heap.size wx w') := fun hl wx h => c_shaped site layout vl vd vf vc wx h (by omega)
 have HSHext : Hid (ext.length <= 2147483647 -> ∀ wx, SiteAt wx vl vd vf vc site -> Calls Tryz.prog 34 #[.agg #[vl, vd, vf, vc], .string (B ext)] wx fun e w' => e = .returned (.bool (shapedL site ext)) /\ Below wx.heap.size wx w') := fun hl wx h => c_shaped site ext vl vd vf vc wx h (by omega)
 have HLL : Hid (∀ (t : Str) wx, SiteAt wx vl vd vf vc site -> Calls Tryz.prog 22 #[vl, .string (B t)] wx fun e w' => e = .returned (.bool (amongL site.languages t)) /\ wx = w') := fun t wx h => c_listed site.languages t vl wx h.l
 have HLD : Hid (∀ (t : Str) wx, SiteAt wx vl vd vf vc site -> Calls Tryz.prog 22 #[vd, .string (B t)] wx fun e w' => e = .returned (.bool (amongL site.disabled t)) /\ wx = w') := fun t wx h => c_listed site.disabled t vd wx h.d
 have HKN0 : Hid ((fewL dirs = true) -> (layout.length <= 2147483647) -> (ext.length <= 2147483647) -> siteFits site = true -> ∀ wx, SiteAt wx vl vd vf vc site -> Calls Tryz.prog 24 #[.agg #[vl, vd, vf, vc], .string (B [108, 97, 121, 111, 117, 116, 115]), .string (B (folderL dirs ++ 47 :: (layout ++ 46 :: ext)))] wx
    fun e w' => ∃ v T, e = .returned (.tuple #[v, .bool (knownL site [108, 97, 121, 111, 117, 116, 115] (folderL dirs ++ 47 :: (layout ++ 46 :: ext)))]) /\ ToldAtN wx.heap.size w' v T /\ Below wx.heap.size wx w' /\ (knownL site [108, 97, 121, 111, 117, 116, 115] (folderL dirs ++ 47 :: (layout ++ 46 :: ext)) = true -> T = toldM (doParseM site [108, 97, 121, 111, 117, 116, 115] (normL (folderL dirs ++ 47 :: (layout ++ 46 :: ext)))))) := fun hf hn he hsf wx h => c_knownW site [108, 97, 121, 111, 117, 116, 115] (folderL dirs ++ 47 :: (layout ++ 46 :: ext)) vl vd vf vc wx h hcl hcd hcc hsf (by decide) (by have := folder_few hf; simp only [List.length_append, List.length_cons, List.length_nil]; omega)
 have HKN1 : Hid (∀ K : Str, K.length <= 8 -> fewL dirs = true -> layout.length <= 2147483647 -> ext.length <= 2147483647 -> siteFits site = true -> ∀ wx, SiteAt wx vl vd vf vc site -> Calls Tryz.prog 24 #[.agg #[vl, vd, vf, vc], .string (B [108, 97, 121, 111, 117, 116, 115]), .string (B (folderL dirs ++ 47 :: (layout ++ 46 :: (K ++ 46 :: ext))))] wx
    fun e w' => ∃ v T, e = .returned (.tuple #[v, .bool (knownL site [108, 97, 121, 111, 117, 116, 115] (folderL dirs ++ 47 :: (layout ++ 46 :: (K ++ 46 :: ext))))]) /\ ToldAtN wx.heap.size w' v T /\ Below wx.heap.size wx w' /\ (knownL site [108, 97, 121, 111, 117, 116, 115] (folderL dirs ++ 47 :: (layout ++ 46 :: (K ++ 46 :: ext))) = true -> T = toldM (doParseM site [108, 97, 121, 111, 117, 116, 115] (normL (folderL dirs ++ 47 :: (layout ++ 46 :: (K ++ 46 :: ext))))))) := fun K hK hf hn he hsf wx h => c_knownW site [108, 97, 121, 111, 117, 116, 115] (folderL dirs ++ 47 :: (layout ++ 46 :: (K ++ 46 :: ext))) vl vd vf vc wx h hcl hcd hcc hsf (by decide) (by have := folder_few hf; simp only [List.length_append, List.length_cons, List.length_nil]; omega)
 have HSF : Hid (siteFits site = true -> fits2 site.languages = true /\ fits2 site.content = true) := fun h => by
  unfold siteFits at h
  simp only [Bool.and_eq_true] at h
  exact ⟨h.1.1.1, h.2⟩
 obtain ⟨obs, hobs⟩ : ∃ o : Obj, o = .cells #[vl, vd, vf, vc] 25 := ⟨_, rfl⟩
 have hB1 : Hid (Below w.heap.size w (w.alloc obs)) := Below_alloc w obs
 have hsb1 : Hid ((w.alloc obs).heap[w.heap.size]? = some (.cells #[vl, vd, vf, vc] 25)) := by show _ = _; rw [hobs]; exact blk_new w _
 have HV1 : Hid (SiteAt (w.alloc obs) vl vd vf vc site) := hv.alloc obs
 have qdirs1 : Hid (StrsAt (w.alloc obs) vdirs dirs) := hdirs0.below (Below_alloc w obs)
 clear hv hcl hcd hcc hdirs0 hcdirs0
 go_enter Tryz.func9, Tryz.ntmps9
 go_wp2_with fail
 rw [<- hobs]
 generalize w.alloc obs = w1 at hB1 hsb1 HV1 qdirs1 |-
 refine (HZ.out _ HV1.out).mono ?_; rintro e w2 ⟨rfl, b⟩
 have hsb2 := Lib.hid (blk_below hsb1.out b)
 have HV2 := Lib.hid (HV1.out.below b)
 have qdirs2 := Lib.hid (qdirs1.out.below b)
 have hB2 := Lib.hid (belowThen hB1.out b (Nat.le_refl _))
 clear b hB1 hsb1 HV1 qdirs1
 cases hz : siteFits site with
 | false =>
  go_wp2_with fail
  go_ret
  exact ⟨rfl, hB2.out⟩
 | true =>
 go_wp2_with fail
 refine (HZdirs.out _ qdirs2.out).mono ?_; rintro e w' ⟨rfl, rfl⟩
 cases hzdirs : fits2 dirs with
 | false =>
  go_wp2_with fail
  go_ret
  exact ⟨rfl, hB2.out⟩
 | true =>
 by_cases hllayout : layout.length <= 2147483647
 rotate_left 1
 ·skip
  go_wp2_with fail
  go_ret
  exact ⟨rfl, hB2.out⟩
 by_cases hlext : ext.length <= 2147483647
 rotate_left 1
 ·skip
  go_wp2_with fail
  go_ret
  exact ⟨rfl, hB2.out⟩
 clear HZ HZdirs
 clear HPlayout HPext
 go_wp2_with fail
 generalize hwk : w2.alloc _ = w3
 have b : Below w2.heap.size w2 w3 := by rw [<- hwk]; exact Below_alloc w2 _
 have hkb3 : Hid (w3.heap[w2.heap.size]? = some (.cells #[.string (B [104, 111, 109, 101]), .string (B [112, 97, 103, 101]), .string (B [115, 101, 99, 116, 105, 111, 110]), .string (B [116, 97, 120, 111, 110, 111, 109, 121]), .string (B [116, 101, 114, 109])] 9)) := by show _ = _; rw [<- hwk]; exact blk_new w2 _
 clear hwk
 generalize w2.heap.size = gK at hkb3 |-
 have hsb3 := Lib.hid (blk_below hsb2.out b)
 have HV3 := Lib.hid (HV2.out.below b)
 have qdirs3 := Lib.hid (qdirs2.out.below b)
 have hB3 := Lib.hid (belowThen hB2.out b (Nat.le_refl _))
 clear b hB2 hsb2 HV2 qdirs2
 refine (HPSdirs.out hzdirs _ qdirs3.out).mono ?_; rintro e w4 ⟨rfl, b⟩
 have hsb4 := Lib.hid (blk_below hsb3.out b)
 have HV4 := Lib.hid (HV3.out.below b)
 have qdirs4 := Lib.hid (qdirs3.out.below b)
 have hkb4 := Lib.hid (blk_below hkb3.out b)
 have hB4 := Lib.hid (belowThen hB3.out b (Nat.le_refl _))
 clear b hB3 hsb3 HV3 qdirs3 hkb3
 cases hpdirs : plainsL dirs with
 | false =>
  go_wp2_with fail
  go_ret
  exact ⟨rfl, hB4.out⟩
 | true =>
 clear HPSdirs
 have hfdirs : fewL dirs = true := by unfold plainsL at hpdirs; rw [Bool.and_eq_true] at hpdirs; exact hpdirs.2
 obtain ⟨z0, z1, z2, z3⟩ : w4.cell? ⟨w.heap.size, 0, none⟩ = some vl /\ w4.cell? ⟨w.heap.size, 1, none⟩ = some vd /\ w4.cell? ⟨w.heap.size, 2, none⟩ = some vf /\ w4.cell? ⟨w.heap.size, 3, none⟩ = some vc := ⟨cell_blk hsb4.out 0, cell_blk hsb4.out 1, cell_blk hsb4.out 2, cell_blk hsb4.out 3⟩
 go_wp2_with fail
 refine (HSHlayout.out hllayout _ HV4.out).mono ?_; rintro e w5 ⟨rfl, b⟩
 have hsb5 := Lib.hid (blk_below hsb4.out b)
 have HV5 := Lib.hid (HV4.out.below b)
 have qdirs5 := Lib.hid (qdirs4.out.below b)
 have hkb5 := Lib.hid (blk_below hkb4.out b)
 have hB5 := Lib.hid (belowThen hB4.out b (Nat.le_refl _))
 clear b hB4 hsb4 HV4 qdirs4 hkb4 z0 z1 z2 z3
 cases hplayout : shapedL site layout with
 | false =>
  go_wp2_with fail
  go_ret
  exact ⟨rfl, hB5.out⟩
 | true =>
 clear HSHlayout
 obtain ⟨z0, z1, z2, z3⟩ : w5.cell? ⟨w.heap.size, 0, none⟩ = some vl /\ w5.cell? ⟨w.heap.size, 1, none⟩ = some vd /\ w5.cell? ⟨w.heap.size, 2, none⟩ = some vf /\ w5.cell? ⟨w.heap.size, 3, none⟩ = some vc := ⟨cell_blk hsb5.out 0, cell_blk hsb5.out 1, cell_blk hsb5.out 2, cell_blk hsb5.out 3⟩
 go_wp2_with fail
 refine (HSHext.out hlext _ HV5.out).mono ?_; rintro e w6 ⟨rfl, b⟩
 have hsb6 := Lib.hid (blk_below hsb5.out b)
 have HV6 := Lib.hid (HV5.out.below b)
 have qdirs6 := Lib.hid (qdirs5.out.below b)
 have hkb6 := Lib.hid (blk_below hkb5.out b)
 have hB6 := Lib.hid (belowThen hB5.out b (Nat.le_refl _))
 clear b hB5 hsb5 HV5 qdirs5 hkb5 z0 z1 z2 z3
 cases hpext : shapedL site ext with
 | false =>
  go_wp2_with fail
  go_ret
  exact ⟨rfl, hB6.out⟩
 | true =>
 clear HSHext
 by_cases hs1 : 0 <= kind
 rotate_left 1
 ·skip
  go_wp2_with fail
  go_ret
  exact ⟨rfl, hB6.out⟩
 by_cases hs2 : kind <= 5
 rotate_left 1
 ·skip
  go_wp2_with fail
  go_ret
  exact ⟨rfl, hB6.out⟩
 have hfl := folder_few hfdirs
 obtain ⟨wn, un⟩ := shaped_parts hplayout
 obtain ⟨we, ue⟩ := shaped_parts hpext
 have wd := plains_words hpdirs
 replace wn := Lib.hid wn
 replace un := Lib.hid un
 replace we := Lib.hid we
 replace ue := Lib.hid ue
 replace wd := Lib.hid wd
 clear hplayout hpext hpdirs
 by_cases h5 : kind < 5
 rotate_left 1
 ·obtain rfl : kind = 5 := by omega
  obtain ⟨z0, z1, z2, z3⟩ : w6.cell? ⟨w.heap.size, 0, none⟩ = some vl /\ w6.cell? ⟨w.heap.size, 1, none⟩ = some vd /\ w6.cell? ⟨w.heap.size, 2, none⟩ = some vf /\ w6.cell? ⟨w.heap.size, 3, none⟩ = some vc := ⟨cell_blk hsb6.out 0, cell_blk hsb6.out 1, cell_blk hsb6.out 2, cell_blk hsb6.out 3⟩
  go_wp2_with fail
  refine (HLL.out [] _ HV6.out).mono ?_; rintro e w' ⟨rfl, rfl⟩
  cases hll : amongL site.languages [] with
  | true =>
   go_wp2_with fail
   go_ret
   exact ⟨rfl, hB6.out⟩
  | false =>
  go_wp2_with fail
  refine (HLD.out [] _ HV6.out).mono ?_; rintro e w' ⟨rfl, rfl⟩
  cases hld : amongL site.disabled [] with
  | true =>
   go_wp2_with fail
   go_ret
   exact ⟨rfl, hB6.out⟩
  | false =>
  clear HLL HLD z0 z1 z2 z3
  go_wp2_with fail
  refine (HFOdirs.out hfdirs _ qdirs6.out).mono ?_; rintro e w' ⟨rfl, rfl⟩
  have HKN4 := Lib.hid (HKN0.out hfdirs hllayout hlext hz)
  clear HKN0 HKN1
  obtain ⟨z0, z1, z2, z3⟩ : w6.cell? ⟨w.heap.size, 0, none⟩ = some vl /\ w6.cell? ⟨w.heap.size, 1, none⟩ = some vd /\ w6.cell? ⟨w.heap.size, 2, none⟩ = some vf /\ w6.cell? ⟨w.heap.size, 3, none⟩ = some vc := ⟨cell_blk hsb6.out 0, cell_blk hsb6.out 1, cell_blk hsb6.out 2, cell_blk hsb6.out 3⟩
  go_wp2_with fail
  refine (HKN4.out _ HV6.out).mono ?_; rintro e w7 ⟨v, T, rfl, ⟨ql, qi, qu, rfl, ⟨s1, n1⟩, ⟨s2, n2⟩, ⟨s3, n3⟩⟩, b, hT⟩
  obtain ⟨a1, l1, c1, rfl⟩ := s1.slice
  obtain ⟨a2, l2, c2, rfl⟩ := s2.slice
  obtain ⟨a3, l3, c3, rfl⟩ := s3.slice
  obtain ⟨cs, hcs, hsz, hone⟩ := told_cells T a1 a2 a3 l1 l2 l3 c1 c2 c3
  rw [hcs]
  replace s2 := Lib.hid s2
  replace s3 := Lib.hid s3
  replace hcs := Lib.hid hcs
  replace hT := Lib.hid hT
  clear n1 n2 n3 s1 HKN4
  have hsb7 := Lib.hid (blk_below hsb6.out b)
  have HV7 := Lib.hid (HV6.out.below b)
  have qdirs7 := Lib.hid (qdirs6.out.below b)
  have hkb7 := Lib.hid (blk_below hkb6.out b)
  have hB7 := Lib.hid (belowThen hB6.out b (Nat.le_refl _))
  clear b hB6 hsb6 HV6 qdirs6 hkb6 z0 z1 z2 z3
  go_wp2_with (refine wpList_store_row rfl 29 (.tmp 17) (.tmp 113) rfl w7.heap.size cs rfl rfl 29 _ (blk_new w7 _) (by rw [hsz]; kernel_rfl) (by rw [hsz]; rfl) hone (Hid.out ?_))
  have hrow8 := Lib.hid (setRow_heap (w7.alloc (.cells #[.string (B []), .string (B []), .string (B []), .string (B []), .string (B []), .string (B []), .string (B []), .string (B []), .string (B []), .string (B []), .string (B []), .string (B []), .string (B []), .string (B []), .string (B []), .string (B []), .string (B []), .string (B []), .string (B []), .string (B []), .string (B []), .slice none 0 0, .slice none 0 0, .slice none 0 0, .bool false, .bool false, .bool false, .bool false, .bool false, .bool false, .int .i64 0] 29)) w7.heap.size _ cs _ _ (blk_new w7 _))
  have b : Below w7.heap.size w7 ((w7.alloc (.cells #[.string (B []), .string (B []), .string (B []), .string (B []), .string (B []), .string (B []), .string (B []), .string (B []), .string (B []), .string (B []), .string (B []), .string (B []), .string (B []), .string (B []), .string (B []), .string (B []), .string (B []), .string (B []), .string (B []), .string (B []), .string (B []), .slice none 0 0, .slice none 0 0, .slice none 0 0, .bool false, .bool false, .bool false, .bool false, .bool false, .bool false, .int .i64 0] 29)).setRow w7.heap.size cs) := (Below_alloc w7 _).trans ⟨rfl, rfl, rfl, by simp, fun k hk => setRow_other _ _ _ _ (by omega)⟩
  have t28 := Lib.hid (s2.out.below b)
  have t38 := Lib.hid (s3.out.below b)
  clear s2 s3
  have hsb8 := Lib.hid (blk_below hsb7.out b)
  have HV8 := Lib.hid (HV7.out.below b)
  have qdirs8 := Lib.hid (qdirs7.out.below b)
  have hkb8 := Lib.hid (blk_below hkb7.out b)
  have hB8 := Lib.hid (belowThen hB7.out b (Nat.le_refl _))
  clear b hB7 hsb7 HV7 qdirs7 hkb7
  generalize (w7.alloc _).setRow _ _ = w8 at hB8 hsb8 HV8 qdirs8 hkb8 hrow8 t28 t38 |-
  generalize w7.heap.size = gT at hrow8 |-
  refine Lib.hid ?_
  cases hk : knownL site [108, 97, 121, 111, 117, 116, 115] (folderL dirs ++ 47 :: (layout ++ 46 :: ext)) with
  | false =>
   go_wp2_with fail
   go_ret
   exact ⟨rfl, hB8.out⟩
  | true =>
  have hT2 := hT.out hk
  have hpk : pathKnown site [108, 97, 121, 111, 117, 116, 115] (folderL dirs ++ 47 :: (layout ++ 46 :: ext)) = true := by unfold knownL at hk; rw [Bool.and_eq_true] at hk; exact hk.2
  have hT0 := hT2
  rw [parse_eq hpk] at hT2
  have hcs2 : Hid (cs = #[.string (B T.component), .string (B T.container), .string (B T.containerDir), .string (B T.section_), .string (B T.name), .string (B T.nameNoExt), .string (B T.baseName), .string (B T.nameNoId), .string (B T.dir), .string (B T.path), .string (B T.pathNoLang), .string (B T.pathNoId), .string (B T.pathBefore), .string (B T.base), .string (B T.idBase), .string (B T.ext), .string (B T.format), .string (B T.kind), .string (B T.layout), .string (B T.lang), .string (B T.custom), .slice a1 l1 c1, .slice a2 l2 c2, .slice a3 l3 c3, .bool T.disabled, .bool T.isContent, .bool T.isBundle, .bool T.isBranch, .bool T.isLeaf, .bool T.isData, .int .i64 T.typ]) := (Value.agg.inj hcs.out).symm
  clear hT
  have hR : LayT T (folderL dirs ++ 47 :: (layout ++ 46 :: ext)) layout [] ext := by rw [hT2]; exact layout_one wd.out wn.out we.out un.out ue.out
  have hl3 : l3 = 0 := by
   obtain ⟨_, a', c', e, _⟩ := t38.out
   have h := (Value.slice.inj e).2.1
   rw [hR.unknown] at h
   exact h
  rw [hR.typ, hR.layout, hR.kind, hR.format, hR.ext, hR.idBase, hR.path, hR.isContent, hl3] at hcs2
  clear hR hT0 hT2 hl3
  have x9 : w8.cell? ⟨gT, 9, none⟩ = some (.string (B (folderL dirs ++ 47 :: (layout ++ 46 :: ext)))) := by rw [cell_blk hrow8.out 9, hcs2.out]; rfl
  have x14 : w8.cell? ⟨gT, 14, none⟩ = some (.string (B (folderL dirs ++ 47 :: (layout ++ 46 :: ext)))) := by rw [cell_blk hrow8.out 14, hcs2.out]; rfl
  have x15 : w8.cell? ⟨gT, 15, none⟩ = some (.string (B ext)) := by rw [cell_blk hrow8.out 15, hcs2.out]; rfl
  have x16 : w8.cell? ⟨gT, 16, none⟩ = some (.string (B [])) := by rw [cell_blk hrow8.out 16, hcs2.out]; rfl
  have x17 : w8.cell? ⟨gT, 17, none⟩ = some (.string (B [])) := by rw [cell_blk hrow8.out 17, hcs2.out]; rfl
  have x18 : w8.cell? ⟨gT, 18, none⟩ = some (.string (B layout)) := by rw [cell_blk hrow8.out 18, hcs2.out]; rfl
  have x23 : w8.cell? ⟨gT, 23, none⟩ = some (.slice a3 0 c3) := by rw [cell_blk hrow8.out 23, hcs2.out]; rfl
  have x25 : w8.cell? ⟨gT, 25, none⟩ = some (.bool false) := by rw [cell_blk hrow8.out 25, hcs2.out]; rfl
  have x30 : w8.cell? ⟨gT, 30, none⟩ = some (.int .i64 0) := by rw [cell_blk hrow8.out 30, hcs2.out]; rfl
  go_wp2_with fail
  go_ret
  exact ⟨ret_bool (by simp), hB8.out⟩
 obtain ⟨j, rfl⟩ : ∃ j : Nat, kind = j := ⟨kind.toNat, by omega⟩
 have hj5 : j < 5 := by omega
 obtain ⟨K, hKc, hKK, hKl⟩ := kind_at j hj5
 replace hKK := Lib.hid hKK
 have kc : w6.cell? ⟨gK, j, none⟩ = some (.string (B K)) := (cell_blk hkb6.out j).trans hKc
 have kc0 : w6.cell? ⟨gK, 0 + j, none⟩ = some (.string (B K)) := by rw [Nat.zero_add]; exact kc
 clear hKc
 obtain ⟨z0, z1, z2, z3⟩ : w6.cell? ⟨w.heap.size, 0, none⟩ = some vl /\ w6.cell? ⟨w.heap.size, 1, none⟩ = some vd /\ w6.cell? ⟨w.heap.size, 2, none⟩ = some vf /\ w6.cell? ⟨w.heap.size, 3, none⟩ = some vc := ⟨cell_blk hsb6.out 0, cell_blk hsb6.out 1, cell_blk hsb6.out 2, cell_blk hsb6.out 3⟩
 obtain ⟨h0, fa, fcap, hvf, hfc⟩ := HV6.out.f
 have HC := Lib.hid hfc
 have z2s : w6.cell? ⟨w.heap.size, 2, none⟩ = some (.slice fa site.formats.length fcap) := by rw [<- hvf]; exact z2
 replace hvf := Lib.hid hvf
 clear hfc z0 z1 z2 z3
 go_wp2_with fail
 clear kc kc0 z2s
 go_loopw [85] (fun i wr => ∃ k : Nat, k <= site.formats.length /\ i = .int .i64 k /\ Hid (formatNamed site.formats K = formatNamed (site.formats.drop k) K) /\ Hid (Below w6.heap.size w6 wr)) (fun i _ => site.formats.length - (intOf i).toNat)
 case atStart => exact ⟨0, Nat.zero_le _, rfl, rfl, Lib.hid (Below.refl _ _)⟩
 case round =>
  obtain ⟨k, hk, rfl, hall, hb⟩ := hrel
  by_cases hlt : k < site.formats.length
  ·obtain ⟨b, off, rfl, d1, d2⟩ := HC.out k hlt
   have y1 := (hb.out.cell (p := ⟨b, off + k * 2, none⟩) (cell_lt d1)).trans d1
   have y2 := (hb.out.cell (p := ⟨b, off + k * 2 + 1, none⟩) (cell_lt d2)).trans d2
   clear d1 d2
   cases he : (site.formats[k].1 == K) with
   | true =>
    go_wp2_with fail
    go_ret
    exact ⟨rfl, belowThen hB6.out (hb.out.alloc hb.out.size _) (Nat.le_refl _)⟩
   | false =>
    have HM := Lib.hid (named_missM hlt he)
    go_wp2_with fail
    go_roundw
    case rel => exact ⟨k + 1, by omega, by go_num, Lib.hid (hall.out.trans HM.out), Lib.hid (hb.out.alloc hb.out.size _)⟩
    case measure => simp [intOf]; omega
  have hfn : formatNamed site.formats K = false := by rw [hall.out, List.drop_of_length_le (by omega)]; rfl
  clear hall HC
  have b := hb.out
  clear hb
  have hsb7 := Lib.hid (blk_below hsb6.out b)
  have HV7 := Lib.hid (HV6.out.below b)
  have qdirs7 := Lib.hid (qdirs6.out.below b)
  have hkb7 := Lib.hid (blk_below hkb6.out b)
  have hB7 := Lib.hid (belowThen hB6.out b (Nat.le_refl _))
  clear b hB6 hsb6 HV6 qdirs6 hkb6
  generalize wr = w7 at hB7 hsb7 HV7 qdirs7 hkb7 |-
  obtain ⟨z0, z1, z2, z3⟩ : w7.cell? ⟨w.heap.size, 0, none⟩ = some vl /\ w7.cell? ⟨w.heap.size, 1, none⟩ = some vd /\ w7.cell? ⟨w.heap.size, 2, none⟩ = some vf /\ w7.cell? ⟨w.heap.size, 3, none⟩ = some vc := ⟨cell_blk hsb7.out 0, cell_blk hsb7.out 1, cell_blk hsb7.out 2, cell_blk hsb7.out 3⟩
  go_wp2_with fail
  refine (HLL.out K _ HV7.out).mono ?_; rintro e w' ⟨rfl, rfl⟩
  cases hll : amongL site.languages K with
  | true =>
   go_wp2_with fail
   go_ret
   exact ⟨rfl, hB7.out⟩
  | false =>
  go_wp2_with fail
  refine (HLD.out K _ HV7.out).mono ?_; rintro e w' ⟨rfl, rfl⟩
  cases hld : amongL site.disabled K with
  | true =>
   go_wp2_with fail
   go_ret
   exact ⟨rfl, hB7.out⟩
  | false =>
  clear HLL HLD z0 z1 z2 z3
  go_wp2_with fail
  refine (HFOdirs.out hfdirs _ qdirs7.out).mono ?_; rintro e w' ⟨rfl, rfl⟩
  have HKN4 := Lib.hid (HKN1.out K hKl hfdirs hllayout hlext hz)
  clear HKN0 HKN1
  obtain ⟨z0, z1, z2, z3⟩ : w7.cell? ⟨w.heap.size, 0, none⟩ = some vl /\ w7.cell? ⟨w.heap.size, 1, none⟩ = some vd /\ w7.cell? ⟨w.heap.size, 2, none⟩ = some vf /\ w7.cell? ⟨w.heap.size, 3, none⟩ = some vc := ⟨cell_blk hsb7.out 0, cell_blk hsb7.out 1, cell_blk hsb7.out 2, cell_blk hsb7.out 3⟩
  go_wp2_with fail
  refine (HKN4.out _ HV7.out).mono ?_; rintro e w8 ⟨v, T, rfl, ⟨ql, qi, qu, rfl, ⟨s1, n1⟩, ⟨s2, n2⟩, ⟨s3, n3⟩⟩, b, hT⟩
  obtain ⟨a1, l1, c1, rfl⟩ := s1.slice
  obtain ⟨a2, l2, c2, rfl⟩ := s2.slice
  obtain ⟨a3, l3, c3, rfl⟩ := s3.slice
  obtain ⟨cs, hcs, hsz, hone⟩ := told_cells T a1 a2 a3 l1 l2 l3 c1 c2 c3
  rw [hcs]
  replace s2 := Lib.hid s2
  replace s3 := Lib.hid s3
  replace hcs := Lib.hid hcs
  replace hT := Lib.hid hT
  clear n1 n2 n3 s1 HKN4
  have hsb8 := Lib.hid (blk_below hsb7.out b)
  have HV8 := Lib.hid (HV7.out.below b)
  have qdirs8 := Lib.hid (qdirs7.out.below b)
  have hkb8 := Lib.hid (blk_below hkb7.out b)
  have hB8 := Lib.hid (belowThen hB7.out b (Nat.le_refl _))
  clear b hB7 hsb7 HV7 qdirs7 hkb7 z0 z1 z2 z3
  go_wp2_with (refine wpList_store_row rfl 29 (.tmp 17) (.tmp 113) rfl w8.heap.size cs rfl rfl 29 _ (blk_new w8 _) (by rw [hsz]; kernel_rfl) (by rw [hsz]; rfl) hone (Hid.out ?_))
  have hrow9 := Lib.hid (setRow_heap (w8.alloc (.cells #[.string (B []), .string (B []), .string (B []), .string (B []), .string (B []), .string (B []), .string (B []), .string (B []), .string (B []), .string (B []), .string (B []), .string (B []), .string (B []), .string (B []), .string (B []), .string (B []), .string (B []), .string (B []), .string (B []), .string (B []), .string (B []), .slice none 0 0, .slice none 0 0, .slice none 0 0, .bool false, .bool false, .bool false, .bool false, .bool false, .bool false, .int .i64 0] 29)) w8.heap.size _ cs _ _ (blk_new w8 _))
  have b : Below w8.heap.size w8 ((w8.alloc (.cells #[.string (B []), .string (B []), .string (B []), .string (B []), .string (B []), .string (B []), .string (B []), .string (B []), .string (B []), .string (B []), .string (B []), .string (B []), .string (B []), .string (B []), .string (B []), .string (B []), .string (B []), .string (B []), .string (B []), .string (B []), .string (B []), .slice none 0 0, .slice none 0 0, .slice none 0 0, .bool false, .bool false, .bool false, .bool false, .bool false, .bool false, .int .i64 0] 29)).setRow w8.heap.size cs) := (Below_alloc w8 _).trans ⟨rfl, rfl, rfl, by simp, fun k hk => setRow_other _ _ _ _ (by omega)⟩
  have t29 := Lib.hid (s2.out.below b)
  have t39 := Lib.hid (s3.out.below b)
  clear s2 s3
  have hsb9 := Lib.hid (blk_below hsb8.out b)
  have HV9 := Lib.hid (HV8.out.below b)
  have qdirs9 := Lib.hid (qdirs8.out.below b)
  have hkb9 := Lib.hid (blk_below hkb8.out b)
  have hB9 := Lib.hid (belowThen hB8.out b (Nat.le_refl _))
  clear b hB8 hsb8 HV8 qdirs8 hkb8
  generalize (w8.alloc _).setRow _ _ = w9 at hB9 hsb9 HV9 qdirs9 hkb9 hrow9 t29 t39 |-
  generalize w8.heap.size = gT at hrow9 |-
  refine Lib.hid ?_
  cases hk : knownL site [108, 97, 121, 111, 117, 116, 115] (folderL dirs ++ 47 :: (layout ++ 46 :: (K ++ 46 :: ext))) with
  | false =>
   go_wp2_with fail
   go_ret
   exact ⟨rfl, hB9.out⟩
  | true =>
  have hT2 := hT.out hk
  have hpk : pathKnown site [108, 97, 121, 111, 117, 116, 115] (folderL dirs ++ 47 :: (layout ++ 46 :: (K ++ 46 :: ext))) = true := by unfold knownL at hk; rw [Bool.and_eq_true] at hk; exact hk.2
  have hT0 := hT2
  rw [parse_eq hpk] at hT2
  have hcs2 : Hid (cs = #[.string (B T.component), .string (B T.container), .string (B T.containerDir), .string (B T.section_), .string (B T.name), .string (B T.nameNoExt), .string (B T.baseName), .string (B T.nameNoId), .string (B T.dir), .string (B T.path), .string (B T.pathNoLang), .string (B T.pathNoId), .string (B T.pathBefore), .string (B T.base), .string (B T.idBase), .string (B T.ext), .string (B T.format), .string (B T.kind), .string (B T.layout), .string (B T.lang), .string (B T.custom), .slice a1 l1 c1, .slice a2 l2 c2, .slice a3 l3 c3, .bool T.disabled, .bool T.isContent, .bool T.isBundle, .bool T.isBranch, .bool T.isLeaf, .bool T.isData, .int .i64 T.typ]) := (Value.agg.inj hcs.out).symm
  clear hT
  have hR : LayT T (folderL dirs ++ 47 :: (layout ++ 46 :: (K ++ 46 :: ext))) layout K ext := by rw [hT2]; exact layout_two wd.out wn.out hKK.out we.out un.out ue.out ⟨hfn, hll, hld⟩
  have hl3 : l3 = 0 := by
   obtain ⟨_, a', c', e, _⟩ := t39.out
   have h := (Value.slice.inj e).2.1
   rw [hR.unknown] at h
   exact h
  rw [hR.typ, hR.layout, hR.kind, hR.format, hR.ext, hR.idBase, hR.path, hR.isContent, hl3] at hcs2
  clear hR hT0 hT2 hl3
  have x9 : w9.cell? ⟨gT, 9, none⟩ = some (.string (B (folderL dirs ++ 47 :: (layout ++ 46 :: (K ++ 46 :: ext))))) := by rw [cell_blk hrow9.out 9, hcs2.out]; rfl
  have x14 : w9.cell? ⟨gT, 14, none⟩ = some (.string (B (folderL dirs ++ 47 :: (layout ++ 46 :: (K ++ 46 :: ext))))) := by rw [cell_blk hrow9.out 14, hcs2.out]; rfl
  have x15 : w9.cell? ⟨gT, 15, none⟩ = some (.string (B ext)) := by rw [cell_blk hrow9.out 15, hcs2.out]; rfl
  have x16 : w9.cell? ⟨gT, 16, none⟩ = some (.string (B [])) := by rw [cell_blk hrow9.out 16, hcs2.out]; rfl
  have x17 : w9.cell? ⟨gT, 17, none⟩ = some (.string (B K)) := by rw [cell_blk hrow9.out 17, hcs2.out]; rfl
  have x18 : w9.cell? ⟨gT, 18, none⟩ = some (.string (B layout)) := by rw [cell_blk hrow9.out 18, hcs2.out]; rfl
  have x23 : w9.cell? ⟨gT, 23, none⟩ = some (.slice a3 0 c3) := by rw [cell_blk hrow9.out 23, hcs2.out]; rfl
  have x25 : w9.cell? ⟨gT, 25, none⟩ = some (.bool false) := by rw [cell_blk hrow9.out 25, hcs2.out]; rfl
  have x30 : w9.cell? ⟨gT, 30, none⟩ = some (.int .i64 0) := by rw [cell_blk hrow9.out 30, hcs2.out]; rfl
  go_wp2_with fail
  go_ret
  exact ⟨ret_bool (by simp), hB9.out⟩

end Go.Proofs.YtjkecadfakjanaaGreatDoor

namespace Go.Proofs.YtjkecadfakjanaaGreatDoor
open Go.ChangeShapes Go.WideShapes Go.ChangeAt Go.RowKit
open Go.ChangeMaps (open_string shut_string)

theorem trodAll_five {H : Type} {enc : TypeId × Value -> H} {P : Program} {w : World} {base : Nat} {spare : Nat -> Bool} {held : Bool} {t0 t1 t2 t3 t4 : TypeId} {args : Array Value} {ds : List (DataW H)} {ps : List MemPlace} (h : DataW.TrodAll enc P w base spare held [t0, t1, t2, t3, t4] args.toList ds ps) :
  ∃ v0 v1 v2 v3 v4 d0 d1 d2 d3 d4 p0 p1 p2 p3 p4, args = #[v0, v1, v2, v3, v4] /\ ds = [d0, d1, d2, d3, d4] /\ ps = p0 ++ p1 ++ p2 ++ p3 ++ p4 /\ DataW.Trod enc P w base spare held t0 v0 d0 p0 /\ DataW.Trod enc P w base spare held t1 v1 d1 p1 /\ DataW.Trod enc P w base spare held t2 v2 d2 p2 /\ DataW.Trod enc P w base spare held t3 v3 d3 p3 /\ DataW.Trod enc P w base spare held t4 v4 d4 p4 := by
 obtain ⟨v0, vs0, d0, ds0, p0, q0, hargs, rfl, rfl, h0, r0⟩ := trodAll_cons h
 obtain ⟨v1, vs1, d1, ds1, p1, q1, rfl, rfl, rfl, h1, r1⟩ := trodAll_cons r0
 obtain ⟨v2, vs2, d2, ds2, p2, q2, rfl, rfl, rfl, h2, r2⟩ := trodAll_cons r1
 obtain ⟨v3, vs3, d3, ds3, p3, q3, rfl, rfl, rfl, h3, r3⟩ := trodAll_cons r2
 obtain ⟨v4, vs4, d4, ds4, p4, q4, rfl, rfl, rfl, h4, r4⟩ := trodAll_cons r3
 obtain ⟨rfl, rfl, rfl⟩ := trodAll_nil r4
 exact ⟨v0, v1, v2, v3, v4, d0, d1, d2, d3, d4, p0, p1, p2, p3, p4, by cases args; simp_all, rfl, by simp, h0, h1, h2, h3, h4⟩
theorem trodAll_mk5 {H : Type} {enc : TypeId × Value -> H} {P : Program} {w : World} {base : Nat} {spare : Nat -> Bool} {held : Bool} {t0 t1 t2 t3 t4 : TypeId} {v0 v1 v2 v3 v4 : Value} {d0 d1 d2 d3 d4 : DataW H} {p0 p1 p2 p3 p4 : List MemPlace} (h0 : DataW.Trod enc P w base spare held t0 v0 d0 p0) (h1 : DataW.Trod enc P w base spare held t1 v1 d1 p1) (h2 : DataW.Trod enc P w base spare held t2 v2 d2 p2) (h3 : DataW.Trod enc P w base spare held t3 v3 d3 p3) (h4 : DataW.Trod enc P w base spare held t4 v4 d4 p4) :
  DataW.TrodAll enc P w base spare held [t0, t1, t2, t3, t4] [v0, v1, v2, v3, v4] [d0, d1, d2, d3, d4] (p0 ++ (p1 ++ (p2 ++ (p3 ++ p4)))) := ⟨p0, p1 ++ (p2 ++ (p3 ++ p4)), h0, trodAll_mk4 h1 h2 h3 h4, rfl⟩
theorem wf_i64 {n : Int} (h : (Lit.int .i64 n).wf = true) : -9223372036854775808 <= n /\ n <= 9223372036854775807 := by
 have h2 : (decide (IntKind.i64.min <= n) && decide (n <= IntKind.i64.max)) = true := h
 rw [Bool.and_eq_true, decide_eq_true_eq, decide_eq_true_eq] at h2
 have e1 : IntKind.i64.min = -9223372036854775808 := by decide
 have e2 : IntKind.i64.max = 9223372036854775807 := by decide
 rw [e1, e2] at h2
 exact h2
theorem listReads : Tryz.prog.readableRec 22 = true := by kernel_rfl
theorem listRow : 22 < Tryz.prog.types.size := of_decide_eq_true (by kernel_rfl)
theorem open_list {H : Type} {enc : TypeId × Value -> H} {W : World} {v : Value} {d : DataW H} {p : List MemPlace} (h : DataW.Trod enc Tryz.prog W 0 (fun _ => true) true 22 v d p) (hv : Value.okWide Tryz.prog W .any 0 22 v) (hw : ∀ n ∈ d.weights Tryz.prog 22, n <= reachBytes) : ∃ l, StrsAt W v l /\ CapOK v := by
 obtain ⟨a, len, cap, rfl⟩ := okWide_slice Tryz.underlying22 hv
 obtain ⟨fuel, hf⟩ := h
 exact open_strsA (x := (d, p)) hf hw
theorem own : ownKnob Tryz.prog.godebug = none := by kernel_rfl
theorem laidOut : laidOutB Tryz.prog = true := by kernel_rfl
theorem siteReads : Tryz.prog.readableRec 25 = true := by kernel_rfl
theorem siteRow : 25 < Tryz.prog.types.size := of_decide_eq_true (by kernel_rfl)

def laidAll' : List (String × DataW Unit) := Rows.fnBuiltLayoutRow.laid

set_option maxRecDepth 100000 in
theorem lifted1 (os : Os) (started : os.Started) (H : Type) (enc : TypeId × Value -> H) :
  ReturnsInHanded {} Tryz.checked os 9 .any (fun w args => (Rows.fnBuiltLayoutSpec.pre enc Tryz.prog Tryz.f9 Rows.fnBuiltLayoutRow.domain false w args /\ laidMetH Tryz.prog laidAll' w) /\ sizedMet enc Tryz.prog Tryz.f9 (OpenSpec.ofChange Rows.fnBuiltLayoutSpec) false w args)
   (Rows.fnBuiltLayoutSpec.post enc Tryz.prog Tryz.f9 false true false false) := by
 refine returnsInHanded_of_change_and (C := Tryz.checked) (X := fun w _ => laidMetH Tryz.prog laidAll' w) (fun _ _ _ hh h => h.of_heap hh) own started (by kernel_rfl) Tryz.func9
  (ChangeSpec.witness_shaped (enc := enc) (C := Tryz.checked) (os := os) (X := fun w _ => laidMetH Tryz.prog laidAll' w) false (World.laidAll Tryz.prog os laidAll') #[.agg #[.slice none 0 0, .slice none 0 0, .slice none 0 0, .slice none 0 0], .slice none 0 0, .string ByteArray.empty, .int .i64 0, .string ByteArray.empty] 8 (World.laidAll_os _ _ _)
   (World.shaped_of_ZipB (by kernel_rfl) (by kernel_rfl)) (by kernel_rfl) (by kernel_rfl) (by kernel_rfl)
   (by rw [MakeChecks.laidMetH_plain _ _ _ (by kernel_rfl)]; exact laidMet_laidAll _ (by kernel_rfl) (by kernel_rfl))) ?_
 intro W base args ds gs before hval0 hW hc hsz0 _ _
 have hsz : (DataW.weightsEach Tryz.prog (Tryz.f9.params.toList ++ Rows.fnBuiltLayoutSpec.plain.varTypes Tryz.prog) (ds ++ gs)).all (· <= reachBytes) = true := hsz0
 have hval : ∀ (j : Nat) t v, Tryz.f9.params[j]? = some t -> args[j]? = some v -> Value.okWide Tryz.prog W .any base t v := hval0
 have hW' := hW
 obtain ⟨p, q, hA0, hV, rfl, _, _⟩ := hW
 have hA : DataW.TrodAll enc Tryz.prog W 0 (fun _ => true) true Tryz.f9.params.toList args.toList ds p := hA0
 rw [Tryz.params9] at hA hval hsz
 obtain ⟨v0, v1, v2, v3, v4, d0, d1, d2, d3, d4, p0, p1, p2, p3, p4, rfl, rfl, rfl, h0, h1, h2, h3, h4⟩ := trodAll_five hA
 obtain ⟨rfl, rfl⟩ := trodVars_none hV
 obtain ⟨a2, rfl, rfl, rfl, y2⟩ := open_string Tryz.underlying9 (hval 2 9 v2 rfl rfl) h2
 obtain ⟨a3, rfl, rfl, rfl, y3⟩ := open_int Tryz.underlying3 (hval 3 3 v3 rfl rfl) h3
 obtain ⟨a4, rfl, rfl, rfl, y4⟩ := open_string Tryz.underlying9 (hval 4 9 v4 rfl rfl) h4
 have w1 : ∀ n ∈ d1.weights Tryz.prog 22, n <= reachBytes := fun n hn => by
  have := List.all_eq_true.1 hsz n (DataW.weights_mem_each (j := 1) (t := 22) rfl rfl n hn)
  simpa using this
 obtain ⟨l1, q1, c1⟩ := open_list h1 (hval 1 22 v1 rfl rfl) w1
 have hlt1 : ∀ x ∈ p1, x.block < W.heap.size := fun x hx => hW'.lt x (by simp [hx])
 have w2 : a2.size <= 140737488351232 := by
  have z := sized_string hsz (j := 2) (t := 9) rfl rfl
  rw [Array.length_toList] at z
  exact z
 have w4 : a4.size <= 140737488351232 := by
  have z := sized_string hsz (j := 4) (t := 9) rfl rfl
  rw [Array.length_toList] at z
  exact z
 have w0 : ∀ n ∈ d0.weights Tryz.prog 25, n <= reachBytes := fun n hn => by
  have := List.all_eq_true.1 hsz n (DataW.weights_mem_each (j := 0) (t := 25) rfl rfl n hn)
  simpa using this
 obtain ⟨vl, vd, vf, vc, site, rfl, hs, cl, cd, cc⟩ := open_site h0 (hval 0 25 v0 rfl rfl) w0
 have hlt : ∀ x ∈ p0, x.block < W.heap.size := fun x hx => hW'.lt x (by simp [hx])
 obtain ⟨l2, rfl⟩ := B_surj a2
 rw [B_size] at w2
 obtain ⟨l4, rfl⟩ := B_surj a4
 rw [B_size] at w4
 refine (w_FnBuiltLayout site l1 l2 a3 l4 vl vd vf vc v1 W hs cl cd cc q1 c1 w2 (wf_i64 y3) w4).mono fun e W' ⟨he, bel⟩ => ?_
 subst he
 refine ⟨_, rfl, _, _, _, [], _, [], hW', trodAll_mk1 (shut_bool Tryz.underlying4 _), trodAll_mk5 (Below.trod laidOut siteReads siteRow h0 bel hlt) (Below.trod laidOut listReads listRow h1 bel hlt1) (shut_string Tryz.underlying9 y2) (shut_int Tryz.underlying3 y3) (shut_string Tryz.underlying9 y4), rfl, bel.frame _, fun h => by cases h⟩

theorem over1 : Rows.FnBuiltLayoutSaid :=
 OpenClaim.holds_of_wide 9 Tryz.f9 rfl rfl rfl rfl rfl rfl rfl ⟨rfl, rfl, rfl, rfl, rfl⟩ rfl rfl rfl rfl rfl (by kernel_rfl) Tryz.func9 (by kernel_rfl)
  (of_decide_eq_true (by kernel_rfl)) (by unfold Func.isWrapper; first | (rw [if_pos (by decide +kernel)]; kernel_rfl) | (rw [if_neg (by decide +kernel)]; exact ⟨rfl, rfl⟩))
  (fun os started H enc _ => lifted1 os started H enc)

theorem fnBuiltLayout_holds : Rows.FnBuiltLayoutCardSaid :=
 Claim7.holds_tied_plain_at .later [] [.data, .pinned, .pinned] true Rows.fnBuiltLayoutCard.stood.harness false over1 (fun _ h => by cases h) (by kernel_rfl) (fun _ h => by cases h) fnBuiltLayout_row_tie rfl ⟨rfl, rfl⟩ (by kernel_rfl) rfl
  (fun f fn hf hfn => by
   obtain rfl : f = 9 := Option.some.inj ((show Tryz.prog.funcNamed Rows.fnBuiltLayoutRow.func = some 9 by kernel_rfl).symm.trans hf) |>.symm
   obtain rfl : fn = Tryz.f9 := (Option.some.inj (Tryz.func9.symm.trans hfn)).symm
   exact ⟨by kernel_rfl, fun j t ht => by
    rw [Tryz.params9] at ht
    have hm : t ∈ [25, 22, 9, 3, 9] := by simpa using Array.mem_of_getElem? ht
    have hall : ([25, 22, 3, 9].all fun u => !Tryz.prog.wantsStandIn u) = true := by kernel_rfl
    exact (show Tryz.prog.wantsStandIn t = false by simpa using List.all_eq_true.1 hall t (by simp at hm |-; first | exact hm | omega | (rcases hm with h | h | h <;> simp [h]) | (rcases hm with h | h | h | h <;> simp [h]) | (rcases hm with h | h | h | h | h <;> simp [h])))⟩)
  (by kernel_rfl)
#print axioms fnBuiltLayout_holds
end Go.Proofs.YtjkecadfakjanaaGreatDoor
