/- The walk of the law FnBuiltPage: a page that is built of folders, a name, perhaps a language and an extension of content answers just these. Conditions: a site in memory, lists in memory, texts that fit into the platform's addresses. -/
import Derived.Test.YtjkecadfakjanaaGreatDoorKnown
import Derived.Test.YtjkecadfakjanaaGreatDoorPlainX
import Derived.OrdersHeld
import Derived.Test.YtjkecadfakjanaaGreatDoorBuiltX
import Derived.Test.YtjkecadfakjanaaGreatDoorEqM
import Derived.Test.YtjkecadfakjanaaGreatDoorOpen
import Derived.Test.YtjkecadfakjanaaGreatDoorRows
import Derived.Test.YtjkecadfakjanaaGreatDoorCards
import Derived.Test.YtjkecadfakjanaaGreatDoorTie
import Derived.ProofKit
import Derived.OpenShut
import Derived.ShutString
import Derived.ChangeOld
import Derived.SizedLaws
import Derived.LaidMore
import Derived.Lay
import Derived.SevenTiedAt
import Derived.Stop.Joined
import Derived.Carry
set_option maxRecDepth 100000
set_option linter.unusedVariables false
set_option linter.unusedSimpArgs false
namespace Go.Proofs.YtjkecadfakjanaaGreatDoor
open Go.RowKit
attribute [local go_sem] B_extract B_toList B_append

theorem plains_words {l : List Str} (h : plainsL l = true) : ∀ d ∈ l, PlainW d := fun d hd => by
 unfold plainsL at h
 rw [Bool.and_eq_true, List.all_eq_true] at h
 exact plain_word (h.1 d hd)
theorem folder_few {l : List Str} (h : fewL l = true) : (folderL l).length <= 2000 := by rw [folder_size]; simpa [fewL] using h
theorem among_mem {l : List Str} {x : Str} (h : amongL l x = true) : x ∈ l := by
 unfold amongL at h
 rw [List.any_eq_true] at h
 obtain ⟨y, hy, e⟩ := h
 rw [<- eq_of_beq e]; exact hy
theorem len_sum : ∀ {l : List Str} {x : Str}, x ∈ l -> x.length <= sumLen l
 | y :: t, x, h => by
  have e : sumLen (y :: t) = y.length + sumLen t := by unfold sumLen; simp
  rcases List.mem_cons.1 h with rfl | h
  ·omega
  ·have := len_sum h; omega
theorem few_len {l : List Str} (h : fewL l = true) {x : Str} (hx : x ∈ l) : x.length <= 2000 := by
 have h2 : l.length + sumLen l <= 2000 := by simpa [fewL] using h
 have h3 := len_sum hx
 omega
theorem fits_mem {l : List Str} (h : fits2 l = true) {x : Str} (hx : x ∈ l) : x.length <= 2147483647 := by
 obtain ⟨k, hk, rfl⟩ := List.getElem_of_mem hx
 exact (fits2_get h).2 k hk
theorem strs_blk2 {w : World} {g : Nat} {x y : Str} {fr : Nat × Nat} (h : w.heap[g]? = some (.cells #[.string (B x), .string (B y)] 9 fr)) : StrsAt w (.slice (some ⟨g, 0, none⟩) 2 2) [x, y] := by
 refine ⟨by simp, some ⟨g, 0, none⟩, 2, rfl, fun i hi => ⟨g, 0, rfl, ?_⟩⟩
 rw [Nat.zero_add, cell_blk h]
 match i, hi with
 | 0, _ => rfl
 | 1, _ => rfl
theorem strs_blk1 {w : World} {g : Nat} {x : Str} {fr : Nat × Nat} (h : w.heap[g]? = some (.cells #[.string (B x)] 9 fr)) : StrsAt w (.slice (some ⟨g, 0, none⟩) 1 1) [x] := by
 refine ⟨by simp, some ⟨g, 0, none⟩, 1, rfl, fun i hi => ⟨g, 0, rfl, ?_⟩⟩
 rw [Nat.zero_add, cell_blk h]
 match i, hi with
 | 0, _ => rfl

set_option maxHeartbeats 8000000 in
theorem w_FnBuiltPage (site : SiteM) (dirs : List Str) (name : Str) (lang : Int) (ext : Int) (vl vd vf vc vdirs : Value) (w : World) (hv : SiteAt w vl vd vf vc site) (hcl : CapOK vl) (hcd : CapOK vd) (hcc : CapOK vc) (hdirs0 : StrsAt w vdirs dirs) (hcdirs0 : CapOK vdirs) (hname0 : name.length <= 140737488351232) (hlang0 : -9223372036854775808 <= lang /\ lang <= 9223372036854775807) (hext0 : -9223372036854775808 <= ext /\ ext <= 9223372036854775807) :
  Calls Tryz.prog 10 #[.agg #[vl, vd, vf, vc], vdirs, .string (B name), .int .i64 lang, .int .i64 ext] w fun e w' => e = .returned (.bool true) /\ Below w.heap.size w w' := by
 obtain ⟨E, hE⟩ : ∃ E, E = pickL site.content ext := ⟨_, rfl⟩
 have hEf : E ≠ [] -> amongL site.content E = true /\ plainL E = true := by rw [hE]; exact pick_ne
 obtain ⟨L, hL⟩ : ∃ L, L = pickL site.languages lang := ⟨_, rfl⟩
 have hLf : L ≠ [] -> amongL site.languages L = true /\ plainL L = true := by rw [hL]; exact pick_ne
 have HZ : Hid (∀ wx, SiteAt wx vl vd vf vc site -> Calls Tryz.prog 12 #[.agg #[vl, vd, vf, vc]] wx fun e w' => e = .returned (.bool (siteFits site)) /\ Below wx.heap.size wx w') := fun wx h => c_zzFits1 site vl vd vf vc wx h
 have HZdirs : Hid (∀ wx, StrsAt wx vdirs dirs -> Calls Tryz.prog 19 #[vdirs] wx fun e w' => e = .returned (.bool (fits2 dirs)) /\ wx = w') := fun wx h => c_zzFits2 dirs vdirs wx h
 have HPSdirs : Hid (fits2 dirs = true -> ∀ wx, StrsAt wx vdirs dirs -> Calls Tryz.prog 20 #[vdirs] wx fun e w' => e = .returned (.bool (plainsL dirs)) /\ Below wx.heap.size wx w') := fun hf wx h => c_plains dirs vdirs wx h hf
 have HFOdirs : Hid (fewL dirs = true -> ∀ wx, StrsAt wx vdirs dirs -> Calls Tryz.prog 23 #[vdirs] wx fun e w' => e = .returned (.string (B (folderL dirs))) /\ wx = w') := fun hf wx h => c_folder dirs vdirs wx h hf
 have HPname : Hid (name.length <= 2147483647 -> ∀ wx, Calls Tryz.prog 21 #[.string (B name)] wx fun e w' => e = .returned (.bool (plainL name)) /\ Below wx.heap.size wx w') := fun hl wx => c_plainW name wx (by omega)
 have HCT : Hid (siteFits site = true -> ∀ wx, SiteAt wx vl vd vf vc site -> Calls Tryz.prog 26 #[.agg #[vl, vd, vf, vc], .int .i64 ext] wx fun e w' => e = .returned (.string (B E)) /\ Below wx.heap.size wx w') := fun hsf wx h => by
  rw [hE]
  exact c_content site ext vl vd vf vc wx h (by unfold siteFits at hsf; simp only [Bool.and_eq_true] at hsf; exact hsf.2)
 have HTO : Hid (siteFits site = true -> ∀ wx, SiteAt wx vl vd vf vc site -> Calls Tryz.prog 35 #[.agg #[vl, vd, vf, vc], .int .i64 lang] wx fun e w' => e = .returned (.string (B L)) /\ Below wx.heap.size wx w') := fun hsf wx h => by
  rw [hL]
  exact c_tongue site lang vl vd vf vc wx h (by unfold siteFits at hsf; simp only [Bool.and_eq_true] at hsf; exact hsf.1.1.1)
 have HKN : Hid ((fewL dirs = true) -> (name.length <= 2147483647) -> (amongL site.content E = true) -> siteFits site = true -> ∃ K : Bool, (K = true -> pathKnown site [99, 111, 110, 116, 101, 110, 116] (folderL dirs ++ 47 :: (name ++ 46 :: E)) = true) /\ ∀ wx, SiteAt wx vl vd vf vc site -> Calls Tryz.prog 24 #[.agg #[vl, vd, vf, vc], .string (B [99, 111, 110, 116, 101, 110, 116]), .string (B (folderL dirs ++ 47 :: (name ++ 46 :: E)))] wx
    fun e w' => ∃ v T, e = .returned (.tuple #[v, .bool K]) /\ ToldAtN wx.heap.size w' v T /\ Below wx.heap.size wx w' /\ (K = true -> T = toldM (doParseM site [99, 111, 110, 116, 101, 110, 116] (normL (folderL dirs ++ 47 :: (name ++ 46 :: E)))))) := by
  intro hf hn hEm hsf
  have hbf := folder_few hf
  have hsc : fits2 site.content = true := by unfold siteFits at hsf; simp only [Bool.and_eq_true] at hsf; exact hsf.2
  have hsl : fits2 site.languages = true := by unfold siteFits at hsf; simp only [Bool.and_eq_true] at hsf; exact hsf.1.1.1
  have hel := fits_mem hsc (among_mem hEm)
  cases hfew : (fewL site.languages && fewL site.disabled && fewL site.content) with
  | true =>
   simp only [Bool.and_eq_true] at hfew
   have hel2 := few_len hfew.2 (among_mem hEm)
   exact ⟨knownL site [99, 111, 110, 116, 101, 110, 116] (folderL dirs ++ 47 :: (name ++ 46 :: E)), fun h => by unfold knownL at h; rw [Bool.and_eq_true] at h; exact h.2, fun wx h => c_knownW site [99, 111, 110, 116, 101, 110, 116] (folderL dirs ++ 47 :: (name ++ 46 :: E)) vl vd vf vc wx h hcl hcd hcc hsf (by decide) (by simp only [List.length_append, List.length_cons, List.length_nil]; omega)⟩
  | false => exact ⟨(false && pathKnown site [99, 111, 110, 116, 101, 110, 116] (folderL dirs ++ 47 :: (name ++ 46 :: E))), fun h => by simp at h, fun wx h => c_knownG false site [99, 111, 110, 116, 101, 110, 116] (folderL dirs ++ 47 :: (name ++ 46 :: E)) vl vd vf vc wx h hcl hcd hcc hsf (by decide) (by simp only [List.length_append, List.length_cons, List.length_nil]; omega) (fun wy hy => c_shortNo site [99, 111, 110, 116, 101, 110, 116] (folderL dirs ++ 47 :: (name ++ 46 :: E)) vl vd vf vc wy hy hsf (by simp only [List.length_append, List.length_cons, List.length_nil]; omega) hfew)⟩
 have HKN0 := HKN
 clear HKN
 have HKN : Hid ((fewL dirs = true) -> (name.length <= 2147483647) -> (amongL site.content E = true) -> (amongL site.languages L = true) -> siteFits site = true -> ∃ K : Bool, (K = true -> pathKnown site [99, 111, 110, 116, 101, 110, 116] (folderL dirs ++ 47 :: (name ++ 46 :: (L ++ 46 :: E))) = true) /\ ∀ wx, SiteAt wx vl vd vf vc site -> Calls Tryz.prog 24 #[.agg #[vl, vd, vf, vc], .string (B [99, 111, 110, 116, 101, 110, 116]), .string (B (folderL dirs ++ 47 :: (name ++ 46 :: (L ++ 46 :: E))))] wx
    fun e w' => ∃ v T, e = .returned (.tuple #[v, .bool K]) /\ ToldAtN wx.heap.size w' v T /\ Below wx.heap.size wx w' /\ (K = true -> T = toldM (doParseM site [99, 111, 110, 116, 101, 110, 116] (normL (folderL dirs ++ 47 :: (name ++ 46 :: (L ++ 46 :: E))))))) := by
  intro hf hn hEm hLm hsf
  have hbf := folder_few hf
  have hsc : fits2 site.content = true := by unfold siteFits at hsf; simp only [Bool.and_eq_true] at hsf; exact hsf.2
  have hsl : fits2 site.languages = true := by unfold siteFits at hsf; simp only [Bool.and_eq_true] at hsf; exact hsf.1.1.1
  have hel := fits_mem hsc (among_mem hEm)
  have hll := fits_mem hsl (among_mem hLm)
  cases hfew : (fewL site.languages && fewL site.disabled && fewL site.content) with
  | true =>
   simp only [Bool.and_eq_true] at hfew
   have hel2 := few_len hfew.2 (among_mem hEm)
   have hll2 := few_len hfew.1.1 (among_mem hLm)
   exact ⟨knownL site [99, 111, 110, 116, 101, 110, 116] (folderL dirs ++ 47 :: (name ++ 46 :: (L ++ 46 :: E))), fun h => by unfold knownL at h; rw [Bool.and_eq_true] at h; exact h.2, fun wx h => c_knownW site [99, 111, 110, 116, 101, 110, 116] (folderL dirs ++ 47 :: (name ++ 46 :: (L ++ 46 :: E))) vl vd vf vc wx h hcl hcd hcc hsf (by decide) (by simp only [List.length_append, List.length_cons, List.length_nil]; omega)⟩
  | false => exact ⟨(false && pathKnown site [99, 111, 110, 116, 101, 110, 116] (folderL dirs ++ 47 :: (name ++ 46 :: (L ++ 46 :: E)))), fun h => by simp at h, fun wx h => c_knownG false site [99, 111, 110, 116, 101, 110, 116] (folderL dirs ++ 47 :: (name ++ 46 :: (L ++ 46 :: E))) vl vd vf vc wx h hcl hcd hcc hsf (by decide) (by simp only [List.length_append, List.length_cons, List.length_nil]; omega) (fun wy hy => c_shortNo site [99, 111, 110, 116, 101, 110, 116] (folderL dirs ++ 47 :: (name ++ 46 :: (L ++ 46 :: E))) vl vd vf vc wy hy hsf (by simp only [List.length_append, List.length_cons, List.length_nil]; omega) hfew)⟩
 have HEL : Hid (amongL site.content E = true -> siteFits site = true -> E.length <= 2147483647) := fun h hsf => by
  have hsc : fits2 site.content = true := by unfold siteFits at hsf; simp only [Bool.and_eq_true] at hsf; exact hsf.2
  exact fits_mem hsc (among_mem h)
 have HLL : Hid (amongL site.languages L = true -> siteFits site = true -> L.length <= 2147483647) := fun h hsf => by
  have hsc : fits2 site.languages = true := by unfold siteFits at hsf; simp only [Bool.and_eq_true] at hsf; exact hsf.1.1.1
  exact fits_mem hsc (among_mem h)
 have HLA : Hid (∀ wx, StrsAt wx vdirs dirs -> Calls Tryz.prog 32 #[vdirs] wx fun e w' => e = .returned (.string (B (dirs.getLastD []))) /\ wx = w') := fun wx h => c_last dirs vdirs wx h
 have HFI : Hid (∀ wx, StrsAt wx vdirs dirs -> Calls Tryz.prog 36 #[vdirs] wx fun e w' => e = .returned (.string (B (dirs.headD []))) /\ wx = w') := fun wx h => c_first dirs vdirs wx h
 have HRO : Hid (∀ wx, Calls Tryz.prog 33 #[.string (B (folderL dirs))] wx fun e w' => e = .returned (.string (B (rootedL (folderL dirs)))) /\ wx = w') := fun wx => c_rooted (folderL dirs) wx
 replace hE := Lib.hid hE
 replace hL := Lib.hid hL
 have HSF : Hid (siteFits site = true -> fits2 site.languages = true /\ fits2 site.content = true) := fun h => by
  unfold siteFits at h
  simp only [Bool.and_eq_true] at h
  exact ⟨h.1.1.1, h.2⟩
 obtain ⟨obs, hobs⟩ : ∃ o : Obj, o = .cells #[vl, vd, vf, vc] 25 := ⟨_, rfl⟩
 have hB1 : Hid (Below w.heap.size w (w.alloc obs)) := Below_alloc w obs
 have hsb1 : Hid ((w.alloc obs).heap[w.heap.size]? = some (.cells #[vl, vd, vf, vc] 25)) := by show _ = _; rw [hobs]; exact blk_new w _
 have HV1 : Hid (SiteAt (w.alloc obs) vl vd vf vc site) := hv.alloc obs
 have qdirs1 : Hid (StrsAt (w.alloc obs) vdirs dirs) := hdirs0.below (Below_alloc w obs)
 clear hv hcl hcd hcc hdirs0 hcdirs0
 go_enter Tryz.func10, Tryz.ntmps10
 go_wp2_with fail
 rw [<- hobs]
 generalize w.alloc obs = w1 at hB1 hsb1 HV1 qdirs1 |-
 refine (HZ.out _ HV1.out).mono ?_; rintro e w2 ⟨rfl, b⟩
 have hsb2 := Lib.hid (blk_below hsb1.out b)
 have HV2 := Lib.hid (HV1.out.below b)
 have qdirs2 := Lib.hid (qdirs1.out.below b)
 have hB2 := Lib.hid (belowThen hB1.out b (Nat.le_refl _))
 clear b hB1 hsb1 HV1 qdirs1
 cases hz : siteFits site with
 | false =>
  go_wp2_with fail
  go_ret
  exact ⟨rfl, hB2.out⟩
 | true =>
 go_wp2_with fail
 refine (HZdirs.out _ qdirs2.out).mono ?_; rintro e w' ⟨rfl, rfl⟩
 cases hzdirs : fits2 dirs with
 | false =>
  go_wp2_with fail
  go_ret
  exact ⟨rfl, hB2.out⟩
 | true =>
 by_cases hlname : name.length <= 2147483647
 rotate_left 1
 ·skip
  go_wp2_with fail
  go_ret
  exact ⟨rfl, hB2.out⟩
 clear HZ HZdirs
 have HC2 := Lib.hid (HCT.out hz)
 have HT2 := Lib.hid (HTO.out hz)
 clear HCT HTO
 go_upto_region 3 with fail
 go_cut [11, 12] from 31 to 36 (fun s11 s12 wx => s11 = .string (B L) /\ s12 = .string (B E) /\ Below w2.heap.size w2 wx)
 case first =>
  refine wp_region_held (S := fun w' => Below w2.drew.heap.size w2.drew w') (by kernel_rfl) ?_
  change wpAnyH _ _ _ _ _ _ _ _ w2.drew
  have hsbr : Hid (w2.drew.heap[w.heap.size]? = some (.cells #[vl, vd, vf, vc] 25)) := hsb2.out
  have HVr : Hid (SiteAt w2.drew vl vd vf vc site) := HV2.out.below (Below_drewN (Below.refl _ _) 1)
  have b0 : Hid (Below w2.heap.size w2 w2.drew) := Below_drewN (Below.refl _ _) 1
  generalize w2.drew = wr at hsbr HVr b0 |-
  have hd : Below wr.heap.size wr wr := Below.refl _ _
  refine wpAnyH_take (i := 0) (v := .agg #[vl, vd, vf, vc]) rfl (by kernel_rfl) (by kernel_rfl) (by kernel_rfl) (fun _ _ _ h => h) (yieldsIf_load_mid (by rfl) 25 (.tmp 5) rfl (w.heap.size) 0 rfl (#[vl, vd, vf, vc]).toList _ (fun w' hw' => range_blk (blk_below hsbr.out hw')) Tryz.underlying25 rfl (by kernel_rfl)) hd ?_
  try simp only [List.getElem_toArray, List.getElem_cons_succ, List.getElem_cons_zero, Act.put, List.setIfInBounds_toArray, List.set_cons_zero, List.set_cons_succ]
  refine wpAnyH_take (i := 1) (v := .int .i64 lang) rfl (by kernel_rfl) (by kernel_rfl) (by kernel_rfl) (fun _ _ _ h => h) (Or.inl ⟨by rfl, fun w' hw' => by
    go_simp⟩) hd ?_
  try simp only [List.getElem_toArray, List.getElem_cons_succ, List.getElem_cons_zero, Act.put, List.setIfInBounds_toArray, List.set_cons_zero, List.set_cons_succ]
  refine wpAnyH_take (i := 3) (v := .agg #[vl, vd, vf, vc]) rfl (by kernel_rfl) (by kernel_rfl) (by kernel_rfl) (fun _ _ _ h => h) (yieldsIf_load_mid (by rfl) 25 (.tmp 5) rfl (w.heap.size) 0 rfl (#[vl, vd, vf, vc]).toList _ (fun w' hw' => range_blk (blk_below hsbr.out hw')) Tryz.underlying25 rfl (by kernel_rfl)) hd ?_
  try simp only [List.getElem_toArray, List.getElem_cons_succ, List.getElem_cons_zero, Act.put, List.setIfInBounds_toArray, List.set_cons_zero, List.set_cons_succ]
  refine wpAnyH_take (i := 4) (v := .int .i64 ext) rfl (by kernel_rfl) (by kernel_rfl) (by kernel_rfl) (fun _ _ _ h => h) (Or.inl ⟨by rfl, fun w' hw' => by
    go_simp⟩) hd ?_
  try simp only [List.getElem_toArray, List.getElem_cons_succ, List.getElem_cons_zero, Act.put, List.setIfInBounds_toArray, List.set_cons_zero, List.set_cons_succ]
  refine wpAnyH_all (rs := [2]) (by kernel_rfl) (by simp) ?_
  intro i hi
  obtain rfl := List.mem_singleton.1 hi
  refine wpOp_step rfl (fun K hK => ?_)
  rw [if_pos (by rfl)]
  go_simp
  refine (HT2.out _ (HVr.out.below hd)).mono ?_; rintro e y7 ⟨rfl, b7⟩
  have hd : Below wr.heap.size wr y7 := belowThen hd b7 (Nat.le_refl _)
  refine hK _ _ ⟨hd, ?_⟩
  clear hK K b7
  try simp only [List.getElem_toArray, List.getElem_cons_succ, List.getElem_cons_zero, Act.put, List.setIfInBounds_toArray, List.set_cons_zero, List.set_cons_succ]
  refine wpAnyH_all (rs := [5]) (by kernel_rfl) (by simp) ?_
  intro i hi
  obtain rfl := List.mem_singleton.1 hi
  refine wpOp_step rfl (fun K hK => ?_)
  rw [if_pos (by rfl)]
  go_simp
  refine (HC2.out _ (HVr.out.below hd)).mono ?_; rintro e y8 ⟨rfl, b8⟩
  have hd : Below wr.heap.size wr y8 := belowThen hd b8 (Nat.le_refl _)
  refine hK _ _ ⟨hd, ?_⟩
  clear hK K b8
  try simp only [List.getElem_toArray, List.getElem_cons_succ, List.getElem_cons_zero, Act.put, List.setIfInBounds_toArray, List.set_cons_zero, List.set_cons_succ]
  refine wpAnyH_take (i := 6) (v := .string (B L)) rfl (by kernel_rfl) (by kernel_rfl) (by kernel_rfl) (fun _ _ _ h => h) (Or.inl ⟨by rfl, fun w' hw' => by
    go_simp⟩) hd ?_
  try simp only [List.getElem_toArray, List.getElem_cons_succ, List.getElem_cons_zero, Act.put, List.setIfInBounds_toArray, List.set_cons_zero, List.set_cons_succ]
  refine wpAnyH_take (i := 7) (v := .string (B E)) rfl (by kernel_rfl) (by kernel_rfl) (by kernel_rfl) (fun _ _ _ h => h) (Or.inl ⟨by rfl, fun w' hw' => by
    go_simp⟩) hd ?_
  try simp only [List.getElem_toArray, List.getElem_cons_succ, List.getElem_cons_zero, Act.put, List.setIfInBounds_toArray, List.set_cons_zero, List.set_cons_succ]
  refine wpAnyH_done (by kernel_rfl) ?_ _
  have hend := Lib.hid (belowThen b0.out hd (Nat.le_refl _))
  go_wp2_with fail
  go_meet
  exact ⟨rfl, rfl, hend.out⟩
 case rest =>
 obtain ⟨rfl, rfl, b⟩ := hcut
 obtain ⟨w3, rfl⟩ : ∃ x : World, x = wc := ⟨_, rfl⟩
 have hsb3 := Lib.hid (blk_below hsb2.out b)
 have HV3 := Lib.hid (HV2.out.below b)
 have qdirs3 := Lib.hid (qdirs2.out.below b)
 have hB3 := Lib.hid (belowThen hB2.out b (Nat.le_refl _))
 clear b hB2 hsb2 HV2 qdirs2
 clear HC2 HT2
 go_wp2_with fail
 refine (HPSdirs.out hzdirs _ qdirs3.out).mono ?_; rintro e w4 ⟨rfl, b⟩
 have hsb4 := Lib.hid (blk_below hsb3.out b)
 have HV4 := Lib.hid (HV3.out.below b)
 have qdirs4 := Lib.hid (qdirs3.out.below b)
 have hB4 := Lib.hid (belowThen hB3.out b (Nat.le_refl _))
 clear b hB3 hsb3 HV3 qdirs3
 cases hpdirs : plainsL dirs with
 | false =>
  go_wp2_with fail
  go_ret
  exact ⟨rfl, hB4.out⟩
 | true =>
 clear HPSdirs
 have hfdirs : fewL dirs = true := by unfold plainsL at hpdirs; rw [Bool.and_eq_true] at hpdirs; exact hpdirs.2
 go_wp2_with fail
 refine (HPname.out hlname _).mono ?_; rintro e w5 ⟨rfl, b⟩
 have hsb5 := Lib.hid (blk_below hsb4.out b)
 have HV5 := Lib.hid (HV4.out.below b)
 have qdirs5 := Lib.hid (qdirs4.out.below b)
 have hB5 := Lib.hid (belowThen hB4.out b (Nat.le_refl _))
 clear b hB4 hsb4 HV4 qdirs4
 cases hpname : plainL name with
 | false =>
  go_wp2_with fail
  go_ret
  exact ⟨rfl, hB5.out⟩
 | true =>
 clear HPname
 cases hem : E.isEmpty with
 | true =>
  go_wp2_with fail
  go_ret
  exact ⟨rfl, hB5.out⟩
 | false =>
 obtain ⟨hEm, hEp⟩ := hEf (List.isEmpty_eq_false_iff.1 hem)
 have hlE := HEL.out hEm hz
 clear hEf HEL
 go_wp2_with fail
 refine (HFOdirs.out hfdirs _ qdirs5.out).mono ?_; rintro e w' ⟨rfl, rfl⟩
 have hfl := folder_few hfdirs
 go_upto_region 7 with fail
 generalize hwk : w5.alloc _ = w6
 have b : Below w5.heap.size w5 w6 := by rw [<- hwk]; exact Below_alloc w5 _
 have hs16 : Hid (StrsAt w6 (.slice (some ⟨w5.heap.size, 0, none⟩) 1 1) [E]) := by show StrsAt _ _ _; rw [<- hwk]; exact strs_blk1 (blk_new w5 _)
 clear hwk
 generalize w5.heap.size = gS1 at hs16 |-
 have hsb6 := Lib.hid (blk_below hsb5.out b)
 have HV6 := Lib.hid (HV5.out.below b)
 have qdirs6 := Lib.hid (qdirs5.out.below b)
 have hB6 := Lib.hid (belowThen hB5.out b (Nat.le_refl _))
 clear b hB5 hsb5 HV5 qdirs5
 cases hLe : L.isEmpty
 case true =>
  have hL0 : L = [] := List.isEmpty_iff.1 hLe
  subst hL0
  obtain ⟨K, hKp, HKN2⟩ := HKN0.out hfdirs hlname hEm hz
  replace hKp := Lib.hid hKp
  replace HKN2 := Lib.hid HKN2
  clear HKN HKN0
  obtain ⟨z0, z1, z2, z3⟩ : w6.cell? ⟨w.heap.size, 0, none⟩ = some vl /\ w6.cell? ⟨w.heap.size, 1, none⟩ = some vd /\ w6.cell? ⟨w.heap.size, 2, none⟩ = some vf /\ w6.cell? ⟨w.heap.size, 3, none⟩ = some vc := ⟨cell_blk hsb6.out 0, cell_blk hsb6.out 1, cell_blk hsb6.out 2, cell_blk hsb6.out 3⟩
  go_wp2_with fail
  refine (HKN2.out _ HV6.out).mono ?_; rintro e w7 ⟨v, T, rfl, ⟨ql, qi, qu, rfl, ⟨s1, n1⟩, ⟨s2, n2⟩, ⟨s3, n3⟩⟩, b, hT⟩
  obtain ⟨a1, l1, c1, rfl⟩ := s1.slice
  obtain ⟨a2, l2, c2, rfl⟩ := s2.slice
  obtain ⟨a3, l3, c3, rfl⟩ := s3.slice
  obtain ⟨cs, hcs, hsz, hone⟩ := told_cells T a1 a2 a3 l1 l2 l3 c1 c2 c3
  rw [hcs]
  replace s2 := Lib.hid s2
  replace s3 := Lib.hid s3
  replace hcs := Lib.hid hcs
  replace hT := Lib.hid hT
  clear n1 n2 n3 s1 HKN2
  have hsb7 := Lib.hid (blk_below hsb6.out b)
  have HV7 := Lib.hid (HV6.out.below b)
  have qdirs7 := Lib.hid (qdirs6.out.below b)
  have hs17 := Lib.hid (hs16.out.below b)
  have hB7 := Lib.hid (belowThen hB6.out b (Nat.le_refl _))
  clear b hB6 hsb6 HV6 qdirs6 hs16 z0 z1 z2 z3
  go_wp2_with (refine wpList_store_row rfl 29 (.tmp 16) (.tmp 76) rfl w7.heap.size cs rfl rfl 29 _ (blk_new w7 _) (by rw [hsz]; kernel_rfl) (by rw [hsz]; rfl) hone (Hid.out ?_))
  have hrow8 := Lib.hid (setRow_heap (w7.alloc (.cells #[.string (B []), .string (B []), .string (B []), .string (B []), .string (B []), .string (B []), .string (B []), .string (B []), .string (B []), .string (B []), .string (B []), .string (B []), .string (B []), .string (B []), .string (B []), .string (B []), .string (B []), .string (B []), .string (B []), .string (B []), .string (B []), .slice none 0 0, .slice none 0 0, .slice none 0 0, .bool false, .bool false, .bool false, .bool false, .bool false, .bool false, .int .i64 0] 29)) w7.heap.size _ cs _ _ (blk_new w7 _))
  have b : Below w7.heap.size w7 ((w7.alloc (.cells #[.string (B []), .string (B []), .string (B []), .string (B []), .string (B []), .string (B []), .string (B []), .string (B []), .string (B []), .string (B []), .string (B []), .string (B []), .string (B []), .string (B []), .string (B []), .string (B []), .string (B []), .string (B []), .string (B []), .string (B []), .string (B []), .slice none 0 0, .slice none 0 0, .slice none 0 0, .bool false, .bool false, .bool false, .bool false, .bool false, .bool false, .int .i64 0] 29)).setRow w7.heap.size cs) := (Below_alloc w7 _).trans ⟨rfl, rfl, rfl, by simp, fun k hk => setRow_other _ _ _ _ (by omega)⟩
  have t28 := Lib.hid (s2.out.below b)
  have t38 := Lib.hid (s3.out.below b)
  clear s2 s3
  have hsb8 := Lib.hid (blk_below hsb7.out b)
  have HV8 := Lib.hid (HV7.out.below b)
  have qdirs8 := Lib.hid (qdirs7.out.below b)
  have hs18 := Lib.hid (hs17.out.below b)
  have hB8 := Lib.hid (belowThen hB7.out b (Nat.le_refl _))
  clear b hB7 hsb7 HV7 qdirs7 hs17
  generalize (w7.alloc _).setRow _ _ = w8 at hB8 hsb8 HV8 qdirs8 hs18 hrow8 t28 t38 |-
  generalize w7.heap.size = gT at hrow8 |-
  refine Lib.hid ?_
  cases hk : K with
  | false =>
   go_wp2_with fail
   go_ret
   exact ⟨rfl, hB8.out⟩
  | true =>
  have hT2 := hT.out hk
  have hpk := hKp.out hk
  have hT0 := hT2
  rw [parse_eq hpk] at hT2
  have hcs2 : Hid (cs = #[.string (B T.component), .string (B T.container), .string (B T.containerDir), .string (B T.section_), .string (B T.name), .string (B T.nameNoExt), .string (B T.baseName), .string (B T.nameNoId), .string (B T.dir), .string (B T.path), .string (B T.pathNoLang), .string (B T.pathNoId), .string (B T.pathBefore), .string (B T.base), .string (B T.idBase), .string (B T.ext), .string (B T.format), .string (B T.kind), .string (B T.layout), .string (B T.lang), .string (B T.custom), .slice a1 l1 c1, .slice a2 l2 c2, .slice a3 l3 c3, .bool T.disabled, .bool T.isContent, .bool T.isBundle, .bool T.isBranch, .bool T.isLeaf, .bool T.isData, .int .i64 T.typ]) := (Value.agg.inj hcs.out).symm
  clear hT
  have hR : PageT T dirs name [] E (name ++ 46 :: E) [E] := by rw [hT2]; exact built_page_one (plains_words hpdirs) (plain_word hpname) (plain_word hEp) hEm
  have hro : T.dir = rootedL (folderL dirs) := by
   rw [hR.dir]
   unfold rootedL
   by_cases h : dirs = []
   ·rw [if_pos h, if_pos (folder_nil.2 h)]
   ·rw [if_neg h, if_neg (fun e => h (folder_nil.1 e))]
  have hti := hR.ids
  have htu := hR.unknown
  rw [hR.typ, hR.isContent, hR.isBundle, hR.lang, hR.ext, hR.path, hro, hR.name, hR.nameNoId, hR.baseName, hR.container, hR.section_, hR.base, hR.pathNoId, hR.pathNoLang, hR.idBase, hR.disabled] at hcs2
  rw [hti] at t28
  rw [htu] at t38
  clear hR hro hT0 hT2 hti htu hEm hEp hpdirs hpname hKp hem hLe
  generalize dirs.getLastD [] = la at *
  generalize dirs.headD [] = fi at *
  generalize rootedL (folderL dirs) = ro at *
  have x15 : w8.cell? ⟨gT, 15, none⟩ = some (.string (B E)) := by rw [cell_blk hrow8.out 15, hcs2.out]; rfl
  have x19 : w8.cell? ⟨gT, 19, none⟩ = some (.string (B [])) := by rw [cell_blk hrow8.out 19, hcs2.out]; rfl
  have x22 : w8.cell? ⟨gT, 22, none⟩ = some (.slice a2 l2 c2) := by rw [cell_blk hrow8.out 22, hcs2.out]; rfl
  have x25 : w8.cell? ⟨gT, 25, none⟩ = some (.bool true) := by rw [cell_blk hrow8.out 25, hcs2.out]; rfl
  have x26 : w8.cell? ⟨gT, 26, none⟩ = some (.bool false) := by rw [cell_blk hrow8.out 26, hcs2.out]; rfl
  have x30 : w8.cell? ⟨gT, 30, none⟩ = some (.int .i64 2) := by rw [cell_blk hrow8.out 30, hcs2.out]; rfl
  go_wp2_with fail
  clear x15 x19 x22 x25 x26 x30
  refine (c_texts [E] _ _ _ t28.out hs18.out).mono ?_; rintro e wi ⟨rfl, nd, rfl⟩
  have b : Below w8.heap.size w8 (w8.drewN nd) := Below_drewN (Below.refl _ _) nd
  generalize w8.drewN nd = w9 at b |-
  have hsb9 := Lib.hid (blk_below hsb8.out b)
  have HV9 := Lib.hid (HV8.out.below b)
  have qdirs9 := Lib.hid (qdirs8.out.below b)
  have hs19 := Lib.hid (hs18.out.below b)
  have hrow9 := Lib.hid (blk_below hrow8.out b)
  have t29 := Lib.hid (t28.out.below b)
  have t39 := Lib.hid (t38.out.below b)
  have hB9 := Lib.hid (belowThen hB8.out b (Nat.le_refl _))
  clear b hB8 hsb8 HV8 qdirs8 hs18 hrow8 t28 t38
  have x23 : w9.cell? ⟨gT, 23, none⟩ = some (.slice a3 l3 c3) := by rw [cell_blk hrow9.out 23, hcs2.out]; rfl
  go_wp2_with fail
  clear x23
  generalize hwk : w9.alloc _ = w10
  have b : Below w9.heap.size w9 w10 := by rw [<- hwk]; exact Below_alloc w9 _
  have hs310 : Hid (StrsAt w10 (.slice (some ⟨w9.heap.size, 0, none⟩) 1 1) [name]) := by show StrsAt _ _ _; rw [<- hwk]; exact strs_blk1 (blk_new w9 _)
  clear hwk
  generalize w9.heap.size = gS3 at hs310 |-
  have hsb10 := Lib.hid (blk_below hsb9.out b)
  have HV10 := Lib.hid (HV9.out.below b)
  have qdirs10 := Lib.hid (qdirs9.out.below b)
  have hs110 := Lib.hid (hs19.out.below b)
  have hrow10 := Lib.hid (blk_below hrow9.out b)
  have t210 := Lib.hid (t29.out.below b)
  have t310 := Lib.hid (t39.out.below b)
  have hB10 := Lib.hid (belowThen hB9.out b (Nat.le_refl _))
  clear b hB9 hsb9 HV9 qdirs9 hs19 hrow9 t29 t39
  refine (c_texts [name] _ _ _ t310.out hs310.out).mono ?_; rintro e wi ⟨rfl, nd, rfl⟩
  have b : Below w10.heap.size w10 (w10.drewN nd) := Below_drewN (Below.refl _ _) nd
  generalize w10.drewN nd = w11 at b |-
  have hsb11 := Lib.hid (blk_below hsb10.out b)
  have HV11 := Lib.hid (HV10.out.below b)
  have qdirs11 := Lib.hid (qdirs10.out.below b)
  have hs111 := Lib.hid (hs110.out.below b)
  have hrow11 := Lib.hid (blk_below hrow10.out b)
  have t211 := Lib.hid (t210.out.below b)
  have t311 := Lib.hid (t310.out.below b)
  have hs311 := Lib.hid (hs310.out.below b)
  have hB11 := Lib.hid (belowThen hB10.out b (Nat.le_refl _))
  clear b hB10 hsb10 HV10 qdirs10 hs110 hrow10 t210 t310 hs310
  have x1 : w11.cell? ⟨gT, 1, none⟩ = some (.string (B la)) := by rw [cell_blk hrow11.out 1, hcs2.out]; rfl
  have x3 : w11.cell? ⟨gT, 3, none⟩ = some (.string (B fi)) := by rw [cell_blk hrow11.out 3, hcs2.out]; rfl
  have x4 : w11.cell? ⟨gT, 4, none⟩ = some (.string (B (name ++ 46 :: E))) := by rw [cell_blk hrow11.out 4, hcs2.out]; rfl
  have x6 : w11.cell? ⟨gT, 6, none⟩ = some (.string (B name)) := by rw [cell_blk hrow11.out 6, hcs2.out]; rfl
  have x7 : w11.cell? ⟨gT, 7, none⟩ = some (.string (B name)) := by rw [cell_blk hrow11.out 7, hcs2.out]; rfl
  have x8 : w11.cell? ⟨gT, 8, none⟩ = some (.string (B ro)) := by rw [cell_blk hrow11.out 8, hcs2.out]; rfl
  have x9 : w11.cell? ⟨gT, 9, none⟩ = some (.string (B (folderL dirs ++ 47 :: (name ++ 46 :: E)))) := by rw [cell_blk hrow11.out 9, hcs2.out]; rfl
  go_upto_region 14 with fail
  go_quiet (first
   | (go_at_call 32; exact Calls.quiet_of_same ((HLA.out _ (qdirs11.out.below (Below_drewN (Below.refl _ _) _))).mono fun _ _ ⟨he, hw⟩ => ⟨he, hw.symm⟩))
   | (go_at_call 36; exact Calls.quiet_of_same ((HFI.out _ (qdirs11.out.below (Below_drewN (Below.refl _ _) _))).mono fun _ _ ⟨he, hw⟩ => ⟨he, hw.symm⟩))
   | (go_at_call 33; exact Calls.quiet_of_same ((HRO.out _).mono fun _ _ ⟨he, hw⟩ => ⟨he, hw.symm⟩)))
  clear x1 x3 x4 x6 x7 x8 x9
  have x10 : w11.cell? ⟨gT, 10, none⟩ = some (.string (B (folderL dirs ++ 47 :: (name ++ 46 :: E)))) := by rw [cell_blk hrow11.out 10, hcs2.out]; rfl
  have x11 : w11.cell? ⟨gT, 11, none⟩ = some (.string (B (folderL dirs ++ 47 :: name))) := by rw [cell_blk hrow11.out 11, hcs2.out]; rfl
  have x13 : w11.cell? ⟨gT, 13, none⟩ = some (.string (B (folderL dirs ++ 47 :: name))) := by rw [cell_blk hrow11.out 13, hcs2.out]; rfl
  have x14 : w11.cell? ⟨gT, 14, none⟩ = some (.string (B (folderL dirs ++ 47 :: name))) := by rw [cell_blk hrow11.out 14, hcs2.out]; rfl
  have x24 : w11.cell? ⟨gT, 24, none⟩ = some (.bool false) := by rw [cell_blk hrow11.out 24, hcs2.out]; rfl
  go_wp2_with fail
  go_ret
  exact ⟨ret_bool (by simp), hB11.out.trans (Below_drewN (Below.refl _ _) _)⟩
 case false =>
  obtain ⟨hLm, hLp⟩ := hLf (List.isEmpty_eq_false_iff.1 hLe)
  have hlL := HLL.out hLm hz
  clear hLf HLL
  go_upto_region 9 with fail
  generalize hwk : w6.alloc _ = w7
  have b : Below w6.heap.size w6 w7 := by rw [<- hwk]; exact Below_alloc w6 _
  have hs27 : Hid (StrsAt w7 (.slice (some ⟨w6.heap.size, 0, none⟩) 2 2) [E, L]) := by show StrsAt _ _ _; rw [<- hwk]; exact strs_blk2 (blk_new w6 _)
  clear hwk
  generalize w6.heap.size = gS2 at hs27 |-
  have hsb7 := Lib.hid (blk_below hsb6.out b)
  have HV7 := Lib.hid (HV6.out.below b)
  have qdirs7 := Lib.hid (qdirs6.out.below b)
  have hs17 := Lib.hid (hs16.out.below b)
  have hB7 := Lib.hid (belowThen hB6.out b (Nat.le_refl _))
  clear b hB6 hsb6 HV6 qdirs6 hs16
  obtain ⟨K, hKp, HKN2⟩ := HKN.out hfdirs hlname hEm hLm hz
  replace hKp := Lib.hid hKp
  replace HKN2 := Lib.hid HKN2
  clear HKN HKN0
  obtain ⟨z0, z1, z2, z3⟩ : w7.cell? ⟨w.heap.size, 0, none⟩ = some vl /\ w7.cell? ⟨w.heap.size, 1, none⟩ = some vd /\ w7.cell? ⟨w.heap.size, 2, none⟩ = some vf /\ w7.cell? ⟨w.heap.size, 3, none⟩ = some vc := ⟨cell_blk hsb7.out 0, cell_blk hsb7.out 1, cell_blk hsb7.out 2, cell_blk hsb7.out 3⟩
  go_wp2_with fail
  refine (HKN2.out _ HV7.out).mono ?_; rintro e w8 ⟨v, T, rfl, ⟨ql, qi, qu, rfl, ⟨s1, n1⟩, ⟨s2, n2⟩, ⟨s3, n3⟩⟩, b, hT⟩
  obtain ⟨a1, l1, c1, rfl⟩ := s1.slice
  obtain ⟨a2, l2, c2, rfl⟩ := s2.slice
  obtain ⟨a3, l3, c3, rfl⟩ := s3.slice
  obtain ⟨cs, hcs, hsz, hone⟩ := told_cells T a1 a2 a3 l1 l2 l3 c1 c2 c3
  rw [hcs]
  replace s2 := Lib.hid s2
  replace s3 := Lib.hid s3
  replace hcs := Lib.hid hcs
  replace hT := Lib.hid hT
  clear n1 n2 n3 s1 HKN2
  have hsb8 := Lib.hid (blk_below hsb7.out b)
  have HV8 := Lib.hid (HV7.out.below b)
  have qdirs8 := Lib.hid (qdirs7.out.below b)
  have hs18 := Lib.hid (hs17.out.below b)
  have hs28 := Lib.hid (hs27.out.below b)
  have hB8 := Lib.hid (belowThen hB7.out b (Nat.le_refl _))
  clear b hB7 hsb7 HV7 qdirs7 hs17 hs27 z0 z1 z2 z3
  go_wp2_with (refine wpList_store_row rfl 29 (.tmp 16) (.tmp 76) rfl w8.heap.size cs rfl rfl 29 _ (blk_new w8 _) (by rw [hsz]; kernel_rfl) (by rw [hsz]; rfl) hone (Hid.out ?_))
  have hrow9 := Lib.hid (setRow_heap (w8.alloc (.cells #[.string (B []), .string (B []), .string (B []), .string (B []), .string (B []), .string (B []), .string (B []), .string (B []), .string (B []), .string (B []), .string (B []), .string (B []), .string (B []), .string (B []), .string (B []), .string (B []), .string (B []), .string (B []), .string (B []), .string (B []), .string (B []), .slice none 0 0, .slice none 0 0, .slice none 0 0, .bool false, .bool false, .bool false, .bool false, .bool false, .bool false, .int .i64 0] 29)) w8.heap.size _ cs _ _ (blk_new w8 _))
  have b : Below w8.heap.size w8 ((w8.alloc (.cells #[.string (B []), .string (B []), .string (B []), .string (B []), .string (B []), .string (B []), .string (B []), .string (B []), .string (B []), .string (B []), .string (B []), .string (B []), .string (B []), .string (B []), .string (B []), .string (B []), .string (B []), .string (B []), .string (B []), .string (B []), .string (B []), .slice none 0 0, .slice none 0 0, .slice none 0 0, .bool false, .bool false, .bool false, .bool false, .bool false, .bool false, .int .i64 0] 29)).setRow w8.heap.size cs) := (Below_alloc w8 _).trans ⟨rfl, rfl, rfl, by simp, fun k hk => setRow_other _ _ _ _ (by omega)⟩
  have t29 := Lib.hid (s2.out.below b)
  have t39 := Lib.hid (s3.out.below b)
  clear s2 s3
  have hsb9 := Lib.hid (blk_below hsb8.out b)
  have HV9 := Lib.hid (HV8.out.below b)
  have qdirs9 := Lib.hid (qdirs8.out.below b)
  have hs19 := Lib.hid (hs18.out.below b)
  have hs29 := Lib.hid (hs28.out.below b)
  have hB9 := Lib.hid (belowThen hB8.out b (Nat.le_refl _))
  clear b hB8 hsb8 HV8 qdirs8 hs18 hs28
  generalize (w8.alloc _).setRow _ _ = w9 at hB9 hsb9 HV9 qdirs9 hs19 hs29 hrow9 t29 t39 |-
  generalize w8.heap.size = gT at hrow9 |-
  refine Lib.hid ?_
  cases hk : K with
  | false =>
   go_wp2_with fail
   go_ret
   exact ⟨rfl, hB9.out⟩
  | true =>
  have hT2 := hT.out hk
  have hpk := hKp.out hk
  have hT0 := hT2
  rw [parse_eq hpk] at hT2
  have hcs2 : Hid (cs = #[.string (B T.component), .string (B T.container), .string (B T.containerDir), .string (B T.section_), .string (B T.name), .string (B T.nameNoExt), .string (B T.baseName), .string (B T.nameNoId), .string (B T.dir), .string (B T.path), .string (B T.pathNoLang), .string (B T.pathNoId), .string (B T.pathBefore), .string (B T.base), .string (B T.idBase), .string (B T.ext), .string (B T.format), .string (B T.kind), .string (B T.layout), .string (B T.lang), .string (B T.custom), .slice a1 l1 c1, .slice a2 l2 c2, .slice a3 l3 c3, .bool T.disabled, .bool T.isContent, .bool T.isBundle, .bool T.isBranch, .bool T.isLeaf, .bool T.isData, .int .i64 T.typ]) := (Value.agg.inj hcs.out).symm
  clear hT
  have hR : PageT T dirs name L E (name ++ 46 :: (L ++ 46 :: E)) [E, L] := by rw [hT2]; exact built_page_two (plains_words hpdirs) (plain_word hpname) (plain_word hLp) (plain_word hEp) hEm hLm
  have hro : T.dir = rootedL (folderL dirs) := by
   rw [hR.dir]
   unfold rootedL
   by_cases h : dirs = []
   ·rw [if_pos h, if_pos (folder_nil.2 h)]
   ·rw [if_neg h, if_neg (fun e => h (folder_nil.1 e))]
  have hti := hR.ids
  have htu := hR.unknown
  rw [hR.typ, hR.isContent, hR.isBundle, hR.lang, hR.ext, hR.path, hro, hR.name, hR.nameNoId, hR.baseName, hR.container, hR.section_, hR.base, hR.pathNoId, hR.pathNoLang, hR.idBase, hR.disabled] at hcs2
  rw [hti] at t29
  rw [htu] at t39
  clear hR hro hT0 hT2 hti htu hEm hEp hpdirs hpname hKp hem hLe hLm hLp
  generalize dirs.getLastD [] = la at *
  generalize dirs.headD [] = fi at *
  generalize rootedL (folderL dirs) = ro at *
  have x15 : w9.cell? ⟨gT, 15, none⟩ = some (.string (B E)) := by rw [cell_blk hrow9.out 15, hcs2.out]; rfl
  have x19 : w9.cell? ⟨gT, 19, none⟩ = some (.string (B L)) := by rw [cell_blk hrow9.out 19, hcs2.out]; rfl
  have x22 : w9.cell? ⟨gT, 22, none⟩ = some (.slice a2 l2 c2) := by rw [cell_blk hrow9.out 22, hcs2.out]; rfl
  have x25 : w9.cell? ⟨gT, 25, none⟩ = some (.bool true) := by rw [cell_blk hrow9.out 25, hcs2.out]; rfl
  have x26 : w9.cell? ⟨gT, 26, none⟩ = some (.bool false) := by rw [cell_blk hrow9.out 26, hcs2.out]; rfl
  have x30 : w9.cell? ⟨gT, 30, none⟩ = some (.int .i64 2) := by rw [cell_blk hrow9.out 30, hcs2.out]; rfl
  go_wp2_with fail
  clear x15 x19 x22 x25 x26 x30
  refine (c_texts [E, L] _ _ _ t29.out hs29.out).mono ?_; rintro e wi ⟨rfl, nd, rfl⟩
  have b : Below w9.heap.size w9 (w9.drewN nd) := Below_drewN (Below.refl _ _) nd
  generalize w9.drewN nd = w10 at b |-
  have hsb10 := Lib.hid (blk_below hsb9.out b)
  have HV10 := Lib.hid (HV9.out.below b)
  have qdirs10 := Lib.hid (qdirs9.out.below b)
  have hs110 := Lib.hid (hs19.out.below b)
  have hs210 := Lib.hid (hs29.out.below b)
  have hrow10 := Lib.hid (blk_below hrow9.out b)
  have t210 := Lib.hid (t29.out.below b)
  have t310 := Lib.hid (t39.out.below b)
  have hB10 := Lib.hid (belowThen hB9.out b (Nat.le_refl _))
  clear b hB9 hsb9 HV9 qdirs9 hs19 hs29 hrow9 t29 t39
  have x23 : w10.cell? ⟨gT, 23, none⟩ = some (.slice a3 l3 c3) := by rw [cell_blk hrow10.out 23, hcs2.out]; rfl
  go_wp2_with fail
  clear x23
  generalize hwk : w10.alloc _ = w11
  have b : Below w10.heap.size w10 w11 := by rw [<- hwk]; exact Below_alloc w10 _
  have hs311 : Hid (StrsAt w11 (.slice (some ⟨w10.heap.size, 0, none⟩) 1 1) [name]) := by show StrsAt _ _ _; rw [<- hwk]; exact strs_blk1 (blk_new w10 _)
  clear hwk
  generalize w10.heap.size = gS3 at hs311 |-
  have hsb11 := Lib.hid (blk_below hsb10.out b)
  have HV11 := Lib.hid (HV10.out.below b)
  have qdirs11 := Lib.hid (qdirs10.out.below b)
  have hs111 := Lib.hid (hs110.out.below b)
  have hs211 := Lib.hid (hs210.out.below b)
  have hrow11 := Lib.hid (blk_below hrow10.out b)
  have t211 := Lib.hid (t210.out.below b)
  have t311 := Lib.hid (t310.out.below b)
  have hB11 := Lib.hid (belowThen hB10.out b (Nat.le_refl _))
  clear b hB10 hsb10 HV10 qdirs10 hs110 hs210 hrow10 t210 t310
  refine (c_texts [name] _ _ _ t311.out hs311.out).mono ?_; rintro e wi ⟨rfl, nd, rfl⟩
  have b : Below w11.heap.size w11 (w11.drewN nd) := Below_drewN (Below.refl _ _) nd
  generalize w11.drewN nd = w12 at b |-
  have hsb12 := Lib.hid (blk_below hsb11.out b)
  have HV12 := Lib.hid (HV11.out.below b)
  have qdirs12 := Lib.hid (qdirs11.out.below b)
  have hs112 := Lib.hid (hs111.out.below b)
  have hs212 := Lib.hid (hs211.out.below b)
  have hrow12 := Lib.hid (blk_below hrow11.out b)
  have t212 := Lib.hid (t211.out.below b)
  have t312 := Lib.hid (t311.out.below b)
  have hs312 := Lib.hid (hs311.out.below b)
  have hB12 := Lib.hid (belowThen hB11.out b (Nat.le_refl _))
  clear b hB11 hsb11 HV11 qdirs11 hs111 hs211 hrow11 t211 t311 hs311
  have x1 : w12.cell? ⟨gT, 1, none⟩ = some (.string (B la)) := by rw [cell_blk hrow12.out 1, hcs2.out]; rfl
  have x3 : w12.cell? ⟨gT, 3, none⟩ = some (.string (B fi)) := by rw [cell_blk hrow12.out 3, hcs2.out]; rfl
  have x4 : w12.cell? ⟨gT, 4, none⟩ = some (.string (B (name ++ 46 :: (L ++ 46 :: E)))) := by rw [cell_blk hrow12.out 4, hcs2.out]; rfl
  have x6 : w12.cell? ⟨gT, 6, none⟩ = some (.string (B name)) := by rw [cell_blk hrow12.out 6, hcs2.out]; rfl
  have x7 : w12.cell? ⟨gT, 7, none⟩ = some (.string (B name)) := by rw [cell_blk hrow12.out 7, hcs2.out]; rfl
  have x8 : w12.cell? ⟨gT, 8, none⟩ = some (.string (B ro)) := by rw [cell_blk hrow12.out 8, hcs2.out]; rfl
  have x9 : w12.cell? ⟨gT, 9, none⟩ = some (.string (B (folderL dirs ++ 47 :: (name ++ 46 :: (L ++ 46 :: E))))) := by rw [cell_blk hrow12.out 9, hcs2.out]; rfl
  go_upto_region 14 with fail
  go_quiet (first
   | (go_at_call 32; exact Calls.quiet_of_same ((HLA.out _ (qdirs12.out.below (Below_drewN (Below.refl _ _) _))).mono fun _ _ ⟨he, hw⟩ => ⟨he, hw.symm⟩))
   | (go_at_call 36; exact Calls.quiet_of_same ((HFI.out _ (qdirs12.out.below (Below_drewN (Below.refl _ _) _))).mono fun _ _ ⟨he, hw⟩ => ⟨he, hw.symm⟩))
   | (go_at_call 33; exact Calls.quiet_of_same ((HRO.out _).mono fun _ _ ⟨he, hw⟩ => ⟨he, hw.symm⟩)))
  clear x1 x3 x4 x6 x7 x8 x9
  have x10 : w12.cell? ⟨gT, 10, none⟩ = some (.string (B (folderL dirs ++ 47 :: (name ++ 46 :: E)))) := by rw [cell_blk hrow12.out 10, hcs2.out]; rfl
  have x11 : w12.cell? ⟨gT, 11, none⟩ = some (.string (B (folderL dirs ++ 47 :: name))) := by rw [cell_blk hrow12.out 11, hcs2.out]; rfl
  have x13 : w12.cell? ⟨gT, 13, none⟩ = some (.string (B (folderL dirs ++ 47 :: name))) := by rw [cell_blk hrow12.out 13, hcs2.out]; rfl
  have x14 : w12.cell? ⟨gT, 14, none⟩ = some (.string (B (folderL dirs ++ 47 :: name))) := by rw [cell_blk hrow12.out 14, hcs2.out]; rfl
  have x24 : w12.cell? ⟨gT, 24, none⟩ = some (.bool false) := by rw [cell_blk hrow12.out 24, hcs2.out]; rfl
  go_wp2_with fail
  go_ret
  exact ⟨ret_bool (by simp), hB12.out.trans (Below_drewN (Below.refl _ _) _)⟩

end Go.Proofs.YtjkecadfakjanaaGreatDoor

namespace Go.Proofs.YtjkecadfakjanaaGreatDoor
open Go.ChangeShapes Go.WideShapes Go.ChangeAt Go.RowKit
open Go.ChangeMaps (open_string shut_string)

theorem trodAll_five {H : Type} {enc : TypeId × Value -> H} {P : Program} {w : World} {base : Nat} {spare : Nat -> Bool} {held : Bool} {t0 t1 t2 t3 t4 : TypeId} {args : Array Value} {ds : List (DataW H)} {ps : List MemPlace} (h : DataW.TrodAll enc P w base spare held [t0, t1, t2, t3, t4] args.toList ds ps) :
  ∃ v0 v1 v2 v3 v4 d0 d1 d2 d3 d4 p0 p1 p2 p3 p4, args = #[v0, v1, v2, v3, v4] /\ ds = [d0, d1, d2, d3, d4] /\ ps = p0 ++ p1 ++ p2 ++ p3 ++ p4 /\ DataW.Trod enc P w base spare held t0 v0 d0 p0 /\ DataW.Trod enc P w base spare held t1 v1 d1 p1 /\ DataW.Trod enc P w base spare held t2 v2 d2 p2 /\ DataW.Trod enc P w base spare held t3 v3 d3 p3 /\ DataW.Trod enc P w base spare held t4 v4 d4 p4 := by
 obtain ⟨v0, vs0, d0, ds0, p0, q0, hargs, rfl, rfl, h0, r0⟩ := trodAll_cons h
 obtain ⟨v1, vs1, d1, ds1, p1, q1, rfl, rfl, rfl, h1, r1⟩ := trodAll_cons r0
 obtain ⟨v2, vs2, d2, ds2, p2, q2, rfl, rfl, rfl, h2, r2⟩ := trodAll_cons r1
 obtain ⟨v3, vs3, d3, ds3, p3, q3, rfl, rfl, rfl, h3, r3⟩ := trodAll_cons r2
 obtain ⟨v4, vs4, d4, ds4, p4, q4, rfl, rfl, rfl, h4, r4⟩ := trodAll_cons r3
 obtain ⟨rfl, rfl, rfl⟩ := trodAll_nil r4
 exact ⟨v0, v1, v2, v3, v4, d0, d1, d2, d3, d4, p0, p1, p2, p3, p4, by cases args; simp_all, rfl, by simp, h0, h1, h2, h3, h4⟩
theorem trodAll_mk5 {H : Type} {enc : TypeId × Value -> H} {P : Program} {w : World} {base : Nat} {spare : Nat -> Bool} {held : Bool} {t0 t1 t2 t3 t4 : TypeId} {v0 v1 v2 v3 v4 : Value} {d0 d1 d2 d3 d4 : DataW H} {p0 p1 p2 p3 p4 : List MemPlace} (h0 : DataW.Trod enc P w base spare held t0 v0 d0 p0) (h1 : DataW.Trod enc P w base spare held t1 v1 d1 p1) (h2 : DataW.Trod enc P w base spare held t2 v2 d2 p2) (h3 : DataW.Trod enc P w base spare held t3 v3 d3 p3) (h4 : DataW.Trod enc P w base spare held t4 v4 d4 p4) :
  DataW.TrodAll enc P w base spare held [t0, t1, t2, t3, t4] [v0, v1, v2, v3, v4] [d0, d1, d2, d3, d4] (p0 ++ (p1 ++ (p2 ++ (p3 ++ p4)))) := ⟨p0, p1 ++ (p2 ++ (p3 ++ p4)), h0, trodAll_mk4 h1 h2 h3 h4, rfl⟩
theorem wf_i64 {n : Int} (h : (Lit.int .i64 n).wf = true) : -9223372036854775808 <= n /\ n <= 9223372036854775807 := by
 have h2 : (decide (IntKind.i64.min <= n) && decide (n <= IntKind.i64.max)) = true := h
 rw [Bool.and_eq_true, decide_eq_true_eq, decide_eq_true_eq] at h2
 have e1 : IntKind.i64.min = -9223372036854775808 := by decide
 have e2 : IntKind.i64.max = 9223372036854775807 := by decide
 rw [e1, e2] at h2
 exact h2
theorem listReads : Tryz.prog.readableRec 22 = true := by kernel_rfl
theorem listRow : 22 < Tryz.prog.types.size := of_decide_eq_true (by kernel_rfl)
theorem open_list {H : Type} {enc : TypeId × Value -> H} {W : World} {v : Value} {d : DataW H} {p : List MemPlace} (h : DataW.Trod enc Tryz.prog W 0 (fun _ => true) true 22 v d p) (hv : Value.okWide Tryz.prog W .any 0 22 v) (hw : ∀ n ∈ d.weights Tryz.prog 22, n <= reachBytes) : ∃ l, StrsAt W v l /\ CapOK v := by
 obtain ⟨a, len, cap, rfl⟩ := okWide_slice Tryz.underlying22 hv
 obtain ⟨fuel, hf⟩ := h
 exact open_strsA (x := (d, p)) hf hw
theorem own : ownKnob Tryz.prog.godebug = none := by kernel_rfl
theorem laidOut : laidOutB Tryz.prog = true := by kernel_rfl
theorem siteReads : Tryz.prog.readableRec 25 = true := by kernel_rfl
theorem siteRow : 25 < Tryz.prog.types.size := of_decide_eq_true (by kernel_rfl)

def laidAll' : List (String × DataW Unit) := Rows.fnBuiltPageRow.laid

set_option maxRecDepth 100000 in
theorem lifted1 (os : Os) (started : os.Started) (H : Type) (enc : TypeId × Value -> H) :
  ReturnsInHanded {} Tryz.checked os 10 .any (fun w args => (Rows.fnBuiltPageSpec.pre enc Tryz.prog Tryz.f10 Rows.fnBuiltPageRow.domain false w args /\ laidMetH Tryz.prog laidAll' w) /\ sizedMet enc Tryz.prog Tryz.f10 (OpenSpec.ofChange Rows.fnBuiltPageSpec) false w args)
   (Rows.fnBuiltPageSpec.post enc Tryz.prog Tryz.f10 false true false false) := by
 refine returnsInHanded_of_change_and (C := Tryz.checked) (X := fun w _ => laidMetH Tryz.prog laidAll' w) (fun _ _ _ hh h => h.of_heap hh) own started (by kernel_rfl) Tryz.func10
  (ChangeSpec.witness_shaped (enc := enc) (C := Tryz.checked) (os := os) (X := fun w _ => laidMetH Tryz.prog laidAll' w) false (World.laidAll Tryz.prog os laidAll') #[.agg #[.slice none 0 0, .slice none 0 0, .slice none 0 0, .slice none 0 0], .slice none 0 0, .string ByteArray.empty, .int .i64 0, .int .i64 0] 8 (World.laidAll_os _ _ _)
   (World.shaped_of_ZipB (by kernel_rfl) (by kernel_rfl)) (by kernel_rfl) (by kernel_rfl) (by kernel_rfl)
   (by rw [MakeChecks.laidMetH_plain _ _ _ (by kernel_rfl)]; exact laidMet_laidAll _ (by kernel_rfl) (by kernel_rfl))) ?_
 intro W base args ds gs before hval0 hW hc hsz0 _ _
 have hsz : (DataW.weightsEach Tryz.prog (Tryz.f10.params.toList ++ Rows.fnBuiltPageSpec.plain.varTypes Tryz.prog) (ds ++ gs)).all (· <= reachBytes) = true := hsz0
 have hval : ∀ (j : Nat) t v, Tryz.f10.params[j]? = some t -> args[j]? = some v -> Value.okWide Tryz.prog W .any base t v := hval0
 have hW' := hW
 obtain ⟨p, q, hA0, hV, rfl, _, _⟩ := hW
 have hA : DataW.TrodAll enc Tryz.prog W 0 (fun _ => true) true Tryz.f10.params.toList args.toList ds p := hA0
 rw [Tryz.params10] at hA hval hsz
 obtain ⟨v0, v1, v2, v3, v4, d0, d1, d2, d3, d4, p0, p1, p2, p3, p4, rfl, rfl, rfl, h0, h1, h2, h3, h4⟩ := trodAll_five hA
 obtain ⟨rfl, rfl⟩ := trodVars_none hV
 obtain ⟨a2, rfl, rfl, rfl, y2⟩ := open_string Tryz.underlying9 (hval 2 9 v2 rfl rfl) h2
 obtain ⟨a3, rfl, rfl, rfl, y3⟩ := open_int Tryz.underlying3 (hval 3 3 v3 rfl rfl) h3
 obtain ⟨a4, rfl, rfl, rfl, y4⟩ := open_int Tryz.underlying3 (hval 4 3 v4 rfl rfl) h4
 have w1 : ∀ n ∈ d1.weights Tryz.prog 22, n <= reachBytes := fun n hn => by
  have := List.all_eq_true.1 hsz n (DataW.weights_mem_each (j := 1) (t := 22) rfl rfl n hn)
  simpa using this
 obtain ⟨l1, q1, c1⟩ := open_list h1 (hval 1 22 v1 rfl rfl) w1
 have hlt1 : ∀ x ∈ p1, x.block < W.heap.size := fun x hx => hW'.lt x (by simp [hx])
 have w2 : a2.size <= 140737488351232 := by
  have z := sized_string hsz (j := 2) (t := 9) rfl rfl
  rw [Array.length_toList] at z
  exact z
 have w0 : ∀ n ∈ d0.weights Tryz.prog 25, n <= reachBytes := fun n hn => by
  have := List.all_eq_true.1 hsz n (DataW.weights_mem_each (j := 0) (t := 25) rfl rfl n hn)
  simpa using this
 obtain ⟨vl, vd, vf, vc, site, rfl, hs, cl, cd, cc⟩ := open_site h0 (hval 0 25 v0 rfl rfl) w0
 have hlt : ∀ x ∈ p0, x.block < W.heap.size := fun x hx => hW'.lt x (by simp [hx])
 obtain ⟨l2, rfl⟩ := B_surj a2
 rw [B_size] at w2
 refine (w_FnBuiltPage site l1 l2 a3 a4 vl vd vf vc v1 W hs cl cd cc q1 c1 w2 (wf_i64 y3) (wf_i64 y4)).mono fun e W' ⟨he, bel⟩ => ?_
 subst he
 refine ⟨_, rfl, _, _, _, [], _, [], hW', trodAll_mk1 (shut_bool Tryz.underlying4 _), trodAll_mk5 (Below.trod laidOut siteReads siteRow h0 bel hlt) (Below.trod laidOut listReads listRow h1 bel hlt1) (shut_string Tryz.underlying9 y2) (shut_int Tryz.underlying3 y3) (shut_int Tryz.underlying3 y4), rfl, bel.frame _, fun h => by cases h⟩

theorem over1 : Rows.FnBuiltPageSaid :=
 OpenClaim.holds_of_wide 10 Tryz.f10 rfl rfl rfl rfl rfl rfl rfl ⟨rfl, rfl, rfl, rfl, rfl⟩ rfl rfl rfl rfl rfl (by kernel_rfl) Tryz.func10 (by kernel_rfl)
  (of_decide_eq_true (by kernel_rfl)) (by unfold Func.isWrapper; first | (rw [if_pos (by decide +kernel)]; kernel_rfl) | (rw [if_neg (by decide +kernel)]; exact ⟨rfl, rfl⟩))
  (fun os started H enc _ => lifted1 os started H enc)

theorem fnBuiltPage_holds : Rows.FnBuiltPageCardSaid :=
 Claim7.holds_tied_plain_at .later [] [.data, .pinned, .pinned] true Rows.fnBuiltPageCard.stood.harness false over1 (fun _ h => by cases h) (by kernel_rfl) (fun _ h => by cases h) fnBuiltPage_row_tie rfl ⟨rfl, rfl⟩ (by kernel_rfl) rfl
  (fun f fn hf hfn => by
   obtain rfl : f = 10 := Option.some.inj ((show Tryz.prog.funcNamed Rows.fnBuiltPageRow.func = some 10 by kernel_rfl).symm.trans hf) |>.symm
   obtain rfl : fn = Tryz.f10 := (Option.some.inj (Tryz.func10.symm.trans hfn)).symm
   exact ⟨by kernel_rfl, fun j t ht => by
    rw [Tryz.params10] at ht
    have hm : t ∈ [25, 22, 9, 3, 3] := by simpa using Array.mem_of_getElem? ht
    have hall : ([25, 22, 3, 9].all fun u => !Tryz.prog.wantsStandIn u) = true := by kernel_rfl
    exact (show Tryz.prog.wantsStandIn t = false by simpa using List.all_eq_true.1 hall t (by simp at hm |-; first | exact hm | omega | (rcases hm with h | h | h <;> simp [h]) | (rcases hm with h | h | h | h <;> simp [h]) | (rcases hm with h | h | h | h | h <;> simp [h])))⟩)
  (by kernel_rfl)
#print axioms fnBuiltPage_holds
end Go.Proofs.YtjkecadfakjanaaGreatDoor
