/- The walk of laws.asked: what a path answers, what it should answer, and whether something is said of it: where something is, both answer the same. Conditions: a site in memory, texts of at most 2147483647 bytes. -/
import Derived.Test.YtcmiiboioemelaaGreatDoorSpecP
import Derived.Test.YtcmiiboioemelaaGreatDoorEqM
set_option maxRecDepth 100000
set_option linter.unusedVariables false
set_option linter.unusedSimpArgs false
namespace Go.Proofs.YtcmiiboioemelaaGreatDoor
open Go.RowKit
attribute [local go_sem] B_extract B_toList B_append

theorem results_cells_tmp {P : Program} {fn : Func} {tmps : Array Value} {w : World} {a b c : Nat} {t t' : TypeId} {v v' u : Value} (g g' : Nat) (hr : fn.results = #[.cell a t, .cell b t', .tmp c]) (ht : tmps.getD a undef = .pointer (some ⟨g, 0, none⟩)) (ht' : tmps.getD b undef = .pointer (some ⟨g', 0, none⟩)) (hu : tmps.getD c undef = u)
    (hl : (loadVar t ⟨g, 0, none⟩).run P w = .ok v w) (hl' : (loadVar t' ⟨g', 0, none⟩).run P w = .ok v' w) : (results fn tmps).run P w = .ok (.tuple #[v, v', u]) w := by
  rw [Array.getD_eq_getD_getElem?] at ht ht' hu
  simp [results, hr, ht, ht', hu, hl, hl', asAddr]

set_option maxHeartbeats 16000000 in
theorem c_asked (site : SiteM) (comp s : Str) (vl vd vf vc : Value) (w : World) (hv : SiteAt w vl vd vf vc site) (hcl : CapOK vl) (hcd : CapOK vd) (hcc : CapOK vc) (hf : siteFits site = true) (hc : comp.length <= 2147483647) (hs : s.length <= 2147483647) :
    Calls Tryz.prog 16 #[.agg #[vl, vd, vf, vc], .string (B comp), .string (B s)] w
      fun e w' => ∃ v u T, e = .returned (.tuple #[v, u, .bool (knownL site comp s)]) /\ ToldAtN w.heap.size w' v T /\ ToldAtN w.heap.size w' u T /\ Below w.heap.size w w' := by
  obtain ⟨KN, hKN⟩ : ∃ K, K = knownL site comp s := ⟨_, rfl⟩
  have HKN : Hid (KN = (shortL site comp s && pathKnown site comp s)) := hKN
  rw [<- hKN]
  clear hKN
  obtain ⟨TT, hTT⟩ : ∃ T, T = toldM (doParseM site comp (normL s)) := ⟨_, rfl⟩
  have HSH : Hid (∀ wx, SiteAt wx vl vd vf vc site -> Calls Tryz.prog 24 #[.agg #[vl, vd, vf, vc], .string (B comp), .string (B s)] wx fun e w' => e = .returned (.bool (shortL site comp s)) /\ Below wx.heap.size wx w') := fun wx h => c_short site comp s vl vd vf vc wx h hf hc hs
  have HPK : Hid (∀ wx, SiteAt wx vl vd vf vc site -> Calls Tryz.prog 20 #[.agg #[vl, vd, vf, vc], .string (B comp), .string (B s)] wx fun e w' => e = .returned (.bool (pathKnown site comp s)) /\ Below wx.heap.size wx w') := fun wx h => c_PathKnown site comp s vl vd vf vc wx h hcl hcd hcc hf hc hs
  have HPA : Hid (pathKnown site comp s = true -> ∀ wx, Below w.heap.size w wx -> Calls Tryz.prog 23 #[.agg #[vl, vd, vf, vc], .string (B comp), .string (B s)] wx fun e w' => ∃ v, e = .returned v /\ ToldAtN wx.heap.size w' v TT /\ Below wx.heap.size wx w') := fun hk wx h => by
    obtain ⟨h1, h2, h3, h4, h5⟩ := pathKnown_site hk
    rw [hTT]
    exact c_implParse wx site comp s vl vd vf vc (hv.below h) (siteKnown_once h1) (by omega) h3
  have HSP : Hid (pathKnown site comp s = true -> ∀ wx, Below w.heap.size w wx -> Calls Tryz.prog 45 #[.agg #[vl, vd, vf, vc], .string (B comp), .string (B s)] wx fun e w' => ∃ v, e = .returned v /\ ToldAtN wx.heap.size w' v TT /\ Below wx.heap.size wx w') := fun hk wx h => by
    obtain ⟨h1, h2, h3, h4, h5⟩ := pathKnown_site hk
    rw [hTT, parse_eq hk]
    exact c_specParse site comp s vl vd vf vc wx (hv.below h) hc (by omega)
  clear hTT
  obtain ⟨obs, hobs⟩ : ∃ o : Obj, o = .cells #[vl, vd, vf, vc] 25 := ⟨_, rfl⟩
  obtain ⟨oz, hoz⟩ : ∃ o : Obj, o = .cells zeroCells 28 := ⟨_, rfl⟩
  have hz1 : (w.alloc obs).heap.size = w.heap.size + 1 := by simp
  have hz2 : ((w.alloc obs).alloc oz).heap.size = w.heap.size + 2 := by simp
  have hsb : Hid ((((w.alloc obs).alloc oz).alloc oz).heap[w.heap.size]? = some (.cells #[vl, vd, vf, vc] 25)) := by
    have := blk_old _ oz (blk_old _ oz (blk_new w obs))
    rw [hobs] at this ⊢; exact this
  have hr1 : Hid ((((w.alloc obs).alloc oz).alloc oz).heap[w.heap.size + 1]? = some (.cells zeroCells 28)) := by
    have := blk_old _ oz (blk_new (w.alloc obs) oz)
    rw [hz1, hoz] at this
    rw [hoz]; exact this
  have hr2 : Hid ((((w.alloc obs).alloc oz).alloc oz).heap[w.heap.size + 2]? = some (.cells zeroCells 28)) := by
    have := blk_new ((w.alloc obs).alloc oz) oz
    rw [hz2, hoz] at this
    rw [hoz]; exact this
  have hB2 : Hid (Below w.heap.size w (((w.alloc obs).alloc oz).alloc oz)) := ((Below_alloc w obs).trans ((Below_alloc (w.alloc obs) oz).mono (by simp))).trans ((Below_alloc ((w.alloc obs).alloc oz) oz).mono (by simp; omega))
  have HV2 : Hid (SiteAt (((w.alloc obs).alloc oz).alloc oz) vl vd vf vc site) := ((hv.alloc obs).alloc oz).alloc oz
  clear hz1 hz2 hcl hcd hcc
  cases h1 : shortL site comp s with
  | false =>
    have HK : Hid (KN = false) := by show _ = _; rw [HKN.out, h1]; rfl
    rw [h1] at HSH
    go_enter Tryz.func16, Tryz.ntmps16
    go_wp2_with fail
    rw [<- hoz, <- hobs]
    generalize ((w.alloc obs).alloc oz).alloc oz = w2 at hB2 hsb hr1 hr2 HV2 ⊢
    refine (HSH.out _ HV2.out).mono ?_; rintro e w3 ⟨rfl, b3⟩
    have hB3 := Lib.hid (belowThen hB2.out b3 (Nat.le_refl _))
    have hr13 := Lib.hid (blk_below hr1.out b3)
    have hr23 := Lib.hid (blk_below hr2.out b3)
    have hsb3 := Lib.hid (blk_below hsb.out b3)
    have HV3 := Lib.hid (HV2.out.below b3)
    obtain ⟨k0, k1, k2, k3⟩ : w3.cell? ⟨w.heap.size, 0, none⟩ = some vl /\ w3.cell? ⟨w.heap.size, 1, none⟩ = some vd /\ w3.cell? ⟨w.heap.size, 2, none⟩ = some vf /\ w3.cell? ⟨w.heap.size, 3, none⟩ = some vc := ⟨cell_blk hsb3.out 0, cell_blk hsb3.out 1, cell_blk hsb3.out 2, cell_blk hsb3.out 3⟩
    clear b3 hsb hr1 hr2 hB2 HV2
    go_upto_region 2 with fail
    refine wp_region_lit ?_
    refine wpList_plain rfl fun _ hK => wp_buildC 28 #[] zeroCells rfl (by kernel_rfl) (hK _ _ ?_)
    refine wpList_plain rfl fun _ hK => wp_buildC 28 #[] zeroCells rfl (by kernel_rfl) (hK _ _ ?_)
    refine wpList_store_row rfl 28 (.tmp 6) (.tmp 21) rfl (w.heap.size + 1) zeroCells rfl rfl 28 _ hr13.out (by kernel_rfl) rfl (by kernel_rfl) ?_
    have q1 := setRow_heap w3 (w.heap.size + 1) _ zeroCells _ _ hr13.out
    have q2 : (w3.setRow (w.heap.size + 1) zeroCells).heap[w.heap.size + 2]? = some (.cells zeroCells 28) := (setRow_other _ _ _ _ (by omega)).trans hr23.out
    have qb : Below w.heap.size w (w3.setRow (w.heap.size + 1) zeroCells) := hB3.out.trans ⟨rfl, rfl, rfl, by simp, fun k hk => setRow_other _ _ _ _ (by omega)⟩
    generalize w3.setRow (w.heap.size + 1) _ = wg at q1 q2 qb ⊢
    refine wpList_store_row rfl 28 (.tmp 7) (.tmp 22) rfl (w.heap.size + 2) zeroCells rfl rfl 28 _ q2 (by kernel_rfl) rfl (by kernel_rfl) ?_
    have p1 := Lib.hid ((setRow_other wg (w.heap.size + 2) (w.heap.size + 1) zeroCells (by omega)).trans q1)
    have p2 := Lib.hid (setRow_heap wg (w.heap.size + 2) _ zeroCells _ _ q2)
    have pb : Hid (Below w.heap.size w (wg.setRow (w.heap.size + 2) zeroCells)) := qb.trans ⟨rfl, rfl, rfl, by simp, fun k hk => setRow_other _ _ _ _ (by omega)⟩
    generalize wg.setRow (w.heap.size + 2) _ = wf at p1 p2 pb ⊢
    clear q1 q2 qb
    go_wp2_with fail
    refine bodyPost_ret (results_cells_tmp (w.heap.size + 1) (w.heap.size + 2) rfl rfl rfl rfl (run_loadVar_row wf (w.heap.size + 1) _ 28 zeroCells _ _ p1.out Tryz.underlying28 rfl (by kernel_rfl)) (run_loadVar_row wf (w.heap.size + 2) _ 28 zeroCells _ _ p2.out Tryz.underlying28 rfl (by kernel_rfl))) rfl ?_
    exact ⟨_, _, {}, by rw [HK.out]; rfl, zeroTold _ _, zeroTold _ _, pb.out⟩
  | true =>
  rw [h1] at HSH
  cases h2 : pathKnown site comp s with
  | false =>
    have HK : Hid (KN = false) := by show _ = _; rw [HKN.out, h1, h2]; rfl
    rw [h2] at HPK
    go_enter Tryz.func16, Tryz.ntmps16
    go_wp2_with fail
    rw [<- hoz, <- hobs]
    generalize ((w.alloc obs).alloc oz).alloc oz = w2 at hB2 hsb hr1 hr2 HV2 ⊢
    refine (HSH.out _ HV2.out).mono ?_; rintro e w3 ⟨rfl, b3⟩
    have hB3 := Lib.hid (belowThen hB2.out b3 (Nat.le_refl _))
    have hr13 := Lib.hid (blk_below hr1.out b3)
    have hr23 := Lib.hid (blk_below hr2.out b3)
    have hsb3 := Lib.hid (blk_below hsb.out b3)
    have HV3 := Lib.hid (HV2.out.below b3)
    obtain ⟨k0, k1, k2, k3⟩ : w3.cell? ⟨w.heap.size, 0, none⟩ = some vl /\ w3.cell? ⟨w.heap.size, 1, none⟩ = some vd /\ w3.cell? ⟨w.heap.size, 2, none⟩ = some vf /\ w3.cell? ⟨w.heap.size, 3, none⟩ = some vc := ⟨cell_blk hsb3.out 0, cell_blk hsb3.out 1, cell_blk hsb3.out 2, cell_blk hsb3.out 3⟩
    clear b3 hsb hr1 hr2 hB2 HV2
    go_wp2_with fail
    refine (HPK.out _ HV3.out).mono ?_; rintro e w4 ⟨rfl, b4⟩
    have hB4 := Lib.hid (belowThen hB3.out b4 (Nat.le_refl _))
    have hr14 := Lib.hid (blk_below hr13.out b4)
    have hr24 := Lib.hid (blk_below hr23.out b4)
    have hsb4 := Lib.hid (blk_below hsb3.out b4)
    clear k0 k1 k2 k3
    obtain ⟨k0, k1, k2, k3⟩ : w4.cell? ⟨w.heap.size, 0, none⟩ = some vl /\ w4.cell? ⟨w.heap.size, 1, none⟩ = some vd /\ w4.cell? ⟨w.heap.size, 2, none⟩ = some vf /\ w4.cell? ⟨w.heap.size, 3, none⟩ = some vc := ⟨cell_blk hsb4.out 0, cell_blk hsb4.out 1, cell_blk hsb4.out 2, cell_blk hsb4.out 3⟩
    clear b4 hsb3 hr13 hr23 hB3 HV3
    go_upto_region 2 with fail
    refine wp_region_lit ?_
    refine wpList_plain rfl fun _ hK => wp_buildC 28 #[] zeroCells rfl (by kernel_rfl) (hK _ _ ?_)
    refine wpList_plain rfl fun _ hK => wp_buildC 28 #[] zeroCells rfl (by kernel_rfl) (hK _ _ ?_)
    refine wpList_store_row rfl 28 (.tmp 6) (.tmp 21) rfl (w.heap.size + 1) zeroCells rfl rfl 28 _ hr14.out (by kernel_rfl) rfl (by kernel_rfl) ?_
    have q1 := setRow_heap w4 (w.heap.size + 1) _ zeroCells _ _ hr14.out
    have q2 : (w4.setRow (w.heap.size + 1) zeroCells).heap[w.heap.size + 2]? = some (.cells zeroCells 28) := (setRow_other _ _ _ _ (by omega)).trans hr24.out
    have qb : Below w.heap.size w (w4.setRow (w.heap.size + 1) zeroCells) := hB4.out.trans ⟨rfl, rfl, rfl, by simp, fun k hk => setRow_other _ _ _ _ (by omega)⟩
    generalize w4.setRow (w.heap.size + 1) _ = wg at q1 q2 qb ⊢
    refine wpList_store_row rfl 28 (.tmp 7) (.tmp 22) rfl (w.heap.size + 2) zeroCells rfl rfl 28 _ q2 (by kernel_rfl) rfl (by kernel_rfl) ?_
    have p1 := Lib.hid ((setRow_other wg (w.heap.size + 2) (w.heap.size + 1) zeroCells (by omega)).trans q1)
    have p2 := Lib.hid (setRow_heap wg (w.heap.size + 2) _ zeroCells _ _ q2)
    have pb : Hid (Below w.heap.size w (wg.setRow (w.heap.size + 2) zeroCells)) := qb.trans ⟨rfl, rfl, rfl, by simp, fun k hk => setRow_other _ _ _ _ (by omega)⟩
    generalize wg.setRow (w.heap.size + 2) _ = wf at p1 p2 pb ⊢
    clear q1 q2 qb
    go_wp2_with fail
    refine bodyPost_ret (results_cells_tmp (w.heap.size + 1) (w.heap.size + 2) rfl rfl rfl rfl (run_loadVar_row wf (w.heap.size + 1) _ 28 zeroCells _ _ p1.out Tryz.underlying28 rfl (by kernel_rfl)) (run_loadVar_row wf (w.heap.size + 2) _ 28 zeroCells _ _ p2.out Tryz.underlying28 rfl (by kernel_rfl))) rfl ?_
    exact ⟨_, _, {}, by rw [HK.out]; rfl, zeroTold _ _, zeroTold _ _, pb.out⟩
  | true =>
    have HK : Hid (KN = true) := by show _ = _; rw [HKN.out, h1, h2]; rfl
    rw [h2] at HPK
    go_enter Tryz.func16, Tryz.ntmps16
    go_wp2_with fail
    rw [<- hoz, <- hobs]
    generalize ((w.alloc obs).alloc oz).alloc oz = w2 at hB2 hsb hr1 hr2 HV2 ⊢
    refine (HSH.out _ HV2.out).mono ?_; rintro e w3 ⟨rfl, b3⟩
    have hB3 := Lib.hid (belowThen hB2.out b3 (Nat.le_refl _))
    have hr13 := Lib.hid (blk_below hr1.out b3)
    have hr23 := Lib.hid (blk_below hr2.out b3)
    have hsb3 := Lib.hid (blk_below hsb.out b3)
    have HV3 := Lib.hid (HV2.out.below b3)
    obtain ⟨k0, k1, k2, k3⟩ : w3.cell? ⟨w.heap.size, 0, none⟩ = some vl /\ w3.cell? ⟨w.heap.size, 1, none⟩ = some vd /\ w3.cell? ⟨w.heap.size, 2, none⟩ = some vf /\ w3.cell? ⟨w.heap.size, 3, none⟩ = some vc := ⟨cell_blk hsb3.out 0, cell_blk hsb3.out 1, cell_blk hsb3.out 2, cell_blk hsb3.out 3⟩
    clear b3 hsb hr1 hr2 hB2 HV2
    go_wp2_with fail
    refine (HPK.out _ HV3.out).mono ?_; rintro e w4 ⟨rfl, b4⟩
    have hB4 := Lib.hid (belowThen hB3.out b4 (Nat.le_refl _))
    have hr14 := Lib.hid (blk_below hr13.out b4)
    have hr24 := Lib.hid (blk_below hr23.out b4)
    have hsb4 := Lib.hid (blk_below hsb3.out b4)
    clear k0 k1 k2 k3
    obtain ⟨k0, k1, k2, k3⟩ : w4.cell? ⟨w.heap.size, 0, none⟩ = some vl /\ w4.cell? ⟨w.heap.size, 1, none⟩ = some vd /\ w4.cell? ⟨w.heap.size, 2, none⟩ = some vf /\ w4.cell? ⟨w.heap.size, 3, none⟩ = some vc := ⟨cell_blk hsb4.out 0, cell_blk hsb4.out 1, cell_blk hsb4.out 2, cell_blk hsb4.out 3⟩
    clear b4 hsb3 hr13 hr23 hB3 HV3
    go_upto_region 3 with fail
    have hS0 : (w4.drew.cell? ⟨w.heap.size, 0, none⟩ = some vl /\ w4.drew.cell? ⟨w.heap.size, 1, none⟩ = some vd /\ w4.drew.cell? ⟨w.heap.size, 2, none⟩ = some vf /\ w4.drew.cell? ⟨w.heap.size, 3, none⟩ = some vc) /\ Below w.heap.size w w4.drew := ⟨⟨k0, k1, k2, k3⟩, hB4.out.trans ((Below_drewN (Below.refl _ _) 1).mono hB4.out.size)⟩
    have hz4 : w.heap.size + 3 <= w4.heap.size := by have := lt_of_block hr24.out; omega
    refine wp_region_held (S := fun w' => (w'.cell? ⟨w.heap.size, 0, none⟩ = some vl /\ w'.cell? ⟨w.heap.size, 1, none⟩ = some vd /\ w'.cell? ⟨w.heap.size, 2, none⟩ = some vf /\ w'.cell? ⟨w.heap.size, 3, none⟩ = some vc) /\ Below w.heap.size w w') (by kernel_rfl) ?_
    change wpAnyH _ _ _ _ _ _ _ _ w4.drew
    have HSB : Hid (w4.drew.heap[w.heap.size]? = some (.cells #[vl, vd, vf, vc] 25)) := hsb4.out
    have HR1 : Hid (w4.drew.heap[w.heap.size + 1]? = some (.cells zeroCells 28)) := hr14.out
    have HR2 : Hid (w4.drew.heap[w.heap.size + 2]? = some (.cells zeroCells 28)) := hr24.out
    have hz5 : w.heap.size + 3 <= w4.drew.heap.size := hz4
    clear k0 k1 k2 k3 hB4 hr14 hr24 hsb4 hz4
    generalize w4.drew = w5 at hS0 HSB HR1 HR2 hz5 ⊢
    refine wpAnyH_take (i := 0) (v := .agg #[vl, vd, vf, vc]) rfl (by kernel_rfl) (by kernel_rfl) (by kernel_rfl) (fun _ _ _ h => h) (Or.inl ⟨by rfl, fun w' hw' => by obtain ⟨⟨j0, j1, j2, j3⟩, -⟩ := hw'; go_simp⟩) hS0 ?_
    refine wpAnyH_take (i := 1) (v := .string (B comp)) rfl (by kernel_rfl) (by kernel_rfl) (by kernel_rfl) (fun _ _ _ h => h) (Or.inl ⟨by rfl, fun w' hw' => by go_simp⟩) hS0 ?_
    refine wpAnyH_take (i := 2) (v := .string (B s)) rfl (by kernel_rfl) (by kernel_rfl) (by kernel_rfl) (fun _ _ _ h => h) (Or.inl ⟨by rfl, fun w' hw' => by go_simp⟩) hS0 ?_
    try simp only [Act.put, List.setIfInBounds_toArray, List.set_cons_zero, List.set_cons_succ]
    refine wpAnyH_take (i := 4) (v := .agg #[vl, vd, vf, vc]) rfl (by kernel_rfl) (by kernel_rfl) (by kernel_rfl) (fun _ _ _ h => h) (Or.inl ⟨by rfl, fun w' hw' => by obtain ⟨⟨j0, j1, j2, j3⟩, -⟩ := hw'; go_simp⟩) hS0 ?_
    refine wpAnyH_take (i := 5) (v := .string (B comp)) rfl (by kernel_rfl) (by kernel_rfl) (by kernel_rfl) (fun _ _ _ h => h) (Or.inl ⟨by rfl, fun w' hw' => by go_simp⟩) hS0 ?_
    refine wpAnyH_take (i := 6) (v := .string (B s)) rfl (by kernel_rfl) (by kernel_rfl) (by kernel_rfl) (fun _ _ _ h => h) (Or.inl ⟨by rfl, fun w' hw' => by go_simp⟩) hS0 ?_
    try simp only [Act.put, List.setIfInBounds_toArray, List.set_cons_zero, List.set_cons_succ]
    refine wpAnyH_all (rs := [3]) (by kernel_rfl) (by simp) ?_
    intro i hi
    obtain rfl := List.mem_singleton.1 hi
    refine wpOp_step rfl (fun K hK => ?_)
    go_simp
    refine (HPA.out h2 _ hS0.2).mono ?_; rintro ex w6 ⟨v, rfl, ⟨ql, qi, qu, rfl, ⟨s61, n61⟩, ⟨s62, n62⟩, ⟨s63, n63⟩⟩, b6⟩
    obtain ⟨a61, l61, c61, rfl⟩ := s61.slice
    obtain ⟨a62, l62, c62, rfl⟩ := s62.slice
    obtain ⟨a63, l63, c63, rfl⟩ := s63.slice
    obtain ⟨cs6, hcs6, hsz6, hone6⟩ := told_cells TT a61 a62 a63 l61 l62 l63 c61 c62 c63
    rw [hcs6]
    have HSB6 := Lib.hid (blk_below HSB.out b6)
    have HR16 := Lib.hid (blk_below HR1.out b6)
    have HR26 := Lib.hid (blk_below HR2.out b6)
    have hB6 := belowThen hS0.2 b6 (Nat.le_refl _)
    have hz6 : w.heap.size + 3 <= w6.heap.size := Nat.le_trans hz5 b6.size
    replace n61 := n61.mono hz5
    replace n62 := n62.mono hz5
    replace n63 := n63.mono hz5
    have hS6 : (w6.cell? ⟨w.heap.size, 0, none⟩ = some vl /\ w6.cell? ⟨w.heap.size, 1, none⟩ = some vd /\ w6.cell? ⟨w.heap.size, 2, none⟩ = some vf /\ w6.cell? ⟨w.heap.size, 3, none⟩ = some vc) /\ Below w.heap.size w w6 := ⟨⟨cell_blk HSB6.out 0, cell_blk HSB6.out 1, cell_blk HSB6.out 2, cell_blk HSB6.out 3⟩, hB6⟩
    refine hK _ _ ⟨hS6, ?_⟩
    clear hK K hS0 HSB HR1 HR2 b6 hz5
    try simp only [Act.put, List.setIfInBounds_toArray, List.set_cons_zero, List.set_cons_succ]
    refine wpAnyH_all (rs := [7]) (by kernel_rfl) (by simp) ?_
    intro i hi
    obtain rfl := List.mem_singleton.1 hi
    refine wpOp_step rfl (fun K hK => ?_)
    go_simp
    refine (HSP.out h2 _ hS6.2).mono ?_; rintro ex w7 ⟨v, rfl, ⟨ql, qi, qu, rfl, ⟨s71, n71⟩, ⟨s72, n72⟩, ⟨s73, n73⟩⟩, b7⟩
    obtain ⟨a71, l71, c71, rfl⟩ := s71.slice
    obtain ⟨a72, l72, c72, rfl⟩ := s72.slice
    obtain ⟨a73, l73, c73, rfl⟩ := s73.slice
    obtain ⟨cs7, hcs7, hsz7, hone7⟩ := told_cells TT a71 a72 a73 l71 l72 l73 c71 c72 c73
    rw [hcs7]
    have HSB7 := Lib.hid (blk_below HSB6.out b7)
    have HR17 := Lib.hid (blk_below HR16.out b7)
    have HR27 := Lib.hid (blk_below HR26.out b7)
    have hB7 := belowThen hB6 b7 (Nat.le_refl _)
    replace n71 := n71.mono hz6
    replace n72 := n72.mono hz6
    replace n73 := n73.mono hz6
    replace s61 := s61.below b7
    replace s62 := s62.below b7
    replace s63 := s63.below b7
    have hS7 : (w7.cell? ⟨w.heap.size, 0, none⟩ = some vl /\ w7.cell? ⟨w.heap.size, 1, none⟩ = some vd /\ w7.cell? ⟨w.heap.size, 2, none⟩ = some vf /\ w7.cell? ⟨w.heap.size, 3, none⟩ = some vc) /\ Below w.heap.size w w7 := ⟨⟨cell_blk HSB7.out 0, cell_blk HSB7.out 1, cell_blk HSB7.out 2, cell_blk HSB7.out 3⟩, hB7⟩
    refine hK _ _ ⟨hS7, ?_⟩
    clear hK K hS6 HSB6 HR16 HR26 b7 hz6 hB6
    try simp only [Act.put, List.setIfInBounds_toArray, List.set_cons_zero, List.set_cons_succ]
    refine wpAnyH_all (rs := [8]) (by kernel_rfl) (by simp) ?_
    intro i hi
    obtain rfl := List.mem_singleton.1 hi
    refine wpOp_step rfl (fun K hK => ?_)
    rw [if_pos (by rfl)]
    have HSB8 := Lib.hid ((setRow_other w7 (w.heap.size + 1) w.heap.size cs6 (by omega)).trans HSB7.out)
    have HR18 := Lib.hid (setRow_heap w7 (w.heap.size + 1) _ cs6 _ _ HR17.out)
    have HR28 := Lib.hid ((setRow_other w7 (w.heap.size + 1) (w.heap.size + 2) cs6 (by omega)).trans HR27.out)
    have hB8 : Below w.heap.size w (w7.setRow (w.heap.size + 1) cs6) := hB7.trans ⟨rfl, rfl, rfl, by simp, fun k hk => setRow_other _ _ _ _ (by omega)⟩
    have t61 := s61.setRow (g := w.heap.size + 1) (cs := cs6) n61 (by omega)
    have t62 := s62.setRow (g := w.heap.size + 1) (cs := cs6) n62 (by omega)
    have t63 := s63.setRow (g := w.heap.size + 1) (cs := cs6) n63 (by omega)
    have t71 := s71.setRow (g := w.heap.size + 1) (cs := cs6) n71 (by omega)
    have t72 := s72.setRow (g := w.heap.size + 1) (cs := cs6) n72 (by omega)
    have t73 := s73.setRow (g := w.heap.size + 1) (cs := cs6) n73 (by omega)
    refine wp_store_row 28 (.tmp 6) (.tmp 26) rfl (w.heap.size + 1) cs6 rfl rfl 28 _ HR17.out (by rw [hsz6]; kernel_rfl) (by rw [hsz6]; rfl) hone6 (hK _ _ ⟨⟨⟨cell_blk HSB8.out 0, cell_blk HSB8.out 1, cell_blk HSB8.out 2, cell_blk HSB8.out 3⟩, hB8⟩, ?_⟩)
    clear hK K hS7 HSB7 HR17 HR27 hB7 s61 s62 s63 s71 s72 s73
    generalize w7.setRow _ _ = w8 at HSB8 HR18 HR28 hB8 t61 t62 t63 t71 t72 t73 ⊢
    try simp only [Act.put, List.setIfInBounds_toArray, List.set_cons_zero, List.set_cons_succ]
    refine wpAnyH_all (rs := [9]) (by kernel_rfl) (by simp) ?_
    intro i hi
    obtain rfl := List.mem_singleton.1 hi
    refine wpOp_step rfl (fun K hK => ?_)
    rw [if_pos (by rfl)]
    have HSB9 := Lib.hid ((setRow_other w8 (w.heap.size + 2) w.heap.size cs7 (by omega)).trans HSB8.out)
    have HR19 := Lib.hid ((setRow_other w8 (w.heap.size + 2) (w.heap.size + 1) cs7 (by omega)).trans HR18.out)
    have HR29 := Lib.hid (setRow_heap w8 (w.heap.size + 2) _ cs7 _ _ HR28.out)
    have hB9 : Below w.heap.size w (w8.setRow (w.heap.size + 2) cs7) := hB8.trans ⟨rfl, rfl, rfl, by simp, fun k hk => setRow_other _ _ _ _ (by omega)⟩
    have u61 := t61.setRow (g := w.heap.size + 2) (cs := cs7) n61 (by omega)
    have u62 := t62.setRow (g := w.heap.size + 2) (cs := cs7) n62 (by omega)
    have u63 := t63.setRow (g := w.heap.size + 2) (cs := cs7) n63 (by omega)
    have u71 := t71.setRow (g := w.heap.size + 2) (cs := cs7) n71 (by omega)
    have u72 := t72.setRow (g := w.heap.size + 2) (cs := cs7) n72 (by omega)
    have u73 := t73.setRow (g := w.heap.size + 2) (cs := cs7) n73 (by omega)
    have hS9 : ((w8.setRow (w.heap.size + 2) cs7).cell? ⟨w.heap.size, 0, none⟩ = some vl /\ (w8.setRow (w.heap.size + 2) cs7).cell? ⟨w.heap.size, 1, none⟩ = some vd /\ (w8.setRow (w.heap.size + 2) cs7).cell? ⟨w.heap.size, 2, none⟩ = some vf /\ (w8.setRow (w.heap.size + 2) cs7).cell? ⟨w.heap.size, 3, none⟩ = some vc) /\ Below w.heap.size w (w8.setRow (w.heap.size + 2) cs7) := ⟨⟨cell_blk HSB9.out 0, cell_blk HSB9.out 1, cell_blk HSB9.out 2, cell_blk HSB9.out 3⟩, hB9⟩
    refine wp_store_row 28 (.tmp 7) (.tmp 30) rfl (w.heap.size + 2) cs7 rfl rfl 28 _ HR28.out (by rw [hsz7]; kernel_rfl) (by rw [hsz7]; rfl) hone7 (hK _ _ ⟨hS9, ?_⟩)
    clear hK K HSB8 HR18 HR28 hB8 t61 t62 t63 t71 t72 t73
    generalize w8.setRow _ _ = wf at hS9 HSB9 HR19 HR29 hB9 u61 u62 u63 u71 u72 u73 ⊢
    try simp only [Act.put, List.setIfInBounds_toArray, List.set_cons_zero, List.set_cons_succ]
    refine wpAnyH_all (rs := [10]) (by kernel_rfl) (by simp) ?_
    intro i hi
    obtain rfl := List.mem_singleton.1 hi
    refine wpOp_step rfl (fun K hK => ?_)
    go_simp
    refine hK _ _ ⟨hS9, ?_⟩
    clear hK K hS9 HSB9
    try simp only [Act.put, List.setIfInBounds_toArray, List.set_cons_zero, List.set_cons_succ]
    refine wpAnyH_done (by kernel_rfl) ?_ _
    replace hcs6 := Lib.hid hcs6
    replace hcs7 := Lib.hid hcs7
    replace u61 := Lib.hid u61
    replace u62 := Lib.hid u62
    replace u63 := Lib.hid u63
    replace u71 := Lib.hid u71
    replace u72 := Lib.hid u72
    replace u73 := Lib.hid u73
    go_wp2_with fail
    refine bodyPost_ret (results_cells_tmp (w.heap.size + 1) (w.heap.size + 2) rfl rfl rfl rfl (run_loadVar_row wf (w.heap.size + 1) _ 28 cs6 _ _ HR19.out Tryz.underlying28 rfl (by rw [hsz6]; kernel_rfl)) (run_loadVar_row wf (w.heap.size + 2) _ 28 cs7 _ _ HR29.out Tryz.underlying28 rfl (by rw [hsz7]; kernel_rfl))) rfl ?_
    exact ⟨_, _, TT, by rw [HK.out]; rfl, ⟨_, _, _, hcs6.out.symm, ⟨u61.out, n61.mono (by omega)⟩, ⟨u62.out, n62.mono (by omega)⟩, ⟨u63.out, n63.mono (by omega)⟩⟩, ⟨_, _, _, hcs7.out.symm, ⟨u71.out, n71.mono (by omega)⟩, ⟨u72.out, n72.mono (by omega)⟩, ⟨u73.out, n73.mono (by omega)⟩⟩, hB9⟩

end Go.Proofs.YtcmiiboioemelaaGreatDoor
