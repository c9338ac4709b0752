/- The walk of the law FnResourceSorts: a path as a resource answers, of the type, what it should. Conditions: a site in memory, texts that fit into the platform's addresses. Printed by gen_law4.py. -/
import Derived.Test.YtcmiiboioemelaaGreatDoorViewR
import Derived.Test.YtcmiiboioemelaaGreatDoorSpecP
import Derived.Test.YtcmiiboioemelaaGreatDoorTwoT
import Derived.Test.YtcmiiboioemelaaGreatDoorEqM
import Derived.Test.YtcmiiboioemelaaGreatDoorHelpM
import Derived.Test.YtcmiiboioemelaaGreatDoorOpen
import Derived.Test.YtcmiiboioemelaaGreatDoorRows
import Derived.Test.YtcmiiboioemelaaGreatDoorCards
import Derived.Test.YtcmiiboioemelaaGreatDoorTie
import Derived.ProofKit
import Derived.OpenShut
import Derived.ShutString
import Derived.ChangeOld
import Derived.SizedLaws
import Derived.LaidMore
import Derived.Lay
import Derived.SevenTiedAt
import Derived.Stop.Joined
import Derived.Carry
set_option maxRecDepth 100000
set_option linter.unusedVariables false
set_option linter.unusedSimpArgs false
namespace Go.Proofs.YtcmiiboioemelaaGreatDoor
open Go.RowKit
attribute [local go_sem] B_extract B_toList B_append

set_option maxHeartbeats 16000000 in
theorem w_FnResourceSorts (site : SiteM) (comp s : Str) (vl vd vf vc : Value) (w : World) (hv : SiteAt w vl vd vf vc site) (hcl : CapOK vl) (hcd : CapOK vd) (hcc : CapOK vc) (hc0 : comp.length <= 140737488351232) (hs0 : s.length <= 140737488351232) :
  Calls Tryz.prog 14 #[.agg #[vl, vd, vf, vc], .string (B comp), .string (B s)] w fun e w' => e = .returned (.bool true) /\ Below w.heap.size w w' := by
 have HZ : Hid (∀ wx, SiteAt wx vl vd vf vc site -> Calls Tryz.prog 15 #[.agg #[vl, vd, vf, vc]] wx fun e w' => e = .returned (.bool (siteFits site)) /\ Below wx.heap.size wx w') := fun wx h => c_zzFits1 site vl vd vf vc wx h
 have HSH : Hid (siteFits site = true -> comp.length <= 2147483647 -> s.length <= 2147483647 -> ∀ wx, SiteAt wx vl vd vf vc site -> Calls Tryz.prog 24 #[.agg #[vl, vd, vf, vc], .string (B comp), .string (B s)] wx fun e w' => e = .returned (.bool (shortL site comp s)) /\ Below wx.heap.size wx w') := fun hf hc hs wx h => c_short site comp s vl vd vf vc wx h hf hc hs
 have HPK : Hid (siteFits site = true -> comp.length <= 2147483647 -> s.length <= 2147483647 -> ∀ wx, SiteAt wx vl vd vf vc site -> Calls Tryz.prog 20 #[.agg #[vl, vd, vf, vc], .string (B comp), .string (B s)] wx fun e w' => e = .returned (.bool (pathKnown site comp s)) /\ Below wx.heap.size wx w') := fun hf hc hs wx h => c_PathKnown site comp s vl vd vf vc wx h hcl hcd hcc hf hc hs
 obtain ⟨TT, hTT⟩ : ∃ T, T = typedL (wordsOf site comp s false) (resT (wordsOf site comp s false).typ) := ⟨_, rfl⟩
 have HIU : Hid (pathKnown site comp s = true -> ∀ wx, Below w.heap.size w wx -> Calls Tryz.prog 41 #[.agg #[vl, vd, vf, vc], .string (B comp), .string (B s)] wx fun e w' => ∃ v, e = .returned v /\ ToldAtN wx.heap.size w' v TT /\ Below wx.heap.size wx w') := fun hk wx h => by
  obtain ⟨h1, h2, h3, h4, h5⟩ := pathKnown_site hk
  rw [hTT]
  exact by
   rw [<- typ_eq hk, <- typed_eq hk]
   exact c_implRes wx site comp s vl vd vf vc (hv.below h) (siteKnown_once h1) (by omega) h3
 have HSU : Hid (comp.length <= 2147483647 -> pathKnown site comp s = true -> ∀ wx, Below w.heap.size w wx -> Calls Tryz.prog 42 #[.agg #[vl, vd, vf, vc], .string (B comp), .string (B s)] wx fun e w' => ∃ v, e = .returned v /\ ToldAtN wx.heap.size w' v TT /\ Below wx.heap.size wx w') := fun hc hk wx h => by
  obtain ⟨h1, h2, h3, h4, h5⟩ := pathKnown_site hk
  rw [hTT]
  exact c_specRes site comp s vl vd vf vc wx (hv.below h) hc (by omega)
 clear hTT
 obtain ⟨obs, hobs⟩ : ∃ o : Obj, o = .cells #[vl, vd, vf, vc] 25 := ⟨_, rfl⟩
 have hB1 : Hid (Below w.heap.size w (w.alloc obs)) := Below_alloc w obs
 have hsb : Hid ((w.alloc obs).heap[w.heap.size]? = some (.cells #[vl, vd, vf, vc] 25)) := by show _ = _; rw [hobs]; exact blk_new w _
 have HV1 : Hid (SiteAt (w.alloc obs) vl vd vf vc site) := hv.alloc obs
 clear hv hcl hcd hcc
 cases h1 : siteFits site with
 | false =>
  rw [h1] at HZ
  go_enter Tryz.func14, Tryz.ntmps14
  go_wp2_with fail
  rw [<- hobs]
  generalize w.alloc obs = w1 at hB1 hsb HV1 |-
  refine (HZ.out _ HV1.out).mono ?_; rintro e w2 ⟨rfl, b2⟩
  have hB2 := Lib.hid (belowThen hB1.out b2 (Nat.le_refl _))
  go_wp2_with fail
  go_ret
  exact ⟨rfl, hB2.out⟩
 | true =>
 rw [h1] at HZ
 by_cases h2 : comp.length <= 2147483647
 rotate_left 1
 ·skip
  go_enter Tryz.func14, Tryz.ntmps14
  go_wp2_with fail
  rw [<- hobs]
  generalize w.alloc obs = w1 at hB1 hsb HV1 |-
  refine (HZ.out _ HV1.out).mono ?_; rintro e w2 ⟨rfl, b2⟩
  have hB2 := Lib.hid (belowThen hB1.out b2 (Nat.le_refl _))
  go_wp2_with fail
  go_ret
  exact ⟨rfl, hB2.out⟩
 by_cases h3 : s.length <= 2147483647
 rotate_left 1
 ·skip
  go_enter Tryz.func14, Tryz.ntmps14
  go_wp2_with fail
  rw [<- hobs]
  generalize w.alloc obs = w1 at hB1 hsb HV1 |-
  refine (HZ.out _ HV1.out).mono ?_; rintro e w2 ⟨rfl, b2⟩
  have hB2 := Lib.hid (belowThen hB1.out b2 (Nat.le_refl _))
  go_wp2_with fail
  go_ret
  exact ⟨rfl, hB2.out⟩
 go_enter Tryz.func14, Tryz.ntmps14
 go_wp2_with fail
 rw [<- hobs]
 generalize w.alloc obs = w1 at hB1 hsb HV1 |-
 refine (HZ.out _ HV1.out).mono ?_; rintro e w2 ⟨rfl, b2⟩
 have hB2 := Lib.hid (belowThen hB1.out b2 (Nat.le_refl _))
 have hsb2 := Lib.hid (blk_below hsb.out b2)
 have HV2 := Lib.hid (HV1.out.below b2)
 obtain ⟨k0, k1, k2, k3⟩ : w2.cell? ⟨w.heap.size, 0, none⟩ = some vl /\ w2.cell? ⟨w.heap.size, 1, none⟩ = some vd /\ w2.cell? ⟨w.heap.size, 2, none⟩ = some vf /\ w2.cell? ⟨w.heap.size, 3, none⟩ = some vc := ⟨cell_blk hsb2.out 0, cell_blk hsb2.out 1, cell_blk hsb2.out 2, cell_blk hsb2.out 3⟩
 clear b2 hsb HV1 hB1 HZ hobs
 go_wp2_with fail
 refine (HSH.out h1 h2 h3 _ HV2.out).mono ?_; rintro e w3 ⟨rfl, b3⟩
 have hB3 := Lib.hid (belowThen hB2.out b3 (Nat.le_refl _))
 have hsb3 := Lib.hid (blk_below hsb2.out b3)
 have HV3 := Lib.hid (HV2.out.below b3)
 clear k0 k1 k2 k3 b3 hsb2 HV2 HSH hB2
 obtain ⟨k0, k1, k2, k3⟩ : w3.cell? ⟨w.heap.size, 0, none⟩ = some vl /\ w3.cell? ⟨w.heap.size, 1, none⟩ = some vd /\ w3.cell? ⟨w.heap.size, 2, none⟩ = some vf /\ w3.cell? ⟨w.heap.size, 3, none⟩ = some vc := ⟨cell_blk hsb3.out 0, cell_blk hsb3.out 1, cell_blk hsb3.out 2, cell_blk hsb3.out 3⟩
 cases h4 : shortL site comp s with
 | false =>
  go_wp2_with fail
  go_ret
  exact ⟨rfl, hB3.out⟩
 | true =>
 go_wp2_with fail
 refine (HPK.out h1 h2 h3 _ HV3.out).mono ?_; rintro e w4 ⟨rfl, b4⟩
 have hB4 := Lib.hid (belowThen hB3.out b4 (Nat.le_refl _))
 have hsb4 := Lib.hid (blk_below hsb3.out b4)
 clear k0 k1 k2 k3 b4 hsb3 HV3 HPK hB3
 obtain ⟨k0, k1, k2, k3⟩ : w4.cell? ⟨w.heap.size, 0, none⟩ = some vl /\ w4.cell? ⟨w.heap.size, 1, none⟩ = some vd /\ w4.cell? ⟨w.heap.size, 2, none⟩ = some vf /\ w4.cell? ⟨w.heap.size, 3, none⟩ = some vc := ⟨cell_blk hsb4.out 0, cell_blk hsb4.out 1, cell_blk hsb4.out 2, cell_blk hsb4.out 3⟩
 cases h5 : pathKnown site comp s with
 | false =>
  go_wp2_with fail
  go_ret
  exact ⟨rfl, hB4.out⟩
 | true =>
 go_upto_region 5 with fail
 have hz4 : w.heap.size < w4.drew.heap.size := lt_of_block hsb4.out
 have hS0 : (w4.drew.cell? ⟨w.heap.size, 0, none⟩ = some vl /\ w4.drew.cell? ⟨w.heap.size, 1, none⟩ = some vd /\ w4.drew.cell? ⟨w.heap.size, 2, none⟩ = some vf /\ w4.drew.cell? ⟨w.heap.size, 3, none⟩ = some vc) /\ Below w.heap.size w w4.drew := ⟨⟨k0, k1, k2, k3⟩, hB4.out.trans ((Below_drewN (Below.refl _ _) 1).mono hB4.out.size)⟩
 refine wp_region_held (S := fun w' => (w'.cell? ⟨w.heap.size, 0, none⟩ = some vl /\ w'.cell? ⟨w.heap.size, 1, none⟩ = some vd /\ w'.cell? ⟨w.heap.size, 2, none⟩ = some vf /\ w'.cell? ⟨w.heap.size, 3, none⟩ = some vc) /\ Below w.heap.size w w') (by kernel_rfl) ?_
 change wpAnyH _ _ _ _ _ _ _ _ w4.drew
 clear k0 k1 k2 k3 hB4 hsb4
 generalize w4.drew = w5 at hS0 hz4 |-
 have HI2 := Lib.hid (HIU.out h5)
 have HS2 := Lib.hid (HSU.out h2 h5)
 clear HIU HSU h1 h2 h3 hc0 hs0 h4 h5
 refine wpAnyH_take (i := 0) (v := .agg #[vl, vd, vf, vc]) rfl (by kernel_rfl) (by kernel_rfl) (by kernel_rfl) (fun _ _ _ h => h) (Or.inl ⟨by rfl, fun w' hw' => by obtain ⟨⟨j0, j1, j2, j3⟩, -⟩ := hw'; go_simp⟩) hS0 ?_
 try simp only [List.getElem_toArray, List.getElem_cons_succ, List.getElem_cons_zero, Act.put, List.setIfInBounds_toArray, List.set_cons_zero, List.set_cons_succ]
 refine wpAnyH_take (i := 1) (v := .string (B comp)) rfl (by kernel_rfl) (by kernel_rfl) (by kernel_rfl) (fun _ _ _ h => h) (Or.inl ⟨by rfl, fun w' hw' => by go_simp⟩) hS0 ?_
 try simp only [List.getElem_toArray, List.getElem_cons_succ, List.getElem_cons_zero, Act.put, List.setIfInBounds_toArray, List.set_cons_zero, List.set_cons_succ]
 refine wpAnyH_take (i := 2) (v := .string (B s)) rfl (by kernel_rfl) (by kernel_rfl) (by kernel_rfl) (fun _ _ _ h => h) (Or.inl ⟨by rfl, fun w' hw' => by go_simp⟩) hS0 ?_
 try simp only [List.getElem_toArray, List.getElem_cons_succ, List.getElem_cons_zero, Act.put, List.setIfInBounds_toArray, List.set_cons_zero, List.set_cons_succ]
 refine wpAnyH_take (i := 4) (v := .agg #[vl, vd, vf, vc]) rfl (by kernel_rfl) (by kernel_rfl) (by kernel_rfl) (fun _ _ _ h => h) (Or.inl ⟨by rfl, fun w' hw' => by obtain ⟨⟨j0, j1, j2, j3⟩, -⟩ := hw'; go_simp⟩) hS0 ?_
 try simp only [List.getElem_toArray, List.getElem_cons_succ, List.getElem_cons_zero, Act.put, List.setIfInBounds_toArray, List.set_cons_zero, List.set_cons_succ]
 refine wpAnyH_take (i := 5) (v := .string (B comp)) rfl (by kernel_rfl) (by kernel_rfl) (by kernel_rfl) (fun _ _ _ h => h) (Or.inl ⟨by rfl, fun w' hw' => by go_simp⟩) hS0 ?_
 try simp only [List.getElem_toArray, List.getElem_cons_succ, List.getElem_cons_zero, Act.put, List.setIfInBounds_toArray, List.set_cons_zero, List.set_cons_succ]
 refine wpAnyH_take (i := 6) (v := .string (B s)) rfl (by kernel_rfl) (by kernel_rfl) (by kernel_rfl) (fun _ _ _ h => h) (Or.inl ⟨by rfl, fun w' hw' => by go_simp⟩) hS0 ?_
 try simp only [List.getElem_toArray, List.getElem_cons_succ, List.getElem_cons_zero, Act.put, List.setIfInBounds_toArray, List.set_cons_zero, List.set_cons_succ]
 change wpAnyH _ _ _ _ _ 6 (Two.l0 ⟨3, 7, 8, 9, #[true, true, true, false, true, true, true, false, false, false, false, false]⟩) _ _
 refine two_start ⟨3, 7, 8, 9, #[true, true, true, false, true, true, true, false, false, false, false, false]⟩ _ (some 37) (some 41) (some 7) (some 8) (fun r1 r2 b1 b2 w' => Asks w vl vd vf vc TT r1 r2 b1 b2 w') (by simp) (by simp) (by simp) (by simp) (by simp) (by simp) (by kernel_rfl) (fun _ _ _ _ _ g => g.st) ?hc1 ?hc2 ?ha1 ?ha2 ?hfin w5 ⟨hz4, hS0, fun v h => (by cases h), fun v h => (by cases h), fun v h => (by cases h), fun v h => (by cases h), fun v v' h => (by cases h)⟩
 case hc1 =>
  intro b1 b2 wx g
  refine wpOp_enter rfl rfl 41 #[.agg #[vl, vd, vf, vc], .string (B comp), .string (B s)] (run_call3 rfl ((eval_actT (by decide) (by decide) (by decide) (by decide)).trans rfl) ((eval_actT (by decide) (by decide) (by decide) (by decide)).trans rfl) ((eval_actT (by decide) (by decide) (by decide) (by decide)).trans rfl) (by kernel_rfl)) ?_
  refine (HI2.out _ g.st.2).mono ?_; rintro ex wy ⟨v, rfl, hT, by_⟩
  exact ⟨v, rfl, v, rfl, g.tell by_ (some v) none (fun v' e => by cases e; exact told_tells hT) (fun v' e => by cases e)⟩
 case hc2 =>
  intro v1 b1 b2 wx g
  refine wpOp_enter rfl rfl 42 #[.agg #[vl, vd, vf, vc], .string (B comp), .string (B s)] (run_call3 rfl ((eval_actT (by decide) (by decide) (by decide) (by decide)).trans rfl) ((eval_actT (by decide) (by decide) (by decide) (by decide)).trans rfl) ((eval_actT (by decide) (by decide) (by decide) (by decide)).trans rfl) (by kernel_rfl)) ?_
  refine (HS2.out _ g.st.2).mono ?_; rintro ex wy ⟨v, rfl, hT, by_⟩
  exact ⟨v, rfl, v, rfl, g.tell by_ (some v1) (some v) g.f1 (fun v' e => by cases e; exact told_tells hT)⟩
 case ha1 =>
  intro r1 r2 b2 wx g
  exact wpOp_run rfl rfl _ _ run_newTold ⟨_, rfl, g.new1⟩
 case ha2 =>
  intro r1 r2 b1 wx g
  exact wpOp_run rfl rfl _ _ run_newTold ⟨_, rfl, g.new2⟩
 case hfin =>
  intro v u b b' wx g
  obtain ⟨-, ⟨⟨k0, k1, k2, k3⟩, hB⟩, f1, f2, g1, g2, ne⟩ := g
  obtain ⟨a1, l1, c1, a2, l2, c2, a3, l3, c3, rfl⟩ := f1 v rfl
  obtain ⟨d1, m1, e1, d2, m2, e2, d3, m3, e3, rfl⟩ := f2 u rfl
  obtain ⟨p, rfl, hp, hpb⟩ := g1 b rfl
  obtain ⟨q, rfl, hq, hqb⟩ := g2 b' rfl
  have hpq : p ≠ q := fun e => ne _ _ rfl rfl (by rw [e])
  clear g1 g2 f1 f2 ne
  obtain ⟨cs, hcs, hsz, hone⟩ := told_cells TT a1 a2 a3 l1 l2 l3 c1 c2 c3
  obtain ⟨ds, hds, hdz, hdone⟩ := told_cells TT d1 d2 d3 m1 m2 m3 e1 e2 e3
  rw [hcs, hds]
  try simp only [List.getElem_toArray, List.getElem_cons_succ, List.getElem_cons_zero, Act.put, List.setIfInBounds_toArray, List.set_cons_zero, List.set_cons_succ]
  refine wpAnyH_all (rs := [10]) (by kernel_rfl) (by simp) ?_
  intro i hi
  obtain rfl := List.mem_singleton.1 hi
  have p1 := setRow_heap wx p _ cs _ _ hpb
  have p2 : (wx.setRow p cs).heap[q]? = _ := (setRow_other wx p q cs (by omega)).trans hqb
  have pb : Below w.heap.size w (wx.setRow p cs) := hB.trans ⟨rfl, rfl, rfl, by simp, fun k hk => setRow_other _ _ _ _ (by omega)⟩
  have pk : ∀ o, (wx.setRow p cs).cell? ⟨w.heap.size, o, none⟩ = wx.cell? ⟨w.heap.size, o, none⟩ := fun o => by unfold World.cell?; rw [setRow_other wx p w.heap.size cs (by omega)]
  have hS1 : ((wx.setRow p cs).cell? ⟨w.heap.size, 0, none⟩ = some vl /\ (wx.setRow p cs).cell? ⟨w.heap.size, 1, none⟩ = some vd /\ (wx.setRow p cs).cell? ⟨w.heap.size, 2, none⟩ = some vf /\ (wx.setRow p cs).cell? ⟨w.heap.size, 3, none⟩ = some vc) /\ Below w.heap.size w (wx.setRow p cs) := ⟨⟨(pk 0).trans k0, (pk 1).trans k1, (pk 2).trans k2, (pk 3).trans k3⟩, pb⟩
  refine wpOp_storeRow rfl rfl 28 (.tmp 7) (.tmp 37) rfl rfl p cs rfl rfl 28 _ hpb (by rw [hsz]; kernel_rfl) (by rw [hsz]; rfl) hone ⟨hS1, ?_⟩
  clear k0 k1 k2 k3 pk hpb hqb hB
  generalize wx.setRow p cs = wy at p1 p2 pb hS1 |-
  obtain ⟨⟨k0, k1, k2, k3⟩, -⟩ := hS1
  refine wpAnyH_all (rs := [11]) (by kernel_rfl) (by simp) ?_
  intro i hi
  obtain rfl := List.mem_singleton.1 hi
  have q1 : (wy.setRow q ds).heap[p]? = _ := (setRow_other wy q p ds (by omega)).trans p1
  have q2 := setRow_heap wy q _ ds _ _ p2
  have qb : Below w.heap.size w (wy.setRow q ds) := pb.trans ⟨rfl, rfl, rfl, by simp, fun k hk => setRow_other _ _ _ _ (by omega)⟩
  have pk : ∀ o, (wy.setRow q ds).cell? ⟨w.heap.size, o, none⟩ = wy.cell? ⟨w.heap.size, o, none⟩ := fun o => by unfold World.cell?; rw [setRow_other wy q w.heap.size ds (by omega)]
  have hS2 : ((wy.setRow q ds).cell? ⟨w.heap.size, 0, none⟩ = some vl /\ (wy.setRow q ds).cell? ⟨w.heap.size, 1, none⟩ = some vd /\ (wy.setRow q ds).cell? ⟨w.heap.size, 2, none⟩ = some vf /\ (wy.setRow q ds).cell? ⟨w.heap.size, 3, none⟩ = some vc) /\ Below w.heap.size w (wy.setRow q ds) := ⟨⟨(pk 0).trans k0, (pk 1).trans k1, (pk 2).trans k2, (pk 3).trans k3⟩, qb⟩
  refine wpOp_storeRow rfl rfl 28 (.tmp 8) (.tmp 41) rfl rfl q ds rfl rfl 28 _ p2 (by rw [hdz]; kernel_rfl) (by rw [hdz]; rfl) hdone ⟨hS2, ?_⟩
  clear k0 k1 k2 k3 pk p1 p2 pb hS2
  generalize wy.setRow q ds = wf at q1 q2 qb |-
  try simp only [List.getElem_toArray, List.getElem_cons_succ, List.getElem_cons_zero, Act.put, List.setIfInBounds_toArray, List.set_cons_zero, List.set_cons_succ]
  refine wpAnyH_done (by kernel_rfl) ?_ _
  have hr1 : Hid (wf.rangeAt p 0 cs.toList) := by
   intro j v hj
   rw [Nat.zero_add, cell_blk q1, <- hj, Array.getElem?_toList]
  have hr2 : Hid (wf.rangeAt q 0 ds.toList) := by
   intro j v hj
   rw [Nat.zero_add, cell_blk q2, <- hj, Array.getElem?_toList]
  have hcl : Hid (cs.toList.length = 31) := by show _ = _; rw [Array.length_toList]; exact hsz
  have hdl : Hid (ds.toList.length = 31) := by show _ = _; rw [Array.length_toList]; exact hdz
  have hcs2 : Hid (Value.agg cs.toList.toArray = toldVal TT (.slice a1 l1 c1) (.slice a2 l2 c2) (.slice a3 l3 c3)) := hcs.symm
  have hds2 : Hid (Value.agg ds.toList.toArray = toldVal TT (.slice d1 m1 e1) (.slice d2 m2 e2) (.slice d3 m3 e3)) := hds.symm
  have hbel := Lib.hid qb
  clear q1 q2 qb hcs hds hsz hdz hone hdone hpq hp hq
  generalize cs.toList = cl at hr1 hcl hcs2
  generalize ds.toList = dl at hr2 hdl hds2
  go_wp2_with (refine wpList_load_mid rfl 28 (.tmp 7) rfl p 0 rfl cl _ hr1.out Tryz.underlying28 rfl (by rw [hcl.out]; kernel_rfl) (Hid.out ?_))
  refine Lib.hid ?_
  go_wp2_with (refine wpList_load_mid rfl 28 (.tmp 8) rfl q 0 rfl dl _ hr2.out Tryz.underlying28 rfl (by rw [hdl.out]; kernel_rfl) (Hid.out ?_))
  refine Lib.hid ?_
  go_wp2_with fail
  rw [hcs2.out, hds2.out]
  refine (c_sorts TT _ _ _ _ _ _ wf).mono ?_; rintro ex wg ⟨rfl, bg⟩
  have hbel2 := Lib.hid (belowThen hbel.out bg (Nat.le_refl _))
  go_wp2_with fail
  go_ret
  exact ⟨rfl, hbel2.out⟩

end Go.Proofs.YtcmiiboioemelaaGreatDoor

namespace Go.Proofs.YtcmiiboioemelaaGreatDoor
open Go.ChangeShapes Go.WideShapes Go.ChangeAt Go.RowKit
open Go.ChangeMaps (open_string shut_string)

theorem own : ownKnob Tryz.prog.godebug = none := by kernel_rfl
theorem laidOut : laidOutB Tryz.prog = true := by kernel_rfl
theorem siteReads : Tryz.prog.readableRec 25 = true := by kernel_rfl
theorem siteRow : 25 < Tryz.prog.types.size := of_decide_eq_true (by kernel_rfl)

def laidAll' : List (String × DataW Unit) := Rows.fnResourceSortsRow.laid

set_option maxRecDepth 100000 in
theorem lifted1 (os : Os) (started : os.Started) (H : Type) (enc : TypeId × Value -> H) :
  ReturnsInHanded {} Tryz.checked os 14 .any (fun w args => (Rows.fnResourceSortsSpec.pre enc Tryz.prog Tryz.f14 Rows.fnResourceSortsRow.domain false w args /\ laidMetH Tryz.prog laidAll' w) /\ sizedMet enc Tryz.prog Tryz.f14 (OpenSpec.ofChange Rows.fnResourceSortsSpec) false w args)
   (Rows.fnResourceSortsSpec.post enc Tryz.prog Tryz.f14 false true false false) := by
 refine returnsInHanded_of_change_and (C := Tryz.checked) (X := fun w _ => laidMetH Tryz.prog laidAll' w) (fun _ _ _ hh h => h.of_heap hh) own started (by kernel_rfl) Tryz.func14
  (ChangeSpec.witness_shaped (enc := enc) (C := Tryz.checked) (os := os) (X := fun w _ => laidMetH Tryz.prog laidAll' w) false (World.laidAll Tryz.prog os laidAll') #[.agg #[.slice none 0 0, .slice none 0 0, .slice none 0 0, .slice none 0 0], .string ByteArray.empty, .string ByteArray.empty] 8 (World.laidAll_os _ _ _)
   (World.shaped_of_ZipB (by kernel_rfl) (by kernel_rfl)) (by kernel_rfl) (by kernel_rfl) (by kernel_rfl)
   (by rw [MakeChecks.laidMetH_plain _ _ _ (by kernel_rfl)]; exact laidMet_laidAll _ (by kernel_rfl) (by kernel_rfl))) ?_
 intro W base args ds gs before hval0 hW hc hsz0 _ _
 have hsz : (DataW.weightsEach Tryz.prog (Tryz.f14.params.toList ++ Rows.fnResourceSortsSpec.plain.varTypes Tryz.prog) (ds ++ gs)).all (· <= reachBytes) = true := hsz0
 have hval : ∀ (j : Nat) t v, Tryz.f14.params[j]? = some t -> args[j]? = some v -> Value.okWide Tryz.prog W .any base t v := hval0
 have hW' := hW
 obtain ⟨p, q, hA0, hV, rfl, _, _⟩ := hW
 have hA : DataW.TrodAll enc Tryz.prog W 0 (fun _ => true) true Tryz.f14.params.toList args.toList ds p := hA0
 rw [Tryz.params14] at hA hval hsz
 obtain ⟨v0, v1, v2, d0, d1, d2, p0, p1, p2, rfl, rfl, rfl, h0, h1, h2⟩ := trodAll_three hA
 obtain ⟨rfl, rfl⟩ := trodVars_none hV
 obtain ⟨a1, rfl, rfl, rfl, y1⟩ := open_string Tryz.underlying9 (hval 1 9 v1 rfl rfl) h1
 obtain ⟨a2, rfl, rfl, rfl, y2⟩ := open_string Tryz.underlying9 (hval 2 9 v2 rfl rfl) h2
 have w1 : a1.size <= 140737488351232 := by
  have z := sized_string hsz (j := 1) (t := 9) rfl rfl
  rw [Array.length_toList] at z
  exact z
 have w2 : a2.size <= 140737488351232 := by
  have z := sized_string hsz (j := 2) (t := 9) rfl rfl
  rw [Array.length_toList] at z
  exact z
 have w0 : ∀ n ∈ d0.weights Tryz.prog 25, n <= reachBytes := fun n hn => by
  have := List.all_eq_true.1 hsz n (DataW.weights_mem_each (j := 0) (t := 25) rfl rfl n hn)
  simpa using this
 obtain ⟨vl, vd, vf, vc, site, rfl, hs, cl, cd, cc⟩ := open_site h0 (hval 0 25 v0 rfl rfl) w0
 have hlt : ∀ x ∈ p0, x.block < W.heap.size := fun x hx => hW'.lt x (by simp [hx])
 obtain ⟨l1, rfl⟩ := B_surj a1
 obtain ⟨l2, rfl⟩ := B_surj a2
 rw [B_size] at w1 w2
 refine (w_FnResourceSorts site l1 l2 vl vd vf vc W hs cl cd cc w1 w2).mono fun e W' ⟨he, bel⟩ => ?_
 subst he
 refine ⟨_, rfl, _, _, _, [], _, [], hW', trodAll_mk1 (shut_bool Tryz.underlying4 _), trodAll_mk3 (Below.trod laidOut siteReads siteRow h0 bel hlt) (shut_string Tryz.underlying9 y1) (shut_string Tryz.underlying9 y2), rfl, bel.frame _, fun h => by cases h⟩

theorem over1 : Rows.FnResourceSortsSaid :=
 OpenClaim.holds_of_wide 14 Tryz.f14 rfl rfl rfl rfl rfl rfl rfl ⟨rfl, rfl, rfl, rfl, rfl⟩ rfl rfl rfl rfl rfl (by kernel_rfl) Tryz.func14 (by kernel_rfl)
  (of_decide_eq_true (by kernel_rfl)) (by unfold Func.isWrapper; first | (rw [if_pos (by decide +kernel)]; kernel_rfl) | (rw [if_neg (by decide +kernel)]; exact ⟨rfl, rfl⟩))
  (fun os started H enc _ => lifted1 os started H enc)

theorem fnResourceSorts_holds : Rows.FnResourceSortsCardSaid :=
 Claim7.holds_tied_plain_at .later [] [.data, .pinned, .pinned] true Rows.fnResourceSortsCard.stood.harness false over1 (fun _ h => by cases h) (by kernel_rfl) (fun _ h => by cases h) fnResourceSorts_row_tie rfl ⟨rfl, rfl⟩ (by kernel_rfl) rfl
  (fun f fn hf hfn => by
   obtain rfl : f = 14 := Option.some.inj ((show Tryz.prog.funcNamed Rows.fnResourceSortsRow.func = some 14 by kernel_rfl).symm.trans hf) |>.symm
   obtain rfl : fn = Tryz.f14 := (Option.some.inj (Tryz.func14.symm.trans hfn)).symm
   exact ⟨by kernel_rfl, fun j t ht => by
    rw [Tryz.params14] at ht
    have hm : t ∈ [25, 9, 9] := by simpa using Array.mem_of_getElem? ht
    have hall : ([25, 9].all fun u => !Tryz.prog.wantsStandIn u) = true := by kernel_rfl
    exact (show Tryz.prog.wantsStandIn t = false by simpa using List.all_eq_true.1 hall t (by simp at hm |-; exact hm))⟩)
  (by kernel_rfl)
#print axioms fnResourceSorts_holds
end Go.Proofs.YtcmiiboioemelaaGreatDoor
