/- The laws' comparison alike, walked at two answers that read alike: it is true where the path is not empty. Conditions: lists in memory. Printed by gen_alike.py. -/
import Derived.Test.YtfekhbnefogkdaaGreatDoorHelpM
import Derived.Test.YtfekhbnefogkdaaGreatDoorParse
import Derived.Deep.RegionHeld3
set_option maxRecDepth 100000
set_option linter.unusedVariables false
set_option linter.unusedSimpArgs false
namespace Go.Proofs.YtfekhbnefogkdaaGreatDoor
open Go.RowKit
attribute [local go_sem] B_extract B_toList B_append

theorem StrsAt.drewN {w : World} {v : Value} {l : List Str} (h : StrsAt w v l) (n : Nat) : StrsAt (w.drewN n) v l := h

set_option maxHeartbeats 16000000 in
theorem c_alike (T : ToldM) (hp : (T.path == []) = false) (vl vi vu vl' vi' vu' : Value) (w : World) (h1 : StrsAt w vl T.langs) (h2 : StrsAt w vi T.ids) (h3 : StrsAt w vu T.unknown) (g1 : StrsAt w vl' T.langs) (g2 : StrsAt w vi' T.ids) (g3 : StrsAt w vu' T.unknown) :
  Calls Tryz.prog 13 #[toldVal T vl vi vu, toldVal T vl' vi' vu'] w fun e w' => e = .returned (.bool true) /\ Below w.heap.size w w' := by
 obtain ⟨a1, l1, c1, rfl⟩ := h1.slice
 obtain ⟨a2, l2, c2, rfl⟩ := h2.slice
 obtain ⟨a3, l3, c3, rfl⟩ := h3.slice
 obtain ⟨b1, m1, d1, rfl⟩ := g1.slice
 obtain ⟨b2, m2, d2, rfl⟩ := g2.slice
 obtain ⟨b3, m3, d3, rfl⟩ := g3.slice
 obtain ⟨ca, hca, hsa, hoa⟩ := told_cells T a1 a2 a3 l1 l2 l3 c1 c2 c3
 obtain ⟨cb, hcb, hsb, hob⟩ := told_cells T b1 b2 b3 m1 m2 m3 d1 d2 d3
 obtain ⟨la, rfl⟩ : ∃ la : List Value, ca = la.toArray := ⟨ca.toList, by simp⟩
 obtain ⟨lb, rfl⟩ : ∃ lb : List Value, cb = lb.toArray := ⟨cb.toList, by simp⟩
 replace hsa := Lib.hid hsa
 replace hsb := Lib.hid hsb
 replace hoa := Lib.hid hoa
 replace hob := Lib.hid hob
 have HNM : Hid (∀ wx, Calls Tryz.prog 36 #[.agg la.toArray, .agg lb.toArray] wx fun e w' => e = .returned (.bool true) /\ Below wx.heap.size wx w') := fun wx => by rw [<- hca, <- hcb]; exact c_names T _ _ _ _ _ _ wx
 have HWD : Hid (∀ wx, Calls Tryz.prog 17 #[.agg la.toArray, .agg lb.toArray] wx fun e w' => e = .returned (.bool true) /\ Below wx.heap.size wx w') := fun wx => by rw [<- hca, <- hcb]; exact c_words T _ _ _ _ _ _ wx
 have HSO : Hid (∀ wx, Calls Tryz.prog 37 #[.agg la.toArray, .agg lb.toArray] wx fun e w' => e = .returned (.bool true) /\ Below wx.heap.size wx w') := fun wx => by rw [<- hca, <- hcb]; exact c_sorts T _ _ _ _ _ _ wx
 have hp2 : (T.path != []) = true := by unfold bne; rw [hp]; rfl
 have hp3 : T.path.isEmpty = false := by rw [beq_eq_false_iff_ne] at hp; exact List.isEmpty_eq_false_iff.2 hp
 clear hp hp2
 replace hca := Lib.hid hca
 replace hcb := Lib.hid hcb
 unfold toldVal
 go_enter Tryz.func13, Tryz.ntmps13
 go_upto_region 1 with fail
 generalize hw1 : (w.alloc _).alloc _ = w1
 have hA : w1.heap[w.heap.size]? = some (.cells la.toArray 28) := by rw [<- hw1, <- Value.agg.inj hca.out]; exact blk_old _ _ (blk_new w _)
 have hB : w1.heap[w.heap.size + 1]? = some (.cells lb.toArray 28) := by rw [<- hw1, <- Value.agg.inj hcb.out]; exact blk_snd _ _ _
 have hB1 : Below w.heap.size w w1 := by rw [<- hw1]; exact (Below_alloc w _).trans ((Below_alloc (w.alloc _) _).mono (by simp))
 clear hw1
 have cx : ∀ k v, la.toArray[k]? = some v -> ∀ wx, Below w1.heap.size w1 wx -> wx.cell? ⟨w.heap.size, k, none⟩ = some v := fun k v e wx b => by rw [cell_blk (blk_below hA b), e]
 have cy : ∀ k v, lb.toArray[k]? = some v -> ∀ wx, Below w1.heap.size w1 wx -> wx.cell? ⟨w.heap.size + 1, k, none⟩ = some v := fun k v e wx b => by rw [cell_blk (blk_below hB b), e]
 have hd : Below w1.heap.size w1 w1.drew := Below_drewN (Below.refl _ _) 1
 have h1 := h1.below hB1
 have h2 := h2.below hB1
 have h3 := h3.below hB1
 have g1 := g1.below hB1
 have g2 := g2.below hB1
 have g3 := g3.below hB1
 have q9 : la.toArray[9]? = some (.string (B T.path)) := by rw [<- Value.agg.inj hca.out]; rfl
 have q1 : la.toArray[21]? = some (.slice a1 l1 c1) := by rw [<- Value.agg.inj hca.out]; rfl
 have q2 : la.toArray[22]? = some (.slice a2 l2 c2) := by rw [<- Value.agg.inj hca.out]; rfl
 have q3 : la.toArray[23]? = some (.slice a3 l3 c3) := by rw [<- Value.agg.inj hca.out]; rfl
 have r1 : lb.toArray[21]? = some (.slice b1 m1 d1) := by rw [<- Value.agg.inj hcb.out]; rfl
 have r2 : lb.toArray[22]? = some (.slice b2 m2 d2) := by rw [<- Value.agg.inj hcb.out]; rfl
 have r3 : lb.toArray[23]? = some (.slice b3 m3 d3) := by rw [<- Value.agg.inj hcb.out]; rfl
 clear hca hcb
 refine wp_region_held (S := fun w' => Below w1.heap.size w1 w') (by kernel_rfl) ?_
 change wpAnyH _ _ _ _ _ _ _ _ w1.drew
 generalize w1.drew = wd at hd |-
 refine wpAnyH_take (i := 0) (v := .agg la.toArray) rfl (by kernel_rfl) (by kernel_rfl) (by kernel_rfl) (fun _ _ _ h => h) (yieldsIf_load_mid (by rfl) 28 (.tmp 2) rfl w.heap.size 0 rfl la _ (fun w' hw' => range_blk (blk_below hA hw')) Tryz.underlying28 rfl (by rw [show la.length = 31 from hsa.out]; kernel_rfl)) hd ?_
 refine wpAnyH_take (i := 1) (v := .agg lb.toArray) rfl (by kernel_rfl) (by kernel_rfl) (by kernel_rfl) (fun _ _ _ h => h) (yieldsIf_load_mid (by rfl) 28 (.tmp 3) rfl (w.heap.size + 1) 0 rfl lb _ (fun w' hw' => range_blk (blk_below hB hw')) Tryz.underlying28 rfl (by rw [show lb.length = 31 from hsb.out]; kernel_rfl)) hd ?_
 try simp only [Act.put, List.setIfInBounds_toArray, List.set_cons_zero, List.set_cons_succ]
 have hlt : w.heap.size + 1 < wd.heap.size := Nat.lt_of_lt_of_le (lt_of_block hB) hd.size
 refine wpAnyH_all (rs := [2, 3]) (by kernel_rfl) (by simp) ?_
 intro i hi
 rcases List.mem_cons.1 hi with rfl | hi
 ·skip
  refine wpOp_step rfl (fun K hK => ?_)
  go_simp
  refine hK _ _ ⟨hd.alloc hd.size _, ?_⟩
  clear hK K
  try simp only [Act.put, List.setIfInBounds_toArray, List.set_cons_zero, List.set_cons_succ]
  refine wpAnyH_all (rs := [3]) (by kernel_rfl) (by simp) ?_
  intro i hi
  obtain rfl := List.mem_singleton.1 hi
  refine wpOp_step rfl (fun K hK => ?_)
  go_simp
  generalize hw2 : (wd.alloc _).alloc _ = w2
  have hb2 : Below w1.heap.size w1 w2 := by rw [<- hw2]; exact (hd.alloc hd.size _).trans ((Below_alloc (wd.alloc _) _).mono (by have := hd.size; simp; try omega))
  have hP : w2.heap[wd.heap.size]? = some (.cells (#[.string (B []), .string (B []), .string (B []), .string (B []), .string (B []), .string (B []), .string (B []), .string (B []), .string (B []), .string (B []), .string (B []), .string (B []), .string (B []), .string (B []), .string (B []), .string (B []), .string (B []), .string (B []), .string (B []), .string (B []), .string (B []), .slice none 0 0, .slice none 0 0, .slice none 0 0, .bool false, .bool false, .bool false, .bool false, .bool false, .bool false, .int .i64 0]) 28) := by rw [<- hw2]; exact blk_old _ _ (blk_new _ _)
  have hQ : w2.heap[wd.heap.size + 1]? = some (.cells (#[.string (B []), .string (B []), .string (B []), .string (B []), .string (B []), .string (B []), .string (B []), .string (B []), .string (B []), .string (B []), .string (B []), .string (B []), .string (B []), .string (B []), .string (B []), .string (B []), .string (B []), .string (B []), .string (B []), .string (B []), .string (B []), .slice none 0 0, .slice none 0 0, .slice none 0 0, .bool false, .bool false, .bool false, .bool false, .bool false, .bool false, .int .i64 0]) 28) := by rw [<- hw2]; exact blk_snd _ _ _
  have hne : wd.heap.size ≠ wd.heap.size + 1 := by omega
  have hpl : w.heap.size + 1 < wd.heap.size := by omega
  have hql : w.heap.size + 1 < wd.heap.size + 1 := by omega
  have hpb : w1.heap.size <= wd.heap.size := by have := hd.size; omega
  have hqb : w1.heap.size <= wd.heap.size + 1 := by have := hd.size; omega
  refine hK _ _ ⟨hb2, ?_⟩
  clear hw2 hK K
  try simp only [Act.put, List.setIfInBounds_toArray, List.set_cons_zero, List.set_cons_succ]
  generalize wd.heap.size + 1 = q at hP hQ hne hpl hql hpb hqb |-
  generalize wd.heap.size = p at hP hQ hne hpl hql hpb hqb |-
  refine wpAnyH_all (rs := [4]) (by kernel_rfl) (by simp) ?_
  intro i hi
  obtain rfl := List.mem_singleton.1 hi
  refine wpOp_step rfl (fun K hK => ?_)
  rw [if_pos (by rfl)]
  have hP2 := setRow_heap w2 p _ la.toArray _ _ hP
  have hQ2 : (w2.setRow p la.toArray).heap[q]? = _ := (setRow_other w2 p q la.toArray (by omega)).trans hQ
  have hb3 : Below w1.heap.size w1 (w2.setRow p la.toArray) := hb2.trans ⟨rfl, rfl, rfl, by simp, fun k hk => setRow_other _ _ _ _ (by omega)⟩
  refine wp_store_row 28 (.tmp 5) (.tmp 7) rfl p la.toArray rfl rfl 28 _ hP (by rw [hsa.out]; kernel_rfl) (by rw [hsa.out]; rfl) hoa.out (hK _ _ ⟨hb3, ?_⟩)
  clear hK K hP hQ hb2
  generalize w2.setRow p la.toArray = w3 at hP2 hQ2 hb3 |-
  try simp only [Act.put, List.setIfInBounds_toArray, List.set_cons_zero, List.set_cons_succ]
  refine wpAnyH_all (rs := [5]) (by kernel_rfl) (by simp) ?_
  intro i hi
  obtain rfl := List.mem_singleton.1 hi
  refine wpOp_step rfl (fun K hK => ?_)
  rw [if_pos (by rfl)]
  have hP3 : (w3.setRow q lb.toArray).heap[p]? = _ := (setRow_other w3 q p lb.toArray (by omega)).trans hP2
  have hQ3 := setRow_heap w3 q _ lb.toArray _ _ hQ2
  have hb4 : Below w1.heap.size w1 (w3.setRow q lb.toArray) := hb3.trans ⟨rfl, rfl, rfl, by simp, fun k hk => setRow_other _ _ _ _ (by omega)⟩
  refine wp_store_row 28 (.tmp 6) (.tmp 8) rfl q lb.toArray rfl rfl 28 _ hQ2 (by rw [hsb.out]; kernel_rfl) (by rw [hsb.out]; rfl) hob.out (hK _ _ ⟨hb4, ?_⟩)
  clear hK K hP2 hQ2 hb3
  generalize w3.setRow q lb.toArray = w4 at hP3 hQ3 hb4 |-
  try simp only [Act.put, List.setIfInBounds_toArray, List.set_cons_zero, List.set_cons_succ]
  refine wpAnyH_done (by kernel_rfl) ?_ _
  have hB4 := Lib.hid (belowThen hB1 hb4 (by omega))
  have t1 := Lib.hid (h1.below hb4)
  have t2 := Lib.hid (h2.below hb4)
  have t3 := Lib.hid (h3.below hb4)
  have u1 := Lib.hid (g1.below hb4)
  have u2 := Lib.hid (g2.below hb4)
  have u3 := Lib.hid (g3.below hb4)
  have x9 := cx 9 _ q9 w4 hb4
  have x1 := cx 21 _ q1 w4 hb4
  have x2 := cx 22 _ q2 w4 hb4
  have x3 := cx 23 _ q3 w4 hb4
  have y1 := cy 21 _ r1 w4 hb4
  have y2 := cy 22 _ r2 w4 hb4
  have y3 := cy 23 _ r3 w4 hb4
  replace hP3 := Lib.hid hP3
  replace hQ3 := Lib.hid hQ3
  clear cx cy q9 q1 q2 q3 r1 r2 r3 h1 h2 h3 g1 g2 g3 hA hB hB1 hb4 hd hpl hql hpb hqb hne
  go_wp2_with fail
  refine (c_texts T.langs _ _ _ t1.out u1.out).mono ?_; rintro e w5 ⟨rfl, n5, rfl⟩
  go_wp2_with fail
  refine (c_texts T.ids _ _ _ (t2.out.drewN n5) (u2.out.drewN n5)).mono ?_; rintro e w6 ⟨rfl, n6, rfl⟩
  go_wp2_with fail
  refine (c_texts T.unknown _ _ _ (t3.out.drewN (n5 + n6)) (u3.out.drewN (n5 + n6))).mono ?_; rintro e w7 ⟨rfl, n7, rfl⟩
  have hP7 : Hid (((w4.drewN (n5 + n6)).drewN n7).heap[p]? = some (.cells la.toArray 28)) := hP3.out
  have hQ7 : Hid (((w4.drewN (n5 + n6)).drewN n7).heap[q]? = some (.cells lb.toArray 28)) := hQ3.out
  have hB7 : Hid (Below w.heap.size w ((w4.drewN (n5 + n6)).drewN n7)) := Below_drewN (Below_drewN hB4.out (n5 + n6)) n7
  have x97 : ((w4.drewN (n5 + n6)).drewN n7).cell? ⟨w.heap.size, 9, none⟩ = some (.string (B T.path)) := x9
  clear x9 hP3 hQ3 hB4 t1 t2 t3 u1 u2 u3 x1 x2 x3 y1 y2 y3
  generalize (w4.drewN (n5 + n6)).drewN n7 = w7 at hP7 hQ7 hB7 x97 |-
  go_wp2_with (refine wpList_load_g (by rfl) 28 (.tmp 5) rfl p 0 rfl la _ (range_blk hP7.out) Tryz.underlying28 rfl (by rw [show la.length = 31 from hsa.out]; kernel_rfl) (Hid.out ?_))
  refine Lib.hid ?_
  go_wp2_with (refine wpList_load_g (by rfl) 28 (.tmp 6) rfl q 0 rfl lb _ (range_blk hQ7.out) Tryz.underlying28 rfl (by rw [show lb.length = 31 from hsb.out]; kernel_rfl) (Hid.out ?_))
  refine Lib.hid ?_
  go_wp2_with fail
  refine (HNM.out _).mono ?_; rintro e w8 ⟨rfl, b8⟩
  have hP8 := Lib.hid (blk_below hP7.out b8)
  have hQ8 := Lib.hid (blk_below hQ7.out b8)
  have hB8 := Lib.hid (belowThen hB7.out b8 (Nat.le_refl _))
  clear hP7 hQ7 hB7 b8 x97
  go_wp2_with (refine wpList_load_g (by rfl) 28 (.tmp 5) rfl p 0 rfl la _ (range_blk hP8.out) Tryz.underlying28 rfl (by rw [show la.length = 31 from hsa.out]; kernel_rfl) (Hid.out ?_))
  refine Lib.hid ?_
  go_wp2_with (refine wpList_load_g (by rfl) 28 (.tmp 6) rfl q 0 rfl lb _ (range_blk hQ8.out) Tryz.underlying28 rfl (by rw [show lb.length = 31 from hsb.out]; kernel_rfl) (Hid.out ?_))
  refine Lib.hid ?_
  go_wp2_with fail
  refine (HWD.out _).mono ?_; rintro e w9 ⟨rfl, b9⟩
  have hP9 := Lib.hid (blk_below hP8.out b9)
  have hQ9 := Lib.hid (blk_below hQ8.out b9)
  have hB9 := Lib.hid (belowThen hB8.out b9 (Nat.le_refl _))
  clear hP8 hQ8 hB8 b9
  go_wp2_with (refine wpList_load_g (by rfl) 28 (.tmp 5) rfl p 0 rfl la _ (range_blk hP9.out) Tryz.underlying28 rfl (by rw [show la.length = 31 from hsa.out]; kernel_rfl) (Hid.out ?_))
  refine Lib.hid ?_
  go_wp2_with (refine wpList_load_g (by rfl) 28 (.tmp 6) rfl q 0 rfl lb _ (range_blk hQ9.out) Tryz.underlying28 rfl (by rw [show lb.length = 31 from hsb.out]; kernel_rfl) (Hid.out ?_))
  refine Lib.hid ?_
  go_wp2_with fail
  refine (HSO.out _).mono ?_; rintro e w10 ⟨rfl, b10⟩
  have hP10 := Lib.hid (blk_below hP9.out b10)
  have hQ10 := Lib.hid (blk_below hQ9.out b10)
  have hB10 := Lib.hid (belowThen hB9.out b10 (Nat.le_refl _))
  clear hP9 hQ9 hB9 b10
  go_wp2_with fail
  go_ret
  exact ⟨rfl, hB10.out⟩
 ·obtain rfl := List.mem_singleton.1 hi
  refine wpOp_step rfl (fun K hK => ?_)
  go_simp
  refine hK _ _ ⟨hd.alloc hd.size _, ?_⟩
  clear hK K
  try simp only [Act.put, List.setIfInBounds_toArray, List.set_cons_zero, List.set_cons_succ]
  refine wpAnyH_all (rs := [2]) (by kernel_rfl) (by simp) ?_
  intro i hi
  obtain rfl := List.mem_singleton.1 hi
  refine wpOp_step rfl (fun K hK => ?_)
  go_simp
  generalize hw2 : (wd.alloc _).alloc _ = w2
  have hb2 : Below w1.heap.size w1 w2 := by rw [<- hw2]; exact (hd.alloc hd.size _).trans ((Below_alloc (wd.alloc _) _).mono (by have := hd.size; simp; try omega))
  have hP : w2.heap[wd.heap.size + 1]? = some (.cells (#[.string (B []), .string (B []), .string (B []), .string (B []), .string (B []), .string (B []), .string (B []), .string (B []), .string (B []), .string (B []), .string (B []), .string (B []), .string (B []), .string (B []), .string (B []), .string (B []), .string (B []), .string (B []), .string (B []), .string (B []), .string (B []), .slice none 0 0, .slice none 0 0, .slice none 0 0, .bool false, .bool false, .bool false, .bool false, .bool false, .bool false, .int .i64 0]) 28) := by rw [<- hw2]; exact blk_snd _ _ _
  have hQ : w2.heap[wd.heap.size]? = some (.cells (#[.string (B []), .string (B []), .string (B []), .string (B []), .string (B []), .string (B []), .string (B []), .string (B []), .string (B []), .string (B []), .string (B []), .string (B []), .string (B []), .string (B []), .string (B []), .string (B []), .string (B []), .string (B []), .string (B []), .string (B []), .string (B []), .slice none 0 0, .slice none 0 0, .slice none 0 0, .bool false, .bool false, .bool false, .bool false, .bool false, .bool false, .int .i64 0]) 28) := by rw [<- hw2]; exact blk_old _ _ (blk_new _ _)
  have hne : wd.heap.size + 1 ≠ wd.heap.size := by omega
  have hpl : w.heap.size + 1 < wd.heap.size + 1 := by omega
  have hql : w.heap.size + 1 < wd.heap.size := by omega
  have hpb : w1.heap.size <= wd.heap.size + 1 := by have := hd.size; omega
  have hqb : w1.heap.size <= wd.heap.size := by have := hd.size; omega
  refine hK _ _ ⟨hb2, ?_⟩
  clear hw2 hK K
  try simp only [Act.put, List.setIfInBounds_toArray, List.set_cons_zero, List.set_cons_succ]
  generalize wd.heap.size + 1 = p at hP hQ hne hpl hql hpb hqb |-
  generalize wd.heap.size = q at hP hQ hne hpl hql hpb hqb |-
  refine wpAnyH_all (rs := [4]) (by kernel_rfl) (by simp) ?_
  intro i hi
  obtain rfl := List.mem_singleton.1 hi
  refine wpOp_step rfl (fun K hK => ?_)
  rw [if_pos (by rfl)]
  have hP2 := setRow_heap w2 p _ la.toArray _ _ hP
  have hQ2 : (w2.setRow p la.toArray).heap[q]? = _ := (setRow_other w2 p q la.toArray (by omega)).trans hQ
  have hb3 : Below w1.heap.size w1 (w2.setRow p la.toArray) := hb2.trans ⟨rfl, rfl, rfl, by simp, fun k hk => setRow_other _ _ _ _ (by omega)⟩
  refine wp_store_row 28 (.tmp 5) (.tmp 7) rfl p la.toArray rfl rfl 28 _ hP (by rw [hsa.out]; kernel_rfl) (by rw [hsa.out]; rfl) hoa.out (hK _ _ ⟨hb3, ?_⟩)
  clear hK K hP hQ hb2
  generalize w2.setRow p la.toArray = w3 at hP2 hQ2 hb3 |-
  try simp only [Act.put, List.setIfInBounds_toArray, List.set_cons_zero, List.set_cons_succ]
  refine wpAnyH_all (rs := [5]) (by kernel_rfl) (by simp) ?_
  intro i hi
  obtain rfl := List.mem_singleton.1 hi
  refine wpOp_step rfl (fun K hK => ?_)
  rw [if_pos (by rfl)]
  have hP3 : (w3.setRow q lb.toArray).heap[p]? = _ := (setRow_other w3 q p lb.toArray (by omega)).trans hP2
  have hQ3 := setRow_heap w3 q _ lb.toArray _ _ hQ2
  have hb4 : Below w1.heap.size w1 (w3.setRow q lb.toArray) := hb3.trans ⟨rfl, rfl, rfl, by simp, fun k hk => setRow_other _ _ _ _ (by omega)⟩
  refine wp_store_row 28 (.tmp 6) (.tmp 8) rfl q lb.toArray rfl rfl 28 _ hQ2 (by rw [hsb.out]; kernel_rfl) (by rw [hsb.out]; rfl) hob.out (hK _ _ ⟨hb4, ?_⟩)
  clear hK K hP2 hQ2 hb3
  generalize w3.setRow q lb.toArray = w4 at hP3 hQ3 hb4 |-
  try simp only [Act.put, List.setIfInBounds_toArray, List.set_cons_zero, List.set_cons_succ]
  refine wpAnyH_done (by kernel_rfl) ?_ _
  have hB4 := Lib.hid (belowThen hB1 hb4 (by omega))
  have t1 := Lib.hid (h1.below hb4)
  have t2 := Lib.hid (h2.below hb4)
  have t3 := Lib.hid (h3.below hb4)
  have u1 := Lib.hid (g1.below hb4)
  have u2 := Lib.hid (g2.below hb4)
  have u3 := Lib.hid (g3.below hb4)
  have x9 := cx 9 _ q9 w4 hb4
  have x1 := cx 21 _ q1 w4 hb4
  have x2 := cx 22 _ q2 w4 hb4
  have x3 := cx 23 _ q3 w4 hb4
  have y1 := cy 21 _ r1 w4 hb4
  have y2 := cy 22 _ r2 w4 hb4
  have y3 := cy 23 _ r3 w4 hb4
  replace hP3 := Lib.hid hP3
  replace hQ3 := Lib.hid hQ3
  clear cx cy q9 q1 q2 q3 r1 r2 r3 h1 h2 h3 g1 g2 g3 hA hB hB1 hb4 hd hpl hql hpb hqb hne
  go_wp2_with fail
  refine (c_texts T.langs _ _ _ t1.out u1.out).mono ?_; rintro e w5 ⟨rfl, n5, rfl⟩
  go_wp2_with fail
  refine (c_texts T.ids _ _ _ (t2.out.drewN n5) (u2.out.drewN n5)).mono ?_; rintro e w6 ⟨rfl, n6, rfl⟩
  go_wp2_with fail
  refine (c_texts T.unknown _ _ _ (t3.out.drewN (n5 + n6)) (u3.out.drewN (n5 + n6))).mono ?_; rintro e w7 ⟨rfl, n7, rfl⟩
  have hP7 : Hid (((w4.drewN (n5 + n6)).drewN n7).heap[p]? = some (.cells la.toArray 28)) := hP3.out
  have hQ7 : Hid (((w4.drewN (n5 + n6)).drewN n7).heap[q]? = some (.cells lb.toArray 28)) := hQ3.out
  have hB7 : Hid (Below w.heap.size w ((w4.drewN (n5 + n6)).drewN n7)) := Below_drewN (Below_drewN hB4.out (n5 + n6)) n7
  have x97 : ((w4.drewN (n5 + n6)).drewN n7).cell? ⟨w.heap.size, 9, none⟩ = some (.string (B T.path)) := x9
  clear x9 hP3 hQ3 hB4 t1 t2 t3 u1 u2 u3 x1 x2 x3 y1 y2 y3
  generalize (w4.drewN (n5 + n6)).drewN n7 = w7 at hP7 hQ7 hB7 x97 |-
  go_wp2_with (refine wpList_load_g (by rfl) 28 (.tmp 5) rfl p 0 rfl la _ (range_blk hP7.out) Tryz.underlying28 rfl (by rw [show la.length = 31 from hsa.out]; kernel_rfl) (Hid.out ?_))
  refine Lib.hid ?_
  go_wp2_with (refine wpList_load_g (by rfl) 28 (.tmp 6) rfl q 0 rfl lb _ (range_blk hQ7.out) Tryz.underlying28 rfl (by rw [show lb.length = 31 from hsb.out]; kernel_rfl) (Hid.out ?_))
  refine Lib.hid ?_
  go_wp2_with fail
  refine (HNM.out _).mono ?_; rintro e w8 ⟨rfl, b8⟩
  have hP8 := Lib.hid (blk_below hP7.out b8)
  have hQ8 := Lib.hid (blk_below hQ7.out b8)
  have hB8 := Lib.hid (belowThen hB7.out b8 (Nat.le_refl _))
  clear hP7 hQ7 hB7 b8 x97
  go_wp2_with (refine wpList_load_g (by rfl) 28 (.tmp 5) rfl p 0 rfl la _ (range_blk hP8.out) Tryz.underlying28 rfl (by rw [show la.length = 31 from hsa.out]; kernel_rfl) (Hid.out ?_))
  refine Lib.hid ?_
  go_wp2_with (refine wpList_load_g (by rfl) 28 (.tmp 6) rfl q 0 rfl lb _ (range_blk hQ8.out) Tryz.underlying28 rfl (by rw [show lb.length = 31 from hsb.out]; kernel_rfl) (Hid.out ?_))
  refine Lib.hid ?_
  go_wp2_with fail
  refine (HWD.out _).mono ?_; rintro e w9 ⟨rfl, b9⟩
  have hP9 := Lib.hid (blk_below hP8.out b9)
  have hQ9 := Lib.hid (blk_below hQ8.out b9)
  have hB9 := Lib.hid (belowThen hB8.out b9 (Nat.le_refl _))
  clear hP8 hQ8 hB8 b9
  go_wp2_with (refine wpList_load_g (by rfl) 28 (.tmp 5) rfl p 0 rfl la _ (range_blk hP9.out) Tryz.underlying28 rfl (by rw [show la.length = 31 from hsa.out]; kernel_rfl) (Hid.out ?_))
  refine Lib.hid ?_
  go_wp2_with (refine wpList_load_g (by rfl) 28 (.tmp 6) rfl q 0 rfl lb _ (range_blk hQ9.out) Tryz.underlying28 rfl (by rw [show lb.length = 31 from hsb.out]; kernel_rfl) (Hid.out ?_))
  refine Lib.hid ?_
  go_wp2_with fail
  refine (HSO.out _).mono ?_; rintro e w10 ⟨rfl, b10⟩
  have hP10 := Lib.hid (blk_below hP9.out b10)
  have hQ10 := Lib.hid (blk_below hQ9.out b10)
  have hB10 := Lib.hid (belowThen hB9.out b10 (Nat.le_refl _))
  clear hP9 hQ9 hB9 b10
  go_wp2_with fail
  go_ret
  exact ⟨rfl, hB10.out⟩

end Go.Proofs.YtfekhbnefogkdaaGreatDoor
