/- The laws' comparison names, walked at two answers that read alike: they have the same parts. Conditions: none. Printed by gen_helpd.py. -/
import Derived.Test.YtcmiiboioemelaaGreatDoorTold
import Derived.Test.YtcmiiboioemelaaGreatDoorRep
import Derived.Test.YtcmiiboioemelaaGreatDoorGet
import Derived.Deep.DeepCutAuto
import Derived.Test.YtcmiiboioemelaaGreatDoorParse
import Derived.Deep.RegionHeld3
import Derived.Deep.MidRow
import Derived.BigFrame
import Derived.Test.YtcmiiboioemelaaGreatDoorLow
import Derived.Test.YtcmiiboioemelaaGreatDoorTwice
set_option maxRecDepth 100000
set_option linter.unusedVariables false
set_option linter.unusedSimpArgs false
namespace Go.Proofs.YtcmiiboioemelaaGreatDoor
open Go.RowKit
attribute [local go_sem] B_extract B_toList B_append

set_option maxHeartbeats 4000000 in
theorem c_names (T : ToldM) (vl vi vu vl' vi' vu' : Value) (w : World) :
  Calls Tryz.prog 28 #[toldVal T vl vi vu, toldVal T vl' vi' vu'] w fun e w' => e = .returned (.bool true) /\ Below w.heap.size w w' := by
 unfold toldVal
 go_enter Tryz.func28, Tryz.ntmps28
 go_wp2_with fail
 go_ret
 exact ⟨ret_bool (by simp), (Below_alloc w _).trans ((Below_alloc _ _).mono (by simp))⟩

end Go.Proofs.YtcmiiboioemelaaGreatDoor

namespace Go.Proofs.YtcmiiboioemelaaGreatDoor
open Go.RowKit
attribute [local go_sem] B_extract B_toList B_append

set_option maxHeartbeats 4000000 in
theorem c_words (T : ToldM) (vl vi vu vl' vi' vu' : Value) (w : World) :
  Calls Tryz.prog 33 #[toldVal T vl vi vu, toldVal T vl' vi' vu'] w fun e w' => e = .returned (.bool true) /\ Below w.heap.size w w' := by
 unfold toldVal
 go_enter Tryz.func33, Tryz.ntmps33
 go_wp2_with fail
 go_ret
 exact ⟨ret_bool (by simp), (Below_alloc w _).trans ((Below_alloc _ _).mono (by simp))⟩

end Go.Proofs.YtcmiiboioemelaaGreatDoor

namespace Go.Proofs.YtcmiiboioemelaaGreatDoor
open Go.RowKit
attribute [local go_sem] B_extract B_toList B_append

set_option maxHeartbeats 4000000 in
theorem c_sorts (T : ToldM) (vl vi vu vl' vi' vu' : Value) (w : World) :
  Calls Tryz.prog 29 #[toldVal T vl vi vu, toldVal T vl' vi' vu'] w fun e w' => e = .returned (.bool true) /\ Below w.heap.size w w' := by
 unfold toldVal
 go_enter Tryz.func29, Tryz.ntmps29
 go_wp2_with fail
 go_ret
 exact ⟨ret_bool (by simp), (Below_alloc w _).trans ((Below_alloc _ _).mono (by simp))⟩

end Go.Proofs.YtcmiiboioemelaaGreatDoor

namespace Go.Proofs.YtcmiiboioemelaaGreatDoor
open Go.RowKit
attribute [local go_sem] B_extract B_toList B_append
/-- Two lists that read alike are equal. -/
theorem c_texts (l : List Str) (v v' : Value) (w : World) (hv : StrsAt w v l) (hv' : StrsAt w v' l) :
  Calls Tryz.prog 34 #[v, v'] w fun e w' => e = .returned (.bool true) /\ ∃ n, w' = w.drewN n := by
 obtain ⟨h0, a, cap, rfl, hc⟩ := hv
 obtain ⟨_, a', cap', rfl, hc'⟩ := hv'
 have HC := Lib.hid hc
 have HC' := Lib.hid hc'
 clear hc hc'
 go_enter Tryz.func34, Tryz.ntmps34
 go_wp2
 go_loopw [13] (fun i wr => ∃ k n : Nat, k <= l.length /\ i = .int .i64 k /\ w.drewN n = wr) (fun i _ => l.length - (intOf i).toNat)
 case atStart => exact ⟨0, 0, Nat.zero_le _, rfl, rfl⟩
 case round =>
  obtain ⟨k, n, hk, rfl, rfl⟩ := hrel
  by_cases hlt : k < l.length
  ·obtain ⟨b, off, rfl, hcell⟩ := HC.out k hlt
   obtain ⟨b', off', rfl, hcell'⟩ := HC'.out k hlt
   have he : (l[k] != l[k]) = false := by simp
   have h1 : (0 : Int) <= (k : Int) := by omega
   have h2 : (k : Int) < (l.length : Int) := by omega
   go_upto_region 6 with fail
   go_quiet (fail)
   go_wp2_with fail
   go_roundw
   case rel => exact ⟨k + 1, _, by omega, by go_num, rfl⟩
   case measure => simp [intOf]; omega
  ·go_wp2
   go_ret
   exact ⟨rfl, n, rfl⟩

end Go.Proofs.YtcmiiboioemelaaGreatDoor

namespace Go.Proofs.YtcmiiboioemelaaGreatDoor
open Go.RowKit
attribute [local go_sem] B_extract B_toList B_append

theorem wpList_load_g {P : Program} {ops : Array Oper} {rest : List Oper} {op : Oper} {a : Act} {w : World} {Q : Exit -> Act -> World -> Prop} (hw : Region.wanted op (yielded ops a.tmps) = true) (ty : TypeId) (x : Operand) (ho : op.op = .load ty x)
  (b o : Nat) (hx : a.eval x = .pointer (some ⟨b, o, none⟩)) (cs : List Value) (d : TypeDesc) (hc : w.rangeAt b o cs) (hu : P.underlying ty = some d) (hd : d.isRow = true) (hi : (P.info? ty).map (·.size) = some cs.length)
  (h : wpList P ops Q rest (a.put op.dst (.agg cs.toArray)) w) : wpList P ops Q (op :: rest) a w :=
 BigFrame.wpList_want hw fun _ hK => wp_load_mid ty x ho b o hx cs d hc hu hd hi (hK _ _ h)
theorem range_blk {w : World} {g : Nat} {cs : Array Value} {t : TypeId} (h : w.heap[g]? = some (.cells cs t (0, 0))) : w.rangeAt g 0 cs.toList := by
 intro j v hj
 rw [Nat.zero_add, cell_blk h, <- hj, Array.getElem?_toList]
theorem blk_snd (w : World) (a b : Obj) : ((w.alloc a).alloc b).heap[w.heap.size + 1]? = some b := by
 have := blk_new (w.alloc a) b
 rw [show (w.alloc a).heap.size = w.heap.size + 1 by simp] at this
 exact this

theorem StrsAt.drewN {w : World} {v : Value} {l : List Str} (h : StrsAt w v l) (n : Nat) : StrsAt (w.drewN n) v l := h

set_option maxHeartbeats 16000000 in
theorem c_alike (T : ToldM) (hp : (T.path == []) = false) (vl vi vu vl' vi' vu' : Value) (w : World) (h1 : StrsAt w vl T.langs) (h2 : StrsAt w vi T.ids) (h3 : StrsAt w vu T.unknown) (g1 : StrsAt w vl' T.langs) (g2 : StrsAt w vi' T.ids) (g3 : StrsAt w vu' T.unknown) :
  Calls Tryz.prog 22 #[toldVal T vl vi vu, toldVal T vl' vi' vu'] w fun e w' => e = .returned (.bool true) /\ Below w.heap.size w w' := by
 obtain ⟨a1, l1, c1, rfl⟩ := h1.slice
 obtain ⟨a2, l2, c2, rfl⟩ := h2.slice
 obtain ⟨a3, l3, c3, rfl⟩ := h3.slice
 obtain ⟨b1, m1, d1, rfl⟩ := g1.slice
 obtain ⟨b2, m2, d2, rfl⟩ := g2.slice
 obtain ⟨b3, m3, d3, rfl⟩ := g3.slice
 obtain ⟨ca, hca, hsa, hoa⟩ := told_cells T a1 a2 a3 l1 l2 l3 c1 c2 c3
 obtain ⟨cb, hcb, hsb, hob⟩ := told_cells T b1 b2 b3 m1 m2 m3 d1 d2 d3
 obtain ⟨la, rfl⟩ : ∃ la : List Value, ca = la.toArray := ⟨ca.toList, by simp⟩
 obtain ⟨lb, rfl⟩ : ∃ lb : List Value, cb = lb.toArray := ⟨cb.toList, by simp⟩
 replace hsa := Lib.hid hsa
 replace hsb := Lib.hid hsb
 replace hoa := Lib.hid hoa
 replace hob := Lib.hid hob
 have HNM : Hid (∀ wx, Calls Tryz.prog 28 #[.agg la.toArray, .agg lb.toArray] wx fun e w' => e = .returned (.bool true) /\ Below wx.heap.size wx w') := fun wx => by rw [<- hca, <- hcb]; exact c_names T _ _ _ _ _ _ wx
 have HWD : Hid (∀ wx, Calls Tryz.prog 33 #[.agg la.toArray, .agg lb.toArray] wx fun e w' => e = .returned (.bool true) /\ Below wx.heap.size wx w') := fun wx => by rw [<- hca, <- hcb]; exact c_words T _ _ _ _ _ _ wx
 have HSO : Hid (∀ wx, Calls Tryz.prog 29 #[.agg la.toArray, .agg lb.toArray] wx fun e w' => e = .returned (.bool true) /\ Below wx.heap.size wx w') := fun wx => by rw [<- hca, <- hcb]; exact c_sorts T _ _ _ _ _ _ wx
 have hp2 : (T.path != []) = true := by unfold bne; rw [hp]; rfl
 have hp3 : T.path.isEmpty = false := by rw [beq_eq_false_iff_ne] at hp; exact List.isEmpty_eq_false_iff.2 hp
 clear hp hp2
 replace hca := Lib.hid hca
 replace hcb := Lib.hid hcb
 unfold toldVal
 go_enter Tryz.func22, Tryz.ntmps22
 go_upto_region 1 with fail
 generalize hw1 : (w.alloc _).alloc _ = w1
 have hA : w1.heap[w.heap.size]? = some (.cells la.toArray 28) := by rw [<- hw1, <- Value.agg.inj hca.out]; exact blk_old _ _ (blk_new w _)
 have hB : w1.heap[w.heap.size + 1]? = some (.cells lb.toArray 28) := by rw [<- hw1, <- Value.agg.inj hcb.out]; exact blk_snd _ _ _
 have hB1 : Below w.heap.size w w1 := by rw [<- hw1]; exact (Below_alloc w _).trans ((Below_alloc (w.alloc _) _).mono (by simp))
 clear hw1
 have cx : ∀ k v, la.toArray[k]? = some v -> ∀ wx, Below w1.heap.size w1 wx -> wx.cell? ⟨w.heap.size, k, none⟩ = some v := fun k v e wx b => by rw [cell_blk (blk_below hA b), e]
 have cy : ∀ k v, lb.toArray[k]? = some v -> ∀ wx, Below w1.heap.size w1 wx -> wx.cell? ⟨w.heap.size + 1, k, none⟩ = some v := fun k v e wx b => by rw [cell_blk (blk_below hB b), e]
 have hd : Below w1.heap.size w1 w1.drew := Below_drewN (Below.refl _ _) 1
 have h1 := h1.below hB1
 have h2 := h2.below hB1
 have h3 := h3.below hB1
 have g1 := g1.below hB1
 have g2 := g2.below hB1
 have g3 := g3.below hB1
 have q9 : la.toArray[9]? = some (.string (B T.path)) := by rw [<- Value.agg.inj hca.out]; rfl
 have q1 : la.toArray[21]? = some (.slice a1 l1 c1) := by rw [<- Value.agg.inj hca.out]; rfl
 have q2 : la.toArray[22]? = some (.slice a2 l2 c2) := by rw [<- Value.agg.inj hca.out]; rfl
 have q3 : la.toArray[23]? = some (.slice a3 l3 c3) := by rw [<- Value.agg.inj hca.out]; rfl
 have r1 : lb.toArray[21]? = some (.slice b1 m1 d1) := by rw [<- Value.agg.inj hcb.out]; rfl
 have r2 : lb.toArray[22]? = some (.slice b2 m2 d2) := by rw [<- Value.agg.inj hcb.out]; rfl
 have r3 : lb.toArray[23]? = some (.slice b3 m3 d3) := by rw [<- Value.agg.inj hcb.out]; rfl
 clear hca hcb
 refine wp_region_held (S := fun w' => Below w1.heap.size w1 w') (by kernel_rfl) ?_
 change wpAnyH _ _ _ _ _ _ _ _ w1.drew
 generalize w1.drew = wd at hd |-
 refine wpAnyH_take (i := 0) (v := .agg la.toArray) rfl (by kernel_rfl) (by kernel_rfl) (by kernel_rfl) (fun _ _ _ h => h) (yieldsIf_load_mid (by rfl) 28 (.tmp 2) rfl w.heap.size 0 rfl la _ (fun w' hw' => range_blk (blk_below hA hw')) Tryz.underlying28 rfl (by rw [show la.length = 31 from hsa.out]; kernel_rfl)) hd ?_
 refine wpAnyH_take (i := 1) (v := .agg lb.toArray) rfl (by kernel_rfl) (by kernel_rfl) (by kernel_rfl) (fun _ _ _ h => h) (yieldsIf_load_mid (by rfl) 28 (.tmp 3) rfl (w.heap.size + 1) 0 rfl lb _ (fun w' hw' => range_blk (blk_below hB hw')) Tryz.underlying28 rfl (by rw [show lb.length = 31 from hsb.out]; kernel_rfl)) hd ?_
 try simp only [Act.put, List.setIfInBounds_toArray, List.set_cons_zero, List.set_cons_succ]
 have hlt : w.heap.size + 1 < wd.heap.size := Nat.lt_of_lt_of_le (lt_of_block hB) hd.size
 refine wpAnyH_all (rs := [2, 3]) (by kernel_rfl) (by simp) ?_
 intro i hi
 rcases List.mem_cons.1 hi with rfl | hi
 ·skip
  refine wpOp_step rfl (fun K hK => ?_)
  go_simp
  refine hK _ _ ⟨hd.alloc hd.size _, ?_⟩
  clear hK K
  try simp only [Act.put, List.setIfInBounds_toArray, List.set_cons_zero, List.set_cons_succ]
  refine wpAnyH_all (rs := [3]) (by kernel_rfl) (by simp) ?_
  intro i hi
  obtain rfl := List.mem_singleton.1 hi
  refine wpOp_step rfl (fun K hK => ?_)
  go_simp
  generalize hw2 : (wd.alloc _).alloc _ = w2
  have hb2 : Below w1.heap.size w1 w2 := by rw [<- hw2]; exact (hd.alloc hd.size _).trans ((Below_alloc (wd.alloc _) _).mono (by have := hd.size; simp; try omega))
  have hP : w2.heap[wd.heap.size]? = some (.cells (#[.string (B []), .string (B []), .string (B []), .string (B []), .string (B []), .string (B []), .string (B []), .string (B []), .string (B []), .string (B []), .string (B []), .string (B []), .string (B []), .string (B []), .string (B []), .string (B []), .string (B []), .string (B []), .string (B []), .string (B []), .string (B []), .slice none 0 0, .slice none 0 0, .slice none 0 0, .bool false, .bool false, .bool false, .bool false, .bool false, .bool false, .int .i64 0]) 28) := by rw [<- hw2]; exact blk_old _ _ (blk_new _ _)
  have hQ : w2.heap[wd.heap.size + 1]? = some (.cells (#[.string (B []), .string (B []), .string (B []), .string (B []), .string (B []), .string (B []), .string (B []), .string (B []), .string (B []), .string (B []), .string (B []), .string (B []), .string (B []), .string (B []), .string (B []), .string (B []), .string (B []), .string (B []), .string (B []), .string (B []), .string (B []), .slice none 0 0, .slice none 0 0, .slice none 0 0, .bool false, .bool false, .bool false, .bool false, .bool false, .bool false, .int .i64 0]) 28) := by rw [<- hw2]; exact blk_snd _ _ _
  have hne : wd.heap.size ≠ wd.heap.size + 1 := by omega
  have hpl : w.heap.size + 1 < wd.heap.size := by omega
  have hql : w.heap.size + 1 < wd.heap.size + 1 := by omega
  have hpb : w1.heap.size <= wd.heap.size := by have := hd.size; omega
  have hqb : w1.heap.size <= wd.heap.size + 1 := by have := hd.size; omega
  refine hK _ _ ⟨hb2, ?_⟩
  clear hw2 hK K
  try simp only [Act.put, List.setIfInBounds_toArray, List.set_cons_zero, List.set_cons_succ]
  generalize wd.heap.size + 1 = q at hP hQ hne hpl hql hpb hqb |-
  generalize wd.heap.size = p at hP hQ hne hpl hql hpb hqb |-
  refine wpAnyH_all (rs := [4]) (by kernel_rfl) (by simp) ?_
  intro i hi
  obtain rfl := List.mem_singleton.1 hi
  refine wpOp_step rfl (fun K hK => ?_)
  rw [if_pos (by rfl)]
  have hP2 := setRow_heap w2 p _ la.toArray _ _ hP
  have hQ2 : (w2.setRow p la.toArray).heap[q]? = _ := (setRow_other w2 p q la.toArray (by omega)).trans hQ
  have hb3 : Below w1.heap.size w1 (w2.setRow p la.toArray) := hb2.trans ⟨rfl, rfl, rfl, by simp, fun k hk => setRow_other _ _ _ _ (by omega)⟩
  refine wp_store_row 28 (.tmp 5) (.tmp 7) rfl p la.toArray rfl rfl 28 _ hP (by rw [hsa.out]; kernel_rfl) (by rw [hsa.out]; rfl) hoa.out (hK _ _ ⟨hb3, ?_⟩)
  clear hK K hP hQ hb2
  generalize w2.setRow p la.toArray = w3 at hP2 hQ2 hb3 |-
  try simp only [Act.put, List.setIfInBounds_toArray, List.set_cons_zero, List.set_cons_succ]
  refine wpAnyH_all (rs := [5]) (by kernel_rfl) (by simp) ?_
  intro i hi
  obtain rfl := List.mem_singleton.1 hi
  refine wpOp_step rfl (fun K hK => ?_)
  rw [if_pos (by rfl)]
  have hP3 : (w3.setRow q lb.toArray).heap[p]? = _ := (setRow_other w3 q p lb.toArray (by omega)).trans hP2
  have hQ3 := setRow_heap w3 q _ lb.toArray _ _ hQ2
  have hb4 : Below w1.heap.size w1 (w3.setRow q lb.toArray) := hb3.trans ⟨rfl, rfl, rfl, by simp, fun k hk => setRow_other _ _ _ _ (by omega)⟩
  refine wp_store_row 28 (.tmp 6) (.tmp 8) rfl q lb.toArray rfl rfl 28 _ hQ2 (by rw [hsb.out]; kernel_rfl) (by rw [hsb.out]; rfl) hob.out (hK _ _ ⟨hb4, ?_⟩)
  clear hK K hP2 hQ2 hb3
  generalize w3.setRow q lb.toArray = w4 at hP3 hQ3 hb4 |-
  try simp only [Act.put, List.setIfInBounds_toArray, List.set_cons_zero, List.set_cons_succ]
  refine wpAnyH_done (by kernel_rfl) ?_ _
  have hB4 := Lib.hid (belowThen hB1 hb4 (by omega))
  have t1 := Lib.hid (h1.below hb4)
  have t2 := Lib.hid (h2.below hb4)
  have t3 := Lib.hid (h3.below hb4)
  have u1 := Lib.hid (g1.below hb4)
  have u2 := Lib.hid (g2.below hb4)
  have u3 := Lib.hid (g3.below hb4)
  have x9 := cx 9 _ q9 w4 hb4
  have x1 := cx 21 _ q1 w4 hb4
  have x2 := cx 22 _ q2 w4 hb4
  have x3 := cx 23 _ q3 w4 hb4
  have y1 := cy 21 _ r1 w4 hb4
  have y2 := cy 22 _ r2 w4 hb4
  have y3 := cy 23 _ r3 w4 hb4
  replace hP3 := Lib.hid hP3
  replace hQ3 := Lib.hid hQ3
  clear cx cy q9 q1 q2 q3 r1 r2 r3 h1 h2 h3 g1 g2 g3 hA hB hB1 hb4 hd hpl hql hpb hqb hne
  go_wp2_with fail
  refine (c_texts T.langs _ _ _ t1.out u1.out).mono ?_; rintro e w5 ⟨rfl, n5, rfl⟩
  go_wp2_with fail
  refine (c_texts T.ids _ _ _ (t2.out.drewN n5) (u2.out.drewN n5)).mono ?_; rintro e w6 ⟨rfl, n6, rfl⟩
  go_wp2_with fail
  refine (c_texts T.unknown _ _ _ (t3.out.drewN (n5 + n6)) (u3.out.drewN (n5 + n6))).mono ?_; rintro e w7 ⟨rfl, n7, rfl⟩
  have hP7 : Hid (((w4.drewN (n5 + n6)).drewN n7).heap[p]? = some (.cells la.toArray 28)) := hP3.out
  have hQ7 : Hid (((w4.drewN (n5 + n6)).drewN n7).heap[q]? = some (.cells lb.toArray 28)) := hQ3.out
  have hB7 : Hid (Below w.heap.size w ((w4.drewN (n5 + n6)).drewN n7)) := Below_drewN (Below_drewN hB4.out (n5 + n6)) n7
  have x97 : ((w4.drewN (n5 + n6)).drewN n7).cell? ⟨w.heap.size, 9, none⟩ = some (.string (B T.path)) := x9
  clear x9 hP3 hQ3 hB4 t1 t2 t3 u1 u2 u3 x1 x2 x3 y1 y2 y3
  generalize (w4.drewN (n5 + n6)).drewN n7 = w7 at hP7 hQ7 hB7 x97 |-
  go_wp2_with (refine wpList_load_g (by rfl) 28 (.tmp 5) rfl p 0 rfl la _ (range_blk hP7.out) Tryz.underlying28 rfl (by rw [show la.length = 31 from hsa.out]; kernel_rfl) (Hid.out ?_))
  refine Lib.hid ?_
  go_wp2_with (refine wpList_load_g (by rfl) 28 (.tmp 6) rfl q 0 rfl lb _ (range_blk hQ7.out) Tryz.underlying28 rfl (by rw [show lb.length = 31 from hsb.out]; kernel_rfl) (Hid.out ?_))
  refine Lib.hid ?_
  go_wp2_with fail
  refine (HNM.out _).mono ?_; rintro e w8 ⟨rfl, b8⟩
  have hP8 := Lib.hid (blk_below hP7.out b8)
  have hQ8 := Lib.hid (blk_below hQ7.out b8)
  have hB8 := Lib.hid (belowThen hB7.out b8 (Nat.le_refl _))
  clear hP7 hQ7 hB7 b8 x97
  go_wp2_with (refine wpList_load_g (by rfl) 28 (.tmp 5) rfl p 0 rfl la _ (range_blk hP8.out) Tryz.underlying28 rfl (by rw [show la.length = 31 from hsa.out]; kernel_rfl) (Hid.out ?_))
  refine Lib.hid ?_
  go_wp2_with (refine wpList_load_g (by rfl) 28 (.tmp 6) rfl q 0 rfl lb _ (range_blk hQ8.out) Tryz.underlying28 rfl (by rw [show lb.length = 31 from hsb.out]; kernel_rfl) (Hid.out ?_))
  refine Lib.hid ?_
  go_wp2_with fail
  refine (HWD.out _).mono ?_; rintro e w9 ⟨rfl, b9⟩
  have hP9 := Lib.hid (blk_below hP8.out b9)
  have hQ9 := Lib.hid (blk_below hQ8.out b9)
  have hB9 := Lib.hid (belowThen hB8.out b9 (Nat.le_refl _))
  clear hP8 hQ8 hB8 b9
  go_wp2_with (refine wpList_load_g (by rfl) 28 (.tmp 5) rfl p 0 rfl la _ (range_blk hP9.out) Tryz.underlying28 rfl (by rw [show la.length = 31 from hsa.out]; kernel_rfl) (Hid.out ?_))
  refine Lib.hid ?_
  go_wp2_with (refine wpList_load_g (by rfl) 28 (.tmp 6) rfl q 0 rfl lb _ (range_blk hQ9.out) Tryz.underlying28 rfl (by rw [show lb.length = 31 from hsb.out]; kernel_rfl) (Hid.out ?_))
  refine Lib.hid ?_
  go_wp2_with fail
  refine (HSO.out _).mono ?_; rintro e w10 ⟨rfl, b10⟩
  have hP10 := Lib.hid (blk_below hP9.out b10)
  have hQ10 := Lib.hid (blk_below hQ9.out b10)
  have hB10 := Lib.hid (belowThen hB9.out b10 (Nat.le_refl _))
  clear hP9 hQ9 hB9 b10
  go_wp2_with fail
  go_ret
  exact ⟨rfl, hB10.out⟩
 ·obtain rfl := List.mem_singleton.1 hi
  refine wpOp_step rfl (fun K hK => ?_)
  go_simp
  refine hK _ _ ⟨hd.alloc hd.size _, ?_⟩
  clear hK K
  try simp only [Act.put, List.setIfInBounds_toArray, List.set_cons_zero, List.set_cons_succ]
  refine wpAnyH_all (rs := [2]) (by kernel_rfl) (by simp) ?_
  intro i hi
  obtain rfl := List.mem_singleton.1 hi
  refine wpOp_step rfl (fun K hK => ?_)
  go_simp
  generalize hw2 : (wd.alloc _).alloc _ = w2
  have hb2 : Below w1.heap.size w1 w2 := by rw [<- hw2]; exact (hd.alloc hd.size _).trans ((Below_alloc (wd.alloc _) _).mono (by have := hd.size; simp; try omega))
  have hP : w2.heap[wd.heap.size + 1]? = some (.cells (#[.string (B []), .string (B []), .string (B []), .string (B []), .string (B []), .string (B []), .string (B []), .string (B []), .string (B []), .string (B []), .string (B []), .string (B []), .string (B []), .string (B []), .string (B []), .string (B []), .string (B []), .string (B []), .string (B []), .string (B []), .string (B []), .slice none 0 0, .slice none 0 0, .slice none 0 0, .bool false, .bool false, .bool false, .bool false, .bool false, .bool false, .int .i64 0]) 28) := by rw [<- hw2]; exact blk_snd _ _ _
  have hQ : w2.heap[wd.heap.size]? = some (.cells (#[.string (B []), .string (B []), .string (B []), .string (B []), .string (B []), .string (B []), .string (B []), .string (B []), .string (B []), .string (B []), .string (B []), .string (B []), .string (B []), .string (B []), .string (B []), .string (B []), .string (B []), .string (B []), .string (B []), .string (B []), .string (B []), .slice none 0 0, .slice none 0 0, .slice none 0 0, .bool false, .bool false, .bool false, .bool false, .bool false, .bool false, .int .i64 0]) 28) := by rw [<- hw2]; exact blk_old _ _ (blk_new _ _)
  have hne : wd.heap.size + 1 ≠ wd.heap.size := by omega
  have hpl : w.heap.size + 1 < wd.heap.size + 1 := by omega
  have hql : w.heap.size + 1 < wd.heap.size := by omega
  have hpb : w1.heap.size <= wd.heap.size + 1 := by have := hd.size; omega
  have hqb : w1.heap.size <= wd.heap.size := by have := hd.size; omega
  refine hK _ _ ⟨hb2, ?_⟩
  clear hw2 hK K
  try simp only [Act.put, List.setIfInBounds_toArray, List.set_cons_zero, List.set_cons_succ]
  generalize wd.heap.size + 1 = p at hP hQ hne hpl hql hpb hqb |-
  generalize wd.heap.size = q at hP hQ hne hpl hql hpb hqb |-
  refine wpAnyH_all (rs := [4]) (by kernel_rfl) (by simp) ?_
  intro i hi
  obtain rfl := List.mem_singleton.1 hi
  refine wpOp_step rfl (fun K hK => ?_)
  rw [if_pos (by rfl)]
  have hP2 := setRow_heap w2 p _ la.toArray _ _ hP
  have hQ2 : (w2.setRow p la.toArray).heap[q]? = _ := (setRow_other w2 p q la.toArray (by omega)).trans hQ
  have hb3 : Below w1.heap.size w1 (w2.setRow p la.toArray) := hb2.trans ⟨rfl, rfl, rfl, by simp, fun k hk => setRow_other _ _ _ _ (by omega)⟩
  refine wp_store_row 28 (.tmp 5) (.tmp 7) rfl p la.toArray rfl rfl 28 _ hP (by rw [hsa.out]; kernel_rfl) (by rw [hsa.out]; rfl) hoa.out (hK _ _ ⟨hb3, ?_⟩)
  clear hK K hP hQ hb2
  generalize w2.setRow p la.toArray = w3 at hP2 hQ2 hb3 |-
  try simp only [Act.put, List.setIfInBounds_toArray, List.set_cons_zero, List.set_cons_succ]
  refine wpAnyH_all (rs := [5]) (by kernel_rfl) (by simp) ?_
  intro i hi
  obtain rfl := List.mem_singleton.1 hi
  refine wpOp_step rfl (fun K hK => ?_)
  rw [if_pos (by rfl)]
  have hP3 : (w3.setRow q lb.toArray).heap[p]? = _ := (setRow_other w3 q p lb.toArray (by omega)).trans hP2
  have hQ3 := setRow_heap w3 q _ lb.toArray _ _ hQ2
  have hb4 : Below w1.heap.size w1 (w3.setRow q lb.toArray) := hb3.trans ⟨rfl, rfl, rfl, by simp, fun k hk => setRow_other _ _ _ _ (by omega)⟩
  refine wp_store_row 28 (.tmp 6) (.tmp 8) rfl q lb.toArray rfl rfl 28 _ hQ2 (by rw [hsb.out]; kernel_rfl) (by rw [hsb.out]; rfl) hob.out (hK _ _ ⟨hb4, ?_⟩)
  clear hK K hP2 hQ2 hb3
  generalize w3.setRow q lb.toArray = w4 at hP3 hQ3 hb4 |-
  try simp only [Act.put, List.setIfInBounds_toArray, List.set_cons_zero, List.set_cons_succ]
  refine wpAnyH_done (by kernel_rfl) ?_ _
  have hB4 := Lib.hid (belowThen hB1 hb4 (by omega))
  have t1 := Lib.hid (h1.below hb4)
  have t2 := Lib.hid (h2.below hb4)
  have t3 := Lib.hid (h3.below hb4)
  have u1 := Lib.hid (g1.below hb4)
  have u2 := Lib.hid (g2.below hb4)
  have u3 := Lib.hid (g3.below hb4)
  have x9 := cx 9 _ q9 w4 hb4
  have x1 := cx 21 _ q1 w4 hb4
  have x2 := cx 22 _ q2 w4 hb4
  have x3 := cx 23 _ q3 w4 hb4
  have y1 := cy 21 _ r1 w4 hb4
  have y2 := cy 22 _ r2 w4 hb4
  have y3 := cy 23 _ r3 w4 hb4
  replace hP3 := Lib.hid hP3
  replace hQ3 := Lib.hid hQ3
  clear cx cy q9 q1 q2 q3 r1 r2 r3 h1 h2 h3 g1 g2 g3 hA hB hB1 hb4 hd hpl hql hpb hqb hne
  go_wp2_with fail
  refine (c_texts T.langs _ _ _ t1.out u1.out).mono ?_; rintro e w5 ⟨rfl, n5, rfl⟩
  go_wp2_with fail
  refine (c_texts T.ids _ _ _ (t2.out.drewN n5) (u2.out.drewN n5)).mono ?_; rintro e w6 ⟨rfl, n6, rfl⟩
  go_wp2_with fail
  refine (c_texts T.unknown _ _ _ (t3.out.drewN (n5 + n6)) (u3.out.drewN (n5 + n6))).mono ?_; rintro e w7 ⟨rfl, n7, rfl⟩
  have hP7 : Hid (((w4.drewN (n5 + n6)).drewN n7).heap[p]? = some (.cells la.toArray 28)) := hP3.out
  have hQ7 : Hid (((w4.drewN (n5 + n6)).drewN n7).heap[q]? = some (.cells lb.toArray 28)) := hQ3.out
  have hB7 : Hid (Below w.heap.size w ((w4.drewN (n5 + n6)).drewN n7)) := Below_drewN (Below_drewN hB4.out (n5 + n6)) n7
  have x97 : ((w4.drewN (n5 + n6)).drewN n7).cell? ⟨w.heap.size, 9, none⟩ = some (.string (B T.path)) := x9
  clear x9 hP3 hQ3 hB4 t1 t2 t3 u1 u2 u3 x1 x2 x3 y1 y2 y3
  generalize (w4.drewN (n5 + n6)).drewN n7 = w7 at hP7 hQ7 hB7 x97 |-
  go_wp2_with (refine wpList_load_g (by rfl) 28 (.tmp 5) rfl p 0 rfl la _ (range_blk hP7.out) Tryz.underlying28 rfl (by rw [show la.length = 31 from hsa.out]; kernel_rfl) (Hid.out ?_))
  refine Lib.hid ?_
  go_wp2_with (refine wpList_load_g (by rfl) 28 (.tmp 6) rfl q 0 rfl lb _ (range_blk hQ7.out) Tryz.underlying28 rfl (by rw [show lb.length = 31 from hsb.out]; kernel_rfl) (Hid.out ?_))
  refine Lib.hid ?_
  go_wp2_with fail
  refine (HNM.out _).mono ?_; rintro e w8 ⟨rfl, b8⟩
  have hP8 := Lib.hid (blk_below hP7.out b8)
  have hQ8 := Lib.hid (blk_below hQ7.out b8)
  have hB8 := Lib.hid (belowThen hB7.out b8 (Nat.le_refl _))
  clear hP7 hQ7 hB7 b8 x97
  go_wp2_with (refine wpList_load_g (by rfl) 28 (.tmp 5) rfl p 0 rfl la _ (range_blk hP8.out) Tryz.underlying28 rfl (by rw [show la.length = 31 from hsa.out]; kernel_rfl) (Hid.out ?_))
  refine Lib.hid ?_
  go_wp2_with (refine wpList_load_g (by rfl) 28 (.tmp 6) rfl q 0 rfl lb _ (range_blk hQ8.out) Tryz.underlying28 rfl (by rw [show lb.length = 31 from hsb.out]; kernel_rfl) (Hid.out ?_))
  refine Lib.hid ?_
  go_wp2_with fail
  refine (HWD.out _).mono ?_; rintro e w9 ⟨rfl, b9⟩
  have hP9 := Lib.hid (blk_below hP8.out b9)
  have hQ9 := Lib.hid (blk_below hQ8.out b9)
  have hB9 := Lib.hid (belowThen hB8.out b9 (Nat.le_refl _))
  clear hP8 hQ8 hB8 b9
  go_wp2_with (refine wpList_load_g (by rfl) 28 (.tmp 5) rfl p 0 rfl la _ (range_blk hP9.out) Tryz.underlying28 rfl (by rw [show la.length = 31 from hsa.out]; kernel_rfl) (Hid.out ?_))
  refine Lib.hid ?_
  go_wp2_with (refine wpList_load_g (by rfl) 28 (.tmp 6) rfl q 0 rfl lb _ (range_blk hQ9.out) Tryz.underlying28 rfl (by rw [show lb.length = 31 from hsb.out]; kernel_rfl) (Hid.out ?_))
  refine Lib.hid ?_
  go_wp2_with fail
  refine (HSO.out _).mono ?_; rintro e w10 ⟨rfl, b10⟩
  have hP10 := Lib.hid (blk_below hP9.out b10)
  have hQ10 := Lib.hid (blk_below hQ9.out b10)
  have hB10 := Lib.hid (belowThen hB9.out b10 (Nat.le_refl _))
  clear hP9 hQ9 hB9 b10
  go_wp2_with fail
  go_ret
  exact ⟨rfl, hB10.out⟩

end Go.Proofs.YtcmiiboioemelaaGreatDoor

namespace Go.Proofs.YtcmiiboioemelaaGreatDoor
open Go.RowKit
attribute [local go_sem] B_extract B_toList B_append

theorem c_implNormalize (l : Str) (w : World) (hl : l.length <= 70368744177664) (ha : asciiL l = true) :
  Calls Tryz.prog 19 #[.string (B l)] w fun e w' => e = .returned (.string (B (normL l))) /\ Below w.heap.size w w' := by
 go_enter Tryz.func19, Tryz.ntmps19
 go_wp2_with (go_at_call 48; refine (c_normBasic l _ hl ha).mono ?_; rintro e w' ⟨rfl, hb⟩)
 go_ret
 exact ⟨rfl, hb⟩

end Go.Proofs.YtcmiiboioemelaaGreatDoor

namespace Go.Proofs.YtcmiiboioemelaaGreatDoor
open Go.RowKit
attribute [local go_sem] B_extract B_toList B_append

set_option maxHeartbeats 4000000 in
theorem c_words2 (T T' : ToldM) (h : SameWords T T') (vl vi vu vl' vi' vu' : Value) (w : World) :
  Calls Tryz.prog 33 #[toldVal T vl vi vu, toldVal T' vl' vi' vu'] w fun e w' => e = .returned (.bool true) /\ Below w.heap.size w w' := by
 obtain ⟨h1, h2, h3, h4, h5, h6, h7⟩ := h
 unfold toldVal
 rw [<- h1, <- h2, <- h3, <- h4, <- h5, <- h6, <- h7]
 clear h1 h2 h3 h4 h5 h6 h7
 go_enter Tryz.func33, Tryz.ntmps33
 go_wp2_with fail
 go_ret
 exact ⟨ret_bool (by simp), (Below_alloc w _).trans ((Below_alloc _ _).mono (by simp))⟩

set_option maxHeartbeats 4000000 in
theorem c_sorts2 (T T' : ToldM) (h : SameSorts T T') (vl vi vu vl' vi' vu' : Value) (w : World) :
  Calls Tryz.prog 29 #[toldVal T vl vi vu, toldVal T' vl' vi' vu'] w fun e w' => e = .returned (.bool true) /\ Below w.heap.size w w' := by
 obtain ⟨h1, h2, h3, h4, h5, h6⟩ := h
 unfold toldVal
 rw [<- h1, <- h2, <- h3, <- h4, <- h5, <- h6]
 clear h1 h2 h3 h4 h5 h6
 go_enter Tryz.func29, Tryz.ntmps29
 go_wp2_with fail
 go_ret
 exact ⟨ret_bool (by simp), (Below_alloc w _).trans ((Below_alloc _ _).mono (by simp))⟩

end Go.Proofs.YtcmiiboioemelaaGreatDoor
