/- The walk of the law FnContainer: the name of the folder that the last part stands in. Conditions: a site in memory, texts that fit into the platform's addresses. -/
import Derived.Test.YtcmiiboioemelaaGreatDoorAsked
import Derived.Test.YtcmiiboioemelaaGreatDoorOpen
import Derived.Test.YtcmiiboioemelaaGreatDoorRows
import Derived.Test.YtcmiiboioemelaaGreatDoorCards
import Derived.Test.YtcmiiboioemelaaGreatDoorTie
import Derived.ProofKit
import Derived.OpenShut
import Derived.ShutString
import Derived.ChangeOld
import Derived.SizedLaws
import Derived.LaidMore
import Derived.Lay
import Derived.SevenTiedAt
import Derived.Stop.Joined
import Derived.Carry
set_option maxRecDepth 100000
set_option linter.unusedVariables false
set_option linter.unusedSimpArgs false
namespace Go.Proofs.YtcmiiboioemelaaGreatDoor
open Go.RowKit
attribute [local go_sem] B_extract B_toList B_append

set_option maxHeartbeats 8000000 in
theorem w_FnContainer (site : SiteM) (comp s : Str) (vl vd vf vc : Value) (w : World) (hv : SiteAt w vl vd vf vc site) (hcl : CapOK vl) (hcd : CapOK vd) (hcc : CapOK vc) (hc0 : comp.length <= 140737488351232) (hs0 : s.length <= 140737488351232) :
    Calls Tryz.prog 4 #[.agg #[vl, vd, vf, vc], .string (B comp), .string (B s)] w fun e w' => e = .returned (.bool true) /\ Below w.heap.size w w' := by
  have HZ : Hid (∀ wx, SiteAt wx vl vd vf vc site -> Calls Tryz.prog 15 #[.agg #[vl, vd, vf, vc]] wx fun e w' => e = .returned (.bool (siteFits site)) /\ Below wx.heap.size wx w') := fun wx h => c_zzFits1 site vl vd vf vc wx h
  have HAS : Hid (siteFits site = true -> comp.length <= 2147483647 -> s.length <= 2147483647 -> ∀ wx, SiteAt wx vl vd vf vc site -> Calls Tryz.prog 16 #[.agg #[vl, vd, vf, vc], .string (B comp), .string (B s)] wx
      fun e w' => ∃ v u T, e = .returned (.tuple #[v, u, .bool (knownL site comp s)]) /\ ToldAtN wx.heap.size w' v T /\ ToldAtN wx.heap.size w' u T /\ Below wx.heap.size wx w') := fun hf h1 h2 wx h => c_asked site comp s vl vd vf vc wx h hcl hcd hcc hf h1 h2
  obtain ⟨obs, hobs⟩ : ∃ o : Obj, o = .cells #[vl, vd, vf, vc] 25 := ⟨_, rfl⟩
  have hB1 : Hid (Below w.heap.size w (w.alloc obs)) := Below_alloc w obs
  have hsb : Hid ((w.alloc obs).heap[w.heap.size]? = some (.cells #[vl, vd, vf, vc] 25)) := by show _ = _; rw [hobs]; exact blk_new w _
  have HV1 : Hid (SiteAt (w.alloc obs) vl vd vf vc site) := hv.alloc obs
  clear hv hcl hcd hcc
  cases h1 : siteFits site with
  | false =>
    rw [h1] at HZ
    go_enter Tryz.func4, Tryz.ntmps4
    go_wp2_with fail
    rw [<- hobs]
    generalize w.alloc obs = w1 at hB1 hsb HV1 ⊢
    refine (HZ.out _ HV1.out).mono ?_; rintro e w2 ⟨rfl, b2⟩
    have hB2 := Lib.hid (belowThen hB1.out b2 (Nat.le_refl _))
    go_wp2_with fail
    go_ret
    exact ⟨rfl, hB2.out⟩
  | true =>
  rw [h1] at HZ
  by_cases h2 : comp.length <= 2147483647
  rotate_left 1
  · skip
    go_enter Tryz.func4, Tryz.ntmps4
    go_wp2_with fail
    rw [<- hobs]
    generalize w.alloc obs = w1 at hB1 hsb HV1 ⊢
    refine (HZ.out _ HV1.out).mono ?_; rintro e w2 ⟨rfl, b2⟩
    have hB2 := Lib.hid (belowThen hB1.out b2 (Nat.le_refl _))
    go_wp2_with fail
    go_ret
    exact ⟨rfl, hB2.out⟩
  by_cases h3 : s.length <= 2147483647
  rotate_left 1
  · skip
    go_enter Tryz.func4, Tryz.ntmps4
    go_wp2_with fail
    rw [<- hobs]
    generalize w.alloc obs = w1 at hB1 hsb HV1 ⊢
    refine (HZ.out _ HV1.out).mono ?_; rintro e w2 ⟨rfl, b2⟩
    have hB2 := Lib.hid (belowThen hB1.out b2 (Nat.le_refl _))
    go_wp2_with fail
    go_ret
    exact ⟨rfl, hB2.out⟩
  go_enter Tryz.func4, Tryz.ntmps4
  go_wp2_with fail
  rw [<- hobs]
  generalize w.alloc obs = w1 at hB1 hsb HV1 ⊢
  refine (HZ.out _ HV1.out).mono ?_; rintro e w2 ⟨rfl, b2⟩
  have hB2 := Lib.hid (belowThen hB1.out b2 (Nat.le_refl _))
  have hsb2 := Lib.hid (blk_below hsb.out b2)
  have HV2 := Lib.hid (HV1.out.below b2)
  obtain ⟨k0, k1, k2, k3⟩ : w2.cell? ⟨w.heap.size, 0, none⟩ = some vl /\ w2.cell? ⟨w.heap.size, 1, none⟩ = some vd /\ w2.cell? ⟨w.heap.size, 2, none⟩ = some vf /\ w2.cell? ⟨w.heap.size, 3, none⟩ = some vc := ⟨cell_blk hsb2.out 0, cell_blk hsb2.out 1, cell_blk hsb2.out 2, cell_blk hsb2.out 3⟩
  clear b2 hsb HV1 hB1 HZ
  go_wp2_with fail
  refine (HAS.out h1 h2 h3 _ HV2.out).mono ?_; rintro e w3 ⟨v, u, T, rfl, ⟨ql, qi, qu, rfl, ⟨s1, n1⟩, ⟨s2, n2⟩, ⟨s3, n3⟩⟩, ⟨pl, pi, pu, rfl, ⟨r1, m1⟩, ⟨r2, m2⟩, ⟨r3, m3⟩⟩, b3⟩
  clear k0 k1 k2 k3 HAS n1 n2 n3 m1 m2 m3 HV2 hsb2 hobs
  generalize knownL site comp s = KN
  obtain ⟨aa1, la1, ca1, rfl⟩ := s1.slice
  obtain ⟨aa2, la2, ca2, rfl⟩ := s2.slice
  obtain ⟨aa3, la3, ca3, rfl⟩ := s3.slice
  obtain ⟨ab1, lb1, cb1, rfl⟩ := r1.slice
  obtain ⟨ab2, lb2, cb2, rfl⟩ := r2.slice
  obtain ⟨ab3, lb3, cb3, rfl⟩ := r3.slice
  obtain ⟨cs, hcs, hsz, hone⟩ := told_cells T aa1 aa2 aa3 la1 la2 la3 ca1 ca2 ca3
  obtain ⟨ds, hds, hdz, hdone⟩ := told_cells T ab1 ab2 ab3 lb1 lb2 lb3 cb1 cb2 cb3
  rw [hcs, hds]
  have hB3 := Lib.hid (belowThen hB2.out b3 (Nat.le_refl _))
  replace hcs := Lib.hid hcs
  replace hds := Lib.hid hds
  clear b3 hB2 s1 s2 s3 r1 r2 r3
  have hza : (w3.alloc (.cells zeroCells 28)).heap.size = w3.heap.size + 1 := by simp
  have hg1 : Hid (((w3.alloc (.cells zeroCells 28)).alloc (.cells zeroCells 28)).heap[w3.heap.size]? = some (.cells zeroCells 28)) := blk_old _ _ (blk_new w3 _)
  have hg2 : Hid (((w3.alloc (.cells zeroCells 28)).alloc (.cells zeroCells 28)).heap[w3.heap.size + 1]? = some (.cells zeroCells 28)) := by have := blk_new (w3.alloc (.cells zeroCells 28)) (.cells zeroCells 28); rw [hza] at this; exact this
  have hb4 : Hid (Below w3.heap.size w3 ((w3.alloc (.cells zeroCells 28)).alloc (.cells zeroCells 28))) := (Below_alloc w3 _).trans ((Below_alloc (w3.alloc (.cells zeroCells 28)) (.cells zeroCells 28)).mono (by simp))
  clear hza
  go_wp2_with (refine wpList_store_row rfl 28 (.tmp 7) (.tmp 28) rfl w3.heap.size cs rfl rfl 28 _ hg1.out (by rw [hsz]; kernel_rfl) (by rw [hsz]; rfl) hone (Hid.out ?_))
  have p1 := setRow_heap ((w3.alloc (.cells zeroCells 28)).alloc (.cells zeroCells 28)) w3.heap.size _ cs _ _ hg1.out
  have p2 : (((w3.alloc (.cells zeroCells 28)).alloc (.cells zeroCells 28)).setRow w3.heap.size cs).heap[w3.heap.size + 1]? = some (.cells zeroCells 28) := (setRow_other _ _ _ _ (by omega)).trans hg2.out
  have pb : Below w3.heap.size w3 (((w3.alloc (.cells zeroCells 28)).alloc (.cells zeroCells 28)).setRow w3.heap.size cs) := hb4.out.trans ⟨rfl, rfl, rfl, by simp, fun k hk => setRow_other _ _ _ _ (by omega)⟩
  replace p1 := Lib.hid p1
  replace p2 := Lib.hid p2
  replace pb := Lib.hid pb
  generalize World.setRow _ _ _ = w4 at p1 p2 pb ⊢
  clear hg1 hg2 hb4
  refine Lib.hid ?_
  go_wp2_with (refine wpList_store_row rfl 28 (.tmp 8) (.tmp 29) rfl (w3.heap.size + 1) ds rfl rfl 28 _ p2.out (by rw [hdz]; kernel_rfl) (by rw [hdz]; rfl) hdone (Hid.out ?_))
  have q1 := Lib.hid ((setRow_other w4 (w3.heap.size + 1) w3.heap.size ds (by omega)).trans p1.out)
  have q2 := Lib.hid (setRow_heap w4 (w3.heap.size + 1) _ ds _ _ p2.out)
  have qb : Below w3.heap.size w3 (w4.setRow (w3.heap.size + 1) ds) := pb.out.trans ⟨rfl, rfl, rfl, by simp, fun k hk => setRow_other _ _ _ _ (by omega)⟩
  have hbel := Lib.hid (belowThen hB3.out qb (Nat.le_refl _))
  clear hB3 qb p1 p2 pb
  generalize w4.setRow _ _ = wf at q1 q2 hbel ⊢
  generalize w3.heap.size = gT at q1 q2 ⊢
  refine Lib.hid ?_
  have hcs2 : Hid (cs = tcel T (.slice aa1 la1 ca1) (.slice aa2 la2 ca2) (.slice aa3 la3 ca3)) := (Value.agg.inj hcs.out).symm
  have hds2 : Hid (ds = tcel T (.slice ab1 lb1 cb1) (.slice ab2 lb2 cb2) (.slice ab3 lb3 cb3)) := (Value.agg.inj hds.out).symm
  have x1 : wf.cell? ⟨gT, 1, none⟩ = some (.string (B T.container)) := by rw [cell_blk q1.out 1, hcs2.out]; rfl
  have x2 : wf.cell? ⟨gT + 1, 1, none⟩ = some (.string (B T.container)) := by rw [cell_blk q2.out 1, hds2.out]; rfl
  clear hcs2 hds2 q1 q2 hcs hds hsz hdz hone hdone
  cases KN with
  | false =>
    go_wp2_with fail
    go_ret
    exact ⟨rfl, hbel.out⟩
  | true =>
    go_wp2_with fail
    go_ret
    exact ⟨ret_bool (by simp), hbel.out⟩

end Go.Proofs.YtcmiiboioemelaaGreatDoor

namespace Go.Proofs.YtcmiiboioemelaaGreatDoor
open Go.ChangeShapes Go.WideShapes Go.ChangeAt Go.RowKit
open Go.ChangeMaps (open_string shut_string)

theorem own : ownKnob Tryz.prog.godebug = none := by kernel_rfl
theorem laidOut : laidOutB Tryz.prog = true := by kernel_rfl
theorem siteReads : Tryz.prog.readableRec 25 = true := by kernel_rfl
theorem siteRow : 25 < Tryz.prog.types.size := of_decide_eq_true (by kernel_rfl)

def laidAll' : List (String × DataW Unit) := Rows.fnContainerRow.laid

set_option maxRecDepth 100000 in
theorem lifted1 (os : Os) (started : os.Started) (H : Type) (enc : TypeId × Value -> H) :
    ReturnsInHanded {} Tryz.checked os 4 .any (fun w args => (Rows.fnContainerSpec.pre enc Tryz.prog Tryz.f4 Rows.fnContainerRow.domain false w args /\ laidMetH Tryz.prog laidAll' w) /\ sizedMet enc Tryz.prog Tryz.f4 (OpenSpec.ofChange Rows.fnContainerSpec) false w args)
      (Rows.fnContainerSpec.post enc Tryz.prog Tryz.f4 false true false false) := by
  refine returnsInHanded_of_change_and (C := Tryz.checked) (X := fun w _ => laidMetH Tryz.prog laidAll' w) (fun _ _ _ hh h => h.of_heap hh) own started (by kernel_rfl) Tryz.func4
    (ChangeSpec.witness_shaped (enc := enc) (C := Tryz.checked) (os := os) (X := fun w _ => laidMetH Tryz.prog laidAll' w) false (World.laidAll Tryz.prog os laidAll') #[.agg #[.slice none 0 0, .slice none 0 0, .slice none 0 0, .slice none 0 0], .string ByteArray.empty, .string ByteArray.empty] 8 (World.laidAll_os _ _ _)
      (World.shaped_of_ZipB (by kernel_rfl) (by kernel_rfl)) (by kernel_rfl) (by kernel_rfl) (by kernel_rfl)
      (by rw [MakeChecks.laidMetH_plain _ _ _ (by kernel_rfl)]; exact laidMet_laidAll _ (by kernel_rfl) (by kernel_rfl))) ?_
  intro W base args ds gs before hval0 hW hc hsz0 _ _
  have hsz : (DataW.weightsEach Tryz.prog (Tryz.f4.params.toList ++ Rows.fnContainerSpec.plain.varTypes Tryz.prog) (ds ++ gs)).all (· <= reachBytes) = true := hsz0
  have hval : ∀ (j : Nat) t v, Tryz.f4.params[j]? = some t -> args[j]? = some v -> Value.okWide Tryz.prog W .any base t v := hval0
  have hW' := hW
  obtain ⟨p, q, hA0, hV, rfl, _, _⟩ := hW
  have hA : DataW.TrodAll enc Tryz.prog W 0 (fun _ => true) true Tryz.f4.params.toList args.toList ds p := hA0
  rw [Tryz.params4] at hA hval hsz
  obtain ⟨v0, v1, v2, d0, d1, d2, p0, p1, p2, rfl, rfl, rfl, h0, h1, h2⟩ := trodAll_three hA
  obtain ⟨rfl, rfl⟩ := trodVars_none hV
  obtain ⟨a1, rfl, rfl, rfl, y1⟩ := open_string Tryz.underlying9 (hval 1 9 v1 rfl rfl) h1
  obtain ⟨a2, rfl, rfl, rfl, y2⟩ := open_string Tryz.underlying9 (hval 2 9 v2 rfl rfl) h2
  have w1 : a1.size <= 140737488351232 := by
    have z := sized_string hsz (j := 1) (t := 9) rfl rfl
    rw [Array.length_toList] at z
    exact z
  have w2 : a2.size <= 140737488351232 := by
    have z := sized_string hsz (j := 2) (t := 9) rfl rfl
    rw [Array.length_toList] at z
    exact z
  have w0 : ∀ n ∈ d0.weights Tryz.prog 25, n <= reachBytes := fun n hn => by
    have := List.all_eq_true.1 hsz n (DataW.weights_mem_each (j := 0) (t := 25) rfl rfl n hn)
    simpa using this
  obtain ⟨vl, vd, vf, vc, site, rfl, hs, cl, cd, cc⟩ := open_site h0 (hval 0 25 v0 rfl rfl) w0
  have hlt : ∀ x ∈ p0, x.block < W.heap.size := fun x hx => hW'.lt x (by simp [hx])
  obtain ⟨l1, rfl⟩ := B_surj a1
  obtain ⟨l2, rfl⟩ := B_surj a2
  rw [B_size] at w1 w2
  refine (w_FnContainer site l1 l2 vl vd vf vc W hs cl cd cc w1 w2).mono fun e W' ⟨he, bel⟩ => ?_
  subst he
  refine ⟨_, rfl, _, _, _, [], _, [], hW', trodAll_mk1 (shut_bool Tryz.underlying4 _), trodAll_mk3 (Below.trod laidOut siteReads siteRow h0 bel hlt) (shut_string Tryz.underlying9 y1) (shut_string Tryz.underlying9 y2), rfl, bel.frame _, fun h => by cases h⟩

theorem over1 : Rows.FnContainerSaid :=
  OpenClaim.holds_of_wide 4 Tryz.f4 rfl rfl rfl rfl rfl rfl rfl ⟨rfl, rfl, rfl, rfl, rfl⟩ rfl rfl rfl rfl rfl (by kernel_rfl) Tryz.func4 (by kernel_rfl)
    (of_decide_eq_true (by kernel_rfl)) (by unfold Func.isWrapper; first | (rw [if_pos (by decide +kernel)]; kernel_rfl) | (rw [if_neg (by decide +kernel)]; exact ⟨rfl, rfl⟩))
    (fun os started H enc _ => lifted1 os started H enc)

theorem fnContainer_holds : Rows.FnContainerCardSaid :=
  Claim7.holds_tied_plain_at .later [] [.data, .pinned, .pinned] true Rows.fnContainerCard.stood.harness false over1 (fun _ h => by cases h) (by kernel_rfl) (fun _ h => by cases h) fnContainer_row_tie rfl ⟨rfl, rfl⟩ (by kernel_rfl) rfl
    (fun f fn hf hfn => by
      obtain rfl : f = 4 := Option.some.inj ((show Tryz.prog.funcNamed Rows.fnContainerRow.func = some 4 by kernel_rfl).symm.trans hf) |>.symm
      obtain rfl : fn = Tryz.f4 := (Option.some.inj (Tryz.func4.symm.trans hfn)).symm
      exact ⟨by kernel_rfl, fun j t ht => by
        rw [Tryz.params4] at ht
        have hm : t ∈ [25, 9, 9] := by simpa using Array.mem_of_getElem? ht
        have hall : ([25, 9].all fun u => !Tryz.prog.wantsStandIn u) = true := by kernel_rfl
        exact (show Tryz.prog.wantsStandIn t = false by simpa using List.all_eq_true.1 hall t (by simp at hm ⊢; exact hm))⟩)
    (by kernel_rfl)
#print axioms fnContainer_holds
end Go.Proofs.YtcmiiboioemelaaGreatDoor
