/- The walk of the law FnKnownBy: a layout is known by its path, all else by its base. Conditions: a site in memory, texts that fit into the platform's addresses. -/
import Derived.Test.YtpgefkmnafpbgaaGreatDoorKnown
import Derived.Test.YtpgefkmnafpbgaaGreatDoorFacts
import Derived.Test.YtpgefkmnafpbgaaGreatDoorLawP
set_option maxRecDepth 100000
set_option linter.unusedVariables false
set_option linter.unusedSimpArgs false
namespace Go.Proofs.YtpgefkmnafpbgaaGreatDoor
open Go.RowKit
attribute [local go_sem] B_extract B_toList B_append

set_option maxHeartbeats 8000000 in
theorem w_FnKnownBy (site : SiteM) (comp s : Str) (vl vd vf vc : Value) (w : World) (hv : SiteAt w vl vd vf vc site) (hcl : CapOK vl) (hcd : CapOK vd) (hcc : CapOK vc) (hc0 : comp.length ≤ 140737488351232) (hs0 : s.length ≤ 140737488351232) :
    Calls Tryz.prog 5 #[.agg #[vl, vd, vf, vc], .string (B comp), .string (B s)] w fun e w' => e = .returned (.bool true) ∧ Below w.heap.size w w' := by
  have HZ : Hid (∀ wx, SiteAt wx vl vd vf vc site → Calls Tryz.prog 15 #[.agg #[vl, vd, vf, vc]] wx fun e w' => e = .returned (.bool (siteFits site)) ∧ Below wx.heap.size wx w') := fun wx h => c_zzFits1 site vl vd vf vc wx h
  have HKN : Hid (siteFits site = true → comp.length ≤ 2147483647 → s.length ≤ 2147483647 → ∀ wx, SiteAt wx vl vd vf vc site → Calls Tryz.prog 17 #[.agg #[vl, vd, vf, vc], .string (B comp), .string (B s)] wx
      fun e w' => ∃ v T, e = .returned (.tuple #[v, .bool (knownL site comp s)]) ∧ ToldAtN wx.heap.size w' v T ∧ Below wx.heap.size wx w' ∧ (knownL site comp s = true → T = toldM (doParseM site comp (normL s)))) := fun hf h1 h2 wx h => c_known site comp s vl vd vf vc wx h hcl hcd hcc hf h1 h2
  have HPK : Hid (knownL site comp s = true → pathKnown site comp s = true) := fun h => by unfold knownL at h; rw [Bool.and_eq_true] at h; exact h.2
  obtain ⟨obs, hobs⟩ : ∃ o : Obj, o = .cells #[vl, vd, vf, vc] 25 := ⟨_, rfl⟩
  have hB1 : Hid (Below w.heap.size w (w.alloc obs)) := Below_alloc w obs
  have hsb : Hid ((w.alloc obs).heap[w.heap.size]? = some (.cells #[vl, vd, vf, vc] 25)) := by show _ = _; rw [hobs]; exact blk_new w _
  have HV1 : Hid (SiteAt (w.alloc obs) vl vd vf vc site) := hv.alloc obs
  clear hv hcl hcd hcc
  cases h1 : siteFits site with
  | false =>
    rw [h1] at HZ
    go_enter Tryz.func5, Tryz.ntmps5
    go_wp2_with fail
    rw [← hobs]
    generalize w.alloc obs = w1 at hB1 hsb HV1 ⊢
    refine (HZ.out _ HV1.out).mono ?_; rintro e w2 ⟨rfl, b2⟩
    have hB2 := Lib.hid (belowThen hB1.out b2 (Nat.le_refl _))
    go_wp2_with fail
    go_ret
    exact ⟨rfl, hB2.out⟩
  | true =>
  rw [h1] at HZ
  by_cases h2 : comp.length ≤ 2147483647
  rotate_left 1
  · skip
    go_enter Tryz.func5, Tryz.ntmps5
    go_wp2_with fail
    rw [← hobs]
    generalize w.alloc obs = w1 at hB1 hsb HV1 ⊢
    refine (HZ.out _ HV1.out).mono ?_; rintro e w2 ⟨rfl, b2⟩
    have hB2 := Lib.hid (belowThen hB1.out b2 (Nat.le_refl _))
    go_wp2_with fail
    go_ret
    exact ⟨rfl, hB2.out⟩
  by_cases h3 : s.length ≤ 2147483647
  rotate_left 1
  · skip
    go_enter Tryz.func5, Tryz.ntmps5
    go_wp2_with fail
    rw [← hobs]
    generalize w.alloc obs = w1 at hB1 hsb HV1 ⊢
    refine (HZ.out _ HV1.out).mono ?_; rintro e w2 ⟨rfl, b2⟩
    have hB2 := Lib.hid (belowThen hB1.out b2 (Nat.le_refl _))
    go_wp2_with fail
    go_ret
    exact ⟨rfl, hB2.out⟩
  cases hk : knownL site comp s with
  | false =>
    go_enter Tryz.func5, Tryz.ntmps5
    go_wp2_with fail
    rw [← hobs]
    generalize w.alloc obs = w1 at hB1 hsb HV1 ⊢
    refine (HZ.out _ HV1.out).mono ?_; rintro e w2 ⟨rfl, b2⟩
    have hB2 := Lib.hid (belowThen hB1.out b2 (Nat.le_refl _))
    have hsb2 := Lib.hid (blk_below hsb.out b2)
    have HV2 := Lib.hid (HV1.out.below b2)
    obtain ⟨k0, k1, k2, k3⟩ : w2.cell? ⟨w.heap.size, 0, none⟩ = some vl ∧ w2.cell? ⟨w.heap.size, 1, none⟩ = some vd ∧ w2.cell? ⟨w.heap.size, 2, none⟩ = some vf ∧ w2.cell? ⟨w.heap.size, 3, none⟩ = some vc := ⟨cell_blk hsb2.out 0, cell_blk hsb2.out 1, cell_blk hsb2.out 2, cell_blk hsb2.out 3⟩
    clear b2 hsb HV1 hB1 HZ
    go_wp2_with fail
    refine (HKN.out h1 h2 h3 _ HV2.out).mono ?_; rintro e w3 ⟨v, T, rfl, ⟨ql, qi, qu, rfl, ⟨s1, n1⟩, ⟨s2, n2⟩, ⟨s3, n3⟩⟩, b3, hT⟩
    clear k0 k1 k2 k3 HKN
    rw [hk]
    obtain ⟨a1, l1, c1, rfl⟩ := s1.slice
    obtain ⟨a2, l2, c2, rfl⟩ := s2.slice
    obtain ⟨a3, l3, c3, rfl⟩ := s3.slice
    obtain ⟨cs, hcs, hsz, hone⟩ := told_cells T a1 a2 a3 l1 l2 l3 c1 c2 c3
    rw [hcs]
    have hB3 := Lib.hid (belowThen hB2.out b3 (Nat.le_refl _))
    have hz3 : w.heap.size ≤ w3.heap.size := hB3.out.size
    replace s1 := Lib.hid s1
    replace s2 := Lib.hid s2
    replace s3 := Lib.hid s3
    replace hcs := Lib.hid hcs
    have hV3 := Lib.hid (HV2.out.below b3)
    have hsb3 := Lib.hid (blk_below hsb2.out b3)
    clear n1 n2 n3 b3 hB2 hsb2 HV2
    go_wp2_with (refine wpList_store_row rfl 28 (.tmp 7) (.tmp 27) rfl w3.heap.size cs rfl rfl 28 _ (blk_new w3 _) (by rw [hsz]; kernel_rfl) (by rw [hsz]; rfl) hone (Hid.out ?_))
    have hrow := Lib.hid (setRow_heap (w3.alloc (.cells #[.string (B []), .string (B []), .string (B []), .string (B []), .string (B []), .string (B []), .string (B []), .string (B []), .string (B []), .string (B []), .string (B []), .string (B []), .string (B []), .string (B []), .string (B []), .string (B []), .string (B []), .string (B []), .string (B []), .string (B []), .string (B []), .slice none 0 0, .slice none 0 0, .slice none 0 0, .bool false, .bool false, .bool false, .bool false, .bool false, .bool false, .int .i64 0] 28)) w3.heap.size _ cs _ _ (blk_new w3 _))
    have hbel3 : Hid (Below w3.heap.size w3 ((w3.alloc (.cells #[.string (B []), .string (B []), .string (B []), .string (B []), .string (B []), .string (B []), .string (B []), .string (B []), .string (B []), .string (B []), .string (B []), .string (B []), .string (B []), .string (B []), .string (B []), .string (B []), .string (B []), .string (B []), .string (B []), .string (B []), .string (B []), .slice none 0 0, .slice none 0 0, .slice none 0 0, .bool false, .bool false, .bool false, .bool false, .bool false, .bool false, .int .i64 0] 28)).setRow w3.heap.size cs)) := (Below_alloc w3 _).trans ⟨rfl, rfl, rfl, by simp, fun k hk => setRow_other _ _ _ _ (by omega)⟩
    have hbel := Lib.hid (belowThen hB3.out hbel3.out (Nat.le_refl _))
    have t1 := Lib.hid (s1.out.below hbel3.out)
    have t2 := Lib.hid (s2.out.below hbel3.out)
    have t3 := Lib.hid (s3.out.below hbel3.out)
    have hV4 := Lib.hid (hV3.out.below hbel3.out)
    have hsb4 := Lib.hid (blk_below hsb3.out hbel3.out)
    clear s1 s2 s3 hV3 hB3 hbel3 hsb3
    generalize (w3.alloc _).setRow _ _ = wf at hrow hbel t1 t2 t3 hV4 hsb4 ⊢
    generalize w3.heap.size = gT at hrow ⊢
    refine Lib.hid ?_
    go_wp2_with fail
    go_ret
    exact ⟨rfl, hbel.out⟩
  | true =>
    go_enter Tryz.func5, Tryz.ntmps5
    go_wp2_with fail
    rw [← hobs]
    generalize w.alloc obs = w1 at hB1 hsb HV1 ⊢
    refine (HZ.out _ HV1.out).mono ?_; rintro e w2 ⟨rfl, b2⟩
    have hB2 := Lib.hid (belowThen hB1.out b2 (Nat.le_refl _))
    have hsb2 := Lib.hid (blk_below hsb.out b2)
    have HV2 := Lib.hid (HV1.out.below b2)
    obtain ⟨k0, k1, k2, k3⟩ : w2.cell? ⟨w.heap.size, 0, none⟩ = some vl ∧ w2.cell? ⟨w.heap.size, 1, none⟩ = some vd ∧ w2.cell? ⟨w.heap.size, 2, none⟩ = some vf ∧ w2.cell? ⟨w.heap.size, 3, none⟩ = some vc := ⟨cell_blk hsb2.out 0, cell_blk hsb2.out 1, cell_blk hsb2.out 2, cell_blk hsb2.out 3⟩
    clear b2 hsb HV1 hB1 HZ
    go_wp2_with fail
    refine (HKN.out h1 h2 h3 _ HV2.out).mono ?_; rintro e w3 ⟨v, T, rfl, ⟨ql, qi, qu, rfl, ⟨s1, n1⟩, ⟨s2, n2⟩, ⟨s3, n3⟩⟩, b3, hT⟩
    clear k0 k1 k2 k3 HKN
    rw [hk]
    obtain ⟨a1, l1, c1, rfl⟩ := s1.slice
    obtain ⟨a2, l2, c2, rfl⟩ := s2.slice
    obtain ⟨a3, l3, c3, rfl⟩ := s3.slice
    obtain ⟨cs, hcs, hsz, hone⟩ := told_cells T a1 a2 a3 l1 l2 l3 c1 c2 c3
    rw [hcs]
    have hB3 := Lib.hid (belowThen hB2.out b3 (Nat.le_refl _))
    have hz3 : w.heap.size ≤ w3.heap.size := hB3.out.size
    replace s1 := Lib.hid s1
    replace s2 := Lib.hid s2
    replace s3 := Lib.hid s3
    replace hcs := Lib.hid hcs
    have hV3 := Lib.hid (HV2.out.below b3)
    have hsb3 := Lib.hid (blk_below hsb2.out b3)
    clear n1 n2 n3 b3 hB2 hsb2 HV2
    go_wp2_with (refine wpList_store_row rfl 28 (.tmp 7) (.tmp 27) rfl w3.heap.size cs rfl rfl 28 _ (blk_new w3 _) (by rw [hsz]; kernel_rfl) (by rw [hsz]; rfl) hone (Hid.out ?_))
    have hrow := Lib.hid (setRow_heap (w3.alloc (.cells #[.string (B []), .string (B []), .string (B []), .string (B []), .string (B []), .string (B []), .string (B []), .string (B []), .string (B []), .string (B []), .string (B []), .string (B []), .string (B []), .string (B []), .string (B []), .string (B []), .string (B []), .string (B []), .string (B []), .string (B []), .string (B []), .slice none 0 0, .slice none 0 0, .slice none 0 0, .bool false, .bool false, .bool false, .bool false, .bool false, .bool false, .int .i64 0] 28)) w3.heap.size _ cs _ _ (blk_new w3 _))
    have hbel3 : Hid (Below w3.heap.size w3 ((w3.alloc (.cells #[.string (B []), .string (B []), .string (B []), .string (B []), .string (B []), .string (B []), .string (B []), .string (B []), .string (B []), .string (B []), .string (B []), .string (B []), .string (B []), .string (B []), .string (B []), .string (B []), .string (B []), .string (B []), .string (B []), .string (B []), .string (B []), .slice none 0 0, .slice none 0 0, .slice none 0 0, .bool false, .bool false, .bool false, .bool false, .bool false, .bool false, .int .i64 0] 28)).setRow w3.heap.size cs)) := (Below_alloc w3 _).trans ⟨rfl, rfl, rfl, by simp, fun k hk => setRow_other _ _ _ _ (by omega)⟩
    have hbel := Lib.hid (belowThen hB3.out hbel3.out (Nat.le_refl _))
    have t1 := Lib.hid (s1.out.below hbel3.out)
    have t2 := Lib.hid (s2.out.below hbel3.out)
    have t3 := Lib.hid (s3.out.below hbel3.out)
    have hV4 := Lib.hid (hV3.out.below hbel3.out)
    have hsb4 := Lib.hid (blk_below hsb3.out hbel3.out)
    clear s1 s2 s3 hV3 hB3 hbel3 hsb3
    generalize (w3.alloc _).setRow _ _ = wf at hrow hbel t1 t2 t3 hV4 hsb4 ⊢
    generalize w3.heap.size = gT at hrow ⊢
    refine Lib.hid ?_
    have hFx : Hid (Facts site comp s T) := by have h := facts (HPK.out hk); rw [← hT hk] at h; exact h
    clear hT
    have hcs2 : Hid (cs = #[.string (B T.component), .string (B T.container), .string (B T.containerDir), .string (B T.section_), .string (B T.name), .string (B T.nameNoExt), .string (B T.baseName), .string (B T.nameNoId), .string (B T.dir), .string (B T.path), .string (B T.pathNoLang), .string (B T.pathNoId), .string (B T.pathBefore), .string (B T.base), .string (B T.idBase), .string (B T.ext), .string (B T.format), .string (B T.kind), .string (B T.layout), .string (B T.lang), .string (B T.custom), .slice a1 l1 c1, .slice a2 l2 c2, .slice a3 l3 c3, .bool T.disabled, .bool T.isContent, .bool T.isBundle, .bool T.isBranch, .bool T.isLeaf, .bool T.isData, .int .i64 T.typ]) := (Value.agg.inj hcs.out).symm
    have x9 : wf.cell? ⟨gT, 9, none⟩ = some (.string (B T.path)) := by rw [cell_blk hrow.out 9, hcs2.out]; rfl
    have x13 : wf.cell? ⟨gT, 13, none⟩ = some (.string (B T.base)) := by rw [cell_blk hrow.out 13, hcs2.out]; rfl
    have x14 : wf.cell? ⟨gT, 14, none⟩ = some (.string (B T.idBase)) := by rw [cell_blk hrow.out 14, hcs2.out]; rfl
    clear hcs2 hrow hcs hsz hone
    have f1 : (T.path == []) = false := by rw [beq_eq_false_iff_ne]; exact hFx.out.ne
    have hi := hFx.out.idb
    cases hc : (comp == [108, 97, 121, 111, 117, 116, 115]) with
    | true =>
      rw [if_pos (show comp = kLayouts by simpa using hc)] at hi
      have f2 : (T.idBase == T.path) = true := by rw [hi]; simp
      clear hi
      go_wp2_with fail
      go_ret
      exact ⟨rfl, hbel.out⟩
    | false =>
      rw [if_neg (show ¬ comp = kLayouts by simpa using hc)] at hi
      have f2 : (T.idBase == T.base) = true := by rw [hi]; simp
      clear hi
      go_wp2_with fail
      go_ret
      exact ⟨rfl, hbel.out⟩

end Go.Proofs.YtpgefkmnafpbgaaGreatDoor
