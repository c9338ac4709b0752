/- The walk of the law FnWordsCount: the identifiers and the words that are none are no more than the last part has words. Conditions: a site in memory, texts that fit into the platform's addresses. -/
import Derived.Test.YtpgefkmnafpbgaaGreatDoorKnown
import Derived.Test.YtpgefkmnafpbgaaGreatDoorFacts
import Derived.Test.YtpgefkmnafpbgaaGreatDoorLawP
set_option maxRecDepth 100000
set_option linter.unusedVariables false
set_option linter.unusedSimpArgs false
namespace Go.Proofs.YtpgefkmnafpbgaaGreatDoor
open Go.RowKit
attribute [local go_sem] B_extract B_toList B_append

theorem dots_step {l : Str} {k : Nat} (h : k < l.length) : countDots (l.take (k + 1)) = countDots (l.take k) + if l[k]? = some 46 then 1 else 0 := by
  unfold countDots
  rw [List.take_succ_eq_append_getElem h, List.countP_append, List.getElem?_eq_getElem h]
  by_cases e : l[k] = 46 <;> simp [e, List.countP_cons]
theorem dots_le (l : Str) (k : Nat) : countDots (l.take k) ≤ k := Nat.le_trans List.countP_le_length (List.length_take_le _ _)

set_option maxHeartbeats 8000000 in
theorem w_FnWordsCount (site : SiteM) (comp s : Str) (vl vd vf vc : Value) (w : World) (hv : SiteAt w vl vd vf vc site) (hcl : CapOK vl) (hcd : CapOK vd) (hcc : CapOK vc) (hc0 : comp.length ≤ 140737488351232) (hs0 : s.length ≤ 140737488351232) :
    Calls Tryz.prog 14 #[.agg #[vl, vd, vf, vc], .string (B comp), .string (B s)] w fun e w' => e = .returned (.bool true) ∧ Below w.heap.size w w' := by
  have HZ : Hid (∀ wx, SiteAt wx vl vd vf vc site → Calls Tryz.prog 15 #[.agg #[vl, vd, vf, vc]] wx fun e w' => e = .returned (.bool (siteFits site)) ∧ Below wx.heap.size wx w') := fun wx h => c_zzFits1 site vl vd vf vc wx h
  have HKN : Hid (siteFits site = true → comp.length ≤ 2147483647 → s.length ≤ 2147483647 → ∀ wx, SiteAt wx vl vd vf vc site → Calls Tryz.prog 17 #[.agg #[vl, vd, vf, vc], .string (B comp), .string (B s)] wx
      fun e w' => ∃ v T, e = .returned (.tuple #[v, .bool (knownL site comp s)]) ∧ ToldAtN wx.heap.size w' v T ∧ Below wx.heap.size wx w' ∧ (knownL site comp s = true → T = toldM (doParseM site comp (normL s)))) := fun hf h1 h2 wx h => c_known site comp s vl vd vf vc wx h hcl hcd hcc hf h1 h2
  have HPK : Hid (knownL site comp s = true → pathKnown site comp s = true) := fun h => by unfold knownL at h; rw [Bool.and_eq_true] at h; exact h.2
  obtain ⟨obs, hobs⟩ : ∃ o : Obj, o = .cells #[vl, vd, vf, vc] 25 := ⟨_, rfl⟩
  have hB1 : Hid (Below w.heap.size w (w.alloc obs)) := Below_alloc w obs
  have hsb : Hid ((w.alloc obs).heap[w.heap.size]? = some (.cells #[vl, vd, vf, vc] 25)) := by show _ = _; rw [hobs]; exact blk_new w _
  have HV1 : Hid (SiteAt (w.alloc obs) vl vd vf vc site) := hv.alloc obs
  clear hv hcl hcd hcc
  cases h1 : siteFits site with
  | false =>
    rw [h1] at HZ
    go_enter Tryz.func14, Tryz.ntmps14
    go_wp2_with fail
    rw [← hobs]
    generalize w.alloc obs = w1 at hB1 hsb HV1 ⊢
    refine (HZ.out _ HV1.out).mono ?_; rintro e w2 ⟨rfl, b2⟩
    have hB2 := Lib.hid (belowThen hB1.out b2 (Nat.le_refl _))
    go_wp2_with fail
    go_ret
    exact ⟨rfl, hB2.out⟩
  | true =>
  rw [h1] at HZ
  by_cases h2 : comp.length ≤ 2147483647
  rotate_left 1
  · skip
    go_enter Tryz.func14, Tryz.ntmps14
    go_wp2_with fail
    rw [← hobs]
    generalize w.alloc obs = w1 at hB1 hsb HV1 ⊢
    refine (HZ.out _ HV1.out).mono ?_; rintro e w2 ⟨rfl, b2⟩
    have hB2 := Lib.hid (belowThen hB1.out b2 (Nat.le_refl _))
    go_wp2_with fail
    go_ret
    exact ⟨rfl, hB2.out⟩
  by_cases h3 : s.length ≤ 2147483647
  rotate_left 1
  · skip
    go_enter Tryz.func14, Tryz.ntmps14
    go_wp2_with fail
    rw [← hobs]
    generalize w.alloc obs = w1 at hB1 hsb HV1 ⊢
    refine (HZ.out _ HV1.out).mono ?_; rintro e w2 ⟨rfl, b2⟩
    have hB2 := Lib.hid (belowThen hB1.out b2 (Nat.le_refl _))
    go_wp2_with fail
    go_ret
    exact ⟨rfl, hB2.out⟩
  cases hk : knownL site comp s with
  | false =>
    go_enter Tryz.func14, Tryz.ntmps14
    go_wp2_with fail
    rw [← hobs]
    generalize w.alloc obs = w1 at hB1 hsb HV1 ⊢
    refine (HZ.out _ HV1.out).mono ?_; rintro e w2 ⟨rfl, b2⟩
    have hB2 := Lib.hid (belowThen hB1.out b2 (Nat.le_refl _))
    have hsb2 := Lib.hid (blk_below hsb.out b2)
    have HV2 := Lib.hid (HV1.out.below b2)
    obtain ⟨k0, k1, k2, k3⟩ : w2.cell? ⟨w.heap.size, 0, none⟩ = some vl ∧ w2.cell? ⟨w.heap.size, 1, none⟩ = some vd ∧ w2.cell? ⟨w.heap.size, 2, none⟩ = some vf ∧ w2.cell? ⟨w.heap.size, 3, none⟩ = some vc := ⟨cell_blk hsb2.out 0, cell_blk hsb2.out 1, cell_blk hsb2.out 2, cell_blk hsb2.out 3⟩
    clear b2 hsb HV1 hB1 HZ
    go_wp2_with fail
    refine (HKN.out h1 h2 h3 _ HV2.out).mono ?_; rintro e w3 ⟨v, T, rfl, ⟨ql, qi, qu, rfl, ⟨s1, n1⟩, ⟨s2, n2⟩, ⟨s3, n3⟩⟩, b3, hT⟩
    clear k0 k1 k2 k3 HKN
    rw [hk]
    obtain ⟨a1, l1, c1, rfl⟩ := s1.slice
    obtain ⟨a2, l2, c2, rfl⟩ := s2.slice
    obtain ⟨a3, l3, c3, rfl⟩ := s3.slice
    obtain ⟨cs, hcs, hsz, hone⟩ := told_cells T a1 a2 a3 l1 l2 l3 c1 c2 c3
    rw [hcs]
    have hB3 := Lib.hid (belowThen hB2.out b3 (Nat.le_refl _))
    have hz3 : w.heap.size ≤ w3.heap.size := hB3.out.size
    replace s1 := Lib.hid s1
    replace s2 := Lib.hid s2
    replace s3 := Lib.hid s3
    replace hcs := Lib.hid hcs
    have hV3 := Lib.hid (HV2.out.below b3)
    have hsb3 := Lib.hid (blk_below hsb2.out b3)
    clear n1 n2 n3 b3 hB2 hsb2 HV2
    go_wp2_with (refine wpList_store_row rfl 28 (.tmp 7) (.tmp 29) rfl w3.heap.size cs rfl rfl 28 _ (blk_new w3 _) (by rw [hsz]; kernel_rfl) (by rw [hsz]; rfl) hone (Hid.out ?_))
    have hrow := Lib.hid (setRow_heap (w3.alloc (.cells #[.string (B []), .string (B []), .string (B []), .string (B []), .string (B []), .string (B []), .string (B []), .string (B []), .string (B []), .string (B []), .string (B []), .string (B []), .string (B []), .string (B []), .string (B []), .string (B []), .string (B []), .string (B []), .string (B []), .string (B []), .string (B []), .slice none 0 0, .slice none 0 0, .slice none 0 0, .bool false, .bool false, .bool false, .bool false, .bool false, .bool false, .int .i64 0] 28)) w3.heap.size _ cs _ _ (blk_new w3 _))
    have hbel3 : Hid (Below w3.heap.size w3 ((w3.alloc (.cells #[.string (B []), .string (B []), .string (B []), .string (B []), .string (B []), .string (B []), .string (B []), .string (B []), .string (B []), .string (B []), .string (B []), .string (B []), .string (B []), .string (B []), .string (B []), .string (B []), .string (B []), .string (B []), .string (B []), .string (B []), .string (B []), .slice none 0 0, .slice none 0 0, .slice none 0 0, .bool false, .bool false, .bool false, .bool false, .bool false, .bool false, .int .i64 0] 28)).setRow w3.heap.size cs)) := (Below_alloc w3 _).trans ⟨rfl, rfl, rfl, by simp, fun k hk => setRow_other _ _ _ _ (by omega)⟩
    have hbel := Lib.hid (belowThen hB3.out hbel3.out (Nat.le_refl _))
    have t1 := Lib.hid (s1.out.below hbel3.out)
    have t2 := Lib.hid (s2.out.below hbel3.out)
    have t3 := Lib.hid (s3.out.below hbel3.out)
    have hV4 := Lib.hid (hV3.out.below hbel3.out)
    have hsb4 := Lib.hid (blk_below hsb3.out hbel3.out)
    clear s1 s2 s3 hV3 hB3 hbel3 hsb3
    generalize (w3.alloc _).setRow _ _ = wf at hrow hbel t1 t2 t3 hV4 hsb4 ⊢
    generalize w3.heap.size = gT at hrow ⊢
    refine Lib.hid ?_
    go_wp2_with fail
    go_ret
    exact ⟨rfl, hbel.out⟩
  | true =>
    go_enter Tryz.func14, Tryz.ntmps14
    go_wp2_with fail
    rw [← hobs]
    generalize w.alloc obs = w1 at hB1 hsb HV1 ⊢
    refine (HZ.out _ HV1.out).mono ?_; rintro e w2 ⟨rfl, b2⟩
    have hB2 := Lib.hid (belowThen hB1.out b2 (Nat.le_refl _))
    have hsb2 := Lib.hid (blk_below hsb.out b2)
    have HV2 := Lib.hid (HV1.out.below b2)
    obtain ⟨k0, k1, k2, k3⟩ : w2.cell? ⟨w.heap.size, 0, none⟩ = some vl ∧ w2.cell? ⟨w.heap.size, 1, none⟩ = some vd ∧ w2.cell? ⟨w.heap.size, 2, none⟩ = some vf ∧ w2.cell? ⟨w.heap.size, 3, none⟩ = some vc := ⟨cell_blk hsb2.out 0, cell_blk hsb2.out 1, cell_blk hsb2.out 2, cell_blk hsb2.out 3⟩
    clear b2 hsb HV1 hB1 HZ
    go_wp2_with fail
    refine (HKN.out h1 h2 h3 _ HV2.out).mono ?_; rintro e w3 ⟨v, T, rfl, ⟨ql, qi, qu, rfl, ⟨s1, n1⟩, ⟨s2, n2⟩, ⟨s3, n3⟩⟩, b3, hT⟩
    clear k0 k1 k2 k3 HKN
    rw [hk]
    obtain ⟨a1, l1, c1, rfl⟩ := s1.slice
    obtain ⟨a2, l2, c2, rfl⟩ := s2.slice
    obtain ⟨a3, l3, c3, rfl⟩ := s3.slice
    obtain ⟨cs, hcs, hsz, hone⟩ := told_cells T a1 a2 a3 l1 l2 l3 c1 c2 c3
    rw [hcs]
    have hB3 := Lib.hid (belowThen hB2.out b3 (Nat.le_refl _))
    have hz3 : w.heap.size ≤ w3.heap.size := hB3.out.size
    replace s1 := Lib.hid s1
    replace s2 := Lib.hid s2
    replace s3 := Lib.hid s3
    replace hcs := Lib.hid hcs
    have hV3 := Lib.hid (HV2.out.below b3)
    have hsb3 := Lib.hid (blk_below hsb2.out b3)
    clear n1 n2 n3 b3 hB2 hsb2 HV2
    go_wp2_with (refine wpList_store_row rfl 28 (.tmp 7) (.tmp 29) rfl w3.heap.size cs rfl rfl 28 _ (blk_new w3 _) (by rw [hsz]; kernel_rfl) (by rw [hsz]; rfl) hone (Hid.out ?_))
    have hrow := Lib.hid (setRow_heap (w3.alloc (.cells #[.string (B []), .string (B []), .string (B []), .string (B []), .string (B []), .string (B []), .string (B []), .string (B []), .string (B []), .string (B []), .string (B []), .string (B []), .string (B []), .string (B []), .string (B []), .string (B []), .string (B []), .string (B []), .string (B []), .string (B []), .string (B []), .slice none 0 0, .slice none 0 0, .slice none 0 0, .bool false, .bool false, .bool false, .bool false, .bool false, .bool false, .int .i64 0] 28)) w3.heap.size _ cs _ _ (blk_new w3 _))
    have hbel3 : Hid (Below w3.heap.size w3 ((w3.alloc (.cells #[.string (B []), .string (B []), .string (B []), .string (B []), .string (B []), .string (B []), .string (B []), .string (B []), .string (B []), .string (B []), .string (B []), .string (B []), .string (B []), .string (B []), .string (B []), .string (B []), .string (B []), .string (B []), .string (B []), .string (B []), .string (B []), .slice none 0 0, .slice none 0 0, .slice none 0 0, .bool false, .bool false, .bool false, .bool false, .bool false, .bool false, .int .i64 0] 28)).setRow w3.heap.size cs)) := (Below_alloc w3 _).trans ⟨rfl, rfl, rfl, by simp, fun k hk => setRow_other _ _ _ _ (by omega)⟩
    have hbel := Lib.hid (belowThen hB3.out hbel3.out (Nat.le_refl _))
    have t1 := Lib.hid (s1.out.below hbel3.out)
    have t2 := Lib.hid (s2.out.below hbel3.out)
    have t3 := Lib.hid (s3.out.below hbel3.out)
    have hV4 := Lib.hid (hV3.out.below hbel3.out)
    have hsb4 := Lib.hid (blk_below hsb3.out hbel3.out)
    clear s1 s2 s3 hV3 hB3 hbel3 hsb3
    generalize (w3.alloc _).setRow _ _ = wf at hrow hbel t1 t2 t3 hV4 hsb4 ⊢
    generalize w3.heap.size = gT at hrow ⊢
    refine Lib.hid ?_
    have hFx : Hid (Facts site comp s T) := by have h := facts (HPK.out hk); rw [← hT hk] at h; exact h
    clear hT
    have hcs2 : Hid (cs = #[.string (B T.component), .string (B T.container), .string (B T.containerDir), .string (B T.section_), .string (B T.name), .string (B T.nameNoExt), .string (B T.baseName), .string (B T.nameNoId), .string (B T.dir), .string (B T.path), .string (B T.pathNoLang), .string (B T.pathNoId), .string (B T.pathBefore), .string (B T.base), .string (B T.idBase), .string (B T.ext), .string (B T.format), .string (B T.kind), .string (B T.layout), .string (B T.lang), .string (B T.custom), .slice a1 l1 c1, .slice a2 l2 c2, .slice a3 l3 c3, .bool T.disabled, .bool T.isContent, .bool T.isBundle, .bool T.isBranch, .bool T.isLeaf, .bool T.isData, .int .i64 T.typ]) := (Value.agg.inj hcs.out).symm
    have x4 : wf.cell? ⟨gT, 4, none⟩ = some (.string (B T.name)) := by rw [cell_blk hrow.out 4, hcs2.out]; rfl
    have x9 : wf.cell? ⟨gT, 9, none⟩ = some (.string (B T.path)) := by rw [cell_blk hrow.out 9, hcs2.out]; rfl
    have x22 : wf.cell? ⟨gT, 22, none⟩ = some (.slice a2 l2 c2) := by rw [cell_blk hrow.out 22, hcs2.out]; rfl
    have x23 : wf.cell? ⟨gT, 23, none⟩ = some (.slice a3 l3 c3) := by rw [cell_blk hrow.out 23, hcs2.out]; rfl
    clear hcs2 hrow hcs hsz hone
    have f1 : (T.path == []) = false := by rw [beq_eq_false_iff_ne]; exact hFx.out.ne
    have hpl := hFx.out.len
    have hnl : T.name.length ≤ T.path.length := by
      obtain ⟨j, _, j2, j3⟩ := hFx.out.name
      rw [j3, List.length_drop]; omega
    have hcnt := hFx.out.cnt
    have e2 : l2 = T.ids.length := by
      obtain ⟨_, a', c', e, _⟩ := t2.out
      exact (Value.slice.inj e).2.1
    have e3 : l3 = T.unknown.length := by
      obtain ⟨_, a', c', e, _⟩ := t3.out
      exact (Value.slice.inj e).2.1
    rw [e2] at x22
    rw [e3] at x23
    have hdl := dots_le T.name T.name.length
    rw [List.take_length] at hdl
    have HDT : Hid ((0 < countDots T.name) ↔ T.ids ≠ []) := by
      constructor
      · intro h
        refine hFx.out.dot ?_
        unfold countDots at h
        rw [List.countP_pos_iff] at h
        obtain ⟨c, hc, he⟩ := h
        obtain ⟨j, hj, rfl⟩ := List.getElem_of_mem hc
        exact ⟨j, by rw [List.getElem?_eq_getElem hj]; simpa using he⟩
      · intro h
        apply Nat.pos_of_ne_zero
        intro e
        unfold countDots at e
        rw [List.countP_eq_zero] at e
        refine h (hFx.out.nodot (fun j hj => ?_)).1
        exact e 46 (List.mem_of_getElem? hj) (by decide)
    clear e2 e3 t1 t2 t3
    go_wp2_with fail
    go_loop [9, 10] (fun n i => ∃ k : Nat, k ≤ T.name.length ∧ i = .int .i64 k ∧ n = .int .i64 (countDots (T.name.take k))) (fun _ i => T.name.length - (intOf i).toNat)
    case atStart => exact ⟨0, Nat.zero_le _, rfl, rfl⟩
    case round =>
      obtain ⟨k, hk, rfl, rfl⟩ := hrel
      have hck := dots_le T.name k
      by_cases hlt : k < T.name.length
      · have hst := dots_step hlt
        by_cases hd : T.name[k]? = some 46
        · rw [if_pos hd] at hst
          have b1 := byte_yes hlt 46 46 rfl hd
          have HS := Lib.hid hst
          clear hd hst
          go_wp2_with fail
          go_round
          case rel => exact ⟨k + 1, by omega, by go_num, by rw [HS.out]; go_num⟩
          case measure => simp [intOf]; omega
        · rw [if_neg hd] at hst
          have b1 := byte_no hlt 46 46 rfl hd
          have HS := Lib.hid hst
          clear hd hst
          go_wp2_with fail
          go_round
          case rel => exact ⟨k + 1, by omega, by go_num, by rw [HS.out]; go_num⟩
          case measure => simp [intOf]; omega
      · obtain rfl : k = T.name.length := by omega
        rw [List.take_length] at hck ⊢
        have g1 : (T.ids.length : Int) + (T.unknown.length : Int) ≤ (countDots T.name : Int) + 1 := by omega
        have hi1 : (T.ids.length : Int) ≤ 1000 := by omega
        have hi2 : (T.unknown.length : Int) ≤ 1000 := by omega
        have hi3 : (countDots T.name : Int) ≤ 1000 := by omega
        generalize countDots T.name = D at *
        by_cases hD : 0 < D
        · have hz := List.length_pos_iff.2 (HDT.out.1 hD)
          have g2 : (0 : Int) < (D : Int) := by omega
          have g3 : (0 : Int) < (T.ids.length : Int) := by omega
          clear hD hz hck hdl hcnt hlt hk
          go_wp2_with fail
          go_ret
          exact ⟨ret_bool (by simp; try omega), hbel.out⟩
        · have hz : T.ids.length = 0 := by
            rcases Nat.eq_zero_or_pos T.ids.length with x | x
            · exact x
            · exact absurd (HDT.out.2 (List.length_pos_iff.1 x)) hD
          have g2 : ¬ (0 : Int) < (D : Int) := by omega
          have g3 : ¬ (0 : Int) < (T.ids.length : Int) := by omega
          clear hD hz hck hdl hcnt hlt hk
          go_wp2_with fail
          go_ret
          exact ⟨ret_bool (by simp; try omega), hbel.out⟩

end Go.Proofs.YtpgefkmnafpbgaaGreatDoor
