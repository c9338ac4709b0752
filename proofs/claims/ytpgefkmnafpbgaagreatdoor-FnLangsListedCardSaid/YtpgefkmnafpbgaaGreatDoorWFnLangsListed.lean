/- The walk of the law FnLangsListed: each of the languages of wrappers is one that the site has or has disabled, the first of them is the language. Conditions: a site in memory, texts that fit into the platform's addresses. -/
import Derived.Test.YtpgefkmnafpbgaaGreatDoorKnown
import Derived.Test.YtpgefkmnafpbgaaGreatDoorFacts
import Derived.Test.YtpgefkmnafpbgaaGreatDoorHelpB
import Derived.Test.YtpgefkmnafpbgaaGreatDoorLawP
set_option maxRecDepth 100000
set_option linter.unusedVariables false
set_option linter.unusedSimpArgs false
namespace Go.Proofs.YtpgefkmnafpbgaaGreatDoor
open Go.RowKit
attribute [local go_sem] B_extract B_toList B_append

set_option maxHeartbeats 8000000 in
theorem w_FnLangsListed (site : SiteM) (comp s : Str) (vl vd vf vc : Value) (w : World) (hv : SiteAt w vl vd vf vc site) (hcl : CapOK vl) (hcd : CapOK vd) (hcc : CapOK vc) (hc0 : comp.length ≤ 140737488351232) (hs0 : s.length ≤ 140737488351232) :
    Calls Tryz.prog 6 #[.agg #[vl, vd, vf, vc], .string (B comp), .string (B s)] w fun e w' => e = .returned (.bool true) ∧ Below w.heap.size w w' := by
  have HZ : Hid (∀ wx, SiteAt wx vl vd vf vc site → Calls Tryz.prog 15 #[.agg #[vl, vd, vf, vc]] wx fun e w' => e = .returned (.bool (siteFits site)) ∧ Below wx.heap.size wx w') := fun wx h => c_zzFits1 site vl vd vf vc wx h
  have HKN : Hid (siteFits site = true → comp.length ≤ 2147483647 → s.length ≤ 2147483647 → ∀ wx, SiteAt wx vl vd vf vc site → Calls Tryz.prog 17 #[.agg #[vl, vd, vf, vc], .string (B comp), .string (B s)] wx
      fun e w' => ∃ v T, e = .returned (.tuple #[v, .bool (knownL site comp s)]) ∧ ToldAtN wx.heap.size w' v T ∧ Below wx.heap.size wx w' ∧ (knownL site comp s = true → T = toldM (doParseM site comp (normL s)))) := fun hf h1 h2 wx h => c_known site comp s vl vd vf vc wx h hcl hcd hcc hf h1 h2
  have HPK : Hid (knownL site comp s = true → pathKnown site comp s = true) := fun h => by unfold knownL at h; rw [Bool.and_eq_true] at h; exact h.2
  obtain ⟨obs, hobs⟩ : ∃ o : Obj, o = .cells #[vl, vd, vf, vc] 25 := ⟨_, rfl⟩
  have hB1 : Hid (Below w.heap.size w (w.alloc obs)) := Below_alloc w obs
  have hsb : Hid ((w.alloc obs).heap[w.heap.size]? = some (.cells #[vl, vd, vf, vc] 25)) := by show _ = _; rw [hobs]; exact blk_new w _
  have HV1 : Hid (SiteAt (w.alloc obs) vl vd vf vc site) := hv.alloc obs
  clear hv hcl hcd hcc
  cases h1 : siteFits site with
  | false =>
    rw [h1] at HZ
    go_enter Tryz.func6, Tryz.ntmps6
    go_wp2_with fail
    rw [← hobs]
    generalize w.alloc obs = w1 at hB1 hsb HV1 ⊢
    refine (HZ.out _ HV1.out).mono ?_; rintro e w2 ⟨rfl, b2⟩
    have hB2 := Lib.hid (belowThen hB1.out b2 (Nat.le_refl _))
    go_wp2_with fail
    go_ret
    exact ⟨rfl, hB2.out⟩
  | true =>
  rw [h1] at HZ
  by_cases h2 : comp.length ≤ 2147483647
  rotate_left 1
  · skip
    go_enter Tryz.func6, Tryz.ntmps6
    go_wp2_with fail
    rw [← hobs]
    generalize w.alloc obs = w1 at hB1 hsb HV1 ⊢
    refine (HZ.out _ HV1.out).mono ?_; rintro e w2 ⟨rfl, b2⟩
    have hB2 := Lib.hid (belowThen hB1.out b2 (Nat.le_refl _))
    go_wp2_with fail
    go_ret
    exact ⟨rfl, hB2.out⟩
  by_cases h3 : s.length ≤ 2147483647
  rotate_left 1
  · skip
    go_enter Tryz.func6, Tryz.ntmps6
    go_wp2_with fail
    rw [← hobs]
    generalize w.alloc obs = w1 at hB1 hsb HV1 ⊢
    refine (HZ.out _ HV1.out).mono ?_; rintro e w2 ⟨rfl, b2⟩
    have hB2 := Lib.hid (belowThen hB1.out b2 (Nat.le_refl _))
    go_wp2_with fail
    go_ret
    exact ⟨rfl, hB2.out⟩
  cases hk : knownL site comp s with
  | false =>
    go_enter Tryz.func6, Tryz.ntmps6
    go_wp2_with fail
    rw [← hobs]
    generalize w.alloc obs = w1 at hB1 hsb HV1 ⊢
    refine (HZ.out _ HV1.out).mono ?_; rintro e w2 ⟨rfl, b2⟩
    have hB2 := Lib.hid (belowThen hB1.out b2 (Nat.le_refl _))
    have hsb2 := Lib.hid (blk_below hsb.out b2)
    have HV2 := Lib.hid (HV1.out.below b2)
    obtain ⟨k0, k1, k2, k3⟩ : w2.cell? ⟨w.heap.size, 0, none⟩ = some vl ∧ w2.cell? ⟨w.heap.size, 1, none⟩ = some vd ∧ w2.cell? ⟨w.heap.size, 2, none⟩ = some vf ∧ w2.cell? ⟨w.heap.size, 3, none⟩ = some vc := ⟨cell_blk hsb2.out 0, cell_blk hsb2.out 1, cell_blk hsb2.out 2, cell_blk hsb2.out 3⟩
    clear b2 hsb HV1 hB1 HZ
    go_wp2_with fail
    refine (HKN.out h1 h2 h3 _ HV2.out).mono ?_; rintro e w3 ⟨v, T, rfl, ⟨ql, qi, qu, rfl, ⟨s1, n1⟩, ⟨s2, n2⟩, ⟨s3, n3⟩⟩, b3, hT⟩
    clear k0 k1 k2 k3 HKN
    rw [hk]
    obtain ⟨a1, l1, c1, rfl⟩ := s1.slice
    obtain ⟨a2, l2, c2, rfl⟩ := s2.slice
    obtain ⟨a3, l3, c3, rfl⟩ := s3.slice
    obtain ⟨cs, hcs, hsz, hone⟩ := told_cells T a1 a2 a3 l1 l2 l3 c1 c2 c3
    rw [hcs]
    have hB3 := Lib.hid (belowThen hB2.out b3 (Nat.le_refl _))
    have hz3 : w.heap.size ≤ w3.heap.size := hB3.out.size
    replace s1 := Lib.hid s1
    replace s2 := Lib.hid s2
    replace s3 := Lib.hid s3
    replace hcs := Lib.hid hcs
    have hV3 := Lib.hid (HV2.out.below b3)
    have hsb3 := Lib.hid (blk_below hsb2.out b3)
    clear n1 n2 n3 b3 hB2 hsb2 HV2
    go_wp2_with (refine wpList_store_row rfl 28 (.tmp 7) (.tmp 29) rfl w3.heap.size cs rfl rfl 28 _ (blk_new w3 _) (by rw [hsz]; kernel_rfl) (by rw [hsz]; rfl) hone (Hid.out ?_))
    have hrow := Lib.hid (setRow_heap (w3.alloc (.cells #[.string (B []), .string (B []), .string (B []), .string (B []), .string (B []), .string (B []), .string (B []), .string (B []), .string (B []), .string (B []), .string (B []), .string (B []), .string (B []), .string (B []), .string (B []), .string (B []), .string (B []), .string (B []), .string (B []), .string (B []), .string (B []), .slice none 0 0, .slice none 0 0, .slice none 0 0, .bool false, .bool false, .bool false, .bool false, .bool false, .bool false, .int .i64 0] 28)) w3.heap.size _ cs _ _ (blk_new w3 _))
    have hbel3 : Hid (Below w3.heap.size w3 ((w3.alloc (.cells #[.string (B []), .string (B []), .string (B []), .string (B []), .string (B []), .string (B []), .string (B []), .string (B []), .string (B []), .string (B []), .string (B []), .string (B []), .string (B []), .string (B []), .string (B []), .string (B []), .string (B []), .string (B []), .string (B []), .string (B []), .string (B []), .slice none 0 0, .slice none 0 0, .slice none 0 0, .bool false, .bool false, .bool false, .bool false, .bool false, .bool false, .int .i64 0] 28)).setRow w3.heap.size cs)) := (Below_alloc w3 _).trans ⟨rfl, rfl, rfl, by simp, fun k hk => setRow_other _ _ _ _ (by omega)⟩
    have hbel := Lib.hid (belowThen hB3.out hbel3.out (Nat.le_refl _))
    have t1 := Lib.hid (s1.out.below hbel3.out)
    have t2 := Lib.hid (s2.out.below hbel3.out)
    have t3 := Lib.hid (s3.out.below hbel3.out)
    have hV4 := Lib.hid (hV3.out.below hbel3.out)
    have hsb4 := Lib.hid (blk_below hsb3.out hbel3.out)
    clear s1 s2 s3 hV3 hB3 hbel3 hsb3
    generalize (w3.alloc _).setRow _ _ = wf at hrow hbel t1 t2 t3 hV4 hsb4 ⊢
    generalize w3.heap.size = gT at hrow ⊢
    refine Lib.hid ?_
    go_wp2_with fail
    go_ret
    exact ⟨rfl, hbel.out⟩
  | true =>
    go_enter Tryz.func6, Tryz.ntmps6
    go_wp2_with fail
    rw [← hobs]
    generalize w.alloc obs = w1 at hB1 hsb HV1 ⊢
    refine (HZ.out _ HV1.out).mono ?_; rintro e w2 ⟨rfl, b2⟩
    have hB2 := Lib.hid (belowThen hB1.out b2 (Nat.le_refl _))
    have hsb2 := Lib.hid (blk_below hsb.out b2)
    have HV2 := Lib.hid (HV1.out.below b2)
    obtain ⟨k0, k1, k2, k3⟩ : w2.cell? ⟨w.heap.size, 0, none⟩ = some vl ∧ w2.cell? ⟨w.heap.size, 1, none⟩ = some vd ∧ w2.cell? ⟨w.heap.size, 2, none⟩ = some vf ∧ w2.cell? ⟨w.heap.size, 3, none⟩ = some vc := ⟨cell_blk hsb2.out 0, cell_blk hsb2.out 1, cell_blk hsb2.out 2, cell_blk hsb2.out 3⟩
    clear b2 hsb HV1 hB1 HZ
    go_wp2_with fail
    refine (HKN.out h1 h2 h3 _ HV2.out).mono ?_; rintro e w3 ⟨v, T, rfl, ⟨ql, qi, qu, rfl, ⟨s1, n1⟩, ⟨s2, n2⟩, ⟨s3, n3⟩⟩, b3, hT⟩
    clear k0 k1 k2 k3 HKN
    rw [hk]
    obtain ⟨a1, l1, c1, rfl⟩ := s1.slice
    obtain ⟨a2, l2, c2, rfl⟩ := s2.slice
    obtain ⟨a3, l3, c3, rfl⟩ := s3.slice
    obtain ⟨cs, hcs, hsz, hone⟩ := told_cells T a1 a2 a3 l1 l2 l3 c1 c2 c3
    rw [hcs]
    have hB3 := Lib.hid (belowThen hB2.out b3 (Nat.le_refl _))
    have hz3 : w.heap.size ≤ w3.heap.size := hB3.out.size
    replace s1 := Lib.hid s1
    replace s2 := Lib.hid s2
    replace s3 := Lib.hid s3
    replace hcs := Lib.hid hcs
    have hV3 := Lib.hid (HV2.out.below b3)
    have hsb3 := Lib.hid (blk_below hsb2.out b3)
    clear n1 n2 n3 b3 hB2 hsb2 HV2
    go_wp2_with (refine wpList_store_row rfl 28 (.tmp 7) (.tmp 29) rfl w3.heap.size cs rfl rfl 28 _ (blk_new w3 _) (by rw [hsz]; kernel_rfl) (by rw [hsz]; rfl) hone (Hid.out ?_))
    have hrow := Lib.hid (setRow_heap (w3.alloc (.cells #[.string (B []), .string (B []), .string (B []), .string (B []), .string (B []), .string (B []), .string (B []), .string (B []), .string (B []), .string (B []), .string (B []), .string (B []), .string (B []), .string (B []), .string (B []), .string (B []), .string (B []), .string (B []), .string (B []), .string (B []), .string (B []), .slice none 0 0, .slice none 0 0, .slice none 0 0, .bool false, .bool false, .bool false, .bool false, .bool false, .bool false, .int .i64 0] 28)) w3.heap.size _ cs _ _ (blk_new w3 _))
    have hbel3 : Hid (Below w3.heap.size w3 ((w3.alloc (.cells #[.string (B []), .string (B []), .string (B []), .string (B []), .string (B []), .string (B []), .string (B []), .string (B []), .string (B []), .string (B []), .string (B []), .string (B []), .string (B []), .string (B []), .string (B []), .string (B []), .string (B []), .string (B []), .string (B []), .string (B []), .string (B []), .slice none 0 0, .slice none 0 0, .slice none 0 0, .bool false, .bool false, .bool false, .bool false, .bool false, .bool false, .int .i64 0] 28)).setRow w3.heap.size cs)) := (Below_alloc w3 _).trans ⟨rfl, rfl, rfl, by simp, fun k hk => setRow_other _ _ _ _ (by omega)⟩
    have hbel := Lib.hid (belowThen hB3.out hbel3.out (Nat.le_refl _))
    have t1 := Lib.hid (s1.out.below hbel3.out)
    have t2 := Lib.hid (s2.out.below hbel3.out)
    have t3 := Lib.hid (s3.out.below hbel3.out)
    have hV4 := Lib.hid (hV3.out.below hbel3.out)
    have hsb4 := Lib.hid (blk_below hsb3.out hbel3.out)
    clear s1 s2 s3 hV3 hB3 hbel3 hsb3
    generalize (w3.alloc _).setRow _ _ = wf at hrow hbel t1 t2 t3 hV4 hsb4 ⊢
    generalize w3.heap.size = gT at hrow ⊢
    refine Lib.hid ?_
    have hFx : Hid (Facts site comp s T) := by have h := facts (HPK.out hk); rw [← hT hk] at h; exact h
    clear hT
    have hcs2 : Hid (cs = #[.string (B T.component), .string (B T.container), .string (B T.containerDir), .string (B T.section_), .string (B T.name), .string (B T.nameNoExt), .string (B T.baseName), .string (B T.nameNoId), .string (B T.dir), .string (B T.path), .string (B T.pathNoLang), .string (B T.pathNoId), .string (B T.pathBefore), .string (B T.base), .string (B T.idBase), .string (B T.ext), .string (B T.format), .string (B T.kind), .string (B T.layout), .string (B T.lang), .string (B T.custom), .slice a1 l1 c1, .slice a2 l2 c2, .slice a3 l3 c3, .bool T.disabled, .bool T.isContent, .bool T.isBundle, .bool T.isBranch, .bool T.isLeaf, .bool T.isData, .int .i64 T.typ]) := (Value.agg.inj hcs.out).symm
    have x9 : wf.cell? ⟨gT, 9, none⟩ = some (.string (B T.path)) := by rw [cell_blk hrow.out 9, hcs2.out]; rfl
    have x19 : wf.cell? ⟨gT, 19, none⟩ = some (.string (B T.lang)) := by rw [cell_blk hrow.out 19, hcs2.out]; rfl
    have x21 : wf.cell? ⟨gT, 21, none⟩ = some (.slice a1 l1 c1) := by rw [cell_blk hrow.out 21, hcs2.out]; rfl
    clear hcs2 hrow hcs hsz hone
    obtain ⟨z0, z1, z2, z3⟩ : wf.cell? ⟨w.heap.size, 0, none⟩ = some vl ∧ wf.cell? ⟨w.heap.size, 1, none⟩ = some vd ∧ wf.cell? ⟨w.heap.size, 2, none⟩ = some vf ∧ wf.cell? ⟨w.heap.size, 3, none⟩ = some vc := ⟨cell_blk hsb4.out 0, cell_blk hsb4.out 1, cell_blk hsb4.out 2, cell_blk hsb4.out 3⟩
    have f1 : (T.path == []) = false := by rw [beq_eq_false_iff_ne]; exact hFx.out.ne
    have HL : Hid (∀ t, Calls Tryz.prog 18 #[vl, .string (B t)] wf fun e w' => e = .returned (.bool (amongL site.languages t)) ∧ wf = w') := Lib.hid fun t => c_listed site.languages t vl wf hV4.out.l
    have HD : Hid (∀ t, Calls Tryz.prog 18 #[vd, .string (B t)] wf fun e w' => e = .returned (.bool (amongL site.disabled t)) ∧ wf = w') := Lib.hid fun t => c_listed site.disabled t vd wf hV4.out.d
    have hlg := Lib.hid hFx.out.lgs
    have hl1 := Lib.hid hFx.out.lg1
    obtain ⟨h0, la, lc, e1, hlc⟩ := t1.out
    obtain ⟨rfl, rfl, rfl⟩ := Value.slice.inj e1
    have HC := Lib.hid hlc
    have hh0 : (T.langs.length : Int) ≤ 140737488355328 := by omega
    clear e1 hlc t1 t2 t3 z2 z3 h0 hFx hsb4 hV4
    generalize T.langs = LS at x21 hlg hl1 HC hh0
    go_wp2_with fail
    go_loop [43] (fun i => ∃ k : Nat, k ≤ LS.length ∧ i = .int .i64 k) (fun i => LS.length - (intOf i).toNat)
    case atStart => exact ⟨0, Nat.zero_le _, rfl⟩
    case round =>
      obtain ⟨k, hk, rfl⟩ := hrel
      by_cases hlt : k < LS.length
      · obtain ⟨b, off, rfl, hcell⟩ := HC.out k hlt
        have hm := hlg.out _ (List.getElem_mem hlt)
        have H1 := HL.out LS[k]
        have H2 := HD.out LS[k]
        generalize LS[k] = t at hm H1 H2 hcell
        cases ha : amongL site.languages t with
        | true =>
          rw [ha] at H1
          replace H1 := Lib.hid H1
          clear H2 hm ha hl1
          go_wp2_with fail
          refine H1.out.mono ?_; rintro e w' ⟨rfl, rfl⟩
          go_wp2_with fail
          go_round
          case rel => exact ⟨k + 1, by omega, by go_num⟩
          case measure => simp [intOf]; omega
        | false =>
          have hd : amongL site.disabled t = true := by rw [ha] at hm; simpa using hm
          rw [ha] at H1
          rw [hd] at H2
          replace H1 := Lib.hid H1
          replace H2 := Lib.hid H2
          clear hm ha hl1 hd
          go_wp2_with fail
          refine H1.out.mono ?_; rintro e w' ⟨rfl, rfl⟩
          go_wp2_with fail
          refine H2.out.mono ?_; rintro e w' ⟨rfl, rfl⟩
          go_wp2_with fail
          go_round
          case rel => exact ⟨k + 1, by omega, by go_num⟩
          case measure => simp [intOf]; omega
      · obtain rfl : k = LS.length := by omega
        cases hz : LS with
        | nil =>
          subst hz
          go_upto_region 12 with fail
          go_quiet (fail)
          go_wp2_with fail
          go_ret
          exact ⟨rfl, Below_drewN hbel.out _⟩
        | cons t ts =>
          subst hz
          obtain ⟨b, off, rfl, hcell⟩ := HC.out 0 (by simp)
          have f2 : (T.lang == t) = true := by rw [hl1.out (by simp)]; simp
          have hcell2 : wf.cell? ⟨b, off, none⟩ = some (.string (B t)) := hcell
          obtain ⟨n, hn⟩ : ∃ n, n = (t :: ts).length := ⟨_, rfl⟩
          have hd0 : decide ((n : Int) = 0) = false := by rw [hn]; simp <;> omega
          have hn1 : (0 : Int) < (n : Int) := by rw [hn]; simp <;> omega
          rw [← hn] at x21 hk hlt hh0 ⊢
          clear hcell HC hl1 hlg HL HD
          go_upto_region 12 with fail
          go_quiet (fail)
          go_wp2_with fail
          go_ret
          exact ⟨rfl, Below_drewN hbel.out _⟩

end Go.Proofs.YtpgefkmnafpbgaaGreatDoor
