/- A path from its owner on: Path.PathRel, impl.PathRel and spec.PathRelKnown walked. Conditions: a site in memory that names each language once; paths of ASCII of at most 900000 bytes. -/
import Derived.Test.YtfekhbnefogkdaaGreatDoorParse
import Derived.Test.YtfekhbnefogkdaaGreatDoorKnowA
set_option maxRecDepth 100000
set_option linter.unusedVariables false
set_option linter.unusedSimpArgs false
namespace Go.Proofs.YtfekhbnefogkdaaGreatDoor
open Go.RowKit
attribute [local go_sem] B_extract B_toList B_append

theorem pnorm_len (p : PathS) (s : Str) : (p.norm s).length <= s.length := by
 unfold PathS.norm
 repeat' split
 all_goals simp
theorem sub_leB (s : Str) (lh : Nat × Nat) : (sub s lh).length <= s.length := by
 unfold sub
 simp only [List.length_take, List.length_drop]
 omega
theorem baseM_len (p : PathS) (k b : Bool) : (p.baseM k b).length <= 2 * p.s.length := by
 unfold PathS.baseM
 dsimp only
 repeat' split
 all_goals refine Nat.le_trans (pnorm_len p _) ?_
 all_goals first | omega | (simp only [List.length_append, List.length_take]; have := sub_leB p.s ((p.known.headD (0, 0)).1 - 1, (p.known.headD (0, 0)).2); omega)
theorem base_len (p : PathS) : p.base.length <= 2 * p.s.length := by
 unfold PathS.base
 dsimp only
 split
 ·exact Nat.zero_le _
 ·exact baseM_len p _ _

/-- What stands ahead of a path that is told from its owner on. -/
def relBase (ob : Str) : Str := if List.isSuffixOf [47] ob then ob else ob ++ [47]

theorem c_pathRel (p q : PathS) (w : World) (base b base' c : Nat) (vk vu vl vk' vu' vl' : Value) (un un' : Un) (h : PathAt w base b p vk vu vl un) (h' : PathAt w base' c q vk' vu' vl' un') (ok : PathOK q) (hp : p.s.length <= 1800000) (hp2 : p.path.length <= 1800000) (hq : q.s.length <= 1800000) :
  Calls Tryz.prog 46 #[.pointer (some ⟨b, 0, none⟩), .pointer (some ⟨c, 0, none⟩)] w fun e w' => e = .returned (.string (B (trimPreG p.path (relBase q.base)))) /\ Below w.heap.size w w' := by
 have HB := Lib.hid (c_Base q w base' c vk' vu' vl' un' h' ok)
 have HP : Hid (∀ wx, PathAt wx base b p vk vu vl un -> Calls Tryz.prog 66 #[.pointer (some ⟨b, 0, none⟩)] wx fun e w' => e = .returned (.string (B p.path)) /\ wx = w') := fun wx h => c_Path p wx base b vk vu vl un h (by omega)
 have hh := Lib.hid h
 have hbl : q.base.length <= 3600000 := by have := base_len q; omega
 have HR : Hid (relBase q.base = if List.isSuffixOf [47] q.base then q.base else q.base ++ [47]) := rfl
 generalize q.base = x at HB HR hbl |-
 generalize p.path = P at HP hp2 |-
 clear h h' ok hp hq
 cases hs : List.isSuffixOf [47] x with
 | true =>
  have HQ : Hid (relBase x = x) := by show _ = _; rw [HR.out, if_pos hs]
  have HT := Lib.hid (fun wx => c_trimPrefix P (relBase x) wx (by omega))
  rw [HQ.out] at HT |-
  generalize trimPreG P x = r at HT |-
  have HJ := Lib.hid hs
  clear hs HR HQ
  go_enter Tryz.func46, Tryz.ntmps46
  go_wp2_with fail
  refine HB.out.mono ?_; rintro e w1 ⟨rfl, hb⟩
  replace hb := Lib.hid hb
  go_wp2_with fail
  refine (c_hasSuffix x [47] _ (by omega)).mono ?_; rintro e w' ⟨rfl, rfl⟩
  rw [HJ.out]
  go_wp2_with fail
  refine (HP.out _ (hh.out.below hb.out)).mono ?_; rintro e w' ⟨rfl, rfl⟩
  go_wp2_with fail
  refine (HT.out _).mono ?_; rintro e w' ⟨rfl, rfl⟩
  go_wp2_with fail
  go_ret
  exact ⟨rfl, hb.out⟩
 | false =>
  have HQ : Hid (relBase x = x ++ [47]) := by show _ = _; rw [HR.out, if_neg (by rw [hs]; decide)]
  have HT := Lib.hid (fun wx => c_trimPrefix P (relBase x) wx (by omega))
  rw [HQ.out] at HT |-
  generalize trimPreG P (x ++ [47]) = r at HT |-
  have HJ := Lib.hid hs
  clear hs HR HQ
  go_enter Tryz.func46, Tryz.ntmps46
  go_wp2_with fail
  refine HB.out.mono ?_; rintro e w1 ⟨rfl, hb⟩
  replace hb := Lib.hid hb
  go_wp2_with fail
  refine (c_hasSuffix x [47] _ (by omega)).mono ?_; rintro e w' ⟨rfl, rfl⟩
  rw [HJ.out]
  go_wp2_with fail
  refine (HP.out _ (hh.out.below hb.out)).mono ?_; rintro e w' ⟨rfl, rfl⟩
  go_wp2_with fail
  refine (HT.out _).mono ?_; rintro e w' ⟨rfl, rfl⟩
  go_wp2_with fail
  go_ret
  exact ⟨rfl, hb.out⟩

set_option maxHeartbeats 4000000 in
theorem c_implPathRel (w : World) (site : SiteM) (comp s o : Str) (vl vd vf vc : Value) (hs : SiteAt w vl vd vf vc site) (hn : Once site.languages) (hl : s.length <= 900000) (ha : asciiL s = true) (hlo : o.length <= 900000) (hao : asciiL o = true) :
  Calls Tryz.prog 23 #[.agg #[vl, vd, vf, vc], .string (B comp), .string (B s), .string (B o)] w
   fun e w' => e = .returned (.string (B (trimPreG (toldM (doParseM site comp (normL s))).path (relBase (toldM (doParseM site comp (normL o))).base)))) /\ Below w.heap.size w w' := by
 have HPR : Hid (∀ wx, SiteAt wx vl vd vf vc site -> Calls Tryz.prog 39 #[.agg #[vl, vd, vf, vc]] wx fun e w' => ∃ pb mb fb sb, e = .returned (.pointer (some ⟨pb, 0, none⟩)) /\ PPAt w' pb mb fb sb vl vd vf vc site /\ wx.heap.size <= pb /\ Below wx.heap.size wx w') := fun wx h => c_parser site vl vd vf vc wx h hn
 have HPA : Hid (∀ wx pb mb fb sb, PPAt wx pb mb fb sb vl vd vf vc site -> Calls Tryz.prog 40 #[.pointer (some ⟨pb, 0, none⟩), .string (B comp), .string (B s)] wx
   fun e w' => ∃ b b2, e = .returned (.pointer (some ⟨b, 0, none⟩)) /\ PathHere w' wx.heap.size b b2 (doParseM site comp (normL s)) /\ SomePath w' b2 (doParseM site comp s) /\ Below wx.heap.size wx w') := fun wx pb mb fb sb h => c_Parse wx comp s pb mb fb sb vl vd vf vc site h hl ha
 have HPO : Hid (∀ wx pb mb fb sb, PPAt wx pb mb fb sb vl vd vf vc site -> Calls Tryz.prog 40 #[.pointer (some ⟨pb, 0, none⟩), .string (B comp), .string (B o)] wx
   fun e w' => ∃ b b2, e = .returned (.pointer (some ⟨b, 0, none⟩)) /\ PathHere w' wx.heap.size b b2 (doParseM site comp (normL o)) /\ SomePath w' b2 (doParseM site comp o) /\ Below wx.heap.size wx w') := fun wx pb mb fb sb h => c_Parse wx comp o pb mb fb sb vl vd vf vc site h hlo hao
 have ok : PathOK (doParseM site comp (normL o)) := doParse_ok site comp (normL o) (by rw [normL_len]; omega)
 have hfin := doParse_finished site comp (normL s)
 have hlen := normPath_len (normL s)
 rw [normL_len] at hlen
 have hfino := doParse_finished site comp (normL o)
 have hleno := normPath_len (normL o)
 rw [normL_len] at hleno
 have hps : (doParseM site comp (normL s)).s.length <= 1800000 := by rw [hfin.s_]; omega
 have hp2 : (doParseM site comp (normL s)).path.length <= 1800000 := by rw [hfin.path_eq]; omega
 have hqs : (doParseM site comp (normL o)).s.length <= 1800000 := by rw [hfino.s_]; omega
 have HRL : Hid (∀ wx base b base' c vk vu vl vk' vu' vl' un un', PathAt wx base b (doParseM site comp (normL s)) vk vu vl un -> PathAt wx base' c (doParseM site comp (normL o)) vk' vu' vl' un' -> Calls Tryz.prog 46 #[.pointer (some ⟨b, 0, none⟩), .pointer (some ⟨c, 0, none⟩)] wx fun e w' => e = .returned (.string (B (trimPreG (toldM (doParseM site comp (normL s))).path (relBase (toldM (doParseM site comp (normL o))).base)))) /\ Below wx.heap.size wx w') := fun wx base b base' c vk vu vl vk' vu' vl' un un' h h' => c_pathRel _ _ wx base b base' c vk vu vl vk' vu' vl' un un' h h' ok hps hp2 hqs
 clear hfin hlen hps hp2 hfino hleno hqs ok
 generalize trimPreG _ _ = r at HRL |-
 generalize doParseM site comp (normL s) = P1 at HPA HRL
 generalize doParseM site comp s = P2 at HPA
 generalize doParseM site comp (normL o) = P3 at HPO HRL
 generalize doParseM site comp o = P4 at HPO
 obtain ⟨obs, hobs⟩ : ∃ o : Obj, o = .cells #[vl, vd, vf, vc] 25 := ⟨_, rfl⟩
 have hB1 : Hid (Below w.heap.size w (w.alloc obs)) := Below_alloc w obs
 have HV1 : Hid (SiteAt (w.alloc obs) vl vd vf vc site) := hs.alloc obs
 clear hs hn ha hao
 go_enter Tryz.func23, Tryz.ntmps23
 go_wp2_with fail
 rw [<- hobs]
 generalize w.alloc obs = w2 at hB1 HV1 |-
 refine (HPR.out _ HV1.out).mono ?_; rintro e w3 ⟨pb, mb, fb, sb, rfl, hpp, hpb, hb3⟩
 replace hpp := Lib.hid hpp
 have hB3 := Lib.hid (belowThen hB1.out hb3 (Nat.le_refl _))
 clear HPR HV1 hB1 hb3 hpb
 go_wp2_with fail
 refine (HPA.out _ pb mb fb sb hpp.out).mono ?_; rintro e w4 ⟨b, b2, rfl, h1, h2, hb4⟩
 clear h2
 replace h1 := Lib.hid h1
 replace hpp := Lib.hid (hpp.out.below hb4)
 have hB4 := Lib.hid (belowThen hB3.out hb4 (Nat.le_refl _))
 clear HPA hb4 hB3
 go_wp2_with fail
 refine (HPO.out _ pb mb fb sb hpp.out).mono ?_; rintro e w5 ⟨c, c2, rfl, h3, h4, hb5⟩
 clear h4
 obtain ⟨vk, vu, vl1, hat⟩ := h1.out.below hb5
 obtain ⟨vk', vu', vl', hao⟩ := h3
 replace hat := Lib.hid hat
 replace hao := Lib.hid hao
 have hB5 := Lib.hid (belowThen hB4.out hb5 (Nat.le_refl _))
 clear HPO hb5 hB4 hpp h1
 go_wp2_with fail
 refine (HRL.out _ _ _ _ _ _ _ _ _ _ _ _ _ hat.out hao.out).mono ?_; rintro e w6 ⟨rfl, hb6⟩
 have hB6 := Lib.hid (belowThen hB5.out hb6 (Nat.le_refl _))
 go_wp2_with fail
 go_ret
 exact ⟨rfl, hB6.out⟩

theorem c_RelKnown (site : SiteM) (comp s o : Str) (vl vd vf vc : Value) (w : World) (hv : SiteAt w vl vd vf vc site) (hcl : CapOK vl) (hcd : CapOK vd) (hcc : CapOK vc) (hf : siteFits site = true) (hc : comp.length <= 2147483647) (hs : s.length <= 2147483647) (ho : o.length <= 2147483647) :
  Calls Tryz.prog 22 #[.agg #[vl, vd, vf, vc], .string (B comp), .string (B s), .string (B o)] w fun e w' => e = .returned (.bool (pathKnown site comp s && pathKnown site comp o)) /\ Below w.heap.size w w' := by
 have HPK : Hid (∀ wx, SiteAt wx vl vd vf vc site -> Calls Tryz.prog 12 #[.agg #[vl, vd, vf, vc], .string (B comp), .string (B s)] wx fun e w' => e = .returned (.bool (pathKnown site comp s)) /\ Below wx.heap.size wx w') := fun wx h => c_PathKnown site comp s vl vd vf vc wx h hcl hcd hcc hf hc hs
 have HPO : Hid (∀ wx, SiteAt wx vl vd vf vc site -> Calls Tryz.prog 12 #[.agg #[vl, vd, vf, vc], .string (B comp), .string (B o)] wx fun e w' => e = .returned (.bool (pathKnown site comp o)) /\ Below wx.heap.size wx w') := fun wx h => c_PathKnown site comp o vl vd vf vc wx h hcl hcd hcc hf hc ho
 obtain ⟨obs, hobs⟩ : ∃ o : Obj, o = .cells #[vl, vd, vf, vc] 25 := ⟨_, rfl⟩
 have hB1 : Hid (Below w.heap.size w (w.alloc obs)) := Below_alloc w obs
 have hsb : Hid ((w.alloc obs).heap[w.heap.size]? = some (.cells #[vl, vd, vf, vc] 25)) := by show _ = _; rw [hobs]; exact blk_new w _
 have HV1 : Hid (SiteAt (w.alloc obs) vl vd vf vc site) := hv.alloc obs
 clear hv hcl hcd hcc
 cases hk : pathKnown site comp s with
 | false =>
  rw [hk] at HPK
  go_enter Tryz.func22, Tryz.ntmps22
  go_wp2_with fail
  rw [<- hobs]
  generalize w.alloc obs = w1 at hB1 hsb HV1 |-
  refine (HPK.out _ HV1.out).mono ?_; rintro e w2 ⟨rfl, b2⟩
  have hB2 := Lib.hid (belowThen hB1.out b2 (Nat.le_refl _))
  go_wp2_with fail
  go_ret
  exact ⟨rfl, hB2.out⟩
 | true =>
  rw [hk] at HPK
  rw [Bool.true_and]
  go_enter Tryz.func22, Tryz.ntmps22
  go_wp2_with fail
  rw [<- hobs]
  generalize w.alloc obs = w1 at hB1 hsb HV1 |-
  refine (HPK.out _ HV1.out).mono ?_; rintro e w2 ⟨rfl, b2⟩
  have hB2 := Lib.hid (belowThen hB1.out b2 (Nat.le_refl _))
  have hsb2 := Lib.hid (blk_below hsb.out b2)
  have HV2 := Lib.hid (HV1.out.below b2)
  obtain ⟨k0, k1, k2, k3⟩ : w2.cell? ⟨w.heap.size, 0, none⟩ = some vl /\ w2.cell? ⟨w.heap.size, 1, none⟩ = some vd /\ w2.cell? ⟨w.heap.size, 2, none⟩ = some vf /\ w2.cell? ⟨w.heap.size, 3, none⟩ = some vc := ⟨cell_blk hsb2.out 0, cell_blk hsb2.out 1, cell_blk hsb2.out 2, cell_blk hsb2.out 3⟩
  clear b2 hsb HV1 hB1 HPK
  go_wp2_with fail
  refine (HPO.out _ HV2.out).mono ?_; rintro e w3 ⟨rfl, b3⟩
  have hB3 := Lib.hid (belowThen hB2.out b3 (Nat.le_refl _))
  go_wp2_with fail
  go_ret
  exact ⟨rfl, hB3.out⟩

end Go.Proofs.YtfekhbnefogkdaaGreatDoor
