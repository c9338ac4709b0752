/- A base from its owner's on: the base of a branch bundle; Path.BaseRel, impl.BaseRel, spec.ownerBase, spec.BaseRelKnown walked. Conditions: a site in memory that names each language once; paths of ASCII of at most 100000 bytes; an owner whose base is no single slash, and shorter. -/
import Derived.Test.YtjkecadfakjanaaGreatDoorRelW
import Derived.OrdersHeld
set_option maxRecDepth 100000
set_option linter.unusedVariables false
set_option linter.unusedSimpArgs false
namespace Go.Proofs.YtjkecadfakjanaaGreatDoor
open Go.RowKit
attribute [local go_sem] B_extract B_toList B_append

theorem typeOf_branch {site : SiteM} {r : ReadM} (h1 : r.w.component = kContent) (h2 : r.w.ids ≠ []) (h3 : amongL site.content r.w.ext = true) (h4 : r.w.name.take r.w.nameEnd = kUIndex) : ReadM.typeOf site r = 4 := by
 unfold ReadM.typeOf
 dsimp only
 have h2' : r.w.ids.isEmpty = false := List.isEmpty_eq_false_iff.2 h2
 rw [h1, h2', h3, h4, if_pos (by rfl), if_neg (by decide), if_pos rfl]
theorem under_one {e : Str} (he : PlainW e) : OneDot kUIndex e :=
 ⟨by decide, he.chars.dot, he.chars.not (by decide) 0, by decide, he.ne, (show ∀ c ∈ kUIndex, Lib.lowerB c = c /\ c ≠ 32 from by decide), he.chars.low, by decide, he.chars.slash, by decide⟩
theorem owner_base {site : SiteM} {dirs : List Str} {e : Str} (hd : ∀ d ∈ dirs, PlainW d) (he : PlainW e) (hc : amongL site.content e = true) (h0 : dirs ≠ []) :
  (specParse site kContent (folderL dirs ++ 47 :: (kUIndex ++ 46 :: e))).base = folderL dirs /\ folderL dirs ≠ [47] /\ folderL dirs ≠ [] /\ List.isSuffixOf [47] (folderL dirs) = false := by
 have hw := one_other (site := site) (comp := kContent) (typ := 4) (under_one he) (by decide) (by decide) (plains_low hd) (folder_head dirs (kUIndex ++ 46 :: e)) (fun r h1 h2 h3 _ h5 _ _ => typeOf_branch h1 (by rw [h2]; simp) (by rw [h3]; exact hc) h5)
 have hlast : (folderL dirs).getLast? ≠ some 47 /\ folderL dirs ≠ [] := by
  obtain ⟨r, d, rfl⟩ : ∃ r d, dirs = r ++ [d] := ⟨dirs.dropLast, dirs.getLast h0, (List.dropLast_concat_getLast h0).symm⟩
  have hp := hd d (by simp)
  rw [folder_snoc]
  refine ⟨fun h => ?_, by simp⟩
  rw [List.getLast?_append, List.getLast?_cons] at h
  cases hl : d.getLast? with
  | none => exact hp.ne (List.getLast?_eq_none_iff.1 hl)
  | some c =>
   rw [hl] at h
   simp at h
   subst h
   exact hp.chars.slash (List.mem_of_getLast? hl)
 have h1 : folderL dirs ≠ [47] := fun h => hlast.1 (by rw [h]; rfl)
 refine ⟨?_, h1, hlast.2, ?_⟩
 ·show baseOf (wordsOf site kContent _ false) = _
  rw [hw]
  unfold baseOf
  dsimp only
  rw [if_neg (by simp), if_pos (by decide), built_dir (under_one he).noSlash, if_neg h0, if_neg h1]
 ·cases hs : List.isSuffixOf [47] (folderL dirs) with
  | false => rfl
  | true =>
   have := List.isSuffixOf_iff_suffix.1 hs
   obtain ⟨t, ht⟩ := this
   exact absurd (by rw [<- ht]; simp) hlast.1

theorem c_baseRel (p q : PathS) (w : World) (base b base' c : Nat) (vk vu vl vk' vu' vl' : Value) (un un' : Un) (h : PathAt w base b p vk vu vl un) (h' : PathAt w base' c q vk' vu' vl' un') (okp : PathOK p) (okq : PathOK q) (hp : p.s.length <= 1800000) (hne : (q.base == [47]) = false) (hl : q.base.length + 1 <= p.base.length) :
  Calls Tryz.prog 53 #[.pointer (some ⟨b, 0, none⟩), .pointer (some ⟨c, 0, none⟩)] w fun e w' => e = .returned (.string (B (p.base.drop (q.base.length + 1)))) /\ Below w.heap.size w w' := by
 have HB := Lib.hid (c_Base q w base' c vk' vu' vl' un' h' okq)
 have HP : Hid (∀ wx, PathAt wx base b p vk vu vl un -> Calls Tryz.prog 75 #[.pointer (some ⟨b, 0, none⟩)] wx fun e w' => e = .returned (.string (B p.base)) /\ Below wx.heap.size wx w') := fun wx h => c_Base p wx base b vk vu vl un h okp
 have hh := Lib.hid h
 have hpl : p.base.length <= 3600000 := by have := base_len p; omega
 generalize q.base = x at HB hne hl |-
 generalize p.base = P at HP hl hpl |-
 have hi : (x.length : Int) + 1 <= (P.length : Int) := by omega
 clear h h' okp okq hp hl
 go_enter Tryz.func53, Tryz.ntmps53
 go_wp2_with fail
 refine HB.out.mono ?_; rintro e w1 ⟨rfl, hb⟩
 replace hb := Lib.hid hb
 go_wp2_with fail
 refine (HP.out _ (hh.out.below hb.out)).mono ?_; rintro e w2 ⟨rfl, hb2⟩
 have hB2 := Lib.hid (belowThen hb.out hb2 (Nat.le_refl _))
 clear hb2 hb
 go_wp2_with fail
 go_ret
 exact ⟨ret_str (by first | rfl | (simp; done) | (simp; exact List.take_of_length_le (by simp)) | exact List.take_of_length_le (by simp) | (trace_state; fail)), hB2.out⟩

set_option maxHeartbeats 4000000 in
theorem c_implBaseRel (w : World) (site : SiteM) (comp s o : Str) (vl vd vf vc : Value) (hs : SiteAt w vl vd vf vc site) (hn : Once site.languages) (hl : s.length <= 900000) (ha : asciiL s = true) (hlo : o.length <= 900000) (hao : asciiL o = true)
  (hne : ((toldM (doParseM site comp (normL o))).base == [47]) = false) (hll : (toldM (doParseM site comp (normL o))).base.length + 1 <= (toldM (doParseM site comp (normL s))).base.length) :
  Calls Tryz.prog 29 #[.agg #[vl, vd, vf, vc], .string (B comp), .string (B s), .string (B o)] w
   fun e w' => e = .returned (.string (B ((toldM (doParseM site comp (normL s))).base.drop ((toldM (doParseM site comp (normL o))).base.length + 1)))) /\ Below w.heap.size w w' := by
 have e1 : (toldM (doParseM site comp (normL o))).base = (doParseM site comp (normL o)).base := rfl
 have e2 : (toldM (doParseM site comp (normL s))).base = (doParseM site comp (normL s)).base := rfl
 rw [e1] at hne
 rw [e1, e2] at hll
 have HPR : Hid (∀ wx, SiteAt wx vl vd vf vc site -> Calls Tryz.prog 42 #[.agg #[vl, vd, vf, vc]] wx fun e w' => ∃ pb mb fb sb, e = .returned (.pointer (some ⟨pb, 0, none⟩)) /\ PPAt w' pb mb fb sb vl vd vf vc site /\ wx.heap.size <= pb /\ Below wx.heap.size wx w') := fun wx h => c_parser site vl vd vf vc wx h hn
 have HPA : Hid (∀ wx pb mb fb sb, PPAt wx pb mb fb sb vl vd vf vc site -> Calls Tryz.prog 43 #[.pointer (some ⟨pb, 0, none⟩), .string (B comp), .string (B s)] wx
   fun e w' => ∃ b b2, e = .returned (.pointer (some ⟨b, 0, none⟩)) /\ PathHere w' wx.heap.size b b2 (doParseM site comp (normL s)) /\ SomePath w' b2 (doParseM site comp s) /\ Below wx.heap.size wx w') := fun wx pb mb fb sb h => c_Parse wx comp s pb mb fb sb vl vd vf vc site h hl ha
 have HPO : Hid (∀ wx pb mb fb sb, PPAt wx pb mb fb sb vl vd vf vc site -> Calls Tryz.prog 43 #[.pointer (some ⟨pb, 0, none⟩), .string (B comp), .string (B o)] wx
   fun e w' => ∃ b b2, e = .returned (.pointer (some ⟨b, 0, none⟩)) /\ PathHere w' wx.heap.size b b2 (doParseM site comp (normL o)) /\ SomePath w' b2 (doParseM site comp o) /\ Below wx.heap.size wx w') := fun wx pb mb fb sb h => c_Parse wx comp o pb mb fb sb vl vd vf vc site h hlo hao
 have ok : PathOK (doParseM site comp (normL o)) := doParse_ok site comp (normL o) (by rw [normL_len]; omega)
 have okp : PathOK (doParseM site comp (normL s)) := doParse_ok site comp (normL s) (by rw [normL_len]; omega)
 have hfin := doParse_finished site comp (normL s)
 have hlen := normPath_len (normL s)
 rw [normL_len] at hlen
 have hfino := doParse_finished site comp (normL o)
 have hleno := normPath_len (normL o)
 rw [normL_len] at hleno
 have hps : (doParseM site comp (normL s)).s.length <= 1800000 := by rw [hfin.s_]; omega
 have hp2 : (doParseM site comp (normL s)).path.length <= 1800000 := by rw [hfin.path_eq]; omega
 have hqs : (doParseM site comp (normL o)).s.length <= 1800000 := by rw [hfino.s_]; omega
 have HRL : Hid (∀ wx base b base' c vk vu vl vk' vu' vl' un un', PathAt wx base b (doParseM site comp (normL s)) vk vu vl un -> PathAt wx base' c (doParseM site comp (normL o)) vk' vu' vl' un' -> Calls Tryz.prog 53 #[.pointer (some ⟨b, 0, none⟩), .pointer (some ⟨c, 0, none⟩)] wx fun e w' => e = .returned (.string (B ((doParseM site comp (normL s)).base.drop ((doParseM site comp (normL o)).base.length + 1)))) /\ Below wx.heap.size wx w') := fun wx base b base' c vk vu vl vk' vu' vl' un un' h h' => c_baseRel _ _ wx base b base' c vk vu vl vk' vu' vl' un un' h h' okp ok hps hne hll
 show Calls _ _ _ _ fun e w' => e = .returned (.string (B ((doParseM site comp (normL s)).base.drop ((doParseM site comp (normL o)).base.length + 1)))) /\ _
 clear hfin hlen hps hp2 hfino hleno hqs ok okp hne hll
 generalize (doParseM site comp (normL s)).base.drop ((doParseM site comp (normL o)).base.length + 1) = r at HRL |-
 generalize doParseM site comp (normL s) = P1 at HPA HRL
 generalize doParseM site comp s = P2 at HPA
 generalize doParseM site comp (normL o) = P3 at HPO HRL
 generalize doParseM site comp o = P4 at HPO
 obtain ⟨obs, hobs⟩ : ∃ o : Obj, o = .cells #[vl, vd, vf, vc] 25 := ⟨_, rfl⟩
 have hB1 : Hid (Below w.heap.size w (w.alloc obs)) := Below_alloc w obs
 have HV1 : Hid (SiteAt (w.alloc obs) vl vd vf vc site) := hs.alloc obs
 clear hs hn ha hao
 go_enter Tryz.func29, Tryz.ntmps29
 go_wp2_with fail
 rw [<- hobs]
 generalize w.alloc obs = w2 at hB1 HV1 |-
 refine (HPR.out _ HV1.out).mono ?_; rintro e w3 ⟨pb, mb, fb, sb, rfl, hpp, hpb, hb3⟩
 replace hpp := Lib.hid hpp
 have hB3 := Lib.hid (belowThen hB1.out hb3 (Nat.le_refl _))
 clear HPR HV1 hB1 hb3 hpb
 go_wp2_with fail
 refine (HPA.out _ pb mb fb sb hpp.out).mono ?_; rintro e w4 ⟨b, b2, rfl, h1, h2, hb4⟩
 clear h2
 replace h1 := Lib.hid h1
 replace hpp := Lib.hid (hpp.out.below hb4)
 have hB4 := Lib.hid (belowThen hB3.out hb4 (Nat.le_refl _))
 clear HPA hb4 hB3
 go_wp2_with fail
 refine (HPO.out _ pb mb fb sb hpp.out).mono ?_; rintro e w5 ⟨c, c2, rfl, h3, h4, hb5⟩
 clear h4
 obtain ⟨vk, vu, vl1, hat⟩ := h1.out.below hb5
 obtain ⟨vk', vu', vl', hao⟩ := h3
 replace hat := Lib.hid hat
 replace hao := Lib.hid hao
 have hB5 := Lib.hid (belowThen hB4.out hb5 (Nat.le_refl _))
 clear HPO hb5 hB4 hpp h1
 go_wp2_with fail
 refine (HRL.out _ _ _ _ _ _ _ _ _ _ _ _ _ hat.out hao.out).mono ?_; rintro e w6 ⟨rfl, hb6⟩
 have hB6 := Lib.hid (belowThen hB5.out hb6 (Nat.le_refl _))
 go_wp2_with fail
 go_ret
 exact ⟨rfl, hB6.out⟩

theorem run_tbase (w : World) (T : ToldM) (a b c : Value) : (Instr.field 29 (toldVal T a b c) 13).run Tryz.prog w = .ok (.string (B T.base)) w := by kernel_rfl

set_option maxHeartbeats 4000000 in
theorem c_ownerBase (site : SiteM) (comp o : Str) (vl vd vf vc : Value) (w : World) (hv : SiteAt w vl vd vf vc site) (hcl : comp.length <= 2147483647) (hsl : o.length <= 100000) (hne : ((specParse site comp o).base == [47]) = false) :
  Calls Tryz.prog 52 #[.agg #[vl, vd, vf, vc], .string (B comp), .string (B o)] w fun e w' => e = .returned (.string (B (specParse site comp o).base)) /\ Below w.heap.size w w' := by
 have HSP : Hid (∀ wx, SiteAt wx vl vd vf vc site -> Calls Tryz.prog 45 #[.agg #[vl, vd, vf, vc], .string (B comp), .string (B o)] wx fun e w' => ∃ v, e = .returned v /\ ToldAtN wx.heap.size w' v (specParse site comp o) /\ Below wx.heap.size wx w') := fun wx h => c_specParse site comp o vl vd vf vc wx h hcl hsl
 generalize specParse site comp o = T at HSP hne |-
 obtain ⟨obs, hobs⟩ : ∃ o : Obj, o = .cells #[vl, vd, vf, vc] 25 := ⟨_, rfl⟩
 have hB1 : Hid (Below w.heap.size w (w.alloc obs)) := Below_alloc w obs
 have HV1 : Hid (SiteAt (w.alloc obs) vl vd vf vc site) := hv.alloc obs
 clear hv
 go_enter Tryz.func52, Tryz.ntmps52
 go_wp2_with fail
 rw [<- hobs]
 generalize w.alloc obs = w2 at hB1 HV1 |-
 refine (HSP.out _ HV1.out).mono ?_; rintro e w3 ⟨v, rfl, ⟨ql, qi, qu, rfl, -, -, -⟩, b3⟩
 have hB3 := Lib.hid (belowThen hB1.out b3 (Nat.le_refl _))
 clear b3 hB1 HV1 HSP
 have hfld := fun wx => run_tbase wx T ql qi qu
 go_wp2_with fail
 go_ret
 exact ⟨rfl, hB3.out⟩

set_option maxHeartbeats 8000000 in
theorem c_BaseRelKnown (site : SiteM) (comp s o : Str) (vl vd vf vc : Value) (w : World) (hv : SiteAt w vl vd vf vc site) (hcl : CapOK vl) (hcd : CapOK vd) (hcc : CapOK vc) (hf : siteFits site = true) (hc : comp.length <= 2147483647) (hs : s.length <= 2147483647) (ho : o.length <= 2147483647)
  (hne : ((specParse site comp o).base == [47]) = false) (hll : (specParse site comp o).base.length + 1 <= (specParse site comp s).base.length) (hbl : (specParse site comp s).base.length <= 2147483647) :
  Calls Tryz.prog 28 #[.agg #[vl, vd, vf, vc], .string (B comp), .string (B s), .string (B o)] w fun e w' => e = .returned (.bool (pathKnown site comp s && pathKnown site comp o)) /\ Below w.heap.size w w' := by
 have HRK : Hid (∀ wx, SiteAt wx vl vd vf vc site -> Calls Tryz.prog 51 #[.agg #[vl, vd, vf, vc], .string (B comp), .string (B s), .string (B o)] wx fun e w' => e = .returned (.bool (pathKnown site comp s && pathKnown site comp o)) /\ Below wx.heap.size wx w') := fun wx h => c_RelKnown site comp s o vl vd vf vc wx h hcl hcd hcc hf hc hs ho
 have HSP : Hid (pathKnown site comp s = true -> ∀ wx, SiteAt wx vl vd vf vc site -> Calls Tryz.prog 45 #[.agg #[vl, vd, vf, vc], .string (B comp), .string (B s)] wx fun e w' => ∃ v, e = .returned v /\ ToldAtN wx.heap.size w' v (specParse site comp s) /\ Below wx.heap.size wx w') := fun hk wx h => c_specParse site comp s vl vd vf vc wx h hc (by obtain ⟨h1, h2, h3, h4, h5⟩ := pathKnown_site hk; omega)
 have HOB : Hid (pathKnown site comp o = true -> ∀ wx, SiteAt wx vl vd vf vc site -> Calls Tryz.prog 52 #[.agg #[vl, vd, vf, vc], .string (B comp), .string (B o)] wx fun e w' => e = .returned (.string (B (specParse site comp o).base)) /\ Below wx.heap.size wx w') := fun hk wx h => c_ownerBase site comp o vl vd vf vc wx h hc (by obtain ⟨h1, h2, h3, h4, h5⟩ := pathKnown_site hk; omega) hne
 obtain ⟨obs, hobs⟩ : ∃ o : Obj, o = .cells #[vl, vd, vf, vc] 25 := ⟨_, rfl⟩
 have hB1 : Hid (Below w.heap.size w (w.alloc obs)) := Below_alloc w obs
 have hsb : Hid ((w.alloc obs).heap[w.heap.size]? = some (.cells #[vl, vd, vf, vc] 25)) := by show _ = _; rw [hobs]; exact blk_new w _
 have HV1 : Hid (SiteAt (w.alloc obs) vl vd vf vc site) := hv.alloc obs
 clear hv hcl hcd hcc hne
 cases hk : (pathKnown site comp s && pathKnown site comp o) with
 | false =>
  rw [hk] at HRK
  go_enter Tryz.func28, Tryz.ntmps28
  go_wp2_with fail
  rw [<- hobs]
  generalize w.alloc obs = w1 at hB1 hsb HV1 |-
  refine (HRK.out _ HV1.out).mono ?_; rintro e w2 ⟨rfl, b2⟩
  have hB2 := Lib.hid (belowThen hB1.out b2 (Nat.le_refl _))
  go_wp2_with fail
  go_ret
  exact ⟨rfl, hB2.out⟩
 | true =>
  rw [hk] at HRK
  obtain ⟨hk1, hk2⟩ := (Bool.and_eq_true _ _ ▸ hk : _ /\ _)
  have HS2 := Lib.hid (HSP.out hk1)
  have HO2 := Lib.hid (HOB.out hk2)
  clear HSP HOB hk hk1 hk2
  generalize specParse site comp s = T at HS2 hll hbl
  generalize (specParse site comp o).base = x at HO2 hll
  go_enter Tryz.func28, Tryz.ntmps28
  go_wp2_with fail
  rw [<- hobs]
  generalize w.alloc obs = w1 at hB1 hsb HV1 |-
  refine (HRK.out _ HV1.out).mono ?_; rintro e w2 ⟨rfl, b2⟩
  have hB2 := Lib.hid (belowThen hB1.out b2 (Nat.le_refl _))
  have hsb2 := Lib.hid (blk_below hsb.out b2)
  have HV2 := Lib.hid (HV1.out.below b2)
  clear b2 hsb HV1 hB1 HRK
  go_upto_region 3 with fail
  refine wp_region_held (S := fun w' => Below w2.drew.heap.size w2.drew w') (by kernel_rfl) ?_
  change wpAnyH _ _ _ _ _ _ _ _ w2.drew
  replace hsb2 : Hid (w2.drew.heap[w.heap.size]? = some (.cells #[vl, vd, vf, vc] 25)) := hsb2.out
  replace HV2 : Hid (SiteAt w2.drew vl vd vf vc site) := HV2.out.below (Below_drewN (Below.refl _ _) 1)
  replace hB2 : Hid (Below w.heap.size w w2.drew) := Below_drewN hB2.out 1
  generalize w2.drew = wr at hsb2 HV2 hB2 |-
  have hd : Below wr.heap.size wr wr := Below.refl _ _
  refine wpAnyH_take (i := 0) (v := .agg #[vl, vd, vf, vc]) rfl (by kernel_rfl) (by kernel_rfl) (by kernel_rfl) (fun _ _ _ h => h) (yieldsIf_load_mid (by rfl) 25 (.tmp 4) rfl (w.heap.size) 0 rfl (#[vl, vd, vf, vc]).toList _ (fun w' hw' => range_blk (blk_below hsb2.out hw')) Tryz.underlying25 rfl (by kernel_rfl)) hd ?_
  try simp only [List.getElem_toArray, List.getElem_cons_succ, List.getElem_cons_zero, Act.put, List.setIfInBounds_toArray, List.set_cons_zero, List.set_cons_succ]
  refine wpAnyH_take (i := 1) (v := .string (B comp)) rfl (by kernel_rfl) (by kernel_rfl) (by kernel_rfl) (fun _ _ _ h => h) (Or.inl ⟨by rfl, fun w' hw' => by
    go_simp⟩) hd ?_
  try simp only [List.getElem_toArray, List.getElem_cons_succ, List.getElem_cons_zero, Act.put, List.setIfInBounds_toArray, List.set_cons_zero, List.set_cons_succ]
  refine wpAnyH_take (i := 2) (v := .string (B s)) rfl (by kernel_rfl) (by kernel_rfl) (by kernel_rfl) (fun _ _ _ h => h) (Or.inl ⟨by rfl, fun w' hw' => by
    go_simp⟩) hd ?_
  try simp only [List.getElem_toArray, List.getElem_cons_succ, List.getElem_cons_zero, Act.put, List.setIfInBounds_toArray, List.set_cons_zero, List.set_cons_succ]
  refine wpAnyH_take (i := 6) (v := .agg #[vl, vd, vf, vc]) rfl (by kernel_rfl) (by kernel_rfl) (by kernel_rfl) (fun _ _ _ h => h) (yieldsIf_load_mid (by rfl) 25 (.tmp 4) rfl (w.heap.size) 0 rfl (#[vl, vd, vf, vc]).toList _ (fun w' hw' => range_blk (blk_below hsb2.out hw')) Tryz.underlying25 rfl (by kernel_rfl)) hd ?_
  try simp only [List.getElem_toArray, List.getElem_cons_succ, List.getElem_cons_zero, Act.put, List.setIfInBounds_toArray, List.set_cons_zero, List.set_cons_succ]
  refine wpAnyH_take (i := 7) (v := .string (B comp)) rfl (by kernel_rfl) (by kernel_rfl) (by kernel_rfl) (fun _ _ _ h => h) (Or.inl ⟨by rfl, fun w' hw' => by
    go_simp⟩) hd ?_
  try simp only [List.getElem_toArray, List.getElem_cons_succ, List.getElem_cons_zero, Act.put, List.setIfInBounds_toArray, List.set_cons_zero, List.set_cons_succ]
  refine wpAnyH_take (i := 8) (v := .string (B o)) rfl (by kernel_rfl) (by kernel_rfl) (by kernel_rfl) (fun _ _ _ h => h) (Or.inl ⟨by rfl, fun w' hw' => by
    go_simp⟩) hd ?_
  try simp only [List.getElem_toArray, List.getElem_cons_succ, List.getElem_cons_zero, Act.put, List.setIfInBounds_toArray, List.set_cons_zero, List.set_cons_succ]
  refine wpAnyH_all (rs := [3]) (by kernel_rfl) (by simp) ?_
  intro i hi
  obtain rfl := List.mem_singleton.1 hi
  refine wpOp_step rfl (fun K hK => ?_)
  rw [if_pos (by rfl)]
  go_simp
  refine (HS2.out _ (HV2.out.below hd)).mono ?_; rintro e w3 ⟨v, rfl, ⟨ql, qi, qu, rfl, -, -, -⟩, b3⟩
  have hd : Below wr.heap.size wr w3 := belowThen hd b3 (Nat.le_refl _)
  refine hK _ _ ⟨hd, ?_⟩
  clear hK K b3
  have hfld := fun wx => run_tbase wx T ql qi qu
  try simp only [List.getElem_toArray, List.getElem_cons_succ, List.getElem_cons_zero, Act.put, List.setIfInBounds_toArray, List.set_cons_zero, List.set_cons_succ]
  refine wpAnyH_take (i := 4) (v := .string (B T.base)) rfl (by kernel_rfl) (by kernel_rfl) (by kernel_rfl) (fun _ _ _ h => h) (Or.inl ⟨by rfl, fun w' hw' => by
    go_simp⟩) hd ?_
  try simp only [List.getElem_toArray, List.getElem_cons_succ, List.getElem_cons_zero, Act.put, List.setIfInBounds_toArray, List.set_cons_zero, List.set_cons_succ]
  clear hfld
  refine wpAnyH_take (i := 5) (v := .int .i64 T.base.length) rfl (by kernel_rfl) (by kernel_rfl) (by kernel_rfl) (fun _ _ _ h => h) (Or.inl ⟨by rfl, fun w' hw' => by
    go_simp <;> omega⟩) hd ?_
  try simp only [List.getElem_toArray, List.getElem_cons_succ, List.getElem_cons_zero, Act.put, List.setIfInBounds_toArray, List.set_cons_zero, List.set_cons_succ]
  refine wpAnyH_all (rs := [9]) (by kernel_rfl) (by simp) ?_
  intro i hi
  obtain rfl := List.mem_singleton.1 hi
  refine wpOp_step rfl (fun K hK => ?_)
  rw [if_pos (by rfl)]
  go_simp
  refine (HO2.out _ (HV2.out.below hd)).mono ?_; rintro e w4 ⟨rfl, b4⟩
  have hd : Below wr.heap.size wr w4 := belowThen hd b4 (Nat.le_refl _)
  refine hK _ _ ⟨hd, ?_⟩
  clear hK K b4
  try simp only [List.getElem_toArray, List.getElem_cons_succ, List.getElem_cons_zero, Act.put, List.setIfInBounds_toArray, List.set_cons_zero, List.set_cons_succ]
  refine wpAnyH_take (i := 10) (v := .int .i64 x.length) rfl (by kernel_rfl) (by kernel_rfl) (by kernel_rfl) (fun _ _ _ h => h) (Or.inl ⟨by rfl, fun w' hw' => by
    go_simp <;> omega⟩) hd ?_
  try simp only [List.getElem_toArray, List.getElem_cons_succ, List.getElem_cons_zero, Act.put, List.setIfInBounds_toArray, List.set_cons_zero, List.set_cons_succ]
  have hgt : decide ((x.length : Int) < (T.base.length : Int)) = true := by rw [decide_eq_true_eq]; omega
  refine wpAnyH_take (i := 11) (v := .bool true) rfl (by kernel_rfl) (by kernel_rfl) (by kernel_rfl) (fun _ _ _ h => h) (Or.inl ⟨by rfl, fun w' hw' => by
    go_simp <;> omega⟩) hd ?_
  try simp only [List.getElem_toArray, List.getElem_cons_succ, List.getElem_cons_zero, Act.put, List.setIfInBounds_toArray, List.set_cons_zero, List.set_cons_succ]
  refine wpAnyH_take (i := 12) (v := .bool true) rfl (by kernel_rfl) (by kernel_rfl) (by kernel_rfl) (fun _ _ _ h => h) (Or.inl ⟨by rfl, fun w' hw' => by
    go_simp⟩) hd ?_
  try simp only [List.getElem_toArray, List.getElem_cons_succ, List.getElem_cons_zero, Act.put, List.setIfInBounds_toArray, List.set_cons_zero, List.set_cons_succ]
  refine wpAnyH_done (by kernel_rfl) ?_ _
  have hend := Lib.hid (belowThen hB2.out hd (Nat.le_refl _))
  go_wp2_with fail
  go_ret
  exact ⟨rfl, hend.out⟩

end Go.Proofs.YtjkecadfakjanaaGreatDoor
