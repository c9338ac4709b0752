/- A base with a type in the place of its section: Path.BaseReTyped and impl.BaseReTyped walked, where there is a section that is not the type. Conditions: a site in memory that names each language once; a path of ASCII of at most 900000 bytes; a type of at most 2147483647 bytes. -/
import Derived.Test.YtjkecadfakjanaaGreatDoorParse
set_option maxRecDepth 100000
set_option linter.unusedVariables false
set_option linter.unusedSimpArgs false
namespace Go.Proofs.YtjkecadfakjanaaGreatDoor
open Go.RowKit
attribute [local go_sem] B_extract B_toList B_append

theorem pnorm_lenY (p : PathS) (s : Str) : (p.norm s).length <= s.length := by
 unfold PathS.norm
 repeat' split
 all_goals simp
theorem sub_leY (s : Str) (lh : Nat × Nat) : (sub s lh).length <= s.length := by
 unfold sub
 simp only [List.length_take, List.length_drop]
 omega
theorem baseM_lenY (p : PathS) (k b : Bool) : (p.baseM k b).length <= 2 * p.s.length := by
 unfold PathS.baseM
 dsimp only
 repeat' split
 all_goals refine Nat.le_trans (pnorm_lenY p _) ?_
 all_goals first | omega | (simp only [List.length_append, List.length_take]; have := sub_leY p.s ((p.known.headD (0, 0)).1 - 1, (p.known.headD (0, 0)).2); omega)
theorem base_lenY (p : PathS) : p.base.length <= 2 * p.s.length := by
 unfold PathS.base
 dsimp only
 split
 ·exact Nat.zero_le _
 ·exact baseM_lenY p _ _

theorem c_reTyped (p : PathS) (w : World) (base b : Nat) (vk vu vl : Value) (un : Un) (h : PathAt w base b p vk vu vl un) (ok : PathOK p) (htr : p.trim = false) (typ : Str) (ht : typ ≠ []) (htl : typ.length <= 2147483647) (hse : p.sectionM ≠ typ) (k : Nat) (hk : p.sHigh = (k : Int)) (hkb : k <= p.base.length) (hbl : p.base.length <= 3600000) :
  Calls Tryz.prog 50 #[.pointer (some ⟨b, 0, none⟩), .string (B typ)] w fun e w' => e = .returned (.string (B (47 :: (typ ++ p.base.drop k)))) /\ Below w.heap.size w w' := by
 have HB := Lib.hid (c_Base p w base b vk vu vl un h ok)
 have HS : Hid (∀ wx, PathAt wx base b p vk vu vl un -> Calls Tryz.prog 65 #[.pointer (some ⟨b, 0, none⟩)] wx fun e w' => e = .returned (.string (B p.sectionM)) /\ Below wx.heap.size wx w') := fun wx h => c_Section p wx base b vk vu vl un h ok
 have HN : Hid (∀ t : Str, t.length <= 70368744177664 -> ∀ wx, PathAt wx base b p vk vu vl un -> Calls Tryz.prog 101 #[.pointer (some ⟨b, 0, none⟩), .string (B t)] wx fun e w' => e = .returned (.string (B t)) /\ wx = w') := fun t hl wx h => by
  have h2 := c_norm p wx base b vk vu vl un h t hl
  rw [show p.norm t = t by unfold PathS.norm; rw [htr]; rfl] at h2
  exact h2
 have hh := Lib.hid h
 have hsh : Hid (∀ wx, PathAt wx base b p vk vu vl un -> wx.cell? ⟨b, 3, none⟩ = some (.int .i64 (k : Int))) := fun wx h => by
  have h3 := h.cell 3 (.int .i64 p.sHigh) rfl
  rw [hk] at h3; exact h3
 clear h ok
 generalize p.base = x at HB hkb hbl |-
 generalize p.sectionM = y at HS hse
 have hte : typ.isEmpty = false := List.isEmpty_eq_false_iff.2 ht
 have hyt : (y == typ) = false := by rw [beq_eq_false_iff_ne]; exact hse
 have hk1 : (k : Int) <= (x.length : Int) := by omega
 have hk2 : (0 : Int) <= (k : Int) := by omega
 have hk3 : ((k : Int) != -1) = true := by rw [bne_iff_ne]; omega
 have hdl : (x.drop k).length <= 3600000 := by rw [List.length_drop]; omega
 have hdt : List.take (x.length - k) (List.drop k x) = List.drop k x := List.take_of_length_le (by rw [List.length_drop]; omega)
 clear ht hse hk
 go_enter Tryz.func50, Tryz.ntmps50
 go_wp2_with fail
 refine HB.out.mono ?_; rintro e w1 ⟨rfl, b1⟩
 have h1 := Lib.hid (hh.out.below b1)
 replace b1 := Lib.hid b1
 go_wp2_with fail
 refine (HS.out _ h1.out).mono ?_; rintro e w2 ⟨rfl, b2⟩
 have h2 := Lib.hid (h1.out.below b2)
 replace b1 := Lib.hid (belowThen b1.out b2 (Nat.le_refl _))
 have k3 := hsh.out _ h2.out
 clear b2 h1 HB HS
 go_wp2_with fail
 try rw [hdt]
 refine (HN.out _ (by simp only [List.length_append, List.length_cons, List.length_nil]; omega) _ h2.out).mono ?_; rintro e w' ⟨rfl, rfl⟩
 go_wp2_with fail
 go_ret
 exact ⟨rfl, b1.out⟩

set_option maxHeartbeats 4000000 in
theorem c_implReTyped (w : World) (site : SiteM) (comp s typ : Str) (vl vd vf vc : Value) (hs : SiteAt w vl vd vf vc site) (hn : Once site.languages) (hl : s.length <= 900000) (ha : asciiL s = true) (ht : typ ≠ []) (htl : typ.length <= 2147483647) (hse : (toldM (doParseM site comp (normL s))).section_ ≠ typ) (hs0 : (toldM (doParseM site comp (normL s))).section_ ≠ []) (hkb : (toldM (doParseM site comp (normL s))).section_.length + 1 <= (toldM (doParseM site comp (normL s))).base.length) :
  Calls Tryz.prog 27 #[.agg #[vl, vd, vf, vc], .string (B comp), .string (B s), .string (B typ)] w
   fun e w' => e = .returned (.string (B (47 :: (typ ++ (toldM (doParseM site comp (normL s))).base.drop ((toldM (doParseM site comp (normL s))).section_.length + 1))))) /\ Below w.heap.size w w' := by
 have HPR : Hid (∀ wx, SiteAt wx vl vd vf vc site -> Calls Tryz.prog 42 #[.agg #[vl, vd, vf, vc]] wx fun e w' => ∃ pb mb fb sb, e = .returned (.pointer (some ⟨pb, 0, none⟩)) /\ PPAt w' pb mb fb sb vl vd vf vc site /\ wx.heap.size <= pb /\ Below wx.heap.size wx w') := fun wx h => c_parser site vl vd vf vc wx h hn
 have HPA : Hid (∀ wx pb mb fb sb, PPAt wx pb mb fb sb vl vd vf vc site -> Calls Tryz.prog 43 #[.pointer (some ⟨pb, 0, none⟩), .string (B comp), .string (B s)] wx
   fun e w' => ∃ b b2, e = .returned (.pointer (some ⟨b, 0, none⟩)) /\ PathHere w' wx.heap.size b b2 (doParseM site comp (normL s)) /\ SomePath w' b2 (doParseM site comp s) /\ Below wx.heap.size wx w') := fun wx pb mb fb sb h => c_Parse wx comp s pb mb fb sb vl vd vf vc site h hl ha
 have ok : PathOK (doParseM site comp (normL s)) := doParse_ok site comp (normL s) (by rw [normL_len]; omega)
 have hfin := doParse_finished site comp (normL s)
 have hlen := normPath_len (normL s)
 rw [normL_len] at hlen
 have hbl : (doParseM site comp (normL s)).base.length <= 3600000 := by
  have h := base_lenY (doParseM site comp (normL s))
  rw [hfin.s_] at h; omega
 have hsec : (toldM (doParseM site comp (normL s))).section_ = (doParseM site comp (normL s)).sectionM := rfl
 have hba : (toldM (doParseM site comp (normL s))).base = (doParseM site comp (normL s)).base := rfl
 rw [hsec] at hse hs0 hkb |-
 rw [hba] at hkb |-
 have hkk : (doParseM site comp (normL s)).sHigh = (((doParseM site comp (normL s)).sectionM.length + 1 : Nat) : Int) := by
  have e : (doParseM site comp (normL s)).sectionM = if (doParseM site comp (normL s)).sHigh <= 0 then [] else (doParseM site comp (normL s)).norm (sub (doParseM site comp (normL s)).s (1, (doParseM site comp (normL s)).sHigh.toNat)) := rfl
  by_cases h0 : (doParseM site comp (normL s)).sHigh <= 0
  ·rw [if_pos h0] at e; exact absurd e hs0
  ·rw [if_neg h0] at e
   have hsc := ok.sc.resolve_left h0
   have e2 : (doParseM site comp (normL s)).norm (sub (doParseM site comp (normL s)).s (1, (doParseM site comp (normL s)).sHigh.toNat)) = sub (doParseM site comp (normL s)).s (1, (doParseM site comp (normL s)).sHigh.toNat) := by unfold PathS.norm; rw [hfin.trim]; rfl
   rw [e, e2]
   unfold sub
   simp only [List.length_take, List.length_drop]
   omega
 have HRT : Hid (∀ wx base b vk vu vl1 un, PathAt wx base b (doParseM site comp (normL s)) vk vu vl1 un -> Calls Tryz.prog 50 #[.pointer (some ⟨b, 0, none⟩), .string (B typ)] wx fun e w' => e = .returned (.string (B (47 :: (typ ++ (doParseM site comp (normL s)).base.drop ((doParseM site comp (normL s)).sectionM.length + 1))))) /\ Below wx.heap.size wx w') := fun wx base b vk vu vl1 un h => c_reTyped _ wx base b vk vu vl1 un h ok hfin.trim typ ht htl hse _ hkk hkb hbl
 clear hsec hba hkk hbl hfin ok hlen hse hs0 hkb
 generalize (doParseM site comp (normL s)).base.drop ((doParseM site comp (normL s)).sectionM.length + 1) = r at HRT |-
 generalize doParseM site comp (normL s) = P1 at HPA HRT
 generalize doParseM site comp s = P2 at HPA
 obtain ⟨obs, hobs⟩ : ∃ o : Obj, o = .cells #[vl, vd, vf, vc] 25 := ⟨_, rfl⟩
 have hB1 : Hid (Below w.heap.size w (w.alloc obs)) := Below_alloc w obs
 have HV1 : Hid (SiteAt (w.alloc obs) vl vd vf vc site) := hs.alloc obs
 clear hs hn ha
 go_enter Tryz.func27, Tryz.ntmps27
 go_wp2_with fail
 rw [<- hobs]
 generalize w.alloc obs = w2 at hB1 HV1 |-
 refine (HPR.out _ HV1.out).mono ?_; rintro e w3 ⟨pb, mb, fb, sb, rfl, hpp, hpb, hb3⟩
 replace hpp := Lib.hid hpp
 have hB3 := Lib.hid (belowThen hB1.out hb3 (Nat.le_refl _))
 clear HPR HV1 hB1 hb3 hpb
 go_wp2_with fail
 refine (HPA.out _ pb mb fb sb hpp.out).mono ?_; rintro e w4 ⟨b, b2, rfl, h1, h2, hb4⟩
 clear h2
 obtain ⟨vk, vu, vl1, hat⟩ := h1
 replace hat := Lib.hid hat
 have hB4 := Lib.hid (belowThen hB3.out hb4 (Nat.le_refl _))
 clear HPA hb4 hpp hB3
 go_wp2_with fail
 refine (HRT.out _ _ _ _ _ _ _ hat.out).mono ?_; rintro e w5 ⟨rfl, hb5⟩
 have hB5 := Lib.hid (belowThen hB4.out hb5 (Nat.le_refl _))
 go_wp2_with fail
 go_ret
 exact ⟨rfl, hB5.out⟩

end Go.Proofs.YtjkecadfakjanaaGreatDoor
