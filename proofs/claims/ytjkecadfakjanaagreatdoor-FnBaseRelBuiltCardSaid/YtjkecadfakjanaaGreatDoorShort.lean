/- few and short: sizes of a site, a component and a path together; and the package's parser of a site with its three functions. Conditions: what zzFits1 asks of the site's sizes. -/
import Derived.Test.YtjkecadfakjanaaGreatDoorRep
set_option maxRecDepth 100000
set_option linter.unusedVariables false
set_option linter.unusedSimpArgs false
namespace Go.Proofs.YtjkecadfakjanaaGreatDoor
open Go.RowKit
attribute [local go_sem] B_extract B_toList B_append

def sumLen (l : List Str) : Nat := (l.map List.length).sum
def fewL (l : List Str) : Bool := decide (l.length + sumLen l <= 2000)
def sumFmt (l : List (Str × Str)) : Nat := (l.map fun f => 1 + f.1.length + f.2.length).sum
def shortL (site : SiteM) (component s : Str) : Bool :=
 decide (component.length + s.length + sumFmt site.formats <= 2000) && fewL site.languages && fewL site.disabled && fewL site.content

theorem sumLen_step {l : List Str} {k : Nat} (h : k < l.length) : sumLen (l.take (k + 1)) = sumLen (l.take k) + l[k].length := by
 unfold sumLen; rw [List.take_succ_eq_append_getElem h, List.map_append, List.sum_append]; simp only [List.map_cons, List.map_nil, List.sum_cons, List.sum_nil, Nat.add_zero]
theorem sumFmt_step {l : List (Str × Str)} {k : Nat} (h : k < l.length) : sumFmt (l.take (k + 1)) = sumFmt (l.take k) + (1 + l[k].1.length + l[k].2.length) := by
 unfold sumFmt; rw [List.take_succ_eq_append_getElem h, List.map_append, List.sum_append]; simp only [List.map_cons, List.map_nil, List.sum_cons, List.sum_nil, Nat.add_zero]
theorem fits2_get {l : List Str} (h : fits2 l = true) : l.length <= 2147483647 /\ ∀ k (hk : k < l.length), l[k].length <= 2147483647 := by
 simp [fits2, bigB] at h
 exact ⟨h.1, fun k hk => h.2 _ (List.getElem_mem hk)⟩
theorem fits3_get {l : List (Str × Str)} (h : fits3 l = true) : l.length <= 2147483647 /\ ∀ k (hk : k < l.length), l[k].1.length <= 2147483647 /\ l[k].2.length <= 2147483647 := by
 unfold fits3 at h
 rw [Bool.and_eq_true, List.all_eq_true] at h
 refine ⟨by simpa [bigB] using h.1, fun k hk => ?_⟩
 have := h.2 _ (List.getElem_mem hk)
 simpa [fits4, bigB] using this

set_option maxHeartbeats 1000000 in
theorem c_few (l : List Str) (v : Value) (w : World) (hv : StrsAt w v l) (hf : fits2 l = true) :
  Calls Tryz.prog 38 #[v] w fun e w' => e = .returned (.bool (fewL l)) /\ w = w' := by
 obtain ⟨h0, a, cap, rfl, hc⟩ := hv
 obtain ⟨hlen, hel⟩ := fits2_get hf
 have HC := Lib.hid hc
 have HE := Lib.hid hel
 clear hc hel hf
 go_enter Tryz.func38, Tryz.ntmps38
 go_wp2
 go_loop [3, 10] (fun n i => ∃ k m : Nat, k <= l.length /\ i = .int .i64 k /\ n = .int .i64 m /\ Hid (m = l.length + sumLen (l.take k)) /\ m <= l.length + k * 2147483647) (fun _ i => l.length - (intOf i).toNat)
 case atStart => exact ⟨0, l.length, Nat.zero_le _, rfl, rfl, by simp [Hid, sumLen], by omega⟩
 case round =>
  obtain ⟨k, m, hk, rfl, rfl, hm, hbd⟩ := hrel
  by_cases hlt : k < l.length
  ·obtain ⟨b, off, rfl, hcell⟩ := HC.out k hlt
   have hkl := HE.out k hlt
   have HM := Lib.hid (sumLen_step hlt)
   go_wp2
   go_round
   case rel => exact ⟨k + 1, m + l[k].length, by omega, by go_num, by go_num, by show _ = _; rw [HM.out, hm.out]; omega, by omega⟩
   case measure => simp [intOf]; omega
  ·have HM : Hid (m = l.length + sumLen l) := by show _ = _; rw [hm.out, List.take_of_length_le (by omega)]
   by_cases h2 : m <= 2000
   ·go_wp2
    go_ret
    exact ⟨ret_bool (by have := HM.out; simp [fewL]; omega), rfl⟩
   ·go_wp2
    go_ret
    exact ⟨ret_bool (by have := HM.out; simp [fewL]; omega), rfl⟩

set_option maxHeartbeats 2000000 in
theorem c_shortW (site : SiteM) (component s : Str) (vl vd vf vc : Value) (w : World) (hv : SiteAt w vl vd vf vc site) (hf : siteFits site = true) (hcs1 : component.length + s.length <= 6442450942) :
  Calls Tryz.prog 13 #[.agg #[vl, vd, vf, vc], .string (B component), .string (B s)] w fun e w' => e = .returned (.bool (shortL site component s)) /\ Below w.heap.size w w' := by
 have hf' : fits2 site.languages = true /\ fits2 site.disabled = true /\ fits3 site.formats = true /\ fits2 site.content = true := by
  simp only [siteFits, Bool.and_eq_true] at hf; exact ⟨hf.1.1.1, hf.1.1.2, hf.1.2, hf.2⟩
 obtain ⟨f1, f2, f3, f4⟩ := hf'
 obtain ⟨hlen, hel⟩ := fits3_get f3
 have HE := Lib.hid hel
 have F1 := Lib.hid f1
 have F2 := Lib.hid f2
 have F4 := Lib.hid f4
 have HV := Lib.hid hv
 have HR : Hid (shortL site component s = (decide (component.length + s.length + sumFmt site.formats <= 2000) && fewL site.languages && fewL site.disabled && fewL site.content)) := rfl
 obtain ⟨_, a, cap, rfl, hcF⟩ := hv.f
 clear hv hel f1 f2 f3 f4 hcF hf
 go_enter Tryz.func13, Tryz.ntmps13
 go_wp2_with fail
 go_loopw [7, 18] (fun n i wr => ∃ k m : Nat, k <= site.formats.length /\ i = .int .i64 k /\ n = .int .i64 m /\ Hid (m = component.length + s.length + sumFmt (site.formats.take k)) /\ m <= 6442450942 + k * 4294967295 /\
  Below w.heap.size w wr /\ wr.heap[w.heap.size]? = some (.cells #[vl, vd, .slice a site.formats.length cap, vc] 25 (0, 0))) (fun _ i _ => site.formats.length - (intOf i).toNat)
 case atStart => exact ⟨0, component.length + s.length, Nat.zero_le _, rfl, by go_num, by simp [Hid, sumFmt], by omega, Below_alloc _ _, blk_new _ _⟩
 case round =>
  obtain ⟨k, m, hk, rfl, rfl, hm, hbd, hb, hblk⟩ := hrel
  have HB := HV.out.below hb
  have hsz := lt_of_block hblk
  by_cases hlt : k < site.formats.length
  ·obtain ⟨_, a', cap', ea, hc⟩ := HB.f
   obtain ⟨rfl, -, rfl⟩ := Value.slice.inj ea
   obtain ⟨b, off, rfl, hcell, hcell2⟩ := hc k hlt
   obtain ⟨hk1, hk2⟩ := HE.out k hlt
   have HM := Lib.hid (sumFmt_step hlt)
   clear hc ea HB
   have HBLK := Lib.hid hblk
   clear hblk
   go_wp2_with fail
   go_roundw
   case rel =>
    refine ⟨k + 1, m + (1 + site.formats[k].1.length + site.formats[k].2.length), by omega, by go_num, by go_num, by show _ = _; rw [HM.out, hm.out]; omega, by omega, hb.alloc hb.size _, ?_⟩
    rw [Below.heap_alloc _ _ _ hsz]; exact HBLK.out
   case measure => simp [intOf]; omega
  ·have HM : Hid (m = component.length + s.length + sumFmt site.formats) := by show _ = _; rw [hm.out, List.take_of_length_le (by omega)]
   have hc0 : wr.cell? ⟨w.heap.size, 0, none⟩ = some vl := by simp [World.cell?, hblk]
   have hc1 : wr.cell? ⟨w.heap.size, 1, none⟩ = some vd := by simp [World.cell?, hblk]
   have hc3 : wr.cell? ⟨w.heap.size, 3, none⟩ = some vc := by simp [World.cell?, hblk]
   have H1 := c_few site.languages vl wr HB.l F1.out
   have H2 := c_few site.disabled vd wr HB.d F2.out
   have H3 := c_few site.content vc wr HB.c F4.out
   have H1' := Lib.hid H1
   have H2' := Lib.hid H2
   have H3' := Lib.hid H3
   clear H1 H2 H3 HB hblk
   by_cases h2 : m <= 2000
   ·have HR2 : Hid (shortL site component s = (fewL site.languages && fewL site.disabled && fewL site.content)) := by show _ = _; rw [HR.out, decide_eq_true (by have := HM.out; omega)]; simp
    cases e1 : fewL site.languages with
    | false =>
     rw [e1] at H1'
     go_wp2_with fail
     refine H1'.out.mono ?_; rintro e w' ⟨rfl, rfl⟩
     go_wp2_with fail
     go_ret
     exact ⟨ret_bool (by rw [HR2.out, e1]; rfl), hb⟩
    | true =>
     rw [e1] at H1'
     cases e2 : fewL site.disabled with
     | false =>
      rw [e2] at H2'
      go_wp2_with fail
      refine H1'.out.mono ?_; rintro e w' ⟨rfl, rfl⟩
      go_wp2_with fail
      refine H2'.out.mono ?_; rintro e w' ⟨rfl, rfl⟩
      go_wp2_with fail
      go_ret
      exact ⟨ret_bool (by rw [HR2.out, e1, e2]; rfl), hb⟩
     | true =>
      rw [e2] at H2'
      go_wp2_with fail
      refine H1'.out.mono ?_; rintro e w' ⟨rfl, rfl⟩
      go_wp2_with fail
      refine H2'.out.mono ?_; rintro e w' ⟨rfl, rfl⟩
      go_wp2_with fail
      refine H3'.out.mono ?_; rintro e w' ⟨rfl, rfl⟩
      go_wp2_with fail
      go_ret
      exact ⟨ret_bool (by rw [HR2.out, e1, e2]; simp), hb⟩
   ·have HR2 : Hid (shortL site component s = false) := by show _ = _; rw [HR.out, decide_eq_false (by have := HM.out; omega)]; simp
    go_wp2_with fail
    go_ret
    exact ⟨ret_bool HR2.out.symm, hb⟩
theorem c_short (site : SiteM) (component s : Str) (vl vd vf vc : Value) (w : World) (hv : SiteAt w vl vd vf vc site) (hf : siteFits site = true) (hc1 : component.length <= 2147483647) (hs1 : s.length <= 2147483647) :
  Calls Tryz.prog 13 #[.agg #[vl, vd, vf, vc], .string (B component), .string (B s)] w fun e w' => e = .returned (.bool (shortL site component s)) /\ Below w.heap.size w w' :=
 c_shortW site component s vl vd vf vc w hv hf (by omega)

end Go.Proofs.YtjkecadfakjanaaGreatDoor
