/- Lists of texts, lists of formats and sites as they lie in memory, and the functions that only read them: among, formatNamed, formatBeside, few, zzFits1 to zzFits4, short. Conditions: lists of at most 2^47 entries. -/
import Derived.Test.YtjkecadfakjanaaGreatDoorStr
import Derived.Test.YtjkecadfakjanaaGreatDoorPathM
set_option maxRecDepth 100000
set_option linter.unusedVariables false
set_option linter.unusedSimpArgs false
namespace Go.Proofs.YtjkecadfakjanaaGreatDoor
open Go.RowKit
attribute [local go_sem] B_extract B_toList B_append

theorem cell_lt {w : World} {b o : Nat} {v : Value} (h : w.cell? ⟨b, o, none⟩ = some v) : b < w.heap.size := World.block_lt_of_cell? w _ h

/-- v is a slice that reads as the texts l. -/
def StrsAt (w : World) (v : Value) (l : List Str) : Prop :=
 l.length <= 140737488355328 /\ ∃ a cap, v = .slice a l.length cap /\ ∀ i (h : i < l.length), ∃ b off, a = some ⟨b, off, none⟩ /\ w.cell? ⟨b, off + i, none⟩ = some (.string (B l[i]))
/-- v is a slice that reads as the formats l: two texts each. -/
def FmtsAt (w : World) (v : Value) (l : List (Str × Str)) : Prop :=
 l.length <= 140737488355328 /\ ∃ a cap, v = .slice a l.length cap /\ ∀ i (h : i < l.length), ∃ b off, a = some ⟨b, off, none⟩ /\ w.cell? ⟨b, off + i * 2, none⟩ = some (.string (B l[i].1)) /\ w.cell? ⟨b, off + i * 2 + 1, none⟩ = some (.string (B l[i].2))

theorem StrsAt.below {w w' : World} {v : Value} {l : List Str} (h : StrsAt w v l) (hb : Below w.heap.size w w') : StrsAt w' v l := by
 obtain ⟨h0, a, cap, rfl, h1⟩ := h
 refine ⟨h0, a, cap, rfl, fun i hi => ?_⟩
 obtain ⟨b, off, e, hc⟩ := h1 i hi
 exact ⟨b, off, e, (hb.cell (p := ⟨b, off + i, none⟩) (cell_lt hc)).trans hc⟩
theorem FmtsAt.below {w w' : World} {v : Value} {l : List (Str × Str)} (h : FmtsAt w v l) (hb : Below w.heap.size w w') : FmtsAt w' v l := by
 obtain ⟨h0, a, cap, rfl, h1⟩ := h
 refine ⟨h0, a, cap, rfl, fun i hi => ?_⟩
 obtain ⟨b, off, e, hc, hd⟩ := h1 i hi
 exact ⟨b, off, e, (hb.cell (p := ⟨b, off + i * 2, none⟩) (cell_lt hc)).trans hc, (hb.cell (p := ⟨b, off + i * 2 + 1, none⟩) (cell_lt hd)).trans hd⟩
theorem StrsAt.len {w : World} {v : Value} {l : List Str} (h : StrsAt w v l) : l.length <= 140737488355328 := h.1
theorem StrsAt.nil (w : World) : StrsAt w (.slice none 0 0) [] := ⟨by simp, none, 0, rfl, fun i hi => by simp at hi⟩

structure SiteAt (w : World) (vl vd vf vc : Value) (site : SiteM) : Prop where
 l : StrsAt w vl site.languages
 d : StrsAt w vd site.disabled
 f : FmtsAt w vf site.formats
 c : StrsAt w vc site.content
theorem SiteAt.below {w w' : World} {vl vd vf vc : Value} {site : SiteM} (h : SiteAt w vl vd vf vc site) (hb : Below w.heap.size w w') : SiteAt w' vl vd vf vc site :=
 ⟨h.l.below hb, h.d.below hb, h.f.below hb, h.c.below hb⟩

/-! ### The reading loops -/
theorem among_hit {l : List Str} {s : Str} {k : Nat} (h : k < l.length) (e : (l[k] == s) = true) : amongL (l.drop k) s = true := by
 rw [drop_cons h]; unfold amongL; rw [List.any_cons, e]; rfl
theorem among_miss {l : List Str} {s : Str} {k : Nat} (h : k < l.length) (e : (l[k] == s) = false) : amongL (l.drop k) s = amongL (l.drop (k + 1)) s := by
 rw [drop_cons h]; unfold amongL; rw [List.any_cons, e]; rfl

set_option maxHeartbeats 1000000 in
theorem c_among (l : List Str) (s : Str) (v : Value) (w : World) (hv : StrsAt w v l) :
  Calls Tryz.prog 105 #[v, .string (B s)] w fun e w' => e = .returned (.bool (amongL l s)) /\ w = w' := by
 obtain ⟨h0, a, cap, rfl, hc⟩ := hv
 have HC := Lib.hid hc
 clear hc
 go_enter Tryz.func105, Tryz.ntmps105
 go_wp2
 go_loop [5] (fun i => ∃ k : Nat, k <= l.length /\ i = .int .i64 k /\ Hid (amongL l s = amongL (l.drop k) s)) (fun i => l.length - (intOf i).toNat)
 case atStart => exact ⟨0, Nat.zero_le _, rfl, rfl⟩
 case round =>
  obtain ⟨k, hk, rfl, hall⟩ := hrel
  by_cases hlt : k < l.length
  ·obtain ⟨b, off, rfl, hcell⟩ := HC.out k hlt
   cases he : (l[k] == s) with
   | true =>
    have HM := Lib.hid (among_hit hlt he)
    go_wp2
    go_ret
    exact ⟨ret_bool (by rw [hall.out, HM.out]), rfl⟩
   | false =>
    have HM := Lib.hid (among_miss hlt he)
    go_wp2
    go_round
    case rel => exact ⟨k + 1, by omega, by go_num, hall.out.trans HM.out⟩
    case measure => simp [intOf]; omega
  ·have HM : Hid (amongL (l.drop k) s = false) := by show _ = _; rw [List.drop_of_length_le (by omega)]; rfl
   go_wp2
   go_ret
   exact ⟨ret_bool (by rw [hall.out, HM.out]), rfl⟩

/-! ### Sizes -/
def bigB (n : Nat) : Bool := decide (2147483647 < n)
def fits2 (l : List Str) : Bool := !bigB l.length && l.all fun s => !bigB s.length
def fits4 (f : Str × Str) : Bool := !bigB f.1.length && !bigB f.2.length
def fits3 (l : List (Str × Str)) : Bool := !bigB l.length && l.all fits4
def siteFits (site : SiteM) : Bool := fits2 site.languages && fits2 site.disabled && fits3 site.formats && fits2 site.content

theorem all_hit {α} {p : α -> Bool} {l : List α} {k : Nat} (h : k < l.length) (e : p l[k] = false) : (l.drop k).all p = false := by
 rw [drop_cons h, List.all_cons, e]; rfl
theorem all_miss {α} {p : α -> Bool} {l : List α} {k : Nat} (h : k < l.length) (e : p l[k] = true) : (l.drop k).all p = (l.drop (k + 1)).all p := by
 rw [drop_cons h, List.all_cons, e]; rfl

set_option maxHeartbeats 1000000 in
theorem c_zzFits2 (l : List Str) (v : Value) (w : World) (hv : StrsAt w v l) :
  Calls Tryz.prog 19 #[v] w fun e w' => e = .returned (.bool (fits2 l)) /\ w = w' := by
 obtain ⟨h0, a, cap, rfl, hc⟩ := hv
 have HC := Lib.hid hc
 clear hc
 by_cases hbig : 2147483647 < l.length
 ·have HR : Hid (fits2 l = false) := by show _ = _; simp [fits2, bigB, hbig]
  go_enter Tryz.func19, Tryz.ntmps19
  go_wp2
  go_ret
  exact ⟨ret_bool HR.out.symm, rfl⟩
 have HR : Hid (fits2 l = l.all fun s => !bigB s.length) := by show _ = _; simp [fits2, bigB, hbig]
 go_enter Tryz.func19, Tryz.ntmps19
 go_wp2
 go_loop [10] (fun i => ∃ k : Nat, k <= l.length /\ i = .int .i64 k /\ Hid (fits2 l = (l.drop k).all fun s => !bigB s.length)) (fun i => l.length - (intOf i).toNat)
 case atStart => exact ⟨0, Nat.zero_le _, rfl, HR.out⟩
 case round =>
  obtain ⟨k, hk, rfl, hall⟩ := hrel
  by_cases hlt : k < l.length
  ·obtain ⟨b, off, rfl, hcell⟩ := HC.out k hlt
   by_cases he : 2147483647 < l[k].length
   ·have HM := Lib.hid (all_hit (p := fun s : Str => !bigB s.length) hlt (by simp [bigB, he]))
    go_wp2
    go_ret
    exact ⟨ret_bool (by rw [hall.out, HM.out]), rfl⟩
   ·have HM := Lib.hid (all_miss (p := fun s : Str => !bigB s.length) hlt (by simp [bigB, he]))
    go_wp2
    go_round
    case rel => exact ⟨k + 1, by omega, by go_num, hall.out.trans HM.out⟩
    case measure => simp [intOf]; omega
  ·have HM : Hid (((l.drop k).all fun s => !bigB s.length) = true) := by show _ = _; rw [List.drop_of_length_le (by omega)]; rfl
   go_wp2
   go_ret
   exact ⟨ret_bool (by rw [hall.out, HM.out]), rfl⟩

set_option maxHeartbeats 1000000 in
theorem c_zzFits4 (f : Str × Str) (w : World) :
  Calls Tryz.prog 55 #[.agg #[.string (B f.1), .string (B f.2)]] w fun e w' => e = .returned (.bool (fits4 f)) /\ Below w.heap.size w w' := by
 obtain ⟨x, y⟩ := f
 by_cases h1 : 2147483647 < x.length
 ·have HR : Hid (fits4 (x, y) = false) := by show _ = _; simp [fits4, bigB, h1]
  go_enter Tryz.func55, Tryz.ntmps55
  go_wp2
  go_ret
  exact ⟨ret_bool HR.out.symm, (Below.refl _ _).alloc (Nat.le_refl _) _⟩
 by_cases h2 : 2147483647 < y.length
 ·have HR : Hid (fits4 (x, y) = false) := by show _ = _; simp [fits4, bigB, h2]
  go_enter Tryz.func55, Tryz.ntmps55
  go_wp2
  go_ret
  exact ⟨ret_bool HR.out.symm, (Below.refl _ _).alloc (Nat.le_refl _) _⟩
 ·have HR : Hid (fits4 (x, y) = true) := by show _ = _; simp [fits4, bigB, h1, h2]
  go_enter Tryz.func55, Tryz.ntmps55
  go_wp2
  go_ret
  exact ⟨ret_bool HR.out.symm, (Below.refl _ _).alloc (Nat.le_refl _) _⟩

set_option maxHeartbeats 1000000 in
theorem c_zzFits3 (l : List (Str × Str)) (v : Value) (w : World) (hv : FmtsAt w v l) :
  Calls Tryz.prog 37 #[v] w fun e w' => e = .returned (.bool (fits3 l)) /\ Below w.heap.size w w' := by
 have hv0 := hv
 obtain ⟨h0, a, cap, rfl, hc⟩ := hv
 clear hc
 by_cases hbig : 2147483647 < l.length
 ·have HR : Hid (fits3 l = false) := by show _ = _; simp [fits3, bigB, hbig]
  go_enter Tryz.func37, Tryz.ntmps37
  go_wp2
  go_ret
  exact ⟨ret_bool HR.out.symm, Below.refl _ _⟩
 have HR : Hid (fits3 l = l.all fits4) := by show _ = _; simp [fits3, bigB, hbig]
 have HV := Lib.hid hv0
 clear hv0
 go_enter Tryz.func37, Tryz.ntmps37
 go_wp2
 go_loopw [10] (fun i wr => ∃ k : Nat, k <= l.length /\ i = .int .i64 k /\ Hid (fits3 l = (l.drop k).all fits4) /\ Below w.heap.size w wr) (fun i _ => l.length - (intOf i).toNat)
 case atStart => exact ⟨0, Nat.zero_le _, rfl, HR.out, Below.refl _ _⟩
 case round =>
  obtain ⟨k, hk, rfl, hall, hb⟩ := hrel
  by_cases hlt : k < l.length
  ·obtain ⟨_, a', cap', ea, hc⟩ := HV.out.below hb
   obtain ⟨rfl, -, rfl⟩ := Value.slice.inj ea
   obtain ⟨b, off, rfl, hcell, hcell2⟩ := hc k hlt
   clear hc ea
   cases he : fits4 l[k] with
   | true =>
    have HM := Lib.hid (all_miss (p := fits4) hlt he)
    go_wp2_with (go_at_call 55; refine (c_zzFits4 l[k] _).mono ?_; rintro e w' ⟨rfl, hb'⟩)
    go_roundw
    case rel => exact ⟨k + 1, by omega, by go_num, hall.out.trans HM.out, (hb.alloc hb.size _).trans (hb'.mono (by have := hb.size; simp; omega))⟩
    case measure => simp [intOf]; omega
   | false =>
    have HM := Lib.hid (all_hit (p := fits4) hlt he)
    go_wp2_with (go_at_call 55; refine (c_zzFits4 l[k] _).mono ?_; rintro e w' ⟨rfl, hb'⟩)
    go_ret
    exact ⟨ret_bool (by rw [hall.out, HM.out]), (hb.alloc hb.size _).trans (hb'.mono (by have := hb.size; simp; omega))⟩
  ·have HM : Hid ((l.drop k).all fits4 = true) := by show _ = _; rw [List.drop_of_length_le (by omega)]; rfl
   go_wp2_with fail
   go_ret
   exact ⟨ret_bool (by rw [hall.out, HM.out]), hb⟩

theorem SiteAt.alloc {w : World} {vl vd vf vc : Value} {site : SiteM} (h : SiteAt w vl vd vf vc site) (o : Obj) : SiteAt (w.alloc o) vl vd vf vc site :=
 h.below ((Below.refl _ _).alloc (Nat.le_refl _) _)

set_option maxHeartbeats 1000000 in
theorem c_zzFits1 (site : SiteM) (vl vd vf vc : Value) (w : World) (hv : SiteAt w vl vd vf vc site) :
  Calls Tryz.prog 12 #[.agg #[vl, vd, vf, vc]] w fun e w' => e = .returned (.bool (siteFits site)) /\ Below w.heap.size w w' := by
 have HV := Lib.hid (fun o => hv.alloc o)
 clear hv
 have HR : Hid (siteFits site = (fits2 site.languages && fits2 site.disabled && fits3 site.formats && fits2 site.content)) := rfl
 cases h1 : fits2 site.languages with
 | false =>
  have HR : Hid (siteFits site = false) := by show _ = _; rw [HR.out, h1]; rfl
  go_enter Tryz.func12, Tryz.ntmps12
  go_wp2_with (go_at_call 19; refine (c_zzFits2 site.languages _ _ (HV.out _).l).mono ?_; rintro e w' ⟨rfl, rfl⟩)
  go_ret
  exact ⟨ret_bool HR.out.symm, (Below.refl _ _).alloc (Nat.le_refl _) _⟩
 | true =>
 cases h2 : fits2 site.disabled with
 | false =>
  have HR : Hid (siteFits site = false) := by show _ = _; rw [HR.out, h1, h2]; rfl
  go_enter Tryz.func12, Tryz.ntmps12
  go_wp2_with fail
  refine (c_zzFits2 site.languages _ _ (HV.out _).l).mono ?_; rintro e w' ⟨rfl, rfl⟩
  go_wp2_with fail
  refine (c_zzFits2 site.disabled _ _ (HV.out _).d).mono ?_; rintro e w' ⟨rfl, rfl⟩
  go_wp2_with fail
  go_ret
  exact ⟨ret_bool HR.out.symm, (Below.refl _ _).alloc (Nat.le_refl _) _⟩
 | true =>
 cases h3 : fits3 site.formats with
 | false =>
  have HR : Hid (siteFits site = false) := by show _ = _; rw [HR.out, h1, h2, h3]; rfl
  go_enter Tryz.func12, Tryz.ntmps12
  go_wp2_with fail
  refine (c_zzFits2 site.languages _ _ (HV.out _).l).mono ?_; rintro e w' ⟨rfl, rfl⟩
  go_wp2_with fail
  refine (c_zzFits2 site.disabled _ _ (HV.out _).d).mono ?_; rintro e w' ⟨rfl, rfl⟩
  go_wp2_with fail
  refine (c_zzFits3 site.formats _ _ (HV.out _).f).mono ?_; rintro e w' ⟨rfl, hb⟩
  go_wp2_with fail
  go_ret
  exact ⟨ret_bool HR.out.symm, ((Below.refl _ _).alloc (Nat.le_refl _) _).trans (hb.mono (by simp))⟩
 | true =>
  have HR : Hid (siteFits site = fits2 site.content) := by show _ = _; rw [HR.out, h1, h2, h3]; rfl
  go_enter Tryz.func12, Tryz.ntmps12
  go_wp2_with fail
  refine (c_zzFits2 site.languages _ _ (HV.out _).l).mono ?_; rintro e w' ⟨rfl, rfl⟩
  go_wp2_with fail
  refine (c_zzFits2 site.disabled _ _ (HV.out _).d).mono ?_; rintro e w' ⟨rfl, rfl⟩
  go_wp2_with fail
  refine (c_zzFits3 site.formats _ _ (HV.out _).f).mono ?_; rintro e w' ⟨rfl, hb⟩
  obtain ⟨hcell, hfree⟩ := bcell hb
  go_wp2_with fail
  refine (c_zzFits2 site.content _ _ ((HV.out _).below hb).c).mono ?_; rintro e w' ⟨rfl, rfl⟩
  cases h4 : fits2 site.content
  all_goals
   go_wp2_with fail
   go_ret
   exact ⟨ret_bool (by rw [HR.out, h4]), ((Below.refl _ _).alloc (Nat.le_refl _) _).trans (hb.mono (by simp))⟩

end Go.Proofs.YtjkecadfakjanaaGreatDoor
