/- The methods of a path that ask for its names, folders, bases and words. Conditions: a path in memory that a parse has finished (PathOK). -/
import Derived.Test.YtjkecadfakjanaaGreatDoorGet
set_option maxRecDepth 100000
set_option linter.unusedVariables false
set_option linter.unusedSimpArgs false
namespace Go.Proofs.YtjkecadfakjanaaGreatDoor
open Go.RowKit
attribute [local go_sem] B_extract B_toList B_append

set_option maxHeartbeats 1000000 in
theorem c_Name (p : PathS) (w : World) (base b : Nat) (vk vu vl : Value) (un : Un) (h : PathAt w base b p vk vu vl un) (ok : PathOK p) :
  Calls Tryz.prog 66 #[.pointer (some ⟨b, 0, none⟩)] w fun e w' => e = .returned (.string (B p.nameM)) /\ Below w.heap.size w w' := by
 have c0 := h.cell 0 (.string (B p.s)) rfl
 have c2 := h.cell 2 (.int .i64 p.cHigh) rfl
 have hlen := ok.len
 have hhc := ok.hc
 obtain ⟨hi, hhi⟩ : ∃ k : Nat, p.cHigh = k := ⟨p.cHigh.toNat, by omega⟩
 have HQ : Hid (p.nameM = p.s.drop hi) := by
  show _ = _
  rw [PathS.nameM, if_pos (by omega), hhi]; rfl
 generalize p.nameM = r at HQ |-
 rw [hhi] at c2 hhc
 have g2 : 1 <= hi := by omega
 have g4 : (hi : Int) <= (p.s.length : Int) := by omega
 clear h hhc hhi
 go_enter Tryz.func66, Tryz.ntmps66
 go_wp2_with fail
 go_quiet (fail)
 go_wp2_with fail
 go_ret
 exact ⟨ret_str (by rw [HQ.out, List.take_of_length_le (by simp)]), below_drawn _⟩

set_option maxHeartbeats 1000000 in
theorem c_Dir (p : PathS) (w : World) (base b : Nat) (vk vu vl : Value) (un : Un) (h : PathAt w base b p vk vu vl un) (ok : PathOK p) :
  Calls Tryz.prog 70 #[.pointer (some ⟨b, 0, none⟩)] w fun e w' => e = .returned (.string (B p.dirM)) /\ Below w.heap.size w w' := by
 have c0 := h.cell 0 (.string (B p.s)) rfl
 have c2 := h.cell 2 (.int .i64 p.cHigh) rfl
 have hlen := ok.len
 have hhc := ok.hc
 obtain ⟨hi, hhi⟩ : ∃ k : Nat, p.cHigh = k := ⟨p.cHigh.toNat, by omega⟩
 have HR : Hid (p.dirM = p.norm (if p.s.take (hi - 1) = [] then [47] else p.s.take (hi - 1))) := by
  show _ = _
  simp only [PathS.dirM]
  rw [if_pos (show 0 < p.cHigh by omega), hhi, show ((hi : Int) - 1).toNat = hi - 1 from by omega]
 generalize p.dirM = r at HR |-
 rw [hhi] at c2 hhc
 have g2 : 1 <= hi := by omega
 have g4 : (hi : Int) <= (p.s.length : Int) := by omega
 have hh := Lib.hid h
 by_cases h1 : p.s.take (hi - 1) = []
 ·have H : Hid (∀ w, PathAt w base b p vk vu vl un -> Calls Tryz.prog 101 #[.pointer (some ⟨b, 0, none⟩), .string (B [47])] w fun e w' => e = .returned (.string (B r)) /\ w = w') := by
   intro w h
   rw [HR.out, if_pos h1]
   exact c_norm p w base b vk vu vl un h _ (by simp)
  have he : (p.s.take (hi - 1)).isEmpty = true := by rw [h1]; rfl
  clear h hhc hhi h1 HR
  go_enter Tryz.func70, Tryz.ntmps70
  go_wp2_with fail
  go_quiet (fail)
  go_wp2_with fail
  refine (H.out _ (hh.out.below (below_drawn _))).mono ?_; rintro e w' ⟨rfl, rfl⟩
  go_wp2_with fail
  go_ret
  exact ⟨rfl, below_drawn _⟩
 ·have H : Hid (∀ w, PathAt w base b p vk vu vl un -> Calls Tryz.prog 101 #[.pointer (some ⟨b, 0, none⟩), .string (B (p.s.take (hi - 1)))] w fun e w' => e = .returned (.string (B r)) /\ w = w') := by
   intro w h
   rw [HR.out, if_neg h1]
   exact c_norm p w base b vk vu vl un h _ (by simp; omega)
  have he : (p.s.take (hi - 1)).isEmpty = false := by rw [List.isEmpty_eq_false_iff]; exact h1
  clear h hhc hhi h1 HR
  go_enter Tryz.func70, Tryz.ntmps70
  go_wp2_with fail
  go_quiet (fail)
  go_wp2_with fail
  refine (H.out _ (hh.out.below (below_drawn _))).mono ?_; rintro e w' ⟨rfl, rfl⟩
  go_wp2_with fail
  go_ret
  exact ⟨rfl, below_drawn _⟩

set_option maxHeartbeats 1000000 in
theorem c_ContainerDir (p : PathS) (w : World) (base b : Nat) (vk vu vl : Value) (un : Un) (h : PathAt w base b p vk vu vl un) (ok : PathOK p) :
  Calls Tryz.prog 64 #[.pointer (some ⟨b, 0, none⟩)] w fun e w' => e = .returned (.string (B p.containerDirM)) /\ Below w.heap.size w w' := by
 have c0 := h.cell 0 (.string (B p.s)) rfl
 have c1 := h.cell 1 (.int .i64 p.cLow) rfl
 have HR : Hid (p.containerDirM = if p.cLow = -1 \/ p.isBundle = false then p.dirM else p.norm (p.s.take (p.cLow - 1).toNat)) := rfl
 have HD := Lib.hid (c_Dir p w base b vk vu vl un h ok)
 have HB := Lib.hid (c_IsBundle p w base b vk vu vl un h)
 generalize p.containerDirM = r at HR |-
 have hlen := ok.len
 have hlc := ok.lc
 have hhc := ok.hc
 have hh := Lib.hid h
 by_cases h1 : p.cLow = -1
 ·have HQ : Hid (r = p.dirM) := by show _ = _; rw [HR.out, if_pos (.inl h1)]
  rw [h1] at c1
  clear h HR hlc h1
  go_enter Tryz.func64, Tryz.ntmps64
  go_wp2_with fail
  refine HD.out.mono ?_; rintro e w' ⟨rfl, hb⟩
  go_wp2_with fail
  go_ret
  exact ⟨ret_str HQ.out.symm, hb⟩
 ·obtain ⟨lo, hlo⟩ : ∃ k : Nat, p.cLow = k := ⟨p.cLow.toNat, by omega⟩
  have hne : ((lo : Int) == -1) = false := by rw [beq_eq_false_iff_ne]; omega
  have g1 : 1 <= lo := by omega
  have g4 : (lo : Int) <= (p.s.length : Int) := by omega
  cases h2 : p.isBundle with
  | false =>
   have HQ : Hid (r = p.dirM) := by show _ = _; rw [HR.out, if_pos (.inr h2)]
   have H2 := Lib.hid h2
   rw [hlo] at c1
   clear h HR hlc hhc hlo h1 h2
   go_enter Tryz.func64, Tryz.ntmps64
   go_wp2_with fail
   refine HB.out.mono ?_; rintro e w' ⟨rfl, rfl⟩
   rw [H2.out]
   go_wp2_with fail
   refine HD.out.mono ?_; rintro e w' ⟨rfl, hb⟩
   go_wp2_with fail
   go_ret
   exact ⟨ret_str HQ.out.symm, hb⟩
  | true =>
   have HQ : Hid (r = p.norm (p.s.take (lo - 1))) := by
    show _ = _
    rw [HR.out, if_neg (by rw [h2]; simp [h1]), hlo, show ((lo : Int) - 1).toNat = lo - 1 from by omega]
   have H : Hid (∀ w, PathAt w base b p vk vu vl un -> Calls Tryz.prog 101 #[.pointer (some ⟨b, 0, none⟩), .string (B (p.s.take (lo - 1)))] w fun e w' => e = .returned (.string (B r)) /\ w = w') := by
    intro w h
    rw [HQ.out]
    exact c_norm p w base b vk vu vl un h _ (by simp; omega)
   have H2 := Lib.hid h2
   rw [hlo] at c1
   clear h HR hlc hhc hlo h1 h2
   go_enter Tryz.func64, Tryz.ntmps64
   go_wp2_with fail
   refine HB.out.mono ?_; rintro e w' ⟨rfl, rfl⟩
   rw [H2.out]
   go_wp2_with fail
   go_quiet ((go_at_call 101; with_reducible exact Calls.quiet_of_same ((H.out _ (hh.out.below (below_drawn _))).mono fun _ _ ⟨he, hw⟩ => ⟨he, hw.symm⟩)))
   go_wp2_with fail
   go_ret
   exact ⟨rfl, below_drawn _⟩

theorem c_nameLowHigh (p : PathS) (w : World) (base b : Nat) (vk vu vl : Value) (un : Un) (h : PathAt w base b p vk vu vl un) :
  Calls Tryz.prog 112 #[.pointer (some ⟨b, 0, none⟩)] w fun e w' => e = .returned (.agg #[.int .i64 p.nLow, .int .i64 p.nHigh]) /\ Below w.heap.size w w' := by
 have c20 := h.acell 20 (.int .i64 p.nLow) rfl
 have c21 := h.acell 21 (.int .i64 p.nHigh) rfl
 clear h
 go_enter Tryz.func112, Tryz.ntmps112
 go_wp2_with fail
 exact bodyPost_ret (v := .agg #[.int .i64 p.nLow, .int .i64 p.nHigh]) (by simp [results, Tryz.results112, go_sem]) rfl ⟨rfl, Below_alloc _ _⟩

set_option maxHeartbeats 1000000 in
theorem c_nameNoId (p : PathS) (w : World) (base b : Nat) (vk vu vl : Value) (un : Un) (h : PathAt w base b p vk vu vl un) (ok : PathOK p) :
  Calls Tryz.prog 69 #[.pointer (some ⟨b, 0, none⟩)] w fun e w' => e = .returned (.string (B p.nameNoIdM)) /\ Below w.heap.size w w' := by
 have HN := Lib.hid (c_nameLowHigh p w base b vk vu vl un h)
 have HR : Hid (p.nameNoIdM = (p.s.drop p.nLow).take (p.nHigh - p.nLow)) := rfl
 generalize p.nameNoIdM = r at HR |-
 have hlen := ok.len
 have hh := Lib.hid h
 obtain ⟨hn1, hn2⟩ := ok.nm
 generalize p.nLow = lo at HN HR hn1
 generalize p.nHigh = hi at HN HR hn1 hn2
 have g1 : (lo : Int) <= (hi : Int) := by omega
 have g2 : (hi : Int) <= (p.s.length : Int) := by omega
 clear h hn1 hn2
 go_enter Tryz.func69, Tryz.ntmps69
 go_wp2_with fail
 refine HN.out.mono ?_; rintro e w1 ⟨rfl, hb⟩
 have c0 := (hh.out.below hb).acell 0 (.string (B p.s)) rfl
 go_wp2_with fail
 go_quiet (fail)
 go_wp2_with fail
 go_ret
 exact ⟨ret_str HR.out.symm, Below_drewN (belowThen hb (Below_alloc _ _) (Nat.le_refl _)) _⟩

theorem c_BaseName (p : PathS) (w : World) (base b : Nat) (vk vu vl : Value) (un : Un) (h : PathAt w base b p vk vu vl un) (ok : PathOK p) :
  Calls Tryz.prog 68 #[.pointer (some ⟨b, 0, none⟩)] w fun e w' => e = .returned (.string (B p.baseNameM)) /\ Below w.heap.size w w' := by
 have HB := Lib.hid (c_IsBundle p w base b vk vu vl un h)
 have HC := Lib.hid (c_Container p w base b vk vu vl un h ok)
 have HN := Lib.hid (c_nameNoId p w base b vk vu vl un h ok)
 have HR : Hid (p.baseNameM = if p.isBundle then p.containerM else p.nameNoIdM) := rfl
 generalize p.baseNameM = r at HR |-
 clear h ok
 cases hx : p.isBundle with
 | true =>
  rw [hx] at HB HR
  clear hx
  go_enter Tryz.func68, Tryz.ntmps68
  go_wp2_with fail
  refine HB.out.mono ?_; rintro e w' ⟨rfl, rfl⟩
  go_wp2_with fail
  refine HC.out.mono ?_; rintro e w' ⟨rfl, hb⟩
  go_wp2_with fail
  go_ret
  exact ⟨ret_str HR.out.symm, hb⟩
 | false =>
  rw [hx] at HB HR
  clear hx
  go_enter Tryz.func68, Tryz.ntmps68
  go_wp2_with fail
  refine HB.out.mono ?_; rintro e w' ⟨rfl, rfl⟩
  go_wp2_with fail
  refine HN.out.mono ?_; rintro e w' ⟨rfl, hb⟩
  go_wp2_with fail
  go_ret
  exact ⟨ret_str HR.out.symm, hb⟩

/-- The first identifier's cells. -/
theorem first_read {w : World} {base b : Nat} {p : PathS} {vk vu vl : Value} {un : Un} (h : PathAt w base b p vk vu vl un) {x : Nat × Nat} {r : List (Nat × Nat)} (e : p.known = x :: r) :
  ∃ g cap, vk = .slice (some ⟨g, 0, none⟩) (r.length + 1) cap /\ w.cell? ⟨g, 0, none⟩ = some (.int .i64 x.1) /\ w.cell? ⟨g, 1, none⟩ = some (.int .i64 x.2) := by
 obtain ⟨a, cap, rfl, hc⟩ := pairs_read h.kn
 obtain ⟨g, rfl, h1, h2, _⟩ := hc 0 (by rw [e]; simp)
 refine ⟨g, cap, by rw [e]; rfl, ?_, ?_⟩
 ·rw [show (0 : Nat) * 2 = 0 from rfl] at h1; rw [h1]; congr 4; simp [e]
 ·rw [show (0 : Nat) * 2 + 1 = 1 from rfl] at h2; rw [h2]; congr 4; simp [e]

set_option maxHeartbeats 2000000 in
theorem c_NameNoExt (p : PathS) (w : World) (base b : Nat) (vk vu vl : Value) (un : Un) (h : PathAt w base b p vk vu vl un) (ok : PathOK p) :
  Calls Tryz.prog 67 #[.pointer (some ⟨b, 0, none⟩)] w fun e w' => e = .returned (.string (B p.nameNoExtM)) /\ Below w.heap.size w w' := by
 have c0 := h.cell 0 (.string (B p.s)) rfl
 have c2 := h.cell 2 (.int .i64 p.cHigh) rfl
 have c6 := h.cell 6 vk rfl
 have HI := Lib.hid (c_idIndex p 0 w base b vk vu vl un h)
 have hlen := ok.len
 have hhc := ok.hc
 obtain ⟨hi, hhi⟩ : ∃ k : Nat, p.cHigh = k := ⟨p.cHigh.toNat, by omega⟩
 have HR : Hid (p.nameNoExtM = if p.known = [] then p.s.drop p.cHigh.toNat else sub p.s (p.cHigh.toNat, (p.known.headD (0, 0)).1 - 1)) := rfl
 generalize p.nameNoExtM = r at HR |-
 have g2 : 1 <= hi := by omega
 have g4 : (hi : Int) <= (p.s.length : Int) := by omega
 rw [hhi] at c2
 cases hk : p.known with
 | nil =>
  have HQ : Hid (r = p.s.drop hi) := by show _ = _; rw [HR.out, if_pos hk, hhi]; rfl
  have HJ : Hid (idIndex p 0 = -1) := by show _ = _; rw [idIndex, hk]; rfl
  clear h hhc hhi HR c6 hk
  go_enter Tryz.func67, Tryz.ntmps67
  go_wp2_with fail
  refine HI.out.mono ?_; rintro e w' ⟨rfl, rfl⟩
  rw [HJ.out]
  go_wp2_with fail
  go_quiet (fail)
  go_wp2_with fail
  go_ret
  exact ⟨ret_str (by rw [HQ.out, List.take_of_length_le (by simp)]), below_drawn _⟩
 | cons x t =>
  have HQ : Hid (r = (p.s.drop hi).take (x.1 - 1 - hi)) := by show _ = _; rw [HR.out, if_neg (by rw [hk]; simp), hk, hhi]; rfl
  have HJ : Hid (idIndex p 0 = 0) := by show _ = _; rw [idIndex, hk]; simp
  obtain ⟨g, cap, rfl, k1, k2⟩ := first_read h hk
  have hx := ok.k0 x (by rw [hk]; rfl)
  have hxw := ok.kw x (by rw [hk]; simp)
  generalize x.1 = lo at k1 hx HQ hxw
  generalize x.2 = hj at k2 hxw
  have g5 : (hi : Int) + 1 <= (lo : Int) := by omega
  have g6 : (lo : Int) <= (p.s.length : Int) := by omega
  clear h hhc hhi HR hk hx hxw
  go_enter Tryz.func67, Tryz.ntmps67
  go_wp2_with fail
  refine HI.out.mono ?_; rintro e w' ⟨rfl, rfl⟩
  rw [HJ.out]
  go_wp2_with fail
  go_quiet (fail)
  go_wp2_with fail
  go_ret
  exact ⟨ret_str HQ.out.symm, below_drawn _⟩

/-! ### Words -/
theorem c_Ext (p : PathS) (w : World) (base b : Nat) (vk vu vl : Value) (un : Un) (h : PathAt w base b p vk vu vl un) (ok : PathOK p) :
  Calls Tryz.prog 77 #[.pointer (some ⟨b, 0, none⟩)] w fun e w' => e = .returned (.string (B p.ext)) /\ Below w.heap.size w w' := by
 have H := Lib.hid (c_idStr p 0 w base b vk vu vl un h ok.kw (Nat.le_trans ok.len (by decide)))
 have HR : Hid (p.ext = p.idStr 0) := rfl
 generalize p.ext = r at HR |-
 clear h ok
 go_enter Tryz.func77, Tryz.ntmps77
 go_wp2_with fail
 refine H.out.mono ?_; rintro e w' ⟨rfl, hb⟩
 go_wp2_with fail
 go_ret
 exact ⟨ret_str HR.out.symm, hb⟩

set_option maxHeartbeats 400000 in
theorem c_OutputFormat (p : PathS) (w : World) (base b : Nat) (vk vu vl : Value) (un : Un) (h : PathAt w base b p vk vu vl un) (ok : PathOK p) :
  Calls Tryz.prog 78 #[.pointer (some ⟨b, 0, none⟩)] w fun e w' => e = .returned (.string (B p.formatM)) /\ Below w.heap.size w w' := by
 have c17 := h.cell 17 (.int .i64 p.pfmt) rfl
 have c9 := h.cell 9 (.int .i64 p.fmt) rfl
 have H1 := Lib.hid (c_idStr p p.pfmt w base b vk vu vl un h ok.kw (Nat.le_trans ok.len (by decide)))
 have H2 := Lib.hid (c_idStr p p.fmt w base b vk vu vl un h ok.kw (Nat.le_trans ok.len (by decide)))
 have HR : Hid (p.formatM = if p.pfmt ≠ -1 then p.idStr p.pfmt else p.idStr p.fmt) := rfl
 generalize p.formatM = r at HR |-
 clear h ok
 by_cases hx : p.pfmt = -1
 ·have HQ : Hid (r = p.idStr p.fmt) := by show _ = _; rw [HR.out, if_neg (by omega)]
  rw [hx] at c17
  clear hx HR H1
  go_enter Tryz.func78, Tryz.ntmps78
  go_wp2_with fail
  refine H2.out.mono ?_; rintro e w' ⟨rfl, hb⟩
  go_wp2_with fail
  go_ret
  exact ⟨ret_str HQ.out.symm, hb⟩
 ·have HQ : Hid (r = p.idStr p.pfmt) := by show _ = _; rw [HR.out, if_pos hx]
  have hne : (p.pfmt == -1) = false := by rw [beq_eq_false_iff_ne]; exact hx
  have hne2 : (p.pfmt != -1) = true := by rw [bne_iff_ne]; exact hx
  clear hx HR H2
  go_enter Tryz.func78, Tryz.ntmps78
  go_wp2_with fail
  refine H1.out.mono ?_; rintro e w' ⟨rfl, hb⟩
  go_wp2_with fail
  go_ret
  exact ⟨ret_str HQ.out.symm, hb⟩

set_option maxHeartbeats 400000 in
theorem c_Kind (p : PathS) (w : World) (base b : Nat) (vk vu vl : Value) (un : Un) (h : PathAt w base b p vk vu vl un) (ok : PathOK p) :
  Calls Tryz.prog 79 #[.pointer (some ⟨b, 0, none⟩)] w fun e w' => e = .returned (.string (B p.kindM)) /\ Below w.heap.size w w' := by
 have c17 := h.cell 18 (.int .i64 p.pkind) rfl
 have c9 := h.cell 10 (.int .i64 p.kind) rfl
 have H1 := Lib.hid (c_idStr p p.pkind w base b vk vu vl un h ok.kw (Nat.le_trans ok.len (by decide)))
 have H2 := Lib.hid (c_idStr p p.kind w base b vk vu vl un h ok.kw (Nat.le_trans ok.len (by decide)))
 have HR : Hid (p.kindM = if p.pkind ≠ -1 then p.idStr p.pkind else p.idStr p.kind) := rfl
 generalize p.kindM = r at HR |-
 clear h ok
 by_cases hx : p.pkind = -1
 ·have HQ : Hid (r = p.idStr p.kind) := by show _ = _; rw [HR.out, if_neg (by omega)]
  rw [hx] at c17
  clear hx HR H1
  go_enter Tryz.func79, Tryz.ntmps79
  go_wp2_with fail
  refine H2.out.mono ?_; rintro e w' ⟨rfl, hb⟩
  go_wp2_with fail
  go_ret
  exact ⟨ret_str HQ.out.symm, hb⟩
 ·have HQ : Hid (r = p.idStr p.pkind) := by show _ = _; rw [HR.out, if_pos hx]
  have hne : (p.pkind == -1) = false := by rw [beq_eq_false_iff_ne]; exact hx
  have hne2 : (p.pkind != -1) = true := by rw [bne_iff_ne]; exact hx
  clear hx HR H2
  go_enter Tryz.func79, Tryz.ntmps79
  go_wp2_with fail
  refine H1.out.mono ?_; rintro e w' ⟨rfl, hb⟩
  go_wp2_with fail
  go_ret
  exact ⟨ret_str HQ.out.symm, hb⟩

set_option maxHeartbeats 400000 in
theorem c_Layout (p : PathS) (w : World) (base b : Nat) (vk vu vl : Value) (un : Un) (h : PathAt w base b p vk vu vl un) (ok : PathOK p) :
  Calls Tryz.prog 80 #[.pointer (some ⟨b, 0, none⟩)] w fun e w' => e = .returned (.string (B p.layoutM)) /\ Below w.heap.size w w' := by
 have c17 := h.cell 19 (.int .i64 p.play) rfl
 have c9 := h.cell 11 (.int .i64 p.lay) rfl
 have H1 := Lib.hid (c_idStr p p.play w base b vk vu vl un h ok.kw (Nat.le_trans ok.len (by decide)))
 have H2 := Lib.hid (c_idStr p p.lay w base b vk vu vl un h ok.kw (Nat.le_trans ok.len (by decide)))
 have HR : Hid (p.layoutM = if p.play ≠ -1 then p.idStr p.play else p.idStr p.lay) := rfl
 generalize p.layoutM = r at HR |-
 clear h ok
 by_cases hx : p.play = -1
 ·have HQ : Hid (r = p.idStr p.lay) := by show _ = _; rw [HR.out, if_neg (by omega)]
  rw [hx] at c17
  clear hx HR H1
  go_enter Tryz.func80, Tryz.ntmps80
  go_wp2_with fail
  refine H2.out.mono ?_; rintro e w' ⟨rfl, hb⟩
  go_wp2_with fail
  go_ret
  exact ⟨ret_str HQ.out.symm, hb⟩
 ·have HQ : Hid (r = p.idStr p.play) := by show _ = _; rw [HR.out, if_pos hx]
  have hne : (p.play == -1) = false := by rw [beq_eq_false_iff_ne]; exact hx
  have hne2 : (p.play != -1) = true := by rw [bne_iff_ne]; exact hx
  clear hx HR H2
  go_enter Tryz.func80, Tryz.ntmps80
  go_wp2_with fail
  refine H1.out.mono ?_; rintro e w' ⟨rfl, hb⟩
  go_wp2_with fail
  go_ret
  exact ⟨ret_str HQ.out.symm, hb⟩

set_option maxHeartbeats 400000 in
theorem c_Custom (p : PathS) (w : World) (base b : Nat) (vk vu vl : Value) (un : Un) (h : PathAt w base b p vk vu vl un) (ok : PathOK p) :
  Calls Tryz.prog 82 #[.pointer (some ⟨b, 0, none⟩)] w fun e w' => e = .returned (.string (B p.customM)) /\ Below w.heap.size w w' := by
 have c13 := h.cell 13 (.int .i64 p.custom) rfl
 have H1 := Lib.hid (c_idStr p p.custom w base b vk vu vl un h ok.kw (Nat.le_trans ok.len (by decide)))
 have HR : Hid (p.customM = trimSufG (trimPreG (p.idStr p.custom) [95]) [95]) := rfl
 generalize p.customM = r at HR |-
 have hl : (p.idStr p.custom).length <= 70368744177664 := by
  unfold PathS.idStr; split
  ·simp
  ·have := ok.len; simp [sub]; omega
 generalize p.idStr p.custom = x at H1 HR hl
 have hl2 : (trimPreG x [95]).length <= 70368744177664 := by
  unfold trimPreG; split
  ·simp; omega
  ·exact hl
 have H2 := Lib.hid (fun w => c_trimPrefix x [95] w hl)
 have H3 := Lib.hid (fun w => c_trimSuffix (trimPreG x [95]) [95] w hl2)
 clear h ok
 go_enter Tryz.func82, Tryz.ntmps82
 go_wp2_with fail
 refine H1.out.mono ?_; rintro e w' ⟨rfl, hb⟩
 go_wp2_with fail
 refine (H2.out _).mono ?_; rintro e w' ⟨rfl, rfl⟩
 go_wp2_with fail
 refine (H3.out _).mono ?_; rintro e w' ⟨rfl, rfl⟩
 go_wp2_with fail
 go_ret
 exact ⟨ret_str HR.out.symm, hb⟩

theorem nats_read {w : World} {base : Nat} {v : Value} {l : List Nat} (h : w.ownsRow base 3 1 v l.length (natCells l)) :
  ∃ a cap, v = .slice a l.length cap /\ ∀ i (hi : i < l.length), ∃ g, a = some ⟨g, 0, none⟩ /\ w.cell? ⟨g, i, none⟩ = some (.int .i64 l[i]) := by
 obtain ⟨hl, h | ⟨g, cap, cur, rfl, hb, hg, hn, hm, hc, ht⟩⟩ := h
 ·obtain ⟨rfl, h0⟩ := h
  have : l = [] := List.length_eq_zero_iff.1 h0
  subst this
  exact ⟨none, 0, rfl, fun i hi => by simp at hi⟩
 ·refine ⟨some ⟨g, 0, none⟩, cap, rfl, fun i hi => ⟨g, rfl, ?_⟩⟩
  have h1 : (natCells l)[i]? = some (i64 l[i]) := by simp [natCells, hi]
  rw [<- ht, List.getElem?_take_of_lt (by omega), Array.getElem?_toList] at h1
  rw [cell_blk hg, h1]; rfl

set_option maxHeartbeats 400000 in
theorem c_Lang (p : PathS) (w : World) (base b : Nat) (vk vu vl : Value) (un : Un) (h : PathAt w base b p vk vu vl un) (ok : PathOK p) :
  Calls Tryz.prog 81 #[.pointer (some ⟨b, 0, none⟩)] w fun e w' => e = .returned (.string (B p.langM)) /\ Below w.heap.size w w' := by
 have c8 := h.cell 8 (.int .i64 p.lang) rfl
 have c14 := h.cell 14 vl rfl
 have H2 := Lib.hid (c_idStr p p.lang w base b vk vu vl un h ok.kw (Nat.le_trans ok.len (by decide)))
 have HR : Hid (p.langM = if p.langs ≠ [] then p.idStr (p.langs.headD 0) else p.idStr p.lang) := rfl
 generalize p.langM = r at HR |-
 obtain ⟨a, cap, rfl, hc⟩ := nats_read h.lg
 cases hx : p.langs with
 | nil =>
  have HQ : Hid (r = p.idStr p.lang) := by show _ = _; rw [HR.out, hx]; rfl
  rw [hx] at c14
  clear hx HR hc h ok
  go_enter Tryz.func81, Tryz.ntmps81
  go_wp2_with fail
  refine H2.out.mono ?_; rintro e w' ⟨rfl, hb⟩
  go_wp2_with fail
  go_ret
  exact ⟨ret_str HQ.out.symm, hb⟩
 | cons y t =>
  have H1 := Lib.hid (c_idStr p y w base b vk _ _ un h ok.kw (Nat.le_trans ok.len (by decide)))
  have HQ : Hid (r = p.idStr y) := by show _ = _; rw [HR.out, hx]; rfl
  obtain ⟨g, rfl, k0⟩ := hc 0 (by rw [hx]; simp)
  have k1 : w.cell? ⟨g, 0, none⟩ = some (.int .i64 y) := by rw [k0]; congr 3; simp [hx]
  rw [hx] at c14
  clear hx HR hc h ok k0
  go_enter Tryz.func81, Tryz.ntmps81
  go_wp2_with fail
  refine H1.out.mono ?_; rintro e w' ⟨rfl, hb⟩
  go_wp2_with fail
  go_ret
  exact ⟨ret_str HQ.out.symm, hb⟩

end Go.Proofs.YtjkecadfakjanaaGreatDoor
