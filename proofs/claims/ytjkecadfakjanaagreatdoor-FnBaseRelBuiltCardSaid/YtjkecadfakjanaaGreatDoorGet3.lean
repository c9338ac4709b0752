/- The methods of a path that ask for its base, and its lists of words. Conditions: a path in memory that a parse has finished (PathOK). -/
import Derived.Test.YtjkecadfakjanaaGreatDoorGet2
import Derived.Laws.MakeOwn
set_option maxRecDepth 100000
set_option linter.unusedVariables false
set_option linter.unusedSimpArgs false
namespace Go.Proofs.YtjkecadfakjanaaGreatDoor
open Go.RowKit
attribute [local go_sem] B_extract B_toList B_append

theorem run_high (w : World) (x y : Int) : (Instr.field 80 (.agg #[.int .i64 x, .int .i64 y]) 1).run Tryz.prog w = .ok (.int .i64 y) w := by kernel_rfl

theorem base_none {p : PathS} (hk : p.known = []) (keep bundle : Bool) : p.baseM keep bundle = p.norm p.s := by rw [PathS.baseM, if_pos hk]
theorem base_one {p : PathS} {x : Nat × Nat} (hk : p.known = [x]) (bundle : Bool) : p.baseM true bundle = p.norm p.s := by
 rw [PathS.baseM, if_neg (by rw [hk]; simp), if_pos ⟨rfl, by rw [hk]; rfl⟩]
/-- How far the base goes. -/
def highOf (p : PathS) (bundle : Bool) : Nat := if bundle then (p.cHigh - 1).toNat else p.nHigh
theorem base_drop {p : PathS} {x : Nat × Nat} {t : List (Nat × Nat)} (hk : p.known = x :: t) (bundle : Bool) (hc : 1 <= p.cHigh) :
  p.baseM false bundle = p.norm (p.s.take (if highOf p bundle = 0 then 1 else highOf p bundle)) := by
 rw [PathS.baseM, if_neg (by rw [hk]; simp), if_neg (by simp)]
 simp only [if_true]
 congr 2
 unfold highOf
 cases bundle <;> simp <;> (repeat' split) <;> omega
theorem base_keep {p : PathS} {x y : Nat × Nat} {t : List (Nat × Nat)} (hk : p.known = x :: y :: t) (bundle : Bool) (hc : 1 <= p.cHigh) :
  p.baseM true bundle = p.norm (p.s.take (if highOf p bundle = 0 then 1 else highOf p bundle) ++ (p.s.drop (x.1 - 1)).take (x.2 - (x.1 - 1))) := by
 rw [PathS.baseM, if_neg (by rw [hk]; simp), if_neg (by rw [hk]; simp)]
 simp only [Bool.true_eq_false, if_false]
 rw [hk]
 simp only [List.headD_cons, sub]
 congr 3
 unfold highOf
 cases bundle <;> simp <;> (repeat' split) <;> omega

set_option maxHeartbeats 2000000 in
theorem c_base_bzk (p : PathS) (w : World) (base b : Nat) (vk vu vl : Value) (un : Un) (h : PathAt w base b p vk vu vl un) (ok : PathOK p) (x : Nat × Nat) (t : List (Nat × Nat)) (hk : p.known = x :: t) (hn : 0 < t.length) (hz : highOf p true = 0) :
  Calls Tryz.prog 113 #[.pointer (some ⟨b, 0, none⟩), .bool true, .bool true] w fun e w' => e = .returned (.string (B (p.baseM true true))) /\ Below w.heap.size w w' := by
 have c0 := h.cell 0 (.string (B p.s)) rfl
 have c2 := h.cell 2 (.int .i64 p.cHigh) rfl
 have c6 := h.cell 6 vk rfl
 have hlen := ok.len
 have hpos := ok.pos
 have hhc := ok.hc
 obtain ⟨hc, hhc'⟩ : ∃ k : Nat, p.cHigh = k := ⟨p.cHigh.toNat, by omega⟩
 obtain ⟨y, t', rfl⟩ : ∃ y t', t = y :: t' := by cases t with | nil => simp at hn | cons y t' => exact ⟨y, t', rfl⟩
 have HQ0 := base_keep hk true hhc.1
 rw [if_pos hz] at HQ0
 obtain ⟨hi, hhi⟩ : ∃ hi, highOf p true = hi := ⟨_, rfl⟩
 have hval : hi = hc - 1 := by rw [<- hhi]; simp [highOf, hhc'] <;> omega
 rw [hhi] at hz
 generalize p.baseM true true = r at HQ0 |-
 have g4 : (hc : Int) <= (p.s.length : Int) := by omega
 have g1 : 1 <= hc := by omega
 have g5 : hi <= p.s.length := by omega
 obtain ⟨g, cap, hvk, k1, k2⟩ := first_read h hk
 rw [hvk] at c6
 have HVK := Lib.hid hvk
 clear hvk
 have hxw := ok.kw x (by rw [hk]; simp)
 have hxk := ok.k0 x (by rw [hk]; rfl)
 obtain ⟨lo, hj⟩ := x
 simp only at k1 k2 hxw hxk HQ0
 have g6 : (1 : Int) <= (lo : Int) := by omega
 have g7 : (lo : Int) <= (hj : Int) := by omega
 have g8 : (hj : Int) <= (p.s.length : Int) := by omega
 have H : Hid (∀ w, PathAt w base b p vk vu vl un -> Calls Tryz.prog 101 #[.pointer (some ⟨b, 0, none⟩), .string (B (p.s.take 1 ++ (p.s.drop (lo - 1)).take (hj - (lo - 1))))] w fun e w' => e = .returned (.string (B r)) /\ w = w') := by
  intro w h
  rw [HQ0]
  exact c_norm p w base b vk vu vl un h _ (by simp; omega)
 have hh := Lib.hid h
 rw [hhc'] at c2
 subst hval
 have hcz : hc = 1 := by omega
 subst hcz
 have hl1 : (((t'.length + 1 + 1 : Nat) : Int) == 1) = false := by rw [beq_eq_false_iff_ne]; omega
 have g10 : (1 : Int) <= (p.s.length : Int) := by omega
 clear h ok hk hhc hhc' HQ0 hxw hxk hz hhi
 go_enter Tryz.func113, Tryz.ntmps113
 go_wp2_with fail
 have c0' := hh.out.acell 0 (.string (B p.s)) rfl
 go_quiet ((go_at_call 101; with_reducible exact Calls.quiet_of_same ((H.out _ (hh.out.below (Below_drewN (Below_alloc _ _) _))).mono fun _ _ ⟨he, hw⟩ => ⟨he, hw.symm⟩)))
 go_wp2_with fail
 go_ret
 exact ⟨rfl, Below_drewN (Below_alloc _ _) _⟩

set_option maxHeartbeats 2000000 in
theorem c_base_bzn (p : PathS) (w : World) (base b : Nat) (vk vu vl : Value) (un : Un) (h : PathAt w base b p vk vu vl un) (ok : PathOK p) (x : Nat × Nat) (t : List (Nat × Nat)) (hk : p.known = x :: t) (hz : highOf p true = 0) :
  Calls Tryz.prog 113 #[.pointer (some ⟨b, 0, none⟩), .bool false, .bool true] w fun e w' => e = .returned (.string (B (p.baseM false true))) /\ Below w.heap.size w w' := by
 have c0 := h.cell 0 (.string (B p.s)) rfl
 have c2 := h.cell 2 (.int .i64 p.cHigh) rfl
 have c6 := h.cell 6 vk rfl
 have hlen := ok.len
 have hpos := ok.pos
 have hhc := ok.hc
 obtain ⟨hc, hhc'⟩ : ∃ k : Nat, p.cHigh = k := ⟨p.cHigh.toNat, by omega⟩
 have HQ0 := base_drop hk true hhc.1
 rw [if_pos hz] at HQ0
 obtain ⟨hi, hhi⟩ : ∃ hi, highOf p true = hi := ⟨_, rfl⟩
 have hval : hi = hc - 1 := by rw [<- hhi]; simp [highOf, hhc'] <;> omega
 rw [hhi] at hz
 generalize p.baseM false true = r at HQ0 |-
 have g4 : (hc : Int) <= (p.s.length : Int) := by omega
 have g1 : 1 <= hc := by omega
 have g5 : hi <= p.s.length := by omega
 obtain ⟨g, cap, hvk, k1, k2⟩ := first_read h hk
 rw [hvk] at c6
 have HVK := Lib.hid hvk
 clear hvk
 have hxw := ok.kw x (by rw [hk]; simp)
 have hxk := ok.k0 x (by rw [hk]; rfl)
 obtain ⟨lo, hj⟩ := x
 simp only at k1 k2 hxw hxk HQ0
 have g6 : (1 : Int) <= (lo : Int) := by omega
 have g7 : (lo : Int) <= (hj : Int) := by omega
 have g8 : (hj : Int) <= (p.s.length : Int) := by omega
 have H : Hid (∀ w, PathAt w base b p vk vu vl un -> Calls Tryz.prog 101 #[.pointer (some ⟨b, 0, none⟩), .string (B (p.s.take 1))] w fun e w' => e = .returned (.string (B r)) /\ w = w') := by
  intro w h
  rw [HQ0]
  exact c_norm p w base b vk vu vl un h _ (by simp; omega)
 have hh := Lib.hid h
 rw [hhc'] at c2
 subst hval
 have hcz : hc = 1 := by omega
 subst hcz
 have g10 : (1 : Int) <= (p.s.length : Int) := by omega
 clear h ok hk hhc hhc' HQ0 hxw hxk hz hhi
 go_enter Tryz.func113, Tryz.ntmps113
 go_wp2_with fail
 refine (H.out _ hh.out).mono ?_; rintro e w' ⟨rfl, rfl⟩
 go_wp2_with fail
 go_ret
 exact ⟨rfl, Below.refl _ _⟩

set_option maxHeartbeats 2000000 in
theorem c_base_bnk (p : PathS) (w : World) (base b : Nat) (vk vu vl : Value) (un : Un) (h : PathAt w base b p vk vu vl un) (ok : PathOK p) (x : Nat × Nat) (t : List (Nat × Nat)) (hk : p.known = x :: t) (hn : 0 < t.length) (hz : highOf p true ≠ 0) :
  Calls Tryz.prog 113 #[.pointer (some ⟨b, 0, none⟩), .bool true, .bool true] w fun e w' => e = .returned (.string (B (p.baseM true true))) /\ Below w.heap.size w w' := by
 have c0 := h.cell 0 (.string (B p.s)) rfl
 have c2 := h.cell 2 (.int .i64 p.cHigh) rfl
 have c6 := h.cell 6 vk rfl
 have hlen := ok.len
 have hpos := ok.pos
 have hhc := ok.hc
 obtain ⟨hc, hhc'⟩ : ∃ k : Nat, p.cHigh = k := ⟨p.cHigh.toNat, by omega⟩
 obtain ⟨y, t', rfl⟩ : ∃ y t', t = y :: t' := by cases t with | nil => simp at hn | cons y t' => exact ⟨y, t', rfl⟩
 have HQ0 := base_keep hk true hhc.1
 rw [if_neg hz] at HQ0
 obtain ⟨hi, hhi⟩ : ∃ hi, highOf p true = hi := ⟨_, rfl⟩
 have hval : hi = hc - 1 := by rw [<- hhi]; simp [highOf, hhc'] <;> omega
 rw [hhi] at HQ0 hz
 generalize p.baseM true true = r at HQ0 |-
 have g4 : (hc : Int) <= (p.s.length : Int) := by omega
 have g1 : 1 <= hc := by omega
 have g5 : hi <= p.s.length := by omega
 obtain ⟨g, cap, hvk, k1, k2⟩ := first_read h hk
 rw [hvk] at c6
 have HVK := Lib.hid hvk
 clear hvk
 have hxw := ok.kw x (by rw [hk]; simp)
 have hxk := ok.k0 x (by rw [hk]; rfl)
 obtain ⟨lo, hj⟩ := x
 simp only at k1 k2 hxw hxk HQ0
 have g6 : (1 : Int) <= (lo : Int) := by omega
 have g7 : (lo : Int) <= (hj : Int) := by omega
 have g8 : (hj : Int) <= (p.s.length : Int) := by omega
 have H : Hid (∀ w, PathAt w base b p vk vu vl un -> Calls Tryz.prog 101 #[.pointer (some ⟨b, 0, none⟩), .string (B (p.s.take hi ++ (p.s.drop (lo - 1)).take (hj - (lo - 1))))] w fun e w' => e = .returned (.string (B r)) /\ w = w') := by
  intro w h
  rw [HQ0]
  exact c_norm p w base b vk vu vl un h _ (by simp; omega)
 have hh := Lib.hid h
 rw [hhc'] at c2
 subst hval
 have hzi : (((hc : Int) - 1) == 0) = false := by rw [beq_eq_false_iff_ne]; omega
 have g9 : (1 : Int) <= (hc : Int) := by omega
 have hl1 : (((t'.length + 1 + 1 : Nat) : Int) == 1) = false := by rw [beq_eq_false_iff_ne]; omega
 have g10 : (1 : Int) <= (p.s.length : Int) := by omega
 clear h ok hk hhc hhc' HQ0 hxw hxk hz hhi
 go_enter Tryz.func113, Tryz.ntmps113
 go_wp2_with fail
 have c0' := hh.out.acell 0 (.string (B p.s)) rfl
 go_quiet ((go_at_call 101; with_reducible exact Calls.quiet_of_same ((H.out _ (hh.out.below (Below_drewN (Below_alloc _ _) _))).mono fun _ _ ⟨he, hw⟩ => ⟨he, hw.symm⟩)))
 go_wp2_with fail
 go_ret
 exact ⟨rfl, Below_drewN (Below_alloc _ _) _⟩

set_option maxHeartbeats 2000000 in
theorem c_base_bnn (p : PathS) (w : World) (base b : Nat) (vk vu vl : Value) (un : Un) (h : PathAt w base b p vk vu vl un) (ok : PathOK p) (x : Nat × Nat) (t : List (Nat × Nat)) (hk : p.known = x :: t) (hz : highOf p true ≠ 0) :
  Calls Tryz.prog 113 #[.pointer (some ⟨b, 0, none⟩), .bool false, .bool true] w fun e w' => e = .returned (.string (B (p.baseM false true))) /\ Below w.heap.size w w' := by
 have c0 := h.cell 0 (.string (B p.s)) rfl
 have c2 := h.cell 2 (.int .i64 p.cHigh) rfl
 have c6 := h.cell 6 vk rfl
 have hlen := ok.len
 have hpos := ok.pos
 have hhc := ok.hc
 obtain ⟨hc, hhc'⟩ : ∃ k : Nat, p.cHigh = k := ⟨p.cHigh.toNat, by omega⟩
 have HQ0 := base_drop hk true hhc.1
 rw [if_neg hz] at HQ0
 obtain ⟨hi, hhi⟩ : ∃ hi, highOf p true = hi := ⟨_, rfl⟩
 have hval : hi = hc - 1 := by rw [<- hhi]; simp [highOf, hhc'] <;> omega
 rw [hhi] at HQ0 hz
 generalize p.baseM false true = r at HQ0 |-
 have g4 : (hc : Int) <= (p.s.length : Int) := by omega
 have g1 : 1 <= hc := by omega
 have g5 : hi <= p.s.length := by omega
 obtain ⟨g, cap, hvk, k1, k2⟩ := first_read h hk
 rw [hvk] at c6
 have HVK := Lib.hid hvk
 clear hvk
 have hxw := ok.kw x (by rw [hk]; simp)
 have hxk := ok.k0 x (by rw [hk]; rfl)
 obtain ⟨lo, hj⟩ := x
 simp only at k1 k2 hxw hxk HQ0
 have g6 : (1 : Int) <= (lo : Int) := by omega
 have g7 : (lo : Int) <= (hj : Int) := by omega
 have g8 : (hj : Int) <= (p.s.length : Int) := by omega
 have H : Hid (∀ w, PathAt w base b p vk vu vl un -> Calls Tryz.prog 101 #[.pointer (some ⟨b, 0, none⟩), .string (B (p.s.take hi))] w fun e w' => e = .returned (.string (B r)) /\ w = w') := by
  intro w h
  rw [HQ0]
  exact c_norm p w base b vk vu vl un h _ (by simp; omega)
 have hh := Lib.hid h
 rw [hhc'] at c2
 subst hval
 have hzi : (((hc : Int) - 1) == 0) = false := by rw [beq_eq_false_iff_ne]; omega
 have g9 : (1 : Int) <= (hc : Int) := by omega
 have g10 : (1 : Int) <= (p.s.length : Int) := by omega
 clear h ok hk hhc hhc' HQ0 hxw hxk hz hhi
 go_enter Tryz.func113, Tryz.ntmps113
 go_wp2_with fail
 refine (H.out _ hh.out).mono ?_; rintro e w' ⟨rfl, rfl⟩
 go_wp2_with fail
 go_ret
 exact ⟨rfl, Below.refl _ _⟩

set_option maxHeartbeats 2000000 in
theorem c_base_nzk (p : PathS) (w : World) (base b : Nat) (vk vu vl : Value) (un : Un) (h : PathAt w base b p vk vu vl un) (ok : PathOK p) (x : Nat × Nat) (t : List (Nat × Nat)) (hk : p.known = x :: t) (hn : 0 < t.length) (hz : highOf p false = 0) :
  Calls Tryz.prog 113 #[.pointer (some ⟨b, 0, none⟩), .bool true, .bool false] w fun e w' => e = .returned (.string (B (p.baseM true false))) /\ Below w.heap.size w w' := by
 have c0 := h.cell 0 (.string (B p.s)) rfl
 have c2 := h.cell 2 (.int .i64 p.cHigh) rfl
 have c6 := h.cell 6 vk rfl
 have hlen := ok.len
 have hpos := ok.pos
 have hhc := ok.hc
 obtain ⟨hc, hhc'⟩ : ∃ k : Nat, p.cHigh = k := ⟨p.cHigh.toNat, by omega⟩
 have HN := Lib.hid (c_nameLowHigh p w base b vk vu vl un h)
 have hnm := ok.nm
 have hfld := run_high
 obtain ⟨y, t', rfl⟩ : ∃ y t', t = y :: t' := by cases t with | nil => simp at hn | cons y t' => exact ⟨y, t', rfl⟩
 have HQ0 := base_keep hk false hhc.1
 rw [if_pos hz] at HQ0
 obtain ⟨hi, hhi⟩ : ∃ hi, highOf p false = hi := ⟨_, rfl⟩
 have hval : hi = p.nHigh := by rw [<- hhi]; rfl
 rw [hhi] at hz
 generalize p.baseM true false = r at HQ0 |-
 have g4 : (hc : Int) <= (p.s.length : Int) := by omega
 have g1 : 1 <= hc := by omega
 have g5 : hi <= p.s.length := by omega
 obtain ⟨g, cap, hvk, k1, k2⟩ := first_read h hk
 rw [hvk] at c6
 have HVK := Lib.hid hvk
 clear hvk
 have hxw := ok.kw x (by rw [hk]; simp)
 have hxk := ok.k0 x (by rw [hk]; rfl)
 obtain ⟨lo, hj⟩ := x
 simp only at k1 k2 hxw hxk HQ0
 have g6 : (1 : Int) <= (lo : Int) := by omega
 have g7 : (lo : Int) <= (hj : Int) := by omega
 have g8 : (hj : Int) <= (p.s.length : Int) := by omega
 have H : Hid (∀ w, PathAt w base b p vk vu vl un -> Calls Tryz.prog 101 #[.pointer (some ⟨b, 0, none⟩), .string (B (p.s.take 1 ++ (p.s.drop (lo - 1)).take (hj - (lo - 1))))] w fun e w' => e = .returned (.string (B r)) /\ w = w') := by
  intro w h
  rw [HQ0]
  exact c_norm p w base b vk vu vl un h _ (by simp; omega)
 have hh := Lib.hid h
 rw [hhc'] at c2
 rw [<- hval] at HN
 subst hz
 have hl1 : (((t'.length + 1 + 1 : Nat) : Int) == 1) = false := by rw [beq_eq_false_iff_ne]; omega
 have g10 : (1 : Int) <= (p.s.length : Int) := by omega
 clear h ok hk hhc hhc' HQ0 hxw hxk hval hnm hhi
 go_enter Tryz.func113, Tryz.ntmps113
 go_wp2_with fail
 refine HN.out.mono ?_; rintro e w1 ⟨rfl, hb⟩
 have hh2 := Lib.hid (hh.out.below hb)
 have k1 := (hb.cell (p := ⟨g, 0, none⟩) (cell_lt k1)).trans k1
 have k2 := (hb.cell (p := ⟨g, 1, none⟩) (cell_lt k2)).trans k2
 have c0 := hh2.out.cell 0 (.string (B p.s)) rfl
 have c6 := hh2.out.cell 6 vk rfl
 rw [HVK.out] at c6
 have c0' := hh2.out.acell 0 (.string (B p.s)) rfl
 go_wp2_with fail
 go_quiet ((go_at_call 101; with_reducible exact Calls.quiet_of_same ((H.out _ (hh2.out.below (Below_drewN (Below_alloc _ _) _))).mono fun _ _ ⟨he, hw⟩ => ⟨he, hw.symm⟩)))
 go_wp2_with fail
 go_ret
 exact ⟨rfl, Below_drewN (belowThen hb (Below_alloc _ _) (Nat.le_refl _)) _⟩

set_option maxHeartbeats 2000000 in
theorem c_base_nzn (p : PathS) (w : World) (base b : Nat) (vk vu vl : Value) (un : Un) (h : PathAt w base b p vk vu vl un) (ok : PathOK p) (x : Nat × Nat) (t : List (Nat × Nat)) (hk : p.known = x :: t) (hz : highOf p false = 0) :
  Calls Tryz.prog 113 #[.pointer (some ⟨b, 0, none⟩), .bool false, .bool false] w fun e w' => e = .returned (.string (B (p.baseM false false))) /\ Below w.heap.size w w' := by
 have c0 := h.cell 0 (.string (B p.s)) rfl
 have c2 := h.cell 2 (.int .i64 p.cHigh) rfl
 have c6 := h.cell 6 vk rfl
 have hlen := ok.len
 have hpos := ok.pos
 have hhc := ok.hc
 obtain ⟨hc, hhc'⟩ : ∃ k : Nat, p.cHigh = k := ⟨p.cHigh.toNat, by omega⟩
 have HN := Lib.hid (c_nameLowHigh p w base b vk vu vl un h)
 have hnm := ok.nm
 have hfld := run_high
 have HQ0 := base_drop hk false hhc.1
 rw [if_pos hz] at HQ0
 obtain ⟨hi, hhi⟩ : ∃ hi, highOf p false = hi := ⟨_, rfl⟩
 have hval : hi = p.nHigh := by rw [<- hhi]; rfl
 rw [hhi] at hz
 generalize p.baseM false false = r at HQ0 |-
 have g4 : (hc : Int) <= (p.s.length : Int) := by omega
 have g1 : 1 <= hc := by omega
 have g5 : hi <= p.s.length := by omega
 obtain ⟨g, cap, hvk, k1, k2⟩ := first_read h hk
 rw [hvk] at c6
 have HVK := Lib.hid hvk
 clear hvk
 have hxw := ok.kw x (by rw [hk]; simp)
 have hxk := ok.k0 x (by rw [hk]; rfl)
 obtain ⟨lo, hj⟩ := x
 simp only at k1 k2 hxw hxk HQ0
 have g6 : (1 : Int) <= (lo : Int) := by omega
 have g7 : (lo : Int) <= (hj : Int) := by omega
 have g8 : (hj : Int) <= (p.s.length : Int) := by omega
 have H : Hid (∀ w, PathAt w base b p vk vu vl un -> Calls Tryz.prog 101 #[.pointer (some ⟨b, 0, none⟩), .string (B (p.s.take 1))] w fun e w' => e = .returned (.string (B r)) /\ w = w') := by
  intro w h
  rw [HQ0]
  exact c_norm p w base b vk vu vl un h _ (by simp; omega)
 have hh := Lib.hid h
 rw [hhc'] at c2
 rw [<- hval] at HN
 subst hz
 have g10 : (1 : Int) <= (p.s.length : Int) := by omega
 clear h ok hk hhc hhc' HQ0 hxw hxk hval hnm hhi
 go_enter Tryz.func113, Tryz.ntmps113
 go_wp2_with fail
 refine HN.out.mono ?_; rintro e w1 ⟨rfl, hb⟩
 have hh2 := Lib.hid (hh.out.below hb)
 have k1 := (hb.cell (p := ⟨g, 0, none⟩) (cell_lt k1)).trans k1
 have k2 := (hb.cell (p := ⟨g, 1, none⟩) (cell_lt k2)).trans k2
 have c0 := hh2.out.cell 0 (.string (B p.s)) rfl
 have c6 := hh2.out.cell 6 vk rfl
 rw [HVK.out] at c6
 have c0' := hh2.out.acell 0 (.string (B p.s)) rfl
 go_wp2_with fail
 refine (H.out _ hh2.out).mono ?_; rintro e w' ⟨rfl, rfl⟩
 go_wp2_with fail
 go_ret
 exact ⟨rfl, hb⟩

set_option maxHeartbeats 2000000 in
theorem c_base_nnk (p : PathS) (w : World) (base b : Nat) (vk vu vl : Value) (un : Un) (h : PathAt w base b p vk vu vl un) (ok : PathOK p) (x : Nat × Nat) (t : List (Nat × Nat)) (hk : p.known = x :: t) (hn : 0 < t.length) (hz : highOf p false ≠ 0) :
  Calls Tryz.prog 113 #[.pointer (some ⟨b, 0, none⟩), .bool true, .bool false] w fun e w' => e = .returned (.string (B (p.baseM true false))) /\ Below w.heap.size w w' := by
 have c0 := h.cell 0 (.string (B p.s)) rfl
 have c2 := h.cell 2 (.int .i64 p.cHigh) rfl
 have c6 := h.cell 6 vk rfl
 have hlen := ok.len
 have hpos := ok.pos
 have hhc := ok.hc
 obtain ⟨hc, hhc'⟩ : ∃ k : Nat, p.cHigh = k := ⟨p.cHigh.toNat, by omega⟩
 have HN := Lib.hid (c_nameLowHigh p w base b vk vu vl un h)
 have hnm := ok.nm
 have hfld := run_high
 obtain ⟨y, t', rfl⟩ : ∃ y t', t = y :: t' := by cases t with | nil => simp at hn | cons y t' => exact ⟨y, t', rfl⟩
 have HQ0 := base_keep hk false hhc.1
 rw [if_neg hz] at HQ0
 obtain ⟨hi, hhi⟩ : ∃ hi, highOf p false = hi := ⟨_, rfl⟩
 have hval : hi = p.nHigh := by rw [<- hhi]; rfl
 rw [hhi] at HQ0 hz
 generalize p.baseM true false = r at HQ0 |-
 have g4 : (hc : Int) <= (p.s.length : Int) := by omega
 have g1 : 1 <= hc := by omega
 have g5 : hi <= p.s.length := by omega
 obtain ⟨g, cap, hvk, k1, k2⟩ := first_read h hk
 rw [hvk] at c6
 have HVK := Lib.hid hvk
 clear hvk
 have hxw := ok.kw x (by rw [hk]; simp)
 have hxk := ok.k0 x (by rw [hk]; rfl)
 obtain ⟨lo, hj⟩ := x
 simp only at k1 k2 hxw hxk HQ0
 have g6 : (1 : Int) <= (lo : Int) := by omega
 have g7 : (lo : Int) <= (hj : Int) := by omega
 have g8 : (hj : Int) <= (p.s.length : Int) := by omega
 have H : Hid (∀ w, PathAt w base b p vk vu vl un -> Calls Tryz.prog 101 #[.pointer (some ⟨b, 0, none⟩), .string (B (p.s.take hi ++ (p.s.drop (lo - 1)).take (hj - (lo - 1))))] w fun e w' => e = .returned (.string (B r)) /\ w = w') := by
  intro w h
  rw [HQ0]
  exact c_norm p w base b vk vu vl un h _ (by simp; omega)
 have hh := Lib.hid h
 rw [hhc'] at c2
 rw [<- hval] at HN
 have hzi : ((hi : Int) == 0) = false := by rw [beq_eq_false_iff_ne]; omega
 have g9 : 0 < hi := by omega
 have hl1 : (((t'.length + 1 + 1 : Nat) : Int) == 1) = false := by rw [beq_eq_false_iff_ne]; omega
 have g10 : (1 : Int) <= (p.s.length : Int) := by omega
 clear h ok hk hhc hhc' HQ0 hxw hxk hval hnm hz hhi
 go_enter Tryz.func113, Tryz.ntmps113
 go_wp2_with fail
 refine HN.out.mono ?_; rintro e w1 ⟨rfl, hb⟩
 have hh2 := Lib.hid (hh.out.below hb)
 have k1 := (hb.cell (p := ⟨g, 0, none⟩) (cell_lt k1)).trans k1
 have k2 := (hb.cell (p := ⟨g, 1, none⟩) (cell_lt k2)).trans k2
 have c0 := hh2.out.cell 0 (.string (B p.s)) rfl
 have c6 := hh2.out.cell 6 vk rfl
 rw [HVK.out] at c6
 have c0' := hh2.out.acell 0 (.string (B p.s)) rfl
 go_wp2_with fail
 go_quiet ((go_at_call 101; with_reducible exact Calls.quiet_of_same ((H.out _ (hh2.out.below (Below_drewN (Below_alloc _ _) _))).mono fun _ _ ⟨he, hw⟩ => ⟨he, hw.symm⟩)))
 go_wp2_with fail
 go_ret
 exact ⟨rfl, Below_drewN (belowThen hb (Below_alloc _ _) (Nat.le_refl _)) _⟩

set_option maxHeartbeats 2000000 in
theorem c_base_nnn (p : PathS) (w : World) (base b : Nat) (vk vu vl : Value) (un : Un) (h : PathAt w base b p vk vu vl un) (ok : PathOK p) (x : Nat × Nat) (t : List (Nat × Nat)) (hk : p.known = x :: t) (hz : highOf p false ≠ 0) :
  Calls Tryz.prog 113 #[.pointer (some ⟨b, 0, none⟩), .bool false, .bool false] w fun e w' => e = .returned (.string (B (p.baseM false false))) /\ Below w.heap.size w w' := by
 have c0 := h.cell 0 (.string (B p.s)) rfl
 have c2 := h.cell 2 (.int .i64 p.cHigh) rfl
 have c6 := h.cell 6 vk rfl
 have hlen := ok.len
 have hpos := ok.pos
 have hhc := ok.hc
 obtain ⟨hc, hhc'⟩ : ∃ k : Nat, p.cHigh = k := ⟨p.cHigh.toNat, by omega⟩
 have HN := Lib.hid (c_nameLowHigh p w base b vk vu vl un h)
 have hnm := ok.nm
 have hfld := run_high
 have HQ0 := base_drop hk false hhc.1
 rw [if_neg hz] at HQ0
 obtain ⟨hi, hhi⟩ : ∃ hi, highOf p false = hi := ⟨_, rfl⟩
 have hval : hi = p.nHigh := by rw [<- hhi]; rfl
 rw [hhi] at HQ0 hz
 generalize p.baseM false false = r at HQ0 |-
 have g4 : (hc : Int) <= (p.s.length : Int) := by omega
 have g1 : 1 <= hc := by omega
 have g5 : hi <= p.s.length := by omega
 obtain ⟨g, cap, hvk, k1, k2⟩ := first_read h hk
 rw [hvk] at c6
 have HVK := Lib.hid hvk
 clear hvk
 have hxw := ok.kw x (by rw [hk]; simp)
 have hxk := ok.k0 x (by rw [hk]; rfl)
 obtain ⟨lo, hj⟩ := x
 simp only at k1 k2 hxw hxk HQ0
 have g6 : (1 : Int) <= (lo : Int) := by omega
 have g7 : (lo : Int) <= (hj : Int) := by omega
 have g8 : (hj : Int) <= (p.s.length : Int) := by omega
 have H : Hid (∀ w, PathAt w base b p vk vu vl un -> Calls Tryz.prog 101 #[.pointer (some ⟨b, 0, none⟩), .string (B (p.s.take hi))] w fun e w' => e = .returned (.string (B r)) /\ w = w') := by
  intro w h
  rw [HQ0]
  exact c_norm p w base b vk vu vl un h _ (by simp; omega)
 have hh := Lib.hid h
 rw [hhc'] at c2
 rw [<- hval] at HN
 have hzi : ((hi : Int) == 0) = false := by rw [beq_eq_false_iff_ne]; omega
 have g9 : 0 < hi := by omega
 have g10 : (1 : Int) <= (p.s.length : Int) := by omega
 clear h ok hk hhc hhc' HQ0 hxw hxk hval hnm hz hhi
 go_enter Tryz.func113, Tryz.ntmps113
 go_wp2_with fail
 refine HN.out.mono ?_; rintro e w1 ⟨rfl, hb⟩
 have hh2 := Lib.hid (hh.out.below hb)
 have k1 := (hb.cell (p := ⟨g, 0, none⟩) (cell_lt k1)).trans k1
 have k2 := (hb.cell (p := ⟨g, 1, none⟩) (cell_lt k2)).trans k2
 have c0 := hh2.out.cell 0 (.string (B p.s)) rfl
 have c6 := hh2.out.cell 6 vk rfl
 rw [HVK.out] at c6
 have c0' := hh2.out.acell 0 (.string (B p.s)) rfl
 go_wp2_with fail
 refine (H.out _ hh2.out).mono ?_; rintro e w' ⟨rfl, rfl⟩
 go_wp2_with fail
 go_ret
 exact ⟨rfl, hb⟩


/-- base(preserveExt, isBundle). -/
theorem c_base (p : PathS) (w : World) (base b : Nat) (vk vu vl : Value) (un : Un) (h : PathAt w base b p vk vu vl un) (ok : PathOK p) (keep bundle : Bool) :
  Calls Tryz.prog 113 #[.pointer (some ⟨b, 0, none⟩), .bool keep, .bool bundle] w fun e w' => e = .returned (.string (B (p.baseM keep bundle))) /\ Below w.heap.size w w' := by
 have plain : p.baseM keep bundle = p.norm p.s -> (p.known = [] \/ keep = true /\ p.known.length = 1) ->
   Calls Tryz.prog 113 #[.pointer (some ⟨b, 0, none⟩), .bool keep, .bool bundle] w fun e w' => e = .returned (.string (B (p.baseM keep bundle))) /\ Below w.heap.size w w' := by
  intro e hk
  rw [e]
  have c0 := h.cell 0 (.string (B p.s)) rfl
  have c6 := h.cell 6 vk rfl
  have H := Lib.hid (c_norm p w base b vk vu vl un h p.s (Nat.le_trans ok.len (by decide)))
  obtain ⟨a, cap, rfl, _⟩ := pairs_read h.kn
  generalize p.norm p.s = r at H |-
  clear e h ok
  rcases hk with hk | ⟨rfl, hk⟩
  ·have hl : p.known.length = 0 := by rw [hk]; rfl
   rw [hl] at c6
   clear hk hl
   go_enter Tryz.func113, Tryz.ntmps113
   go_wp2_with fail
   refine H.out.mono ?_; rintro e w' ⟨rfl, rfl⟩
   go_wp2_with fail
   go_ret
   exact ⟨rfl, Below.refl _ _⟩
  ·rw [hk] at c6
   clear hk
   go_enter Tryz.func113, Tryz.ntmps113
   go_wp2_with fail
   refine H.out.mono ?_; rintro e w' ⟨rfl, rfl⟩
   go_wp2_with fail
   go_ret
   exact ⟨rfl, Below.refl _ _⟩
 cases hk : p.known with
 | nil => exact plain (base_none hk keep bundle) (.inl hk)
 | cons x t =>
  cases keep with
  | true =>
   cases t with
   | nil => exact plain (base_one hk bundle) (.inr ⟨rfl, by rw [hk]; rfl⟩)
   | cons y t =>
    cases bundle with
    | true =>
     by_cases hz : highOf p true = 0
     ·exact c_base_bzk p w base b vk vu vl un h ok x (y :: t) hk (by simp) hz
     ·exact c_base_bnk p w base b vk vu vl un h ok x (y :: t) hk (by simp) hz
    | false =>
     by_cases hz : highOf p false = 0
     ·exact c_base_nzk p w base b vk vu vl un h ok x (y :: t) hk (by simp) hz
     ·exact c_base_nnk p w base b vk vu vl un h ok x (y :: t) hk (by simp) hz
  | false =>
   cases bundle with
   | true =>
    by_cases hz : highOf p true = 0
    ·exact c_base_bzn p w base b vk vu vl un h ok x t hk hz
    ·exact c_base_bnn p w base b vk vu vl un h ok x t hk hz
   | false =>
    by_cases hz : highOf p false = 0
    ·exact c_base_nzn p w base b vk vu vl un h ok x t hk hz
    ·exact c_base_nnn p w base b vk vu vl un h ok x t hk hz

set_option maxHeartbeats 1000000 in
theorem c_Base (p : PathS) (w : World) (base b : Nat) (vk vu vl : Value) (un : Un) (h : PathAt w base b p vk vu vl un) (ok : PathOK p) :
  Calls Tryz.prog 75 #[.pointer (some ⟨b, 0, none⟩)] w fun e w' => e = .returned (.string (B p.base)) /\ Below w.heap.size w w' := by
 have HR : Hid (p.base = if p.baseM (!p.isPage) p.isBundle = [47] /\ p.isPage = true then [] else p.baseM (!p.isPage) p.isBundle) := rfl
 have HP := Lib.hid (c_isPage p w base b vk vu vl un h)
 have HB := Lib.hid (c_IsBundle p w base b vk vu vl un h)
 have HC := Lib.hid (c_base p w base b vk vu vl un h ok (!p.isPage) p.isBundle)
 have hh := Lib.hid h
 generalize p.base = r at HR |-
 generalize p.baseM (!p.isPage) p.isBundle = x at HR HC
 have HP2 : Hid (∀ w, PathAt w base b p vk vu vl un -> Calls Tryz.prog 114 #[.pointer (some ⟨b, 0, none⟩)] w fun e w' => e = .returned (.bool p.isPage) /\ w = w') := fun w h => c_isPage p w base b vk vu vl un h
 clear h ok
 cases hx : (x == [47]) with
 | false =>
  have HQ : Hid (r = x) := by show _ = _; rw [HR.out, if_neg]; intro ⟨e, _⟩; rw [e] at hx; cases hx
  go_enter Tryz.func75, Tryz.ntmps75
  go_wp2_with fail
  refine HP.out.mono ?_; rintro e w' ⟨rfl, rfl⟩
  go_wp2_with fail
  refine HB.out.mono ?_; rintro e w' ⟨rfl, rfl⟩
  go_wp2_with fail
  refine HC.out.mono ?_; rintro e w' ⟨rfl, hb⟩
  go_wp2_with fail
  go_ret
  exact ⟨ret_str HQ.out.symm, hb⟩
 | true =>
  have hx' : x = [47] := by simpa using hx
  cases hp : p.isPage with
  | false =>
   have HQ : Hid (r = x) := by show _ = _; rw [HR.out, if_neg]; intro ⟨_, e⟩; rw [hp] at e; cases e
   have H1 := Lib.hid hp
   clear hp hx'
   go_enter Tryz.func75, Tryz.ntmps75
   go_wp2_with fail
   refine HP.out.mono ?_; rintro e w' ⟨rfl, rfl⟩
   go_wp2_with fail
   refine HB.out.mono ?_; rintro e w' ⟨rfl, rfl⟩
   go_wp2_with fail
   refine HC.out.mono ?_; rintro e w1 ⟨rfl, hb⟩
   go_wp2_with fail
   refine (HP2.out _ (hh.out.below hb)).mono ?_; rintro e w' ⟨rfl, rfl⟩
   rw [H1.out]
   go_wp2_with fail
   go_ret
   exact ⟨ret_str HQ.out.symm, hb⟩
  | true =>
   have HQ : Hid (r = []) := by show _ = _; rw [HR.out, if_pos ⟨hx', hp⟩]
   have H1 := Lib.hid hp
   clear hp hx'
   go_enter Tryz.func75, Tryz.ntmps75
   go_wp2_with fail
   refine HP.out.mono ?_; rintro e w' ⟨rfl, rfl⟩
   go_wp2_with fail
   refine HB.out.mono ?_; rintro e w' ⟨rfl, rfl⟩
   go_wp2_with fail
   refine HC.out.mono ?_; rintro e w1 ⟨rfl, hb⟩
   go_wp2_with fail
   refine (HP2.out _ (hh.out.below hb)).mono ?_; rintro e w' ⟨rfl, rfl⟩
   rw [H1.out]
   go_wp2_with fail
   go_ret
   exact ⟨ret_str HQ.out.symm, hb⟩

theorem c_PathNoId (p : PathS) (w : World) (base b : Nat) (vk vu vl : Value) (un : Un) (h : PathAt w base b p vk vu vl un) (ok : PathOK p) :
  Calls Tryz.prog 73 #[.pointer (some ⟨b, 0, none⟩)] w fun e w' => e = .returned (.string (B (p.baseM false false))) /\ Below w.heap.size w w' := by
 have H := Lib.hid (c_base p w base b vk vu vl un h ok false false)
 generalize p.baseM false false = r at H |-
 clear h ok
 go_enter Tryz.func73, Tryz.ntmps73
 go_wp2_with fail
 refine H.out.mono ?_; rintro e w' ⟨rfl, hb⟩
 go_wp2_with fail
 go_ret
 exact ⟨rfl, hb⟩

theorem c_IdBase (p : PathS) (w : World) (base b : Nat) (vk vu vl : Value) (un : Un) (h : PathAt w base b p vk vu vl un) (ok : PathOK p) :
  Calls Tryz.prog 76 #[.pointer (some ⟨b, 0, none⟩)] w fun e w' => e = .returned (.string (B (if p.comp = kLayouts then p.path else p.base))) /\ Below w.heap.size w w' := by
 have HC := Lib.hid (c_Component p w base b vk vu vl un h)
 have HP := Lib.hid (c_Path p w base b vk vu vl un h (Nat.le_trans ok.len (by decide)))
 have HB := Lib.hid (c_Base p w base b vk vu vl un h ok)
 clear h ok
 cases hx : (p.comp == kLayouts) with
 | true =>
  have HQ : Hid ((if p.comp = kLayouts then p.path else p.base) = p.path) := if_pos (by simpa using hx)
  generalize (if p.comp = kLayouts then p.path else p.base) = r at HQ |-
  go_enter Tryz.func76, Tryz.ntmps76
  go_wp2_with fail
  refine HC.out.mono ?_; rintro e w' ⟨rfl, rfl⟩
  go_wp2_with fail
  refine HP.out.mono ?_; rintro e w' ⟨rfl, rfl⟩
  go_wp2_with fail
  go_ret
  exact ⟨ret_str HQ.out.symm, Below.refl _ _⟩
 | false =>
  have HQ : Hid ((if p.comp = kLayouts then p.path else p.base) = p.base) := if_neg (by simpa using hx)
  generalize (if p.comp = kLayouts then p.path else p.base) = r at HQ |-
  go_enter Tryz.func76, Tryz.ntmps76
  go_wp2_with fail
  refine HC.out.mono ?_; rintro e w' ⟨rfl, rfl⟩
  go_wp2_with fail
  refine HB.out.mono ?_; rintro e w' ⟨rfl, hb⟩
  go_wp2_with fail
  go_ret
  exact ⟨ret_str HQ.out.symm, hb⟩

set_option maxHeartbeats 1000000 in
theorem c_PathNoLang (p : PathS) (w : World) (base b : Nat) (vk vu vl : Value) (un : Un) (h : PathAt w base b p vk vu vl un) (ok : PathOK p) :
  Calls Tryz.prog 72 #[.pointer (some ⟨b, 0, none⟩)] w fun e w' => e = .returned (.string (B p.pathNoLangM)) /\ Below w.heap.size w w' := by
 have c8 := h.cell 8 (.int .i64 p.lang) rfl
 have c14 := h.cell 14 vl rfl
 have HR : Hid (p.pathNoLangM = if p.langs ≠ [] then p.baseM true false else if p.lang < 0 \/ (p.known.length : Int) <= p.lang then p.path else p.baseM true false) := rfl
 have HB := Lib.hid (c_base p w base b vk vu vl un h ok true false)
 have HP := Lib.hid (c_Path p w base b vk vu vl un h (Nat.le_trans ok.len (by decide)))
 have HI := Lib.hid (c_idIndex p p.lang w base b vk vu vl un h)
 have HX : Hid (idIndex p p.lang = if p.lang < 0 \/ (p.known.length : Int) <= p.lang then -1 else p.lang) := rfl
 generalize p.pathNoLangM = r at HR |-
 generalize p.baseM true false = y at HR HB
 obtain ⟨a, cap, hvl, _⟩ := nats_read h.lg
 rw [hvl] at c14
 clear hvl h ok
 cases hx : p.langs with
 | cons z t =>
  have HQ : Hid (r = y) := by show _ = _; rw [HR.out, if_pos (by rw [hx]; simp)]
  rw [hx] at c14
  clear hx HR
  go_enter Tryz.func72, Tryz.ntmps72
  go_wp2_with fail
  refine HB.out.mono ?_; rintro e w' ⟨rfl, hb⟩
  go_wp2_with fail
  go_ret
  exact ⟨ret_str HQ.out.symm, hb⟩
 | nil =>
  have HR2 : Hid (r = if p.lang < 0 \/ (p.known.length : Int) <= p.lang then p.path else y) := by show _ = _; rw [HR.out, if_neg (by rw [hx]; simp)]
  rw [hx] at c14
  clear hx HR
  by_cases hl : p.lang < 0 \/ (p.known.length : Int) <= p.lang
  ·have HQ : Hid (r = p.path) := by show _ = _; rw [HR2.out, if_pos hl]
   have HJ : Hid (idIndex p p.lang = -1) := by show _ = _; rw [HX.out, if_pos hl]
   clear hl HR2
   go_enter Tryz.func72, Tryz.ntmps72
   go_wp2_with fail
   refine HI.out.mono ?_; rintro e w' ⟨rfl, rfl⟩
   rw [HJ.out]
   go_wp2_with fail
   refine HP.out.mono ?_; rintro e w' ⟨rfl, rfl⟩
   go_wp2_with fail
   go_ret
   exact ⟨ret_str HQ.out.symm, Below.refl _ _⟩
  ·have HQ : Hid (r = y) := by show _ = _; rw [HR2.out, if_neg hl]
   have HJ : Hid (idIndex p p.lang = p.lang) := by show _ = _; rw [HX.out, if_neg hl]
   have hne : (p.lang == -1) = false := by rw [beq_eq_false_iff_ne]; omega
   clear hl HR2
   go_enter Tryz.func72, Tryz.ntmps72
   go_wp2_with fail
   refine HI.out.mono ?_; rintro e w' ⟨rfl, rfl⟩
   rw [HJ.out]
   go_wp2_with fail
   refine HB.out.mono ?_; rintro e w' ⟨rfl, hb⟩
   go_wp2_with fail
   go_ret
   exact ⟨ret_str HQ.out.symm, hb⟩

end Go.Proofs.YtjkecadfakjanaaGreatDoor
