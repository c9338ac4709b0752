/- The methods of a path that only ask: identifiers by place, names, folders, bases. Conditions: a path in memory; its identifiers lie within its text. -/
import Derived.Test.YtjkecadfakjanaaGreatDoorMake
import Derived.Test.YtjkecadfakjanaaGreatDoorTexts
set_option maxRecDepth 100000
set_option linter.unusedVariables false
set_option linter.unusedSimpArgs false
namespace Go.Proofs.YtjkecadfakjanaaGreatDoor
open Go.RowKit
attribute [local go_sem] B_extract B_toList B_append

theorem PathAt.cell {w : World} {base b : Nat} {p : PathS} {vk vu vl : Value} {un : Un} (h : PathAt w base b p vk vu vl un) (k : Nat) (v : Value) (hk : (pcells p vk vu vl un)[k]? = some v) : w.cell? ⟨b, k, none⟩ = some v := by
 simp [World.cell?, h.blk, hk]
theorem PathAt.acell {w : World} {base b : Nat} {p : PathS} {vk vu vl : Value} {un : Un} (h : PathAt w base b p vk vu vl un) (k : Nat) (v : Value) (hk : (pcells p vk vu vl un)[k]? = some v) (o : Obj) : (w.alloc o).cell? ⟨b, k, none⟩ = some v :=
 (h.below (Below_alloc w o)).cell k v hk
theorem PathAt.free {w : World} {base b : Nat} {p : PathS} {vk vu vl : Value} {un : Un} (h : PathAt w base b p vk vu vl un) (k : Nat) : w.frozen? ⟨b, k, none⟩ = false := by
 simp [World.frozen?, h.blk]

theorem pairCells_len (l : List (Nat × Nat)) : (pairCells l).length = l.length * 2 := by
 induction l with
 | nil => rfl
 | cons a t ih => simp [pairCells] at ih |-; omega
theorem pairCells_get : ∀ (l : List (Nat × Nat)) (i : Nat) (h : i < l.length), (pairCells l)[i * 2]? = some (i64 l[i].1) /\ (pairCells l)[i * 2 + 1]? = some (i64 l[i].2)
 | a :: t, 0, _ => ⟨rfl, rfl⟩
 | a :: t, i + 1, h => by
  have := pairCells_get t i (by simpa using h)
  rw [show (i + 1) * 2 = i * 2 + 2 from by omega]
  exact this

theorem pairs_read {w : World} {base : Nat} {v : Value} {l : List (Nat × Nat)} (h : w.ownsRow base 80 2 v l.length (pairCells l)) :
  ∃ a cap, v = .slice a l.length cap /\ ∀ i (hi : i < l.length), ∃ g, a = some ⟨g, 0, none⟩ /\ w.cell? ⟨g, i * 2, none⟩ = some (.int .i64 l[i].1) /\ w.cell? ⟨g, i * 2 + 1, none⟩ = some (.int .i64 l[i].2) /\ w.frozen? ⟨g, i * 2, none⟩ = false /\ w.frozen? ⟨g, i * 2 + 1, none⟩ = false := by
 obtain ⟨hl, h | ⟨g, cap, cur, rfl, hb, hg, hn, hm, hc, ht⟩⟩ := h
 ·obtain ⟨rfl, h0⟩ := h
  have : l = [] := List.length_eq_zero_iff.1 h0
  subst this
  exact ⟨none, 0, rfl, fun i hi => by simp at hi⟩
 ·refine ⟨some ⟨g, 0, none⟩, cap, rfl, fun i hi => ⟨g, rfl, ?_⟩⟩
  obtain ⟨h1, h2⟩ := pairCells_get l i hi
  rw [<- ht, List.getElem?_take_of_lt (by omega), Array.getElem?_toList] at h1
  rw [<- ht, List.getElem?_take_of_lt (by omega), Array.getElem?_toList] at h2
  exact ⟨by simp [World.cell?, hg, h1]; rfl, by simp [World.cell?, hg, h2]; rfl, by simp [World.frozen?, hg], by simp [World.frozen?, hg]⟩

/-- identifierIndex. -/
def idIndex (p : PathS) (i : Int) : Int := if i < 0 \/ (p.known.length : Int) <= i then -1 else i

set_option maxHeartbeats 400000 in
theorem c_idIndex (p : PathS) (i : Int) (w : World) (base b : Nat) (vk vu vl : Value) (un : Un) (h : PathAt w base b p vk vu vl un) :
  Calls Tryz.prog 111 #[.pointer (some ⟨b, 0, none⟩), .int .i64 i] w fun e w' => e = .returned (.int .i64 (idIndex p i)) /\ w = w' := by
 have c6 := h.cell 6 vk rfl
 obtain ⟨a, cap, rfl, _⟩ := pairs_read h.kn
 have HR : Hid (idIndex p i = if i < 0 \/ (p.known.length : Int) <= i then -1 else i) := rfl
 generalize idIndex p i = r at HR |-
 clear h
 by_cases h1 : i < 0
 ·have HQ : Hid (r = -1) := by show _ = _; rw [HR.out, if_pos (.inl h1)]
  go_enter Tryz.func111, Tryz.ntmps111
  go_wp2_with fail
  go_ret
  exact ⟨ret_i64 HQ.out.symm, rfl⟩
 by_cases h2 : (p.known.length : Int) <= i
 ·have HQ : Hid (r = -1) := by show _ = _; rw [HR.out, if_pos (.inr h2)]
  go_enter Tryz.func111, Tryz.ntmps111
  go_wp2_with fail
  go_ret
  exact ⟨ret_i64 HQ.out.symm, rfl⟩
 ·have HQ : Hid (r = i) := by show _ = _; rw [HR.out, if_neg (by omega)]
  go_enter Tryz.func111, Tryz.ntmps111
  go_wp2_with fail
  go_ret
  exact ⟨ret_i64 HQ.out.symm, rfl⟩

/-- The places of a path's identifiers lie within its text. -/
def Within (s : Str) (l : List (Nat × Nat)) : Prop := ∀ x ∈ l, x.1 <= x.2 /\ x.2 <= s.length

set_option maxHeartbeats 1000000 in
theorem c_idStr (p : PathS) (i : Int) (w : World) (base b : Nat) (vk vu vl : Value) (un : Un) (h : PathAt w base b p vk vu vl un) (hw : Within p.s p.known) (hs : p.s.length <= 140737488355328) :
  Calls Tryz.prog 115 #[.pointer (some ⟨b, 0, none⟩), .int .i64 i] w fun e w' => e = .returned (.string (B (p.idStr i))) /\ Below w.heap.size w w' := by
 have H := Lib.hid (c_idIndex p i w base b vk vu vl un h)
 have HR : Hid (p.idStr i = if i < 0 \/ (p.known.length : Int) <= i then [] else sub p.s (p.known.getD i.toNat (0, 0))) := rfl
 generalize p.idStr i = r at HR |-
 have HI : Hid (idIndex p i = if i < 0 \/ (p.known.length : Int) <= i then -1 else i) := rfl
 by_cases h1 : i < 0 \/ (p.known.length : Int) <= i
 ·have HQ : Hid (r = []) := by show _ = _; rw [HR.out, if_pos h1]
  have HJ : Hid (idIndex p i = -1) := by show _ = _; rw [HI.out, if_pos h1]
  clear h1 h
  go_enter Tryz.func115, Tryz.ntmps115
  go_wp2_with fail
  refine H.out.mono ?_; rintro e w' ⟨rfl, rfl⟩
  rw [HJ.out]
  go_wp2_with fail
  go_ret
  exact ⟨ret_str HQ.out.symm, Below.refl _ _⟩
 ·obtain ⟨k, rfl⟩ : ∃ k : Nat, i = k := ⟨i.toNat, by omega⟩
  have hk : k < p.known.length := by omega
  have hgd : p.known.getD (k : Int).toNat (0, 0) = p.known[k] := by simp [List.getD, hk]
  have HQ : Hid (r = sub p.s p.known[k]) := by show _ = _; rw [HR.out, if_neg h1, hgd]
  have HJ : Hid (idIndex p k = k) := by show _ = _; rw [HI.out, if_neg h1]
  have c6 := h.cell 6 vk rfl
  have c0 := h.cell 0 (.string (B p.s)) rfl
  obtain ⟨a, cap, rfl, hcells⟩ := pairs_read h.kn
  obtain ⟨g, rfl, hc1, hc2, _, _⟩ := hcells k hk
  obtain ⟨hw1, hw2⟩ := hw _ (List.getElem_mem hk)
  generalize p.known[k] = x at hc1 hc2 hw1 hw2 HQ
  obtain ⟨lo, hi⟩ := x
  have hle : (lo : Int) <= (hi : Int) := by simpa using hw1
  have hle2 : (hi : Int) <= (p.s.length : Int) := by simpa using hw2
  clear h1 hgd hcells h hw hw1 hw2
  go_enter Tryz.func115, Tryz.ntmps115
  go_wp2_with fail
  refine H.out.mono ?_; rintro e w' ⟨rfl, rfl⟩
  rw [HJ.out]
  go_wp2_with fail
  have c0' : ∀ o, (w.alloc o).cell? ⟨b, 0, none⟩ = some (.string (B p.s)) := fun o => ((Below_alloc w o).cell (p := ⟨b, 0, none⟩) (cell_lt c0)).trans c0
  go_quiet (fail)
  go_wp2_with fail
  go_ret
  exact ⟨ret_str (by rw [HQ.out]; rfl), Below_drewN (Below_alloc _ _) _⟩

/-! ### What a finished path is like -/
structure PathOK (p : PathS) : Prop where
 len : p.s.length <= 35184372088832
 pos : 0 < p.s.length
 hc : 1 <= p.cHigh /\ p.cHigh <= (p.s.length : Int)
 lc : p.cLow = -1 \/ 1 <= p.cLow /\ p.cLow <= p.cHigh - 1
 sc : p.sHigh <= 0 \/ p.sHigh <= (p.s.length : Int)
 nm : p.nLow <= p.nHigh /\ p.nHigh <= p.s.length
 kw : Within p.s p.known
 uw : Within p.s p.unknown
 kl : p.known.length <= 1000000
 ul : p.unknown.length <= 1000000
 ll : p.langs.length <= 1000000
 fm : -1 <= p.fmt
 la : -1 <= p.lang
 k0 : ∀ x, p.known.head? = some x -> p.cHigh + 1 <= (x.1 : Int)

theorem quiet_same {P : Program} {f : FuncId} {args : Array Value} {w : World} {n : Nat} {v : Value} (h : ∀ w, Calls P f args w fun e w' => e = .returned v /\ w = w') :
  Calls P f args (w.drewN n) fun e w'' => e = .returned v /\ ∃ m, w'' = w.drewN m :=
 Calls.quiet_of_same ((h _).mono fun _ _ ⟨he, hw⟩ => ⟨he, hw.symm⟩)

theorem c_norm (p : PathS) (w : World) (base b : Nat) (vk vu vl : Value) (un : Un) (h : PathAt w base b p vk vu vl un) (s : Str) (hs : s.length <= 70368744177664) :
  Calls Tryz.prog 101 #[.pointer (some ⟨b, 0, none⟩), .string (B s)] w fun e w' => e = .returned (.string (B (p.norm s))) /\ w = w' := by
 have c23 := h.cell 24 (.bool p.trim) rfl
 have HR : Hid (p.norm s = if p.trim then trimPreG s [47] else s) := rfl
 generalize p.norm s = r at HR |-
 have H := Lib.hid (c_trimPrefix s [47] w hs)
 clear h
 cases ht : p.trim with
 | true =>
  rw [ht] at c23 HR
  clear ht
  go_enter Tryz.func101, Tryz.ntmps101
  go_wp2_with fail
  refine H.out.mono ?_; rintro e w' ⟨rfl, rfl⟩
  go_wp2_with fail
  go_ret
  exact ⟨ret_str HR.out.symm, rfl⟩
 | false =>
  rw [ht] at c23 HR
  clear ht
  go_enter Tryz.func101, Tryz.ntmps101
  go_wp2_with fail
  go_ret
  exact ⟨ret_str HR.out.symm, rfl⟩

theorem c_Path (p : PathS) (w : World) (base b : Nat) (vk vu vl : Value) (un : Un) (h : PathAt w base b p vk vu vl un) (hs : p.s.length <= 70368744177664) :
  Calls Tryz.prog 71 #[.pointer (some ⟨b, 0, none⟩)] w fun e w' => e = .returned (.string (B p.path)) /\ w = w' := by
 have c0 := h.cell 0 (.string (B p.s)) rfl
 have H := Lib.hid (c_norm p w base b vk vu vl un h p.s hs)
 have HR : Hid (p.path = p.norm p.s) := rfl
 generalize p.path = r at HR |-
 clear h
 go_enter Tryz.func71, Tryz.ntmps71
 go_wp2_with fail
 refine H.out.mono ?_; rintro e w' ⟨rfl, rfl⟩
 go_wp2_with fail
 go_ret
 exact ⟨ret_str HR.out.symm, rfl⟩

theorem c_Component (p : PathS) (w : World) (base b : Nat) (vk vu vl : Value) (un : Un) (h : PathAt w base b p vk vu vl un) :
  Calls Tryz.prog 62 #[.pointer (some ⟨b, 0, none⟩)] w fun e w' => e = .returned (.string (B p.comp)) /\ w = w' := by
 have c4 := h.cell 4 (.string (B p.comp)) rfl
 clear h
 go_enter Tryz.func62, Tryz.ntmps62
 go_wp2_with fail
 go_ret
 exact ⟨rfl, rfl⟩

theorem c_Type (p : PathS) (w : World) (base b : Nat) (vk vu vl : Value) (un : Un) (h : PathAt w base b p vk vu vl un) :
  Calls Tryz.prog 92 #[.pointer (some ⟨b, 0, none⟩)] w fun e w' => e = .returned (.int .i64 p.typ) /\ w = w' := by
 have c5 := h.cell 5 (.int .i64 p.typ) rfl
 clear h
 go_enter Tryz.func92, Tryz.ntmps92
 go_wp2_with fail
 go_ret
 exact ⟨rfl, rfl⟩

theorem c_Disabled (p : PathS) (w : World) (base b : Nat) (vk vu vl : Value) (un : Un) (h : PathAt w base b p vk vu vl un) :
  Calls Tryz.prog 86 #[.pointer (some ⟨b, 0, none⟩)] w fun e w' => e = .returned (.bool p.disabled) /\ w = w' := by
 have c5 := h.cell 23 (.bool p.disabled) rfl
 clear h
 go_enter Tryz.func86, Tryz.ntmps86
 go_wp2_with fail
 go_ret
 exact ⟨rfl, rfl⟩

set_option maxHeartbeats 400000 in
theorem c_IsContent (p : PathS) (w : World) (base b : Nat) (vk vu vl : Value) (un : Un) (h : PathAt w base b p vk vu vl un) :
  Calls Tryz.prog 87 #[.pointer (some ⟨b, 0, none⟩)] w fun e w' => e = .returned (.bool (decide (1 <= p.typ) && decide (p.typ <= 5))) /\ w = w' := by
 have H := Lib.hid (c_Type p w base b vk vu vl un h)
 generalize p.typ = t at H |-
 clear h
 by_cases h1 : 1 <= t
 ·have HQ : Hid ((decide (1 <= t) && decide (t <= 5)) = decide (t <= 5)) := by show _ = _; simp [h1]
  by_cases h2 : t <= 5
  all_goals
   go_enter Tryz.func87, Tryz.ntmps87
   go_wp2_with fail
   refine H.out.mono ?_; rintro e w' ⟨rfl, rfl⟩
   go_wp2_with fail
   refine H.out.mono ?_; rintro e w' ⟨rfl, rfl⟩
   go_wp2_with fail
   go_ret
   exact ⟨ret_bool (by simp [h1, h2]), rfl⟩
 ·have HQ : Hid ((decide (1 <= t) && decide (t <= 5)) = false) := by show _ = _; simp [h1]
  go_enter Tryz.func87, Tryz.ntmps87
  go_wp2_with fail
  refine H.out.mono ?_; rintro e w' ⟨rfl, rfl⟩
  go_wp2_with fail
  go_ret
  exact ⟨ret_bool (by rw [HQ.out]), rfl⟩


set_option maxHeartbeats 400000 in
theorem c_isPage (p : PathS) (w : World) (base b : Nat) (vk vu vl : Value) (un : Un) (h : PathAt w base b p vk vu vl un) :
  Calls Tryz.prog 114 #[.pointer (some ⟨b, 0, none⟩)] w fun e w' => e = .returned (.bool p.isPage) /\ w = w' := by
 have H := Lib.hid (c_Type p w base b vk vu vl un h)
 have HR : Hid (p.isPage = (decide (2 <= p.typ) && decide (p.typ <= 5))) := rfl
 generalize p.isPage = r at HR |-
 generalize p.typ = t at H HR
 clear h
 by_cases h1 : 2 <= t
 ·by_cases h2 : t <= 5
  all_goals
   go_enter Tryz.func114, Tryz.ntmps114
   go_wp2_with fail
   refine H.out.mono ?_; rintro e w' ⟨rfl, rfl⟩
   go_wp2_with fail
   refine H.out.mono ?_; rintro e w' ⟨rfl, rfl⟩
   go_wp2_with fail
   go_ret
   exact ⟨ret_bool (by rw [HR.out]; first | (simp [h1, h2]; done) | (rw [Bool.eq_iff_iff]; simp; omega)), rfl⟩
 ·go_enter Tryz.func114, Tryz.ntmps114
  go_wp2_with fail
  refine H.out.mono ?_; rintro e w' ⟨rfl, rfl⟩
  go_wp2_with fail
  go_ret
  exact ⟨ret_bool (by rw [HR.out]; first | (simp [h1]; done) | (rw [Bool.eq_iff_iff]; simp; omega)), rfl⟩

set_option maxHeartbeats 400000 in
theorem c_IsBundle (p : PathS) (w : World) (base b : Nat) (vk vu vl : Value) (un : Un) (h : PathAt w base b p vk vu vl un) :
  Calls Tryz.prog 88 #[.pointer (some ⟨b, 0, none⟩)] w fun e w' => e = .returned (.bool p.isBundle) /\ w = w' := by
 have c5 := h.cell 5 (.int .i64 p.typ) rfl
 have HR : Hid (p.isBundle = (decide (3 <= p.typ) && decide (p.typ <= 5))) := rfl
 generalize p.isBundle = r at HR |-
 generalize p.typ = t at c5 HR
 clear h
 by_cases h1 : 3 <= t
 ·by_cases h2 : t <= 5
  all_goals
   go_enter Tryz.func88, Tryz.ntmps88
   go_wp2_with fail
   go_ret
   exact ⟨ret_bool (by rw [HR.out]; first | (simp [h1, h2]; done) | (rw [Bool.eq_iff_iff]; simp; omega)), rfl⟩
 ·go_enter Tryz.func88, Tryz.ntmps88
  go_wp2_with fail
  go_ret
  exact ⟨ret_bool (by rw [HR.out]; first | (simp [h1]; done) | (rw [Bool.eq_iff_iff]; simp; omega)), rfl⟩

theorem c_IsBranch (p : PathS) (w : World) (base b : Nat) (vk vu vl : Value) (un : Un) (h : PathAt w base b p vk vu vl un) :
  Calls Tryz.prog 89 #[.pointer (some ⟨b, 0, none⟩)] w fun e w' => e = .returned (.bool (decide (p.typ = 4))) /\ w = w' := by
 have c5 := h.cell 5 (.int .i64 p.typ) rfl
 generalize p.typ = t at c5 |-
 clear h
 go_enter Tryz.func89, Tryz.ntmps89
 go_wp2_with fail
 go_ret
 exact ⟨ret_bool (by rw [Bool.eq_iff_iff]; simp), rfl⟩

theorem c_IsLeaf (p : PathS) (w : World) (base b : Nat) (vk vu vl : Value) (un : Un) (h : PathAt w base b p vk vu vl un) :
  Calls Tryz.prog 90 #[.pointer (some ⟨b, 0, none⟩)] w fun e w' => e = .returned (.bool (decide (p.typ = 3))) /\ w = w' := by
 have c5 := h.cell 5 (.int .i64 p.typ) rfl
 generalize p.typ = t at c5 |-
 clear h
 go_enter Tryz.func90, Tryz.ntmps90
 go_wp2_with fail
 go_ret
 exact ⟨ret_bool (by rw [Bool.eq_iff_iff]; simp), rfl⟩

theorem c_IsData (p : PathS) (w : World) (base b : Nat) (vk vu vl : Value) (un : Un) (h : PathAt w base b p vk vu vl un) :
  Calls Tryz.prog 91 #[.pointer (some ⟨b, 0, none⟩)] w fun e w' => e = .returned (.bool (decide (p.typ = 5))) /\ w = w' := by
 have c5 := h.cell 5 (.int .i64 p.typ) rfl
 generalize p.typ = t at c5 |-
 clear h
 go_enter Tryz.func91, Tryz.ntmps91
 go_wp2_with fail
 go_ret
 exact ⟨ret_bool (by rw [Bool.eq_iff_iff]; simp), rfl⟩

/-! ### Folders and names -/
set_option maxHeartbeats 1000000 in
theorem c_Section (p : PathS) (w : World) (base b : Nat) (vk vu vl : Value) (un : Un) (h : PathAt w base b p vk vu vl un) (ok : PathOK p) :
  Calls Tryz.prog 65 #[.pointer (some ⟨b, 0, none⟩)] w fun e w' => e = .returned (.string (B p.sectionM)) /\ Below w.heap.size w w' := by
 have c0 := h.cell 0 (.string (B p.s)) rfl
 have c3 := h.cell 3 (.int .i64 p.sHigh) rfl
 have HR : Hid (p.sectionM = if p.sHigh <= 0 then [] else p.norm (sub p.s (1, p.sHigh.toNat))) := rfl
 generalize p.sectionM = r at HR |-
 have hlen := ok.len
 have hsc := ok.sc
 by_cases h1 : p.sHigh <= 0
 ·have HQ : Hid (r = []) := by show _ = _; rw [HR.out, if_pos h1]
  clear h HR hsc
  go_enter Tryz.func65, Tryz.ntmps65
  go_wp2_with fail
  go_ret
  exact ⟨ret_str HQ.out.symm, Below.refl _ _⟩
 ·obtain ⟨k, hk⟩ : ∃ k : Nat, p.sHigh = k := ⟨p.sHigh.toNat, by omega⟩
  have HQ : Hid (r = p.norm (p.s.tail.take (k - 1))) := by show _ = _; rw [HR.out, if_neg h1, hk]; simp [sub]
  have H : Hid (∀ w, PathAt w base b p vk vu vl un -> Calls Tryz.prog 101 #[.pointer (some ⟨b, 0, none⟩), .string (B (p.s.tail.take (k - 1)))] w fun e w' => e = .returned (.string (B r)) /\ w = w') := by
   intro w h
   rw [HQ.out]
   exact c_norm p w base b vk vu vl un h _ (by simp; omega)
  rw [hk] at c3
  have hk1 : 1 <= k := by omega
  have hk2 : (k : Int) <= (p.s.length : Int) := by omega
  have hh := Lib.hid h
  clear h HR hsc hk h1
  go_enter Tryz.func65, Tryz.ntmps65
  go_wp2_with fail
  go_quiet ((go_at_call 101; exact Calls.quiet_of_same ((H.out _ (hh.out.below (Below_drewN (Below.refl _ _) _))).mono fun _ _ ⟨he, hw⟩ => ⟨he, hw.symm⟩)))
  go_wp2_with fail
  go_ret
  exact ⟨rfl, Below_drewN (Below.refl _ _) _⟩


theorem below_drawn {w : World} (n : Nat) : Below w.heap.size w (w.drewN n) := Below_drewN (Below.refl _ _) _

set_option maxHeartbeats 1000000 in
theorem c_Container (p : PathS) (w : World) (base b : Nat) (vk vu vl : Value) (un : Un) (h : PathAt w base b p vk vu vl un) (ok : PathOK p) :
  Calls Tryz.prog 63 #[.pointer (some ⟨b, 0, none⟩)] w fun e w' => e = .returned (.string (B p.containerM)) /\ Below w.heap.size w w' := by
 have c0 := h.cell 0 (.string (B p.s)) rfl
 have c1 := h.cell 1 (.int .i64 p.cLow) rfl
 have c2 := h.cell 2 (.int .i64 p.cHigh) rfl
 have HR : Hid (p.containerM = if p.cLow = -1 then [] else p.norm (sub p.s (p.cLow.toNat, (p.cHigh - 1).toNat))) := rfl
 generalize p.containerM = r at HR |-
 have hlen := ok.len
 have hlc := ok.lc
 have hhc := ok.hc
 by_cases h1 : p.cLow = -1
 ·have HQ : Hid (r = []) := by show _ = _; rw [HR.out, if_pos h1]
  rw [h1] at c1
  clear h HR hlc h1
  go_enter Tryz.func63, Tryz.ntmps63
  go_wp2_with fail
  go_ret
  exact ⟨ret_str HQ.out.symm, Below.refl _ _⟩
 ·obtain ⟨lo, hlo⟩ : ∃ k : Nat, p.cLow = k := ⟨p.cLow.toNat, by omega⟩
  obtain ⟨hi, hhi⟩ : ∃ k : Nat, p.cHigh = k := ⟨p.cHigh.toNat, by omega⟩
  have HQ : Hid (r = p.norm ((p.s.drop lo).take (hi - 1 - lo))) := by
   show _ = _
   rw [HR.out, if_neg h1, hlo, hhi, show ((hi : Int) - 1).toNat = hi - 1 from by omega]; rfl
  have H : Hid (∀ w, PathAt w base b p vk vu vl un -> Calls Tryz.prog 101 #[.pointer (some ⟨b, 0, none⟩), .string (B ((p.s.drop lo).take (hi - 1 - lo)))] w fun e w' => e = .returned (.string (B r)) /\ w = w') := by
   intro w h
   rw [HQ.out]
   exact c_norm p w base b vk vu vl un h _ (by simp; omega)
  rw [hlo] at c1
  rw [hhi] at c2
  have g1 : 1 <= lo := by omega
  have g2 : 1 <= hi := by omega
  have g3 : (lo : Int) <= (hi : Int) - 1 := by omega
  have g4 : (hi : Int) <= (p.s.length : Int) := by omega
  have hne : ((lo : Int) == -1) = false := by rw [beq_eq_false_iff_ne]; omega
  have hh := Lib.hid h
  clear h HR hlc hhc hlo hhi h1
  go_enter Tryz.func63, Tryz.ntmps63
  go_wp2_with fail
  go_quiet ((go_at_call 101; with_reducible exact Calls.quiet_of_same ((H.out _ (hh.out.below (below_drawn _))).mono fun _ _ ⟨he, hw⟩ => ⟨he, hw.symm⟩)))
  go_wp2_with fail
  go_ret
  exact ⟨rfl, below_drawn _⟩

end Go.Proofs.YtjkecadfakjanaaGreatDoor
