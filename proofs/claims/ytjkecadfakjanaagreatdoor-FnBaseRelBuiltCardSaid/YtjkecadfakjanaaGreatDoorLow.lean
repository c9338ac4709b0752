/- Contracts of the reference's lower and Normalize: small letters in the place of great ones; a hyphen in the place of each blank. Condition: a text of at most 2^46 bytes. -/
import Derived.Test.YtjkecadfakjanaaGreatDoorStr
set_option maxRecDepth 100000
set_option linter.unusedVariables false
set_option linter.unusedSimpArgs false
namespace Go.Proofs.YtjkecadfakjanaaGreatDoor
open Go.RowKit
attribute [local go_sem] B_extract B_toList

/-- Block g holds the bytes l, and may be written there. -/
def BytesAt (w : World) (g : Nat) (l : Str) : Prop :=
 ∃ cur f, w.heap[g]? = some (.cells cur 5 (f, f + 1)) /\ l.length <= f /\ ∀ j (h : j < l.length), cur[j]? = some (.int .u8 l[j].toNat)

theorem BytesAt.cell {w : World} {g : Nat} {l : Str} (h : BytesAt w g l) {j : Nat} (hj : j < l.length) : w.cell? ⟨g, j, none⟩ = some (.int .u8 l[j].toNat) := by
 obtain ⟨cur, f, h1, _, h3⟩ := h
 simp [World.cell?, h1, h3 j hj]
theorem BytesAt.free {w : World} {g : Nat} {l : Str} (h : BytesAt w g l) {j : Nat} (hj : j < l.length) : w.frozen? ⟨g, j, none⟩ = false := by
 obtain ⟨cur, f, h1, h2, h3⟩ := h
 simp [World.frozen?, h1]
 omega
theorem BytesAt.lt {w : World} {g : Nat} {l : Str} (h : BytesAt w g l) : g < w.heap.size := by
 obtain ⟨cur, f, h1, _, _⟩ := h
 exact lt_of_block h1
theorem BytesAt.set {w : World} {g : Nat} {l : Str} (h : BytesAt w g l) {j : Nat} (hj : j < l.length) (c : UInt8) : BytesAt (w.setCell ⟨g, j, none⟩ (.int .u8 c.toNat)) g (l.set j c) := by
 have hg := h.lt
 obtain ⟨cur, f, h1, h2, h3⟩ := h
 refine ⟨cur.setIfInBounds j (.int .u8 c.toNat), f, ?_, by simpa using h2, ?_⟩
 ·show (w.heap.modify g _)[g]? = _
  have h' : w.heap[g] = .cells cur 5 (f, f + 1) := by simpa [Array.getElem?_eq_getElem hg] using h1
  rw [Array.getElem?_eq_getElem (by simpa using hg), Array.getElem_modify_self, h']
  rfl
 ·intro i hi
  have hi' : i < l.length := by simpa using hi
  have hc := h3 i hi'
  have hjc : j < cur.size := by
   have := h3 j hj
   exact (Array.getElem?_eq_some_iff.1 this).1
  by_cases e : i = j
  ·subst e
   simp [Array.getElem?_setIfInBounds, hjc]
  ·rw [Array.getElem?_setIfInBounds_ne (by omega), hc, List.getElem_set_ne (by omega)]
theorem BytesAt.run {w : World} {g : Nat} {l : Str} (h : BytesAt w g l) (cap : Nat) : (convert 92 9 (.slice (some ⟨g, 0, none⟩) l.length cap)).run Tryz.prog w = .ok (.string (B l)) w := by
 rw [run_convert_bytes_arg w _ _ Tryz.underlying92 Tryz.underlying5 g 0 l.length cap (l.map fun b => (b.toNat : Int)) (by simp) ?_ _ Tryz.underlying9]
 ·congr 2
  unfold strOfNums
  simp [B, Function.comp_def]
 ·intro i hi
  have := h.cell hi
  simpa [List.getD, hi] using this
theorem BytesAt.made (w : World) (l : Str) : BytesAt (Lib.bytesWorld w 5 (B l)) w.heap.size l := by
 refine ⟨_, _, Lib.bytesWorld_at_new w _ (B l), ?_, ?_⟩
 ·unfold Lib.bytesCells; simp [B_size]
 ·intro j hj
  have := Lib.bytesWorld_cell w 5 (B l) j (by rw [B_size]; exact hj)
  simp only [World.cell?, Lib.bytesWorld_at_new] at this
  simpa [B_data, hj] using this
theorem Below_made (w : World) (l : Str) : Below w.heap.size w (Lib.bytesWorld w 5 (B l)) :=
 ⟨rfl, rfl, rfl, by rw [Lib.bytesWorld_size]; omega, fun k hk => Lib.bytesWorld_at_old w _ _ k hk⟩

/-- The text with its first k letters made small. -/
def lowTo (l : Str) (k : Nat) : Str := Lib.toLowerA (l.take k) ++ l.drop k
theorem lowTo_len (l : Str) (k : Nat) : (lowTo l k).length = l.length := by simp [lowTo, Lib.toLowerA]; omega
theorem lowTo_get (l : Str) (k : Nat) (h : k < l.length) : (lowTo l k)[k]'(by rw [lowTo_len]; exact h) = l[k] := by
 simp [lowTo, Lib.toLowerA, List.getElem_append, Nat.min_eq_left (Nat.le_of_lt h)]
theorem lowTo_set (l : Str) (k : Nat) (h : k < l.length) : (lowTo l k).set k (Lib.lowerB l[k]) = lowTo l (k + 1) := by
 unfold lowTo Lib.toLowerA
 have e : k - ((l.take k).map Lib.lowerB).length = 0 := by simp; omega
 rw [drop_cons h, List.take_succ_eq_append_getElem h, List.set_append_right _ _ (by simp; omega), e, List.map_append]
 simp only [List.set_cons_zero, List.append_assoc, List.map_cons, List.map_nil, List.cons_append, List.nil_append]
theorem lowTo_same (l : Str) (k : Nat) (h : k < l.length) (hn : Lib.isUpperB l[k] = false) : lowTo l k = lowTo l (k + 1) := by
 unfold lowTo Lib.toLowerA
 rw [drop_cons h, List.take_succ_eq_append_getElem h, List.map_append]
 simp only [List.append_assoc, List.map_cons, List.map_nil, List.cons_append, List.nil_append, Lib.lowerB_of_not _ hn]
theorem upper_of (b : UInt8) : Lib.isUpperB b = decide (65 <= (b.toNat : Int) /\ (b.toNat : Int) <= 90) := by
 unfold Lib.isUpperB
 rw [Bool.eq_iff_iff]
 simp [UInt8.le_iff_toNat_le]
 omega

set_option maxHeartbeats 1000000 in
theorem c_lower (l : Str) (w : World) (hl : l.length <= 70368744177664) :
  Calls Tryz.prog 100 #[.string (B l)] w fun e w' => e = .returned (.string (B (Lib.toLowerA l))) /\ Below w.heap.size w w' := by
 have hconv := Lib.run_convert_string_bytes (P := Tryz.prog) w 9 92 5 (B l) Tryz.underlying9 Tryz.underlying92 Tryz.underlying5
 rw [B_size] at hconv
 have hm := BytesAt.made w l
 have hb := Below_made w l
 generalize Lib.bytesWorld w 5 (B l) = w1 at hconv hm hb
 generalize grownCap w l.length 0 5 = cap at hconv
 go_enter Tryz.func100, Tryz.ntmps100
 go_wp2
 go_loopw [4] (fun s4 wr => ∃ k : Nat, k <= l.length /\ s4 = .int .i64 k /\ BytesAt wr w.heap.size (lowTo l k) /\ Below w.heap.size w wr) (fun s4 _ => l.length - (intOf s4).toNat)
 case atStart => exact ⟨0, Nat.zero_le _, rfl, by simpa [lowTo, Lib.toLowerA] using hm, hb⟩
 case round =>
  clear hm hb hconv
  obtain ⟨k, hk, rfl, hm, hb⟩ := hrel
  have hlen := lowTo_len l k
  by_cases hlt : k < l.length
  ·have hcell := hm.cell (j := k) (by omega)
   have hfree := hm.free (j := k) (by omega)
   rw [lowTo_get l k hlt] at hcell
   have hset := hm.set (j := k) (by omega) (Lib.lowerB l[k])
   rw [lowTo_set l k hlt, Lib.lowerB] at hset
   have hbel := hb.setCell (p := ⟨w.heap.size, k, none⟩) (Nat.le_refl _)
   have hu := upper_of l[k]
   have hsame := lowTo_same l k hlt
   have hup : Lib.isUpperB l[k] = true -> ((Lib.lowerB l[k]).toNat : Int) = (l[k].toNat : Int) + 32 := Lib.lowerB_int _
   generalize hc : l[k] = c at hcell hset hu hsame hup
   have hc256 := c.toNat_lt
   by_cases h1 : 65 <= (c.toNat : Int)
   ·by_cases h2 : (c.toNat : Int) <= 90
    ·rw [hu, decide_eq_true ⟨h1, h2⟩, if_pos rfl] at hset
     have hup' := hup (by rw [hu]; exact decide_eq_true ⟨h1, h2⟩)
     rw [Lib.lowerB, hu, decide_eq_true ⟨h1, h2⟩, if_pos rfl] at hup'
     rw [hup'] at hset
     have HS := Lib.hid hset
     have HB := Lib.hid (hbel (.int .u8 ((c.toNat : Int) + 32)))
     clear hsame hu hup hup' hset hbel hm hb hc
     go_wp2
     go_roundw
     case rel => exact ⟨k + 1, by omega, by go_num, HS.out, HB.out⟩
     case measure => simp [intOf]; omega
    ·have HM := Lib.hid (hsame (by rw [hu, decide_eq_false]; omega))
     clear hsame hu hup hset hbel hc
     go_wp2
     go_roundw
     case rel => exact ⟨k + 1, by omega, by go_num, by rw [<- HM.out]; exact hm, hb⟩
     case measure => simp [intOf]; omega
   ·have HM := Lib.hid (hsame (by rw [hu, decide_eq_false]; omega))
    clear hsame hu hup hset hbel hc
    go_wp2
    go_roundw
    case rel => exact ⟨k + 1, by omega, by go_num, by rw [<- HM.out]; exact hm, hb⟩
    case measure => simp [intOf]; omega
  ·have hk' : k = l.length := by omega
   have e : lowTo l k = Lib.toLowerA l := by rw [hk']; simp [lowTo]
   rw [e] at hm
   have hl' : (Lib.toLowerA l).length = l.length := by simp [Lib.toLowerA]
   have hconv := hm.run cap
   rw [hl'] at hconv
   clear e hk' hlen hl'
   go_wp2
   go_ret
   exact ⟨rfl, hb⟩

def normTo (l : Str) (k : Nat) : Str := (l.take k).map normB ++ l.drop k
theorem normTo_len (l : Str) (k : Nat) : (normTo l k).length = l.length := by simp [normTo]; omega
theorem normTo_get (l : Str) (k : Nat) (h : k < l.length) : (normTo l k)[k]'(by rw [normTo_len]; exact h) = l[k] := by
 simp [normTo, List.getElem_append, Nat.min_eq_left (Nat.le_of_lt h)]
theorem normTo_set (l : Str) (k : Nat) (h : k < l.length) : (normTo l k).set k (normB l[k]) = normTo l (k + 1) := by
 unfold normTo
 have e : k - ((l.take k).map normB).length = 0 := by simp; omega
 rw [drop_cons h, List.take_succ_eq_append_getElem h, List.set_append_right _ _ (by simp; omega), e, List.map_append]
 simp only [List.set_cons_zero, List.append_assoc, List.map_cons, List.map_nil, List.cons_append, List.nil_append]
theorem normTo_same (l : Str) (k : Nat) (h : k < l.length) (hn : l[k] ≠ 32) : normTo l k = normTo l (k + 1) := by
 unfold normTo
 rw [drop_cons h, List.take_succ_eq_append_getElem h, List.map_append]
 simp only [List.append_assoc, List.map_cons, List.map_nil, List.cons_append, List.nil_append, normB, if_neg hn]

set_option maxHeartbeats 1000000 in
theorem c_Normalize (s : Str) (w : World) (hs : s.length <= 70368744177664) :
  Calls Tryz.prog 61 #[.string (B s)] w fun e w' => e = .returned (.string (B (normL s))) /\ Below w.heap.size w w' := by
 have hl : (Lib.toLowerA s).length <= 70368744177664 := by simpa [Lib.toLowerA] using hs
 have hlow := Lib.hid (fun w => c_lower s w hs)
 unfold normL
 generalize Lib.toLowerA s = l at hlow hl
 clear hs
 go_enter Tryz.func61, Tryz.ntmps61
 go_wp2_with fail
 refine (hlow.out _).mono ?_
 rintro e w0 ⟨rfl, hb0⟩
 have hconv := Lib.run_convert_string_bytes (P := Tryz.prog) w0 9 92 5 (B l) Tryz.underlying9 Tryz.underlying92 Tryz.underlying5
 rw [B_size] at hconv
 have hm := BytesAt.made w0 l
 have hb := hb0.trans ((Below_made w0 l).mono hb0.size)
 generalize Lib.bytesWorld w0 5 (B l) = w1 at hconv hm hb
 generalize grownCap w0 l.length 0 5 = cap at hconv
 have hle := hb0.size
 clear hlow hb0
 go_wp2_with fail
 go_loopw [4] (fun s4 wr => ∃ k : Nat, k <= l.length /\ s4 = .int .i64 k /\ BytesAt wr w0.heap.size (normTo l k) /\ Below w.heap.size w wr) (fun s4 _ => l.length - (intOf s4).toNat)
 case atStart => exact ⟨0, Nat.zero_le _, rfl, by simpa [normTo] using hm, hb⟩
 case round =>
  clear hm hb hconv
  obtain ⟨k, hk, rfl, hm, hb⟩ := hrel
  have hlen := normTo_len l k
  by_cases hlt : k < l.length
  ·have hcell := hm.cell (j := k) (by omega)
   have hfree := hm.free (j := k) (by omega)
   rw [normTo_get l k hlt] at hcell
   have hset := hm.set (j := k) (by omega) (normB l[k])
   rw [normTo_set l k hlt, normB] at hset
   have hbel := hb.setCell (p := ⟨w0.heap.size, k, none⟩) hle
   have hsame := normTo_same l k hlt
   generalize hc : l[k] = c at hcell hset hsame
   have hc256 := c.toNat_lt
   by_cases h1 : c = 32
   ·subst h1
    rw [if_pos rfl] at hset
    have HS := Lib.hid hset
    have HB := Lib.hid (hbel (.int .u8 45))
    clear hsame hset hbel hm hb hc
    go_wp2_with fail
    go_roundw
    case rel => exact ⟨k + 1, by omega, by go_num, HS.out, HB.out⟩
    case measure => simp [intOf]; omega
   ·have HM := Lib.hid (hsame h1)
    have hne : ((c.toNat : Int) == 32) = false := by
     rw [beq_eq_false_iff_ne]
     intro e
     exact h1 (UInt8.toNat_inj.mp (by have : (32 : UInt8).toNat = 32 := rfl; omega))
    clear hsame hset hbel hc h1
    go_wp2_with fail
    go_roundw
    case rel => exact ⟨k + 1, by omega, by go_num, by rw [<- HM.out]; exact hm, hb⟩
    case measure => simp [intOf]; omega
  ·have hk' : k = l.length := by omega
   have e : normTo l k = l.map normB := by rw [hk']; simp [normTo]
   rw [e] at hm
   have hl' : (l.map normB).length = l.length := by simp
   have hconv := hm.run cap
   rw [hl'] at hconv
   clear e hk' hlen hl'
   go_wp2_with fail
   go_ret
   exact ⟨rfl, hb⟩

end Go.Proofs.YtjkecadfakjanaaGreatDoor
