/- Contracts of the functions on texts: the reference's Ascii, lower and Normalize, the package's zzIndex, zzContains, zzReplaceAll at a blank and a hyphen, and NormalizePathStringBasic on texts of ASCII. Conditions: each text of at most 2^46 bytes; the last two: ASCII. -/
import Derived.Test.YtjkecadfakjanaaGreatDoorBase
import Derived.Test.YtjkecadfakjanaaGreatDoorPure0
import Derived.Test.YtjkecadfakjanaaGreatDoorLower
set_option maxRecDepth 100000
set_option linter.unusedVariables false
set_option linter.unusedSimpArgs false
namespace Go.Proofs.YtjkecadfakjanaaGreatDoor
open Go.RowKit
attribute [local go_sem] B_extract B_toList

theorem ret_bool {a b : Bool} (h : a = b) : Ending.returned (.bool a) = .returned (.bool b) := by rw [h]
theorem ret_i64 {a b : Int} (h : a = b) : Ending.returned (.int .i64 a) = .returned (.int .i64 b) := by rw [h]
theorem ret_str {a b : Str} (h : a = b) : Ending.returned (.string (B a)) = .returned (.string (B b)) := by rw [h]

set_option maxHeartbeats 400000 in
theorem c_Ascii (l : Str) (w : World) (hl : l.length <= 70368744177664) :
  Calls Tryz.prog 58 #[.string (B l)] w fun e w' => e = .returned (.bool (asciiL l)) /\ w = w' := by
 go_enter Tryz.func58, Tryz.ntmps58
 go_wp2
 go_loop [3] (fun i => ∃ k : Nat, k <= l.length /\ i = .int .i64 k /\ Hid (∀ j (h : j < l.length), j < k -> l[j].toNat <= 127)) (fun i => l.length - (intOf i).toNat)
 case atStart => exact ⟨0, Nat.zero_le _, rfl, fun j _ h => by omega⟩
 case round =>
  obtain ⟨k, hk, rfl, hall⟩ := hrel
  by_cases hlt : k < l.length
  ·go_wp2
   ·have h : 127 < ((B l)[k].toNat : Int) := by assumption
    go_ret
    exact ⟨ret_bool (by rw [asciiL_not hlt (by rw [B_get] at h; omega)]), rfl⟩
   ·have h : ((B l)[k].toNat : Int) <= 127 := by assumption
    rw [B_get] at h
    go_round
    case rel =>
     refine ⟨k + 1, by omega, by go_num, fun j hj hjk => ?_⟩
     by_cases e : j = k
     ·subst e; omega
     ·exact hall.out j hj (by omega)
    case measure => simp [intOf]; omega
  ·go_wp2
   go_ret
   exact ⟨ret_bool (asciiL_intro fun j hj => hall.out j hj (by omega)).symm, rfl⟩

set_option maxHeartbeats 400000 in
theorem c_zzIndex (l sub : Str) (w : World) (hl : l.length <= 70368744177664) (hs : sub.length <= 70368744177664) :
  Calls Tryz.prog 160 #[.string (B l), .string (B sub)] w fun e w' => e = .returned (.int .i64 (indexL l sub)) /\ w = w' := by
 go_enter Tryz.func160, Tryz.ntmps160
 go_wp2
 go_loop [5] (fun i => ∃ k : Nat, k <= l.length /\ i = .int .i64 k /\ Hid (idx? sub l = (idx? sub (l.drop k)).map (· + k))) (fun i => l.length + 1 - (intOf i).toNat)
 case atStart => exact ⟨0, Nat.zero_le _, rfl, by simp [Hid]⟩
 case round =>
  obtain ⟨k, hk, rfl, hall⟩ := hrel
  go_wp2
  ·have h1 : (k : Int) + (sub.length : Int) <= (l.length : Int) := by assumption
   have h2 : ((l.drop k).take (k + sub.length - k) == sub) = true := by first | assumption | (simpa using (show ((l.drop k).take sub.length == sub) = true by assumption))
   rw [Nat.add_sub_cancel_left, beq_iff_eq] at h2
   have hp : sub.isPrefixOf (l.drop k) = true := by rw [isPrefixOf_take (by simp; omega), h2]; simp
   go_ret
   exact ⟨ret_i64 (by rw [indexL, hall.out, idx?_hit hp]; simp), rfl⟩
  ·have h1 : (k : Int) + (sub.length : Int) <= (l.length : Int) := by assumption
   have h2 : ((l.drop k).take (k + sub.length - k) == sub) = false := by first | assumption | (simpa using (show ((l.drop k).take sub.length == sub) = false by assumption))
   rw [Nat.add_sub_cancel_left, beq_eq_false_iff_ne] at h2
   have hp : sub.isPrefixOf (l.drop k) = false := by rw [isPrefixOf_take (by simp; omega)]; simpa using h2
   have hkl : k < l.length := by
    rcases Nat.lt_or_ge k l.length with h | h
    ·exact h
    ·exfalso; apply h2
     have : sub = [] := List.length_eq_zero_iff.1 (by omega)
     subst this; simp
   go_round
   case rel =>
    refine ⟨k + 1, by omega, by go_num, ?_⟩
    show _ = _
    rw [hall.out, idx?_miss hkl hp, Option.map_map]
    congr 1; funext x; simp; omega
   case measure => simp [intOf]; omega
  ·have h1 : (l.length : Int) < (k : Int) + (sub.length : Int) := by assumption
   go_ret
   exact ⟨ret_i64 (by rw [indexL, hall.out, idx?_short (by simp; omega)]; rfl), rfl⟩


/-! ### Byte slices that the call has built -/
theorem Tryz.infoU8 : (Tryz.prog.info? 5).map (fun i => (i.zero, i.size, i.bytes)) = some (some (.int .u8 0), 1, 1) := by kernel_rfl

/-- v is a byte slice of the call's own (its array a block from base on) that holds l. -/
structure OwnB (w : World) (base : Nat) (v : Value) (l : Str) : Prop where
 own : w.ownsRow base 5 1 v l.length (Lib.strCells (B l))
 le : base <= w.heap.size

theorem OwnB.nil (w : World) : OwnB w w.heap.size (.slice none 0 0) [] := ⟨World.ownsRow_nil _ _ _ _, Nat.le_refl _⟩

theorem strCells_B (l : Str) : Lib.strCells (B l) = l.map fun b => Value.int .u8 b.toNat := by unfold Lib.strCells; rw [B_data]

theorem wpList_appB {ops : Array Oper} {rest : List Oper} {o : Oper} {a : Act} {w : World} {Q : Exit -> Act -> World -> Prop} (hgd : o.guard = none) (sl x : Operand)
  (ho : o.op = .call { callee := .builtin .append, args := #[sl, x], argTypes := #[92, 9] })
  (base : Nat) (v : Value) (l s : Str) (hs : a.eval sl = v) (hown : OwnB w base v l) (hx : a.eval x = .string (B s)) (hlen : l.length + s.length <= 140737488355328)
  (h : ∀ v' w', OwnB w' base v' (l ++ s) -> Below base w w' -> wpList Tryz.prog ops Q rest (a.put o.dst v') w') : wpList Tryz.prog ops Q (o :: rest) a w := by
 obtain ⟨i0, hi, hz0, hz1, hz2⟩ := info_parts Tryz.infoU8
 refine Lib.wpList_append_own_string _ hgd sl x _ _ ho base 5 i0 Tryz.underlying92 Tryz.underlying9 hi hz0 hz1 hz2 v l.length _ hs hown.own (B s) hx (by rw [B_size]; unfold maxLen; omega) (by rw [B_size]; omega) hown.le ?_
 intro v' w' h2 h3 _
 refine h v' w' ⟨?_, Nat.le_trans hown.le h3.size⟩ ⟨h3.os, h3.tape, h3.output, h3.size, fun k hk => h3.block k (by have := hown.le; omega) (fun e => by have := hown.own.lt k e.symm; omega)⟩
 rw [B_size] at h2
 rw [List.length_append, strCells_B, List.map_append, <- strCells_B, <- strCells_B]
 exact h2

theorem OwnB.run (w : World) {base : Nat} {v : Value} {l : Str} (h : OwnB w base v l) : (convert 92 9 v).run Tryz.prog w = .ok (.string (B l)) w := by
 obtain ⟨⟨hl, h1⟩, _⟩ := h
 rcases h1 with ⟨rfl, h0⟩ | ⟨g, cap, cur, rfl, hg, hc, hcap, hm, hcur, ht⟩
 ·have : l = [] := List.length_eq_zero_iff.1 h0
  subst this
  exact run_convert_bytes_nil w _ _ Tryz.underlying92 Tryz.underlying5 0 0 _ Tryz.underlying9
 ·have hn : l.map (fun b => (b.toNat : Int)) = l.map fun b => (b.toNat : Int) := rfl
  rw [run_convert_bytes_arg w _ _ Tryz.underlying92 Tryz.underlying5 g 0 l.length cap (l.map fun b => (b.toNat : Int)) (by simp) ?_ _ Tryz.underlying9]
  ·congr 2
   unfold strOfNums
   simp [B, Function.comp_def]
  ·intro i hi
   have e : cur[i]? = (Lib.strCells (B l))[i]? := by
    rw [<- ht, Nat.mul_one, List.getElem?_take_of_lt hi, Array.getElem?_toList]
   simp [World.cell?, hc, e, strCells_B, List.getElem?_eq_getElem hi, List.getD]

/-- The length of a text's value: a loop's measure. -/
def strLen : Value -> Nat | .string s => s.size | _ => 0
theorem strLen_B (l : Str) : strLen (.string (B l)) = l.length := B_size l

theorem mul_norm (l : Str) (k : Nat) (i : Nat) (h : idx? [32] (l.drop k) = some i) : (l.take (k + i + 1)).map normB = ((l.take k).map normB ++ (l.drop k).take i) ++ [45] := by
 obtain ⟨h1, h2, h3⟩ := idx?_one 32 h
 have e : l.take (k + i + 1) = l.take k ++ (l.drop k).take i ++ [32] := by
  rw [show k + i + 1 = k + (i + 1) from by omega, List.take_add, List.append_assoc]
  congr 1
  rw [List.take_add, h3]
  simp
 rw [e, List.map_append, List.map_append, map_normB_of_ne h2]
 rfl

set_option maxHeartbeats 1000000 in
/-- What zzReplaceAll makes of a text, at a blank and a hyphen. -/
theorem c_zzReplace (l : Str) (w : World) (hl : l.length <= 70368744177664) :
  Calls Tryz.prog 139 #[.string (B l), .string (B [32]), .string (B [45])] w fun e w' => e = .returned (.string (B (l.map normB))) /\ Below w.heap.size w w' := by
 go_enter Tryz.func139, Tryz.ntmps139
 go_wp2
 go_loopw [0, 7, 10] (fun s0 s7 s10 wr => ∃ k : Nat, k <= l.length /\ s0 = .string (B (l.drop k)) /\ OwnB wr w.heap.size s7 ((l.take k).map normB) /\ Below w.heap.size w wr)
  (fun s0 _ _ _ => strLen s0)
 case atStart => exact ⟨0, Nat.zero_le _, rfl, OwnB.nil w, Below.refl _ _⟩
 case round =>
  obtain ⟨k, hk, rfl, hown, hbel⟩ := hrel
  have hd : (l.drop k).length <= 70368744177664 := by rw [List.length_drop]; omega
  cases hx : idx? [32] (l.drop k) with
  | none =>
   have hi : indexL (l.drop k) [32] = -1 := by rw [indexL, hx]
   have HN : Hid ((l.map normB).take k ++ l.drop k = l.map normB) := by
    have e := map_normB_of_ne (idx?_none_one 32 hx)
    show _ = _
    rw [<- List.map_take, <- e, <- List.map_append, List.take_append_drop]
   clear hx
   go_wp2_with (first
    | (go_at_call 160; refine (c_zzIndex (l.drop k) [32] _ hd (by decide)).mono ?_; rintro e w' ⟨rfl, rfl⟩)
    | (at_builtin; refine wpList_appB rfl (.tmp 50) (.tmp 51) rfl _ _ _ (l.drop k) rfl hown rfl (by simp; omega) ?_; intro v' w1 hown1 hb1; have hconv := hown1.run))
   go_ret
   exact ⟨ret_str (by have := HN.out; simpa using this), hbel.trans hb1⟩
  | some i =>
   have hi : indexL (l.drop k) [32] = (i : Int) := by rw [indexL, hx]
   obtain ⟨h1, h2, h3⟩ := idx?_one 32 hx
   have HN := Lib.hid (mul_norm l k i hx)
   rw [List.length_drop] at h1
   clear hx h2 h3
   go_wp2_with (first
    | (go_at_call 160; refine (c_zzIndex (l.drop k) [32] _ hd (by decide)).mono ?_; rintro e w' ⟨rfl, rfl⟩)
    | (at_builtin; refine wpList_appB rfl (.tmp 54) (.tmp 57) rfl _ _ _ ((l.drop k).take i) rfl hown rfl (by simp; omega) ?_; intro v' w1 hown1 hb1)
    | (at_builtin; refine wpList_appB rfl (.tmp 58) (.tmp 59) rfl _ _ _ [45] rfl hown1 rfl (by simp; omega) ?_; intro v'' w2 hown2 hb2))
   go_roundw
   case rel =>
    refine ⟨k + i + 1, by omega, congrArg (fun x => Value.string (B x)) ?_, ?_, (hbel.trans hb1).trans hb2⟩
    ·rw [List.take_of_length_le (by simp; omega), Nat.add_assoc]
    ·rw [HN.out]; exact hown2
   case measure =>
    rw [strLen_B]
    first | rw [strLen_B] | skip
    simp
    omega

/-- What Normalize makes of a text of ASCII. -/
theorem c_normBasic (l : Str) (w : World) (hl : l.length <= 70368744177664) (ha : asciiL l = true) :
  Calls Tryz.prog 118 #[.string (B l)] w fun e w' => e = .returned (.string (B (normL l))) /\ Below w.heap.size w w' := by
 have hlow : ∀ w, Calls Tryz.prog 138 #[.string (B l)] w fun e w' => e = .returned (.string (B (Lib.toLowerA l))) /\ Below w.heap.size w w' := fun w => by
  have := Tryz.strings_ToLower_ascii (B l) w (by rw [B_size]; omega) (fun j b hb => asciiL_get ha j b (by rw [B_data] at hb; exact hb))
  rw [B_data] at this
  exact this
 have HL := Lib.hid hlow
 have hll : (Lib.toLowerA l).length <= 70368744177664 := by unfold Lib.toLowerA; simpa using hl
 clear ha hlow
 go_enter Tryz.func118, Tryz.ntmps118
 go_wp2_with fail
 refine (HL.out _).mono ?_
 rintro e w1 ⟨rfl, hb1⟩
 go_wp2_with fail
 refine (c_zzReplace (Lib.toLowerA l) _ hll).mono ?_
 rintro e w2 ⟨rfl, hb2⟩
 go_wp2_with fail
 go_ret
 exact ⟨rfl, hb1.trans (hb2.mono hb1.size)⟩

end Go.Proofs.YtjkecadfakjanaaGreatDoor
