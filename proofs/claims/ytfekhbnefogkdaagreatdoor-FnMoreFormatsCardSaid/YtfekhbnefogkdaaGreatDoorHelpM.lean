/- The laws' comparison names, walked at two answers that read alike: they have the same parts. Conditions: none. Printed by gen_helpd.py. -/
import Derived.Test.YtfekhbnefogkdaaGreatDoorTold
import Derived.Test.YtfekhbnefogkdaaGreatDoorRep
import Derived.Test.YtfekhbnefogkdaaGreatDoorGet
import Derived.Deep.DeepCutAuto
import Derived.Test.YtfekhbnefogkdaaGreatDoorBase
import Derived.Deep.MidRow
import Derived.BigFrame
set_option maxRecDepth 100000
set_option linter.unusedVariables false
set_option linter.unusedSimpArgs false
namespace Go.Proofs.YtfekhbnefogkdaaGreatDoor
open Go.RowKit
attribute [local go_sem] B_extract B_toList B_append

set_option maxHeartbeats 4000000 in
theorem c_names (T : ToldM) (vl vi vu vl' vi' vu' : Value) (w : World) :
  Calls Tryz.prog 36 #[toldVal T vl vi vu, toldVal T vl' vi' vu'] w fun e w' => e = .returned (.bool true) /\ Below w.heap.size w w' := by
 unfold toldVal
 go_enter Tryz.func36, Tryz.ntmps36
 go_wp2_with fail
 go_ret
 exact ⟨ret_bool (by simp), (Below_alloc w _).trans ((Below_alloc _ _).mono (by simp))⟩

end Go.Proofs.YtfekhbnefogkdaaGreatDoor

namespace Go.Proofs.YtfekhbnefogkdaaGreatDoor
open Go.RowKit
attribute [local go_sem] B_extract B_toList B_append

set_option maxHeartbeats 4000000 in
theorem c_words (T : ToldM) (vl vi vu vl' vi' vu' : Value) (w : World) :
  Calls Tryz.prog 17 #[toldVal T vl vi vu, toldVal T vl' vi' vu'] w fun e w' => e = .returned (.bool true) /\ Below w.heap.size w w' := by
 unfold toldVal
 go_enter Tryz.func17, Tryz.ntmps17
 go_wp2_with fail
 go_ret
 exact ⟨ret_bool (by simp), (Below_alloc w _).trans ((Below_alloc _ _).mono (by simp))⟩

end Go.Proofs.YtfekhbnefogkdaaGreatDoor

namespace Go.Proofs.YtfekhbnefogkdaaGreatDoor
open Go.RowKit
attribute [local go_sem] B_extract B_toList B_append

set_option maxHeartbeats 4000000 in
theorem c_sorts (T : ToldM) (vl vi vu vl' vi' vu' : Value) (w : World) :
  Calls Tryz.prog 37 #[toldVal T vl vi vu, toldVal T vl' vi' vu'] w fun e w' => e = .returned (.bool true) /\ Below w.heap.size w w' := by
 unfold toldVal
 go_enter Tryz.func37, Tryz.ntmps37
 go_wp2_with fail
 go_ret
 exact ⟨ret_bool (by simp), (Below_alloc w _).trans ((Below_alloc _ _).mono (by simp))⟩

end Go.Proofs.YtfekhbnefogkdaaGreatDoor

namespace Go.Proofs.YtfekhbnefogkdaaGreatDoor
open Go.RowKit
attribute [local go_sem] B_extract B_toList B_append
/-- Two lists that read alike are equal. -/
theorem c_texts (l : List Str) (v v' : Value) (w : World) (hv : StrsAt w v l) (hv' : StrsAt w v' l) :
  Calls Tryz.prog 18 #[v, v'] w fun e w' => e = .returned (.bool true) /\ ∃ n, w' = w.drewN n := by
 obtain ⟨h0, a, cap, rfl, hc⟩ := hv
 obtain ⟨_, a', cap', rfl, hc'⟩ := hv'
 have HC := Lib.hid hc
 have HC' := Lib.hid hc'
 clear hc hc'
 go_enter Tryz.func18, Tryz.ntmps18
 go_wp2
 go_loopw [13] (fun i wr => ∃ k n : Nat, k <= l.length /\ i = .int .i64 k /\ w.drewN n = wr) (fun i _ => l.length - (intOf i).toNat)
 case atStart => exact ⟨0, 0, Nat.zero_le _, rfl, rfl⟩
 case round =>
  obtain ⟨k, n, hk, rfl, rfl⟩ := hrel
  by_cases hlt : k < l.length
  ·obtain ⟨b, off, rfl, hcell⟩ := HC.out k hlt
   obtain ⟨b', off', rfl, hcell'⟩ := HC'.out k hlt
   have he : (l[k] != l[k]) = false := by simp
   have h1 : (0 : Int) <= (k : Int) := by omega
   have h2 : (k : Int) < (l.length : Int) := by omega
   go_upto_region 6 with fail
   go_quiet (fail)
   go_wp2_with fail
   go_roundw
   case rel => exact ⟨k + 1, _, by omega, by go_num, rfl⟩
   case measure => simp [intOf]; omega
  ·go_wp2
   go_ret
   exact ⟨rfl, n, rfl⟩

end Go.Proofs.YtfekhbnefogkdaaGreatDoor

namespace Go.Proofs.YtfekhbnefogkdaaGreatDoor
open Go.RowKit

theorem wpList_load_g {P : Program} {ops : Array Oper} {rest : List Oper} {op : Oper} {a : Act} {w : World} {Q : Exit -> Act -> World -> Prop} (hw : Region.wanted op (yielded ops a.tmps) = true) (ty : TypeId) (x : Operand) (ho : op.op = .load ty x)
  (b o : Nat) (hx : a.eval x = .pointer (some ⟨b, o, none⟩)) (cs : List Value) (d : TypeDesc) (hc : w.rangeAt b o cs) (hu : P.underlying ty = some d) (hd : d.isRow = true) (hi : (P.info? ty).map (·.size) = some cs.length)
  (h : wpList P ops Q rest (a.put op.dst (.agg cs.toArray)) w) : wpList P ops Q (op :: rest) a w :=
 BigFrame.wpList_want hw fun _ hK => wp_load_mid ty x ho b o hx cs d hc hu hd hi (hK _ _ h)
theorem range_blk {w : World} {g : Nat} {cs : Array Value} {t : TypeId} (h : w.heap[g]? = some (.cells cs t (0, 0))) : w.rangeAt g 0 cs.toList := by
 intro j v hj
 rw [Nat.zero_add, cell_blk h, <- hj, Array.getElem?_toList]
theorem blk_snd (w : World) (a b : Obj) : ((w.alloc a).alloc b).heap[w.heap.size + 1]? = some b := by
 have := blk_new (w.alloc a) b
 rw [show (w.alloc a).heap.size = w.heap.size + 1 by simp] at this
 exact this

end Go.Proofs.YtfekhbnefogkdaaGreatDoor
