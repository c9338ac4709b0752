/- PathBeforeLangAndOutputFormatAndExt, and the three lists of words of a path. Conditions: a path in memory that a parse has finished (PathOK). -/
import Derived.Test.YtjkecadfakjanaaGreatDoorGet3
import Derived.Laws.MakeOwn
import Derived.Laws.Tables
import Derived.Laws.OwnMore
import Derived.Deep.OwnRows
set_option maxRecDepth 100000
set_option linter.unusedVariables false
set_option linter.unusedSimpArgs false
namespace Go.Proofs.YtjkecadfakjanaaGreatDoor
open Go.RowKit
attribute [local go_sem] B_extract B_toList B_append

set_option maxHeartbeats 2000000 in
theorem c_PathBefore (p : PathS) (w : World) (base b : Nat) (vk vu vl : Value) (un : Un) (h : PathAt w base b p vk vu vl un) (ok : PathOK p) :
  Calls Tryz.prog 74 #[.pointer (some ⟨b, 0, none⟩)] w fun e w' => e = .returned (.string (B p.pathBeforeM)) /\ Below w.heap.size w w' := by
 have c0 := h.cell 0 (.string (B p.s)) rfl
 have c6 := h.cell 6 vk rfl
 have c8 := h.cell 8 (.int .i64 p.lang) rfl
 have c9 := h.cell 9 (.int .i64 p.fmt) rfl
 have hlen := ok.len
 have hfm := ok.fm
 have hla := ok.la
 have hh := Lib.hid h
 have HI := Lib.hid (c_idIndex p 0 w base b vk vu vl un h)
 have HR : Hid (p.pathBeforeM = if p.known = [] then p.norm p.s else p.norm (p.s.take ((p.known.headD (0, 0)).1 - 1))) := rfl
 generalize p.pathBeforeM = r at HR |-
 cases hk : p.known with
 | nil =>
  have HQ : Hid (r = p.norm p.s) := by show _ = _; rw [HR.out, if_pos hk]
  have H := Lib.hid (c_norm p w base b vk vu vl un h p.s (Nat.le_trans ok.len (by decide)))
  obtain ⟨a, cap, hvk, _⟩ := pairs_read h.kn
  have hl : p.known.length = 0 := by rw [hk]; rfl
  rw [hvk, hl] at c6
  clear h ok hk HR hvk hl
  go_enter Tryz.func74, Tryz.ntmps74
  go_wp2_with fail
  refine H.out.mono ?_; rintro e w' ⟨rfl, rfl⟩
  go_wp2_with fail
  go_ret
  exact ⟨ret_str HQ.out.symm, Below.refl _ _⟩
 | cons x t =>
  have HQ : Hid (r = p.norm (p.s.take (x.1 - 1))) := by show _ = _; rw [HR.out, if_neg (by rw [hk]; simp), hk]; rfl
  have HJ : Hid (idIndex p 0 = 0) := by show _ = _; rw [idIndex, hk]; simp
  obtain ⟨g, cap, hvk, k1, k2⟩ := first_read h hk
  have hx := ok.k0 x (by rw [hk]; rfl)
  have hxw := ok.kw x (by rw [hk]; simp)
  have hhc := ok.hc
  obtain ⟨lo, hj⟩ := x
  simp only at k1 k2 hx hxw HQ
  have g6 : (1 : Int) <= (lo : Int) := by omega
  have g7 : (lo : Int) <= (p.s.length : Int) := by omega
  have H : Hid (∀ w, PathAt w base b p vk vu vl un -> Calls Tryz.prog 101 #[.pointer (some ⟨b, 0, none⟩), .string (B (p.s.take (lo - 1)))] w fun e w' => e = .returned (.string (B r)) /\ w = w') := by
   intro w h
   rw [HQ.out]
   exact c_norm p w base b vk vu vl un h _ (by simp; omega)
  have c0' := h.acell 0 (.string (B p.s)) rfl
  rw [hvk] at c6
  clear h ok hk HR hvk hx hxw hhc
  have hlane : p.lang = -1 \/ (p.lang == -1) = false /\ 0 <= p.lang := by
   by_cases h : p.lang < 0
   ·exact .inl (by omega)
   ·exact .inr ⟨by rw [beq_eq_false_iff_ne]; omega, by omega⟩
  have hfmne : p.fmt = -1 \/ (p.fmt == -1) = false /\ 0 <= p.fmt := by
   by_cases h : p.fmt < 0
   ·exact .inl (by omega)
   ·exact .inr ⟨by rw [beq_eq_false_iff_ne]; omega, by omega⟩
  generalize p.lang = la at c8 hlane hla
  generalize p.fmt = fm at c9 hfmne hfm
  rcases hlane with rfl | ⟨q1, q2⟩
  all_goals
   rcases hfmne with rfl | ⟨q3, q4⟩
   all_goals
    go_enter Tryz.func74, Tryz.ntmps74
    go_wp2_with fail
    refine HI.out.mono ?_; rintro e w' ⟨rfl, rfl⟩
    rw [HJ.out]
    go_wp2_with fail
    go_quiet ((go_at_call 101; with_reducible exact Calls.quiet_of_same ((H.out _ (hh.out.below (Below_drewN (Below_alloc _ _) _))).mono fun _ _ ⟨he, hw⟩ => ⟨he, hw.symm⟩)))
    go_wp2_with fail
    go_ret
    exact ⟨rfl, Below_drewN (Below_alloc _ _) _⟩


theorem Tryz.infoStr : (Tryz.prog.info? 9).map (fun i => (i.zero, i.size, i.bytes)) = some (some (.string (B [])), 1, 16) := by kernel_rfl

/-- make([]string, n). -/
theorem run_makeStrs (n : Nat) (hn : n <= 1000000) (w : World) :
  (Instr.makeSlice 22 (.int .i64 (n : Int)) (.int .i64 (n : Int))).run Tryz.prog w = .ok (.slice (some ⟨w.heap.size, 0, none⟩) n n) (w.alloc (.cells (madeCells #[.string (B [])] n) 9)) :=
 run_make_row' 22 9 (.string (B [])) 16 Tryz.underlying22 Tryz.infoStr rfl .i64 .i64 n (by omega) (by omega) w

/-- v is a slice without memory, or its block is n or a later one. -/
def NewRow (n : Nat) (v : Value) : Prop := ∀ a l c, v = .slice (some a) l c -> n <= a.block
theorem NewRow.nil {n : Nat} : NewRow n (.slice none 0 0) := fun a l c h => by injection h; contradiction
theorem NewRow.own {n g l c : Nat} (h : n <= g) : NewRow n (.slice (some ⟨g, 0, none⟩) l c) := fun a l' c' e => by
 injection e with e1 _ _
 injection e1 with e2
 rw [<- e2]; exact h
theorem NewRow.mono {n m : Nat} {v : Value} (h : NewRow n v) (hm : m <= n) : NewRow m v := fun a l c e => Nat.le_trans hm (h a l c e)
theorem StrsAt.setRow {w : World} {v : Value} {l : List Str} {n g : Nat} {cs : Array Value} (h : StrsAt w v l) (hn : NewRow n v) (hg : g < n) : StrsAt (w.setRow g cs) v l := by
 obtain ⟨h0, a, cap, rfl, h1⟩ := h
 refine ⟨h0, a, cap, rfl, fun i hi => ?_⟩
 obtain ⟨b, off, e, hc⟩ := h1 i hi
 refine ⟨b, off, e, ?_⟩
 subst e
 have := hn _ _ _ rfl
 rw [cell_setRow_other _ _ _ _ (show b ≠ g by simp only at this; omega)]
 exact hc

/-- Block g is a row of n texts whose first k are those of F. -/
def RowTo (w : World) (g n k : Nat) (F : Nat -> Str) : Prop := ∃ f, w.rowIs g 9 n f /\ ∀ i, i < k -> f i = .string (B (F i))
theorem RowTo.made (w : World) (n : Nat) (F : Nat -> Str) : RowTo (w.alloc (.cells (madeCells #[.string (B [])] n) 9)) w.heap.size n 0 F :=
 ⟨_, World.rowIs_made w (.string (B [])) n 9, fun i hi => by omega⟩
theorem RowTo.below {w w' : World} {g n k : Nat} {F : Nat -> Str} (h : RowTo w g n k F) (hb : Below w.heap.size w w') : RowTo w' g n k F := by
 obtain ⟨f, h1, h2⟩ := h
 exact ⟨f, h1.of_block (hb.block g h1.lt), h2⟩
theorem RowTo.set {w : World} {g n k : Nat} {F : Nat -> Str} (h : RowTo w g n k F) : RowTo (w.setCell ⟨g, k, none⟩ (.string (B (F k)))) g n (k + 1) F := by
 obtain ⟨f, h1, h2⟩ := h
 refine ⟨_, h1.set k (.string (B (F k))), fun i hi => ?_⟩
 by_cases e : i = k
 ·rw [if_pos e, e]
 ·rw [if_neg e]; exact h2 i (by omega)
theorem RowTo.frozen {w : World} {g n k : Nat} {F : Nat -> Str} (h : RowTo w g n k F) (i : Nat) : w.frozen? ⟨g, i, none⟩ = false := by
 obtain ⟨f, h1, _⟩ := h
 exact h1.frozen i
theorem RowTo.has {w : World} {g n k : Nat} {F : Nat -> Str} (h : RowTo w g n k F) {i : Nat} (hi : i < n) : ∃ v, w.cell? ⟨g, i, none⟩ = some v := by
 obtain ⟨f, h1, _⟩ := h
 exact ⟨_, h1.cell hi⟩
theorem RowTo.lt {w : World} {g n k : Nat} {F : Nat -> Str} (h : RowTo w g n k F) : g < w.heap.size := by
 obtain ⟨f, h1, _⟩ := h
 exact h1.lt
theorem RowTo.strs {w : World} {g : Nat} {l : List Str} {F : Nat -> Str} (h : RowTo w g l.length l.length F) (hF : ∀ i (hi : i < l.length), F i = l[i]) (hl : l.length <= 140737488355328) : StrsAt w (.slice (some ⟨g, 0, none⟩) l.length l.length) l := by
 obtain ⟨f, h1, h2⟩ := h
 refine ⟨hl, _, _, rfl, fun i hi => ⟨g, 0, rfl, ?_⟩⟩
 rw [Nat.zero_add, h1.cell hi, h2 i hi, hF i hi]

set_option maxHeartbeats 2000000 in
theorem c_Identifiers (p : PathS) (w : World) (base b : Nat) (vk vu vl : Value) (un : Un) (h : PathAt w base b p vk vu vl un) (ok : PathOK p) :
  Calls Tryz.prog 84 #[.pointer (some ⟨b, 0, none⟩)] w fun e w' => ∃ v, e = .returned v /\ StrsAt w' v (p.known.map (sub p.s)) /\ NewRow w.heap.size v /\ Below w.heap.size w w' := by
 have c6 := h.cell 6 vk rfl
 have c6' := h.acell 6 vk rfl
 have hlen := ok.len
 have hkw := Lib.hid ok.kw
 have hkl := ok.kl
 have hh := Lib.hid h
 obtain ⟨a, cap, hvk, _⟩ := pairs_read h.kn
 rw [hvk] at c6 c6'
 have HVK := Lib.hid hvk
 clear hvk h ok
 have hmk := run_makeStrs p.known.length hkl
 have HR0 := Lib.hid (RowTo.made w p.known.length (fun i => sub p.s (p.known.getD i (0, 0))))
 have HB0 := Lib.hid (Below_alloc w (.cells (madeCells #[.string (B [])] p.known.length) 9))
 have hsz0 : Hid ((w.alloc (.cells (madeCells #[.string (B [])] p.known.length) 9)).heap.size = w.heap.size + 1) := by show _ = _; simp
 go_enter Tryz.func84, Tryz.ntmps84
 go_wp2_with fail
 clear c6 c6' hmk
 go_loopw [17] (fun i wr => ∃ k : Nat, k <= p.known.length /\ i = .int .i64 k /\ RowTo wr w.heap.size p.known.length k (fun i => sub p.s (p.known.getD i (0, 0))) /\ Below w.heap.size w wr) (fun i _ => p.known.length - (intOf i).toNat)
 case atStart => exact ⟨0, Nat.zero_le _, rfl, HR0.out, HB0.out⟩
 case round =>
  obtain ⟨k, hk, rfl, hrow, hb⟩ := hrel
  by_cases hlt : k < p.known.length
  ·have hp := hh.out.below hb
   have c0 := hp.acell 0 (.string (B p.s)) rfl
   obtain ⟨a', cap', ea, hcells⟩ := pairs_read hp.kn
   have ea := ea.symm.trans HVK.out
   obtain ⟨rfl, -, rfl⟩ := Value.slice.inj ea
   obtain ⟨g, rfl, k1, k2, _, _⟩ := hcells k hlt
   obtain ⟨hw1, hw2⟩ := hkw.out _ (List.getElem_mem hlt)
   have hF : (fun i => sub p.s (p.known.getD i (0, 0))) k = (p.s.drop p.known[k].1).take (p.known[k].2 - p.known[k].1) := by simp [List.getD, hlt, sub]
   generalize p.known[k] = x at k1 k2 hw1 hw2 hF
   obtain ⟨lo, hi⟩ := x
   simp only at k1 k2 hw1 hw2 hF
   have g1 : (lo : Int) <= (hi : Int) := by omega
   have g2 : (hi : Int) <= (p.s.length : Int) := by omega
   have hrow2 : Hid (∀ o, RowTo (((wr.setCell ⟨w.heap.size, k, none⟩ (.string (B ((p.s.drop lo).take (hi - lo))))).alloc o).drew) w.heap.size p.known.length (k + 1) (fun i => sub p.s (p.known.getD i (0, 0)))) := by
    intro o
    have := hrow.set
    rw [hF] at this
    exact (this.below (Below_alloc _ o)).below (Below_drewN (Below.refl _ _) 1)
   have hsz1 : ∀ v, w.heap.size <= (wr.setCell ⟨w.heap.size, k, none⟩ v).heap.size := fun v => by simpa [World.setCell] using hb.size
   have hb2 : Hid (∀ o v, Below w.heap.size w (((wr.setCell ⟨w.heap.size, k, none⟩ v).alloc o).drew)) := fun o v => Below_drewN ((hb.setCell (p := ⟨w.heap.size, k, none⟩) (Nat.le_refl _) v).alloc (hsz1 v) o) 1
   have hfr : ∀ o, (wr.alloc o).frozen? ⟨w.heap.size, k, none⟩ = false := fun o => (hrow.below (Below_alloc wr o)).frozen k
   obtain ⟨v0, hv0⟩ := hrow.has hlt
   have hv0' : ∀ o, (wr.alloc o).cell? ⟨w.heap.size, k, none⟩ = some v0 := fun o => ((Below_alloc wr o).cell (p := ⟨w.heap.size, k, none⟩) hrow.lt).trans hv0
   have hbs := hb.size
   have hrl := hrow.lt
   clear hF hw1 hw2 hcells hp ea hrow
   go_wp2_with fail
   refine wp_tail 12 (by kernel_rfl) (by kernel_rfl) ?_
   simp only [List.take_succ_cons, List.take_zero, List.drop_succ_cons, List.drop_zero]
   repeat still_step
   try refine wpStill_nil ?_
   go_wp2_with fail
   exact ⟨⟨k + 1, hlt, rfl, hrow2.out _, hb2.out _ _⟩, by simp only [intOf]; omega⟩
  ·have hke : k = p.known.length := by omega
   subst hke
   have hst : Hid (StrsAt wr (.slice (some ⟨w.heap.size, 0, none⟩) p.known.length p.known.length) (p.known.map (sub p.s))) := by
    have := RowTo.strs (l := p.known.map (sub p.s)) (w := wr) (g := w.heap.size) (F := fun i => sub p.s (p.known.getD i (0, 0))) (by simpa using hrow) (fun i hi => by simp at hi; simp [List.getD, hi]) (by simp; omega)
    show StrsAt _ _ _
    simpa using this
   clear hrow
   go_wp2_with fail
   go_ret
   exact ⟨_, rfl, hst.out, NewRow.own (Nat.le_refl _), hb⟩

set_option maxHeartbeats 2000000 in
theorem c_IdentifiersUnknown (p : PathS) (w : World) (base b : Nat) (vk vu vl : Value) (un : Un) (h : PathAt w base b p vk vu vl un) (ok : PathOK p) :
  Calls Tryz.prog 85 #[.pointer (some ⟨b, 0, none⟩)] w fun e w' => ∃ v, e = .returned v /\ StrsAt w' v (p.unknown.map (sub p.s)) /\ NewRow w.heap.size v /\ Below w.heap.size w w' := by
 have c6 := h.cell 7 vu rfl
 have c6' := h.acell 7 vu rfl
 have hlen := ok.len
 have hkw := Lib.hid ok.uw
 have hkl := ok.ul
 have hh := Lib.hid h
 obtain ⟨a, cap, hvk, _⟩ := pairs_read h.uk
 rw [hvk] at c6 c6'
 have HVK := Lib.hid hvk
 clear hvk h ok
 have hmk := run_makeStrs p.unknown.length hkl
 have HR0 := Lib.hid (RowTo.made w p.unknown.length (fun i => sub p.s (p.unknown.getD i (0, 0))))
 have HB0 := Lib.hid (Below_alloc w (.cells (madeCells #[.string (B [])] p.unknown.length) 9))
 have hsz0 : Hid ((w.alloc (.cells (madeCells #[.string (B [])] p.unknown.length) 9)).heap.size = w.heap.size + 1) := by show _ = _; simp
 go_enter Tryz.func85, Tryz.ntmps85
 go_wp2_with fail
 clear c6 c6' hmk
 go_loopw [17] (fun i wr => ∃ k : Nat, k <= p.unknown.length /\ i = .int .i64 k /\ RowTo wr w.heap.size p.unknown.length k (fun i => sub p.s (p.unknown.getD i (0, 0))) /\ Below w.heap.size w wr) (fun i _ => p.unknown.length - (intOf i).toNat)
 case atStart => exact ⟨0, Nat.zero_le _, rfl, HR0.out, HB0.out⟩
 case round =>
  obtain ⟨k, hk, rfl, hrow, hb⟩ := hrel
  by_cases hlt : k < p.unknown.length
  ·have hp := hh.out.below hb
   have c0 := hp.acell 0 (.string (B p.s)) rfl
   obtain ⟨a', cap', ea, hcells⟩ := pairs_read hp.uk
   have ea := ea.symm.trans HVK.out
   obtain ⟨rfl, -, rfl⟩ := Value.slice.inj ea
   obtain ⟨g, rfl, k1, k2, _, _⟩ := hcells k hlt
   obtain ⟨hw1, hw2⟩ := hkw.out _ (List.getElem_mem hlt)
   have hF : (fun i => sub p.s (p.unknown.getD i (0, 0))) k = (p.s.drop p.unknown[k].1).take (p.unknown[k].2 - p.unknown[k].1) := by simp [List.getD, hlt, sub]
   generalize p.unknown[k] = x at k1 k2 hw1 hw2 hF
   obtain ⟨lo, hi⟩ := x
   simp only at k1 k2 hw1 hw2 hF
   have g1 : (lo : Int) <= (hi : Int) := by omega
   have g2 : (hi : Int) <= (p.s.length : Int) := by omega
   have hrow2 : Hid (∀ o, RowTo (((wr.setCell ⟨w.heap.size, k, none⟩ (.string (B ((p.s.drop lo).take (hi - lo))))).alloc o).drew) w.heap.size p.unknown.length (k + 1) (fun i => sub p.s (p.unknown.getD i (0, 0)))) := by
    intro o
    have := hrow.set
    rw [hF] at this
    exact (this.below (Below_alloc _ o)).below (Below_drewN (Below.refl _ _) 1)
   have hsz1 : ∀ v, w.heap.size <= (wr.setCell ⟨w.heap.size, k, none⟩ v).heap.size := fun v => by simpa [World.setCell] using hb.size
   have hb2 : Hid (∀ o v, Below w.heap.size w (((wr.setCell ⟨w.heap.size, k, none⟩ v).alloc o).drew)) := fun o v => Below_drewN ((hb.setCell (p := ⟨w.heap.size, k, none⟩) (Nat.le_refl _) v).alloc (hsz1 v) o) 1
   have hfr : ∀ o, (wr.alloc o).frozen? ⟨w.heap.size, k, none⟩ = false := fun o => (hrow.below (Below_alloc wr o)).frozen k
   obtain ⟨v0, hv0⟩ := hrow.has hlt
   have hv0' : ∀ o, (wr.alloc o).cell? ⟨w.heap.size, k, none⟩ = some v0 := fun o => ((Below_alloc wr o).cell (p := ⟨w.heap.size, k, none⟩) hrow.lt).trans hv0
   have hbs := hb.size
   have hrl := hrow.lt
   clear hF hw1 hw2 hcells hp ea hrow
   go_wp2_with fail
   refine wp_tail 12 (by kernel_rfl) (by kernel_rfl) ?_
   simp only [List.take_succ_cons, List.take_zero, List.drop_succ_cons, List.drop_zero]
   repeat still_step
   try refine wpStill_nil ?_
   go_wp2_with fail
   exact ⟨⟨k + 1, hlt, rfl, hrow2.out _, hb2.out _ _⟩, by simp only [intOf]; omega⟩
  ·have hke : k = p.unknown.length := by omega
   subst hke
   have hst : Hid (StrsAt wr (.slice (some ⟨w.heap.size, 0, none⟩) p.unknown.length p.unknown.length) (p.unknown.map (sub p.s))) := by
    have := RowTo.strs (l := p.unknown.map (sub p.s)) (w := wr) (g := w.heap.size) (F := fun i => sub p.s (p.unknown.getD i (0, 0))) (by simpa using hrow) (fun i hi => by simp at hi; simp [List.getD, hi]) (by simp; omega)
    show StrsAt _ _ _
    simpa using this
   clear hrow
   go_wp2_with fail
   go_ret
   exact ⟨_, rfl, hst.out, NewRow.own (Nat.le_refl _), hb⟩

theorem le_i64 (n : Nat) (h : n <= 1000000) : (0 : Int) <= (n : Int) /\ ((n : Nat) : Int) < 9223372036854775808 := by omega

set_option maxHeartbeats 2000000 in
theorem c_asStrings (p : PathS) (w : World) (base b : Nat) (vk vu vl : Value) (un : Un) (h : PathAt w base b p vk vu vl un) (l : List Nat) (a : Option Addr) (cap : Nat) (hw : Within p.s p.known) (hs : p.s.length <= 140737488355328) (hl : l.length <= 1000000)
  (hc : ∀ i (hi : i < l.length), ∃ g, g < w.heap.size /\ a = some ⟨g, 0, none⟩ /\ w.cell? ⟨g, i, none⟩ = some (.int .i64 l[i])) :
  Calls Tryz.prog 117 #[.pointer (some ⟨b, 0, none⟩), .slice a l.length cap] w fun e w' => ∃ v, e = .returned v /\ StrsAt w' v (l.map fun (i : Nat) => p.idStr i) /\ NewRow w.heap.size v /\ Below w.heap.size w w' := by
 have hh := Lib.hid h
 have HC := Lib.hid hc
 have hhw := Lib.hid hw
 clear h hc hw
 cases hx : l with
 | nil =>
  have hst := StrsAt.nil w
  clear HC
  go_enter Tryz.func117, Tryz.ntmps117
  go_wp2_with fail
  go_ret
  exact ⟨_, rfl, hst, NewRow.nil, Below.refl _ _⟩
 | cons x t =>
  rw [<- hx]
  have g0 : ((l.length : Int) == 0) = false := by rw [beq_eq_false_iff_ne, hx]; simp; omega
  have hmk := run_makeStrs l.length hl
  have HR0 := Lib.hid (RowTo.made w l.length (fun i => p.idStr (l.getD i 0)))
  have HB0 := Lib.hid (Below_alloc w (.cells (madeCells #[.string (B [])] l.length) 9))
  clear hx
  go_enter Tryz.func117, Tryz.ntmps117
  go_wp2_with fail
  clear hmk
  go_loopw [16] (fun i wr => ∃ k : Nat, k <= l.length /\ i = .int .i64 k /\ RowTo wr w.heap.size l.length k (fun i => p.idStr (l.getD i 0)) /\ Below w.heap.size w wr) (fun i _ => l.length - (intOf i).toNat)
  case atStart => exact ⟨0, Nat.zero_le _, rfl, HR0.out, HB0.out⟩
  case round =>
   obtain ⟨k, hk, rfl, hrow, hb⟩ := hrel
   by_cases hlt : k < l.length
   ·obtain ⟨g, hg, rfl, k1⟩ := HC.out k hlt
    rw [<- bcell hb |>.1 g k hg] at k1
    have hF : p.idStr (l.getD k 0 : Nat) = p.idStr (l[k] : Nat) := by simp [List.getD, hlt]
    generalize l[k] = x at k1 hF
    have H := Lib.hid (c_idStr p x wr base b vk vu vl un (hh.out.below hb) hhw.out hs)
    have hrow2 : Hid (∀ w2, Below wr.heap.size wr w2 -> RowTo (w2.setCell ⟨w.heap.size, k, none⟩ (.string (B (p.idStr x)))) w.heap.size l.length (k + 1) (fun i => p.idStr (l.getD i 0))) := by
     intro w2 h2
     have := (hrow.below h2).set
     rw [hF] at this
     exact this
    have hfr : Hid (∀ w2, Below wr.heap.size wr w2 -> w2.frozen? ⟨w.heap.size, k, none⟩ = false) := fun w2 h2 => (hrow.below h2).frozen k
    have hhas : Hid (∀ w2, Below wr.heap.size wr w2 -> ∃ v, w2.cell? ⟨w.heap.size, k, none⟩ = some v) := fun w2 h2 => (hrow.below h2).has hlt
    have hb2 : Hid (∀ w2 v, Below wr.heap.size wr w2 -> Below w.heap.size w (w2.setCell ⟨w.heap.size, k, none⟩ v)) := fun w2 v h2 => (hb.trans (h2.mono hb.size)).setCell (p := ⟨w.heap.size, k, none⟩) (Nat.le_refl _) v
    clear hF hrow
    go_wp2_with fail
    refine H.out.mono ?_; rintro e w2 ⟨rfl, h2⟩
    have f1 := hfr.out w2 h2
    obtain ⟨v0, f2⟩ := hhas.out w2 h2
    go_wp2_with fail
    exact ⟨⟨k + 1, hlt, rfl, hrow2.out _ h2, hb2.out _ _ h2⟩, by simp only [intOf]; omega⟩
   ·have hke : k = l.length := by omega
    subst hke
    have hst : Hid (StrsAt wr (.slice (some ⟨w.heap.size, 0, none⟩) l.length l.length) (l.map fun (i : Nat) => p.idStr i)) := by
     have := RowTo.strs (l := l.map fun (i : Nat) => p.idStr i) (w := wr) (g := w.heap.size) (F := fun i => p.idStr (l.getD i 0)) (by simpa using hrow) (fun i hi => by simp at hi; simp [List.getD, hi]) (by simp; omega)
     show StrsAt _ _ _
     simpa using this
    clear hrow
    go_wp2_with fail
    go_ret
    exact ⟨_, rfl, hst.out, NewRow.own (Nat.le_refl _), hb⟩

theorem c_Langs (p : PathS) (w : World) (base b : Nat) (vk vu vl : Value) (un : Un) (h : PathAt w base b p vk vu vl un) (ok : PathOK p) :
  Calls Tryz.prog 83 #[.pointer (some ⟨b, 0, none⟩)] w fun e w' => ∃ v, e = .returned v /\ StrsAt w' v (p.langs.map fun (i : Nat) => p.idStr i) /\ NewRow w.heap.size v /\ Below w.heap.size w w' := by
 have c14 := h.cell 14 vl rfl
 obtain ⟨a, cap, hv, hc⟩ := nats_read h.lg
 have H := Lib.hid (c_asStrings p w base b vk vu vl un h p.langs a cap ok.kw (Nat.le_trans ok.len (by decide)) ok.ll fun i hi => by
  obtain ⟨g, e, hg⟩ := hc i hi
  exact ⟨g, cell_lt hg, e, hg⟩)
 rw [hv] at c14
 clear hc ok h hv
 go_enter Tryz.func83, Tryz.ntmps83
 go_wp2_with fail
 refine H.out.mono ?_; rintro e w' ⟨v, rfl, h1, h3, h2⟩
 go_wp2_with fail
 go_ret
 exact ⟨_, rfl, h1, h3, h2⟩

end Go.Proofs.YtjkecadfakjanaaGreatDoor
