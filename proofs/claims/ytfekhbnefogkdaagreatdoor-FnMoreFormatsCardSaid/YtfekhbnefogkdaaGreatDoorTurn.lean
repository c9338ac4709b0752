/- laws.turned walked: a site with its lists the other way round. Printed by gen_turn.py. Conditions: a site in memory, of lists of at most 2000 entries. -/
import Derived.Test.YtfekhbnefogkdaaGreatDoorKnowA
import Derived.Test.YtfekhbnefogkdaaGreatDoorTwice
import Derived.Test.YtfekhbnefogkdaaGreatDoorHelpM
import Derived.Deep.AppendLies
import Derived.Deep.DeepCutAuto
set_option maxRecDepth 100000
set_option linter.unusedVariables false
set_option linter.unusedSimpArgs false
namespace Go.Proofs.YtfekhbnefogkdaaGreatDoor
open Go.RowKit
attribute [local go_sem] B_extract B_toList B_append

def fmtCells (l : List (Str × Str)) : List Value := l.flatMap fun f => [.string (B f.1), .string (B f.2)]
theorem fmtCells_add (l : List (Str × Str)) (x : Str × Str) : fmtCells (l ++ [x]) = fmtCells l ++ [.string (B x.1), .string (B x.2)] := by simp [fmtCells]
theorem fmtCells_get : ∀ (l : List (Str × Str)) (i : Nat) (h : i < l.length), (fmtCells l)[i * 2]? = some (.string (B l[i].1)) /\ (fmtCells l)[i * 2 + 1]? = some (.string (B l[i].2))
 | a :: t, 0, _ => ⟨rfl, rfl⟩
 | a :: t, i + 1, h => by
  have := fmtCells_get t i (by simpa using h)
  rw [show (i + 1) * 2 = i * 2 + 2 from by omega]
  exact this
theorem fmtCells_len (l : List (Str × Str)) : (fmtCells l).length = l.length * 2 := by
 induction l with
 | nil => rfl
 | cons a t ih => simp [fmtCells] at ih |-; omega
theorem Tryz.infoFmt : (Tryz.prog.info? 36).map (fun i => (i.zero, i.size, i.bytes)) = some (some (.agg #[.string (B []), .string (B [])]), 2, 32) := by kernel_rfl
theorem Tryz.infoStrT : (Tryz.prog.info? 9).map (fun i => (i.zero, i.size, i.bytes)) = some (some (.string (B [])), 1, 16) := by kernel_rfl
theorem str_site : (9 : TypeId) ≠ 25 := by decide
theorem fmt_site : (36 : TypeId) ≠ 25 := by decide

/-- But for one block the old blocks are as they were. -/
def Far (b : Nat) (w w' : World) : Prop := w.heap.size <= w'.heap.size /\ ∀ k, k < w.heap.size -> k ≠ b -> w'.heap[k]? = w.heap[k]?
theorem Far.refl (b : Nat) (w : World) : Far b w w := ⟨Nat.le_refl _, fun _ _ _ => rfl⟩
theorem Far.trans {b : Nat} {w w1 w2 : World} (h : Far b w w1) (h' : Far b w1 w2) : Far b w w2 :=
 ⟨Nat.le_trans h.1 h'.1, fun k hk hn => (h'.2 k (Nat.lt_of_lt_of_le hk h.1) hn).trans (h.2 k hk hn)⟩
theorem Far.cell {b : Nat} {w w' : World} (h : Far b w w') {g k : Nat} {v : Value} (hc : w.cell? ⟨g, k, none⟩ = some v) (hn : g ≠ b) : w'.cell? ⟨g, k, none⟩ = some v := by
 have := World.cell?_of_block (w := w) (w' := w') (a := ⟨g, k, none⟩) (h.2 g (cell_lt hc) hn)
 rw [this]; exact hc
/-- But for two blocks. -/
def Far2 (b : Nat) (w w' : World) : Prop := w.heap.size <= w'.heap.size /\ ∀ k, k < w.heap.size -> k ≠ b -> k + 1 ≠ b -> w'.heap[k]? = w.heap[k]?
theorem Far2.refl (b : Nat) (w : World) : Far2 b w w := ⟨Nat.le_refl _, fun _ _ _ _ => rfl⟩
theorem Far2.trans {b : Nat} {w w1 w2 : World} (h : Far2 b w w1) (h' : Far2 b w1 w2) : Far2 b w w2 :=
 ⟨Nat.le_trans h.1 h'.1, fun k hk hn hm => (h'.2 k (Nat.lt_of_lt_of_le hk h.1) hn hm).trans (h.2 k hk hn hm)⟩
theorem Far.two {b : Nat} {w w' : World} (h : Far b w w') : Far2 b w w' := ⟨h.1, fun k hk hn _ => h.2 k hk hn⟩
theorem Far2.cell {b : Nat} {w w' : World} (h : Far2 b w w') {g k : Nat} {v : Value} (hc : w.cell? ⟨g, k, none⟩ = some v) (hn : g ≠ b) (hm : g + 1 ≠ b) : w'.cell? ⟨g, k, none⟩ = some v := by
 have := World.cell?_of_block (w := w) (w' := w') (a := ⟨g, k, none⟩) (h.2 g (cell_lt hc) hn hm)
 rw [this]; exact hc
theorem own_cells {w : World} {base : Nat} {e : TypeId} {sz : Nat} {x : Value} {n : Nat} {xs : List Value} (h : w.ownsRow base e sz x n xs) (hxs : xs.length = n * sz) :
  (x = .slice none 0 0 /\ n = 0) \/ ∃ g cap, x = .slice (some ⟨g, 0, none⟩) n cap /\ base <= g /\ n <= cap /\ ∀ j v, xs[j]? = some v -> w.cell? ⟨g, j, none⟩ = some v := by
 obtain ⟨h1, h | ⟨g, cap, cur, rfl, hb, hg, hn, hm, hc, ht⟩⟩ := h
 ·obtain ⟨rfl, h0⟩ := h
  exact .inl ⟨rfl, h0⟩
 ·refine .inr ⟨g, cap, rfl, hb, hn, fun j v hj => ?_⟩
  have hjl : j < xs.length := by
   rcases Nat.lt_or_ge j xs.length with q | q
   ·exact q
   ·rw [List.getElem?_eq_none q] at hj; cases hj
  rw [<- ht, List.getElem?_take_of_lt (by omega), Array.getElem?_toList] at hj
  rw [cell_blk hg, hj]
theorem own_strsT {w : World} {base : Nat} {x : Value} {l : List Str} (h : w.ownsRow base 9 1 x l.length (strCells l)) (hl : l.length <= 140737488355328) {b : Nat} (hb : b < base) : (∀ w', Far2 b w w' -> StrsAt w' x l) /\ CapOK x /\ ∃ a c, x = .slice a l.length c := by
 rcases own_cells h (by simp [strCells]) with ⟨rfl, h0⟩ | ⟨g, cap, rfl, hg, hn, hc⟩
 ·have : l = [] := List.length_eq_zero_iff.1 h0
  subst this
  exact ⟨fun w' _ => StrsAt.nil w', fun a n c e => by injection e; omega, none, 0, rfl⟩
 ·refine ⟨fun w' hf => ⟨hl, some ⟨g, 0, none⟩, cap, rfl, fun i hi => ⟨g, 0, rfl, ?_⟩⟩, fun a n c e => by injection e; omega, _, _, rfl⟩
  rw [Nat.zero_add]
  exact hf.cell (hc i _ (by simp [strCells, hi])) (by omega) (by omega)
theorem own_fmtsT {w : World} {base : Nat} {x : Value} {l : List (Str × Str)} (h : w.ownsRow base 36 2 x l.length (fmtCells l)) (hl : l.length <= 140737488355328) {b : Nat} (hb : b < base) : (∀ w', Far2 b w w' -> FmtsAt w' x l) /\ ∃ a c, x = .slice a l.length c := by
 rcases own_cells h (fmtCells_len l) with ⟨rfl, h0⟩ | ⟨g, cap, rfl, hg, hn, hc⟩
 ·have : l = [] := List.length_eq_zero_iff.1 h0
  subst this
  exact ⟨fun w' _ => ⟨by simp, none, 0, rfl, fun i hi => by simp at hi⟩, none, 0, rfl⟩
 ·refine ⟨fun w' hf => ⟨hl, some ⟨g, 0, none⟩, cap, rfl, fun i hi => ⟨g, 0, rfl, ?_, ?_⟩⟩, _, _, rfl⟩
  ·rw [Nat.zero_add]
   exact hf.cell (hc _ _ (fmtCells_get l i hi).1) (by omega) (by omega)
  ·rw [Nat.zero_add]
   exact hf.cell (hc _ _ (fmtCells_get l i hi).2) (by omega) (by omega)

/-- While a loop of turned runs: the blocks ahead, the struct, the row that grows. -/
structure TLoop (w wj wr : World) (cs : Array Value) (e : TypeId) (sz : Nat) (x : Value) (n : Nat) (xs : List Value) : Prop where
 far : Far (w.heap.size + 2) wj wr
 blk : wr.heap[w.heap.size + 2]? = some (.cells cs 25 (0, 0))
 own : wr.ownsRow wj.heap.size e sz x n xs
 bel : Below w.heap.size w wr
 lt : w.heap.size + 2 < wj.heap.size
/-- What an append leaves of the struct. -/
theorem TLoop.behind {w wj wr wa w3 : World} {cs : Array Value} {e : TypeId} {sz : Nat} {x : Value} {n : Nat} {xs : List Value} (h : TLoop w wj wr cs e sz x n xs) (hne : e ≠ 25) (hwa : Below wr.heap.size wr wa) (hg : wa.grownBy w3 x.ownBlock) : w3.heap[w.heap.size + 2]? = some (.cells cs 25 (0, 0)) := by
 have hbl := (Array.getElem?_eq_some_iff.1 h.blk).1
 rw [hg.block _ (by have := hwa.size; omega) (fun q => by obtain ⟨cur, hc, _⟩ := ownsRow_blk h.own q.symm; exact blk_ne hc h.blk hne rfl), hwa.block _ hbl]
 exact h.blk
theorem TLoop.push {w wj wr wa w3 : World} {cs cs' : Array Value} {e : TypeId} {sz : Nat} {x : Value} {n : Nat} {xs ys : List Value} (h : TLoop w wj wr cs e sz x n xs) (hne : e ≠ 25) (hwa : Below wr.heap.size wr wa) (hg : wa.grownBy w3 x.ownBlock)
  {g cap m f : Nat} (hown : w3.ownsRow wj.heap.size e sz (.slice (some ⟨g, 0, none⟩) m cap) m ys) (hcs : cs.setIfInBounds f (.slice (some ⟨g, 0, none⟩) m cap) = cs') :
  TLoop w wj (w3.setCell ⟨w.heap.size + 2, f, none⟩ (.slice (some ⟨g, 0, none⟩) m cap)) cs' e sz (.slice (some ⟨g, 0, none⟩) m cap) m ys := by
 have hb3 := h.behind hne hwa hg
 have hsz := hwa.size
 have hfs := h.far.1
 have hgs := hg.size
 refine ⟨⟨?_, fun k hk hn => ?_⟩, ?_, ?_, ?_, h.lt⟩
 ·simp [World.setCell]; omega
 ·rw [heap_set_far _ hn, hg.block k (by omega) (fun q => by have := (ownsRow_blk h.own q.symm).choose_spec.2.1; omega), hwa.block k (by omega)]
  exact h.far.2 k hk hn
 ·rw [blk_set _ hb3, hcs]
 ·refine ownsRow_far hown fun k hk => heap_set_far _ ?_
  obtain ⟨cur, hc, _⟩ := ownsRow_blk hown hk
  exact blk_ne hc hb3 hne
 ·refine Below.setCell (Below.grown (belowThen h.bel hwa (Nat.le_refl _)) hg ?_ ?_) (by show w.heap.size <= w.heap.size + 2; omega) _
  ·have := h.bel.size; omega
  ·intro k hk
   have := (ownsRow_blk h.own hk).choose_spec.2.1
   have := h.lt
   omega

set_option maxHeartbeats 16000000 in
theorem c_turned (site : SiteM) (vl vd vf vc : Value) (w : World) (hv : SiteAt w vl vd vf vc site) (hl0 : site.languages.length <= 2000) (hl1 : site.disabled.length <= 2000) (hl2 : site.formats.length <= 2000) (hl3 : site.content.length <= 2000) :
  Calls Tryz.prog 11 #[.agg #[vl, vd, vf, vc]] w fun e w' => ∃ xl xd xf xc, e = .returned (.agg #[xl, xd, xf, xc]) /\ SiteAt w' xl xd xf xc (turnedL site) /\ CapOK xl /\ CapOK xd /\ CapOK xc /\ Below w.heap.size w w' := by
 have HV := Lib.hid hv
 obtain ⟨obs, hobs⟩ : ∃ o : Obj, o = .cells #[vl, vd, vf, vc] 25 := ⟨_, rfl⟩
 obtain ⟨oz, hoz⟩ : ∃ o : Obj, o = .cells #[.slice none 0 0, .slice none 0 0, .slice none 0 0, .slice none 0 0] 25 := ⟨_, rfl⟩
 have hB1 : Hid (Below w.heap.size w (((w.alloc obs).alloc oz).alloc oz)) := (Below_alloc w obs).trans (((Below_alloc (w.alloc obs) oz).trans ((Below_alloc ((w.alloc obs).alloc oz) oz).mono (by simp))).mono (by simp))
 have hz1 : (((w.alloc obs).alloc oz).alloc oz).heap.size = w.heap.size + 3 := by simp
 have hst : Hid ((((w.alloc obs).alloc oz).alloc oz).heap[w.heap.size]? = some (.cells #[vl, vd, vf, vc] 25 (0, 0))) := by
  have h := blk_old _ oz (blk_old _ oz (blk_new w obs))
  rw [hobs] at h |-; exact h
 have hrs : Hid ((((w.alloc obs).alloc oz).alloc oz).heap[w.heap.size + 1]? = some (.cells #[.slice none 0 0, .slice none 0 0, .slice none 0 0, .slice none 0 0] 25 (0, 0))) := by
  have h := blk_old _ oz (blk_new (w.alloc obs) oz)
  rw [show (w.alloc obs).heap.size = w.heap.size + 1 by simp] at h
  rw [hoz] at h |-; exact h
 have hvb : Hid ((((w.alloc obs).alloc oz).alloc oz).heap[w.heap.size + 2]? = some (.cells #[.slice none 0 0, .slice none 0 0, .slice none 0 0, .slice none 0 0] 25 (0, 0))) := by
  have h := blk_new ((w.alloc obs).alloc oz) oz
  rw [show ((w.alloc obs).alloc oz).heap.size = w.heap.size + 2 by simp] at h
  rw [hoz] at h |-; exact h
 clear hv
 go_enter Tryz.func11, Tryz.ntmps11
 go_upto_region 2 with fail
 rw [<- hobs, <- hoz]
 generalize ((w.alloc obs).alloc oz).alloc oz = w1 at hB1 hz1 hst hrs hvb |-
 rw [show w.heap.size + 1 + 1 = w.heap.size + 2 from rfl]
 replace hz1 := Lib.hid hz1
 obtain ⟨iS, is0, sz0, sz1, sz2⟩ := info_split Tryz.infoStrT
 obtain ⟨iF, if0, fz0, fz1, fz2⟩ := info_split Tryz.infoFmt
 obtain ⟨hn0, sa0, sc0, hsv0, hsc0⟩ := (HV.out.below hB1.out).l
 replace hsv0 := Lib.hid hsv0
 replace hsc0 := Lib.hid (show ∀ wx, Below w.heap.size w wx -> StrsAt wx vl site.languages from fun wx hb => (HV.out.below hb).l)
 have hs0 : Hid (∀ wx, Far (w.heap.size + 2) w1 wx -> wx.cell? ⟨w.heap.size, 0, none⟩ = some (.slice sa0 site.languages.length sc0)) := fun wx hf => by
  rw [<- hsv0.out]
  exact hf.cell (cell_blk hst.out 0) (by omega)
 have z0 := hs0.out _ (Far.refl _ _)
 have hw20 : w.heap.size + 2 < w1.heap.size := by have := hz1.out; omega
 go_wp2_with fail
 clear z0
 go_loopw [4] (fun i wr => ∃ (r : Nat) (x : Value), r <= site.languages.length /\ i = .int .i64 ((r : Int) - 1) /\ Hid (TLoop w w1 wr #[x, .slice none 0 0, .slice none 0 0, .slice none 0 0] 9 1 x (site.languages.drop r).reverse.length (strCells (site.languages.drop r).reverse))) (fun i _ => (intOf i + 1).toNat)
 case atStart =>
  refine ⟨site.languages.length, .slice none 0 0, Nat.le_refl _, rfl, ?_⟩
  rw [List.drop_length]
  exact ⟨Far.refl _ _, hvb.out, World.ownsRow_nil _ _ _ _, hB1.out, hw20⟩
 case round =>
  obtain ⟨r, x, hr, rfl, hT⟩ := hrel
  have zs := hs0.out _ hT.out.far
  have zb : wr.cell? ⟨w.heap.size + 2, 0, none⟩ = some x := cell_blk hT.out.blk 0
  rcases r with _ | q
  rotate_left 1
  ·have hq : q < site.languages.length := by omega
   have eq1 : (((q + 1 : Nat) : Int) - 1) = (q : Int) := by omega
   rw [eq1]
   have hdr : Hid ((site.languages.drop q).reverse = (site.languages.drop (q + 1)).reverse ++ [site.languages[q]]) := by
    show _ = _
    rw [List.drop_eq_getElem_cons hq, List.reverse_cons]
   obtain ⟨_, a', c', ea, hc⟩ := hsc0.out wr hT.out.bel
   rw [hsv0.out] at ea
   obtain ⟨rfl, -, rfl⟩ := Value.slice.inj ea
   obtain ⟨gb, go, hae, hx1⟩ := hc q hq
   subst hae
   clear ea hc
   have zsa : ∀ o, (wr.alloc o).cell? ⟨w.heap.size, 0, none⟩ = some (.slice (some ⟨gb, go, none⟩) site.languages.length sc0) := fun o => ((Below_alloc wr o).cell (p := ⟨w.heap.size, 0, none⟩) (cell_lt zs)).trans zs
   have zba : ∀ o, (wr.alloc o).cell? ⟨w.heap.size + 2, 0, none⟩ = some x := fun o => ((Below_alloc wr o).cell (p := ⟨w.heap.size + 2, 0, none⟩) (cell_lt zb)).trans zb
   have hx1a : ∀ o, (wr.alloc o).cell? ⟨gb, go + q, none⟩ = some (.string (B site.languages[q])) := fun o => ((Below_alloc wr o).cell (p := ⟨gb, go + q, none⟩) (cell_lt hx1)).trans hx1
   skip
   have hi0 : (0 : Int) <= (q : Int) := by omega
   have hi1 : (q : Int) < (site.languages.length : Int) := by omega
   have hwa : Hid (∀ o, Below wr.heap.size wr ((wr.alloc o).drew)) := fun o => Below_drewN (Below_alloc _ o) 1
   have hbase : ∀ o, w1.heap.size <= ((wr.alloc o).drew).heap.size := fun o => by have := hT.out.far.1; simp; omega
   have hrl : (site.languages.drop (q + 1)).reverse.length <= 2000 := by rw [List.length_reverse, List.length_drop]; omega
   have hmx : (site.languages.drop (q + 1)).reverse.length + 1 <= maxLen := Nat.le_trans (show (site.languages.drop (q + 1)).reverse.length + 1 <= 2001 by omega) (by decide)
   generalize hEL : site.languages[q] = el at hx1 hx1a hdr 
   have hmeas : (intOf (.int .i64 ((q : Int) - 1)) + 1).toNat < (intOf (.int .i64 (q : Int)) + 1).toNat := by first | (simp [intOf]; done) | (simp [intOf]; omega)
   go_upto_region 5 with fail
   generalize hRV : (site.languages.drop (q + 1)).reverse = RV at hT hdr hrl hmx
   go_region_law (refine step_append_lies _ (by rfl) (.tmp 17) (.tmp 23) 22 (by rfl) w1.heap.size 9 iS _ 1 16 Tryz.underlying22 is0 sz0 sz1 sz2 rfl (by decide) x RV.length (strCells RV) (by rfl) (hT.out.own.alloc _).drew _ 1 1 [.string (B el)] (by rfl) rfl (World.news_of_block (blk_new _ _)) (by simp [Value.oneCell']) (by decide) hmx (by omega) (hbase _) _ rfl ?_; intro g cap wx3 hown2 hgrow hat hlt; have hb3 := hT.out.behind str_site (hwa.out _) hgrow; have q6 : wx3.cell? ⟨w.heap.size + 2, 0, none⟩ = some x := cell_blk hb3 0; have q6f : wx3.frozen? ⟨w.heap.size + 2, 0, none⟩ = false := free_blk hb3 0; clear hb3; have hT' : Hid (TLoop w w1 (wx3.setCell ⟨w.heap.size + 2, 0, none⟩ (.slice (some ⟨g, 0, none⟩) (RV.length + 1) cap)) #[(.slice (some ⟨g, 0, none⟩) (RV.length + 1) cap), .slice none 0 0, .slice none 0 0, .slice none 0 0] 9 1 (.slice (some ⟨g, 0, none⟩) (RV.length + 1) cap) (site.languages.drop q).reverse.length (strCells (site.languages.drop q).reverse)) := (by rw [hdr.out, List.length_append, List.length_singleton, strCells_add]; exact hT.out.push str_site (hwa.out _) hgrow hown2 rfl); clear hown2 hgrow hat hlt)
   all_goals
    go_wp2_with fail
    go_roundw
    case rel => exact ⟨q, _, by omega, by go_num, hT'⟩
    case measure => first | exact hmeas | (simp [intOf]; omega)
  have e0 : (((0 : Nat) : Int) - 1) = -1 := by omega
  rw [e0]
  rw [List.drop_zero] at hT
  obtain ⟨hk0, hcap0, xa0, xc0, hxe0⟩ := own_strsT hT.out.own (by rw [List.length_reverse]; omega) (b := w.heap.size + 2) hw20
  rw [List.length_reverse] at hxe0
  subst hxe0
  replace hk0 := Lib.hid hk0
  clear zs zb
  have hT0 := hT
  have hst1 : Hid (wr.heap[w.heap.size]? = some (.cells #[vl, vd, vf, vc] 25 (0, 0))) := (hT.out.far.2 _ (by have := hw20; omega) (by omega)).trans hst.out
  have hrs1 : Hid (wr.heap[w.heap.size + 1]? = some (.cells #[.slice none 0 0, .slice none 0 0, .slice none 0 0, .slice none 0 0] 25 (0, 0))) := (hT.out.far.2 _ (by have := hw20; omega) (by omega)).trans hrs.out
  have hvb1 : Hid (wr.heap[w.heap.size + 2]? = some (.cells #[.slice xa0 site.languages.length xc0, .slice none 0 0, .slice none 0 0, .slice none 0 0] 25 (0, 0))) := hT.out.blk
  have hB2 : Hid (Below w.heap.size w wr) := hT.out.bel
  clear hT hsc0 hs0 hsv0
  generalize wr = w2 at hT0 hst1 hrs1 hvb1 hB2 hk0 |-
  clear hst hrs hvb hB1
  obtain ⟨hn1, sa1, sc1, hsv1, hsc1⟩ := (HV.out.below hB2.out).d
  replace hsv1 := Lib.hid hsv1
  replace hsc1 := Lib.hid (show ∀ wx, Below w.heap.size w wx -> StrsAt wx vd site.disabled from fun wx hb => (HV.out.below hb).d)
  have hs1 : Hid (∀ wx, Far (w.heap.size + 2) w2 wx -> wx.cell? ⟨w.heap.size, 1, none⟩ = some (.slice sa1 site.disabled.length sc1)) := fun wx hf => by
   rw [<- hsv1.out]
   exact hf.cell (cell_blk hst1.out 1) (by omega)
  have z1 := hs1.out _ (Far.refl _ _)
  have hw21 : w.heap.size + 2 < w2.heap.size := by have h1 := hT0.out.lt; have h2 := hT0.out.far.1; omega
  go_wp2_with fail
  clear z1
  go_loopw [5] (fun i wr => ∃ (r : Nat) (x : Value), r <= site.disabled.length /\ i = .int .i64 ((r : Int) - 1) /\ Hid (TLoop w w2 wr #[.slice xa0 site.languages.length xc0, x, .slice none 0 0, .slice none 0 0] 9 1 x (site.disabled.drop r).reverse.length (strCells (site.disabled.drop r).reverse))) (fun i _ => (intOf i + 1).toNat)
  case atStart =>
   refine ⟨site.disabled.length, .slice none 0 0, Nat.le_refl _, rfl, ?_⟩
   rw [List.drop_length]
   exact ⟨Far.refl _ _, hvb1.out, World.ownsRow_nil _ _ _ _, hB2.out, hw21⟩
  case round =>
   obtain ⟨r, x, hr, rfl, hT⟩ := hrel
   have zs := hs1.out _ hT.out.far
   have zb : wr.cell? ⟨w.heap.size + 2, 1, none⟩ = some x := cell_blk hT.out.blk 1
   rcases r with _ | q
   rotate_left 1
   ·have hq : q < site.disabled.length := by omega
    have eq1 : (((q + 1 : Nat) : Int) - 1) = (q : Int) := by omega
    rw [eq1]
    have hdr : Hid ((site.disabled.drop q).reverse = (site.disabled.drop (q + 1)).reverse ++ [site.disabled[q]]) := by
     show _ = _
     rw [List.drop_eq_getElem_cons hq, List.reverse_cons]
    obtain ⟨_, a', c', ea, hc⟩ := hsc1.out wr hT.out.bel
    rw [hsv1.out] at ea
    obtain ⟨rfl, -, rfl⟩ := Value.slice.inj ea
    obtain ⟨gb, go, hae, hx1⟩ := hc q hq
    subst hae
    clear ea hc
    have zsa : ∀ o, (wr.alloc o).cell? ⟨w.heap.size, 1, none⟩ = some (.slice (some ⟨gb, go, none⟩) site.disabled.length sc1) := fun o => ((Below_alloc wr o).cell (p := ⟨w.heap.size, 1, none⟩) (cell_lt zs)).trans zs
    have zba : ∀ o, (wr.alloc o).cell? ⟨w.heap.size + 2, 1, none⟩ = some x := fun o => ((Below_alloc wr o).cell (p := ⟨w.heap.size + 2, 1, none⟩) (cell_lt zb)).trans zb
    have hx1a : ∀ o, (wr.alloc o).cell? ⟨gb, go + q, none⟩ = some (.string (B site.disabled[q])) := fun o => ((Below_alloc wr o).cell (p := ⟨gb, go + q, none⟩) (cell_lt hx1)).trans hx1
    skip
    have hi0 : (0 : Int) <= (q : Int) := by omega
    have hi1 : (q : Int) < (site.disabled.length : Int) := by omega
    have hwa : Hid (∀ o, Below wr.heap.size wr ((wr.alloc o).drew)) := fun o => Below_drewN (Below_alloc _ o) 1
    have hbase : ∀ o, w2.heap.size <= ((wr.alloc o).drew).heap.size := fun o => by have := hT.out.far.1; simp; omega
    have hrl : (site.disabled.drop (q + 1)).reverse.length <= 2000 := by rw [List.length_reverse, List.length_drop]; omega
    have hmx : (site.disabled.drop (q + 1)).reverse.length + 1 <= maxLen := Nat.le_trans (show (site.disabled.drop (q + 1)).reverse.length + 1 <= 2001 by omega) (by decide)
    generalize hEL : site.disabled[q] = el at hx1 hx1a hdr 
    have hmeas : (intOf (.int .i64 ((q : Int) - 1)) + 1).toNat < (intOf (.int .i64 (q : Int)) + 1).toNat := by first | (simp [intOf]; done) | (simp [intOf]; omega)
    go_upto_region 9 with fail
    generalize hRV : (site.disabled.drop (q + 1)).reverse = RV at hT hdr hrl hmx
    go_region_law (refine step_append_lies _ (by rfl) (.tmp 35) (.tmp 41) 22 (by rfl) w2.heap.size 9 iS _ 1 16 Tryz.underlying22 is0 sz0 sz1 sz2 rfl (by decide) x RV.length (strCells RV) (by rfl) (hT.out.own.alloc _).drew _ 1 1 [.string (B el)] (by rfl) rfl (World.news_of_block (blk_new _ _)) (by simp [Value.oneCell']) (by decide) hmx (by omega) (hbase _) _ rfl ?_; intro g cap wx3 hown2 hgrow hat hlt; have hb3 := hT.out.behind str_site (hwa.out _) hgrow; have q6 : wx3.cell? ⟨w.heap.size + 2, 1, none⟩ = some x := cell_blk hb3 1; have q6f : wx3.frozen? ⟨w.heap.size + 2, 1, none⟩ = false := free_blk hb3 1; clear hb3; have hT' : Hid (TLoop w w2 (wx3.setCell ⟨w.heap.size + 2, 1, none⟩ (.slice (some ⟨g, 0, none⟩) (RV.length + 1) cap)) #[.slice xa0 site.languages.length xc0, (.slice (some ⟨g, 0, none⟩) (RV.length + 1) cap), .slice none 0 0, .slice none 0 0] 9 1 (.slice (some ⟨g, 0, none⟩) (RV.length + 1) cap) (site.disabled.drop q).reverse.length (strCells (site.disabled.drop q).reverse)) := (by rw [hdr.out, List.length_append, List.length_singleton, strCells_add]; exact hT.out.push str_site (hwa.out _) hgrow hown2 rfl); clear hown2 hgrow hat hlt)
    all_goals
     go_wp2_with fail
     go_roundw
     case rel => exact ⟨q, _, by omega, by go_num, hT'⟩
     case measure => first | exact hmeas | (simp [intOf]; omega)
   have e0 : (((0 : Nat) : Int) - 1) = -1 := by omega
   rw [e0]
   rw [List.drop_zero] at hT
   obtain ⟨hk1, hcap1, xa1, xc1, hxe1⟩ := own_strsT hT.out.own (by rw [List.length_reverse]; omega) (b := w.heap.size + 2) hw21
   rw [List.length_reverse] at hxe1
   subst hxe1
   replace hk1 := Lib.hid hk1
   clear zs zb
   have hT1 := hT
   have hst2 : Hid (wr.heap[w.heap.size]? = some (.cells #[vl, vd, vf, vc] 25 (0, 0))) := (hT.out.far.2 _ (by have := hw21; omega) (by omega)).trans hst1.out
   have hrs2 : Hid (wr.heap[w.heap.size + 1]? = some (.cells #[.slice none 0 0, .slice none 0 0, .slice none 0 0, .slice none 0 0] 25 (0, 0))) := (hT.out.far.2 _ (by have := hw21; omega) (by omega)).trans hrs1.out
   have hvb2 : Hid (wr.heap[w.heap.size + 2]? = some (.cells #[.slice xa0 site.languages.length xc0, .slice xa1 site.disabled.length xc1, .slice none 0 0, .slice none 0 0] 25 (0, 0))) := hT.out.blk
   have hB3 : Hid (Below w.heap.size w wr) := hT.out.bel
   replace hk0 : Hid (∀ w', Far2 (w.heap.size + 2) wr w' -> StrsAt w' _ _) := fun w' hf => hk0.out w' (hT.out.far.two.trans hf)
   clear hT hsc1 hs1 hsv1
   generalize wr = w3 at hT1 hst2 hrs2 hvb2 hB3 hk0 hk1 |-
   clear hst1 hrs1 hvb1 hB2
   obtain ⟨hn2, sa2, sc2, hsv2, hsc2⟩ := (HV.out.below hB3.out).f
   replace hsv2 := Lib.hid hsv2
   replace hsc2 := Lib.hid (show ∀ wx, Below w.heap.size w wx -> FmtsAt wx vf site.formats from fun wx hb => (HV.out.below hb).f)
   have hs2 : Hid (∀ wx, Far (w.heap.size + 2) w3 wx -> wx.cell? ⟨w.heap.size, 2, none⟩ = some (.slice sa2 site.formats.length sc2)) := fun wx hf => by
    rw [<- hsv2.out]
    exact hf.cell (cell_blk hst2.out 2) (by omega)
   have z2 := hs2.out _ (Far.refl _ _)
   have hw22 : w.heap.size + 2 < w3.heap.size := by have h1 := hT1.out.lt; have h2 := hT1.out.far.1; omega
   go_wp2_with fail
   clear z2
   go_loopw [6] (fun i wr => ∃ (r : Nat) (x : Value), r <= site.formats.length /\ i = .int .i64 ((r : Int) - 1) /\ Hid (TLoop w w3 wr #[.slice xa0 site.languages.length xc0, .slice xa1 site.disabled.length xc1, x, .slice none 0 0] 36 2 x (site.formats.drop r).reverse.length (fmtCells (site.formats.drop r).reverse))) (fun i _ => (intOf i + 1).toNat)
   case atStart =>
    refine ⟨site.formats.length, .slice none 0 0, Nat.le_refl _, rfl, ?_⟩
    rw [List.drop_length]
    exact ⟨Far.refl _ _, hvb2.out, World.ownsRow_nil _ _ _ _, hB3.out, hw22⟩
   case round =>
    obtain ⟨r, x, hr, rfl, hT⟩ := hrel
    have zs := hs2.out _ hT.out.far
    have zb : wr.cell? ⟨w.heap.size + 2, 2, none⟩ = some x := cell_blk hT.out.blk 2
    rcases r with _ | q
    rotate_left 1
    ·have hq : q < site.formats.length := by omega
     have eq1 : (((q + 1 : Nat) : Int) - 1) = (q : Int) := by omega
     rw [eq1]
     have hdr : Hid ((site.formats.drop q).reverse = (site.formats.drop (q + 1)).reverse ++ [site.formats[q]]) := by
      show _ = _
      rw [List.drop_eq_getElem_cons hq, List.reverse_cons]
     obtain ⟨_, a', c', ea, hc⟩ := hsc2.out wr hT.out.bel
     rw [hsv2.out] at ea
     obtain ⟨rfl, -, rfl⟩ := Value.slice.inj ea
     obtain ⟨gb, go, hae, hx1, hx2⟩ := hc q hq
     subst hae
     clear ea hc
     have zsa : ∀ o, (wr.alloc o).cell? ⟨w.heap.size, 2, none⟩ = some (.slice (some ⟨gb, go, none⟩) site.formats.length sc2) := fun o => ((Below_alloc wr o).cell (p := ⟨w.heap.size, 2, none⟩) (cell_lt zs)).trans zs
     have zba : ∀ o, (wr.alloc o).cell? ⟨w.heap.size + 2, 2, none⟩ = some x := fun o => ((Below_alloc wr o).cell (p := ⟨w.heap.size + 2, 2, none⟩) (cell_lt zb)).trans zb
     have hx1a : ∀ o, (wr.alloc o).cell? ⟨gb, go + q * 2, none⟩ = some (.string (B site.formats[q].1)) := fun o => ((Below_alloc wr o).cell (p := ⟨gb, go + q * 2, none⟩) (cell_lt hx1)).trans hx1
     have hx2a : ∀ o, (wr.alloc o).cell? ⟨gb, go + q * 2 + 1, none⟩ = some (.string (B site.formats[q].2)) := fun o => ((Below_alloc wr o).cell (p := ⟨gb, go + q * 2 + 1, none⟩) (cell_lt hx2)).trans hx2
     have hi0 : (0 : Int) <= (q : Int) := by omega
     have hi1 : (q : Int) < (site.formats.length : Int) := by omega
     have hwa : Hid (∀ o, Below wr.heap.size wr ((wr.alloc o).drew)) := fun o => Below_drewN (Below_alloc _ o) 1
     have hbase : ∀ o, w3.heap.size <= ((wr.alloc o).drew).heap.size := fun o => by have := hT.out.far.1; simp; omega
     have hrl : (site.formats.drop (q + 1)).reverse.length <= 2000 := by rw [List.length_reverse, List.length_drop]; omega
     have hmx : (site.formats.drop (q + 1)).reverse.length + 1 <= maxLen := Nat.le_trans (show (site.formats.drop (q + 1)).reverse.length + 1 <= 2001 by omega) (by decide)
     generalize hEL : site.formats[q] = el at hx1 hx1a hdr hx2 hx2a
     have hmeas : (intOf (.int .i64 ((q : Int) - 1)) + 1).toNat < (intOf (.int .i64 (q : Int)) + 1).toNat := by first | (simp [intOf]; done) | (simp [intOf]; omega)
     go_upto_region 13 with fail
     generalize hRV : (site.formats.drop (q + 1)).reverse = RV at hT hdr hrl hmx
     go_region_law (refine step_append_lies _ (by rfl) (.tmp 53) (.tmp 59) 23 (by rfl) w3.heap.size 36 iF _ 2 32 Tryz.underlying23 if0 fz0 fz1 fz2 rfl (by decide) x RV.length (fmtCells RV) (by rfl) (hT.out.own.alloc _).drew _ 1 1 [.string (B el.1), .string (B el.2)] (by rfl) rfl (World.news_of_block (blk_new _ _)) (by simp [Value.oneCell']) (by decide) hmx (by omega) (hbase _) _ rfl ?_; intro g cap wx3 hown2 hgrow hat hlt; have hb3 := hT.out.behind fmt_site (hwa.out _) hgrow; have q6 : wx3.cell? ⟨w.heap.size + 2, 2, none⟩ = some x := cell_blk hb3 2; have q6f : wx3.frozen? ⟨w.heap.size + 2, 2, none⟩ = false := free_blk hb3 2; clear hb3; have hT' : Hid (TLoop w w3 (wx3.setCell ⟨w.heap.size + 2, 2, none⟩ (.slice (some ⟨g, 0, none⟩) (RV.length + 1) cap)) #[.slice xa0 site.languages.length xc0, .slice xa1 site.disabled.length xc1, (.slice (some ⟨g, 0, none⟩) (RV.length + 1) cap), .slice none 0 0] 36 2 (.slice (some ⟨g, 0, none⟩) (RV.length + 1) cap) (site.formats.drop q).reverse.length (fmtCells (site.formats.drop q).reverse)) := (by rw [hdr.out, List.length_append, List.length_singleton, fmtCells_add]; exact hT.out.push fmt_site (hwa.out _) hgrow hown2 rfl); clear hown2 hgrow hat hlt)
     all_goals
      go_wp2_with fail
      go_roundw
      case rel => exact ⟨q, _, by omega, by go_num, hT'⟩
      case measure => first | exact hmeas | (simp [intOf]; omega)
    have e0 : (((0 : Nat) : Int) - 1) = -1 := by omega
    rw [e0]
    rw [List.drop_zero] at hT
    obtain ⟨hk2, xa2, xc2, hxe2⟩ := own_fmtsT hT.out.own (by rw [List.length_reverse]; omega) (b := w.heap.size + 2) hw22
    rw [List.length_reverse] at hxe2
    subst hxe2
    replace hk2 := Lib.hid hk2
    clear zs zb
    have hT2 := hT
    have hst3 : Hid (wr.heap[w.heap.size]? = some (.cells #[vl, vd, vf, vc] 25 (0, 0))) := (hT.out.far.2 _ (by have := hw22; omega) (by omega)).trans hst2.out
    have hrs3 : Hid (wr.heap[w.heap.size + 1]? = some (.cells #[.slice none 0 0, .slice none 0 0, .slice none 0 0, .slice none 0 0] 25 (0, 0))) := (hT.out.far.2 _ (by have := hw22; omega) (by omega)).trans hrs2.out
    have hvb3 : Hid (wr.heap[w.heap.size + 2]? = some (.cells #[.slice xa0 site.languages.length xc0, .slice xa1 site.disabled.length xc1, .slice xa2 site.formats.length xc2, .slice none 0 0] 25 (0, 0))) := hT.out.blk
    have hB4 : Hid (Below w.heap.size w wr) := hT.out.bel
    replace hk0 : Hid (∀ w', Far2 (w.heap.size + 2) wr w' -> StrsAt w' _ _) := fun w' hf => hk0.out w' (hT.out.far.two.trans hf)
    replace hk1 : Hid (∀ w', Far2 (w.heap.size + 2) wr w' -> StrsAt w' _ _) := fun w' hf => hk1.out w' (hT.out.far.two.trans hf)
    clear hT hsc2 hs2 hsv2
    generalize wr = w4 at hT2 hst3 hrs3 hvb3 hB4 hk0 hk1 hk2 |-
    clear hst2 hrs2 hvb2 hB3
    obtain ⟨hn3, sa3, sc3, hsv3, hsc3⟩ := (HV.out.below hB4.out).c
    replace hsv3 := Lib.hid hsv3
    replace hsc3 := Lib.hid (show ∀ wx, Below w.heap.size w wx -> StrsAt wx vc site.content from fun wx hb => (HV.out.below hb).c)
    have hs3 : Hid (∀ wx, Far (w.heap.size + 2) w4 wx -> wx.cell? ⟨w.heap.size, 3, none⟩ = some (.slice sa3 site.content.length sc3)) := fun wx hf => by
     rw [<- hsv3.out]
     exact hf.cell (cell_blk hst3.out 3) (by omega)
    have z3 := hs3.out _ (Far.refl _ _)
    have hw23 : w.heap.size + 2 < w4.heap.size := by have h1 := hT2.out.lt; have h2 := hT2.out.far.1; omega
    go_wp2_with fail
    clear z3
    go_loopw [7] (fun i wr => ∃ (r : Nat) (x : Value), r <= site.content.length /\ i = .int .i64 ((r : Int) - 1) /\ Hid (TLoop w w4 wr #[.slice xa0 site.languages.length xc0, .slice xa1 site.disabled.length xc1, .slice xa2 site.formats.length xc2, x] 9 1 x (site.content.drop r).reverse.length (strCells (site.content.drop r).reverse))) (fun i _ => (intOf i + 1).toNat)
    case atStart =>
     refine ⟨site.content.length, .slice none 0 0, Nat.le_refl _, rfl, ?_⟩
     rw [List.drop_length]
     exact ⟨Far.refl _ _, hvb3.out, World.ownsRow_nil _ _ _ _, hB4.out, hw23⟩
    case round =>
     obtain ⟨r, x, hr, rfl, hT⟩ := hrel
     have zs := hs3.out _ hT.out.far
     have zb : wr.cell? ⟨w.heap.size + 2, 3, none⟩ = some x := cell_blk hT.out.blk 3
     rcases r with _ | q
     rotate_left 1
     ·have hq : q < site.content.length := by omega
      have eq1 : (((q + 1 : Nat) : Int) - 1) = (q : Int) := by omega
      rw [eq1]
      have hdr : Hid ((site.content.drop q).reverse = (site.content.drop (q + 1)).reverse ++ [site.content[q]]) := by
       show _ = _
       rw [List.drop_eq_getElem_cons hq, List.reverse_cons]
      obtain ⟨_, a', c', ea, hc⟩ := hsc3.out wr hT.out.bel
      rw [hsv3.out] at ea
      obtain ⟨rfl, -, rfl⟩ := Value.slice.inj ea
      obtain ⟨gb, go, hae, hx1⟩ := hc q hq
      subst hae
      clear ea hc
      have zsa : ∀ o, (wr.alloc o).cell? ⟨w.heap.size, 3, none⟩ = some (.slice (some ⟨gb, go, none⟩) site.content.length sc3) := fun o => ((Below_alloc wr o).cell (p := ⟨w.heap.size, 3, none⟩) (cell_lt zs)).trans zs
      have zba : ∀ o, (wr.alloc o).cell? ⟨w.heap.size + 2, 3, none⟩ = some x := fun o => ((Below_alloc wr o).cell (p := ⟨w.heap.size + 2, 3, none⟩) (cell_lt zb)).trans zb
      have hx1a : ∀ o, (wr.alloc o).cell? ⟨gb, go + q, none⟩ = some (.string (B site.content[q])) := fun o => ((Below_alloc wr o).cell (p := ⟨gb, go + q, none⟩) (cell_lt hx1)).trans hx1
      skip
      have hi0 : (0 : Int) <= (q : Int) := by omega
      have hi1 : (q : Int) < (site.content.length : Int) := by omega
      have hwa : Hid (∀ o, Below wr.heap.size wr ((wr.alloc o).drew)) := fun o => Below_drewN (Below_alloc _ o) 1
      have hbase : ∀ o, w4.heap.size <= ((wr.alloc o).drew).heap.size := fun o => by have := hT.out.far.1; simp; omega
      have hrl : (site.content.drop (q + 1)).reverse.length <= 2000 := by rw [List.length_reverse, List.length_drop]; omega
      have hmx : (site.content.drop (q + 1)).reverse.length + 1 <= maxLen := Nat.le_trans (show (site.content.drop (q + 1)).reverse.length + 1 <= 2001 by omega) (by decide)
      generalize hEL : site.content[q] = el at hx1 hx1a hdr 
      have hmeas : (intOf (.int .i64 ((q : Int) - 1)) + 1).toNat < (intOf (.int .i64 (q : Int)) + 1).toNat := by first | (simp [intOf]; done) | (simp [intOf]; omega)
      go_upto_region 17 with fail
      generalize hRV : (site.content.drop (q + 1)).reverse = RV at hT hdr hrl hmx
      go_region_law (refine step_append_lies _ (by rfl) (.tmp 71) (.tmp 77) 22 (by rfl) w4.heap.size 9 iS _ 1 16 Tryz.underlying22 is0 sz0 sz1 sz2 rfl (by decide) x RV.length (strCells RV) (by rfl) (hT.out.own.alloc _).drew _ 1 1 [.string (B el)] (by rfl) rfl (World.news_of_block (blk_new _ _)) (by simp [Value.oneCell']) (by decide) hmx (by omega) (hbase _) _ rfl ?_; intro g cap wx3 hown2 hgrow hat hlt; have hb3 := hT.out.behind str_site (hwa.out _) hgrow; have q6 : wx3.cell? ⟨w.heap.size + 2, 3, none⟩ = some x := cell_blk hb3 3; have q6f : wx3.frozen? ⟨w.heap.size + 2, 3, none⟩ = false := free_blk hb3 3; clear hb3; have hT' : Hid (TLoop w w4 (wx3.setCell ⟨w.heap.size + 2, 3, none⟩ (.slice (some ⟨g, 0, none⟩) (RV.length + 1) cap)) #[.slice xa0 site.languages.length xc0, .slice xa1 site.disabled.length xc1, .slice xa2 site.formats.length xc2, (.slice (some ⟨g, 0, none⟩) (RV.length + 1) cap)] 9 1 (.slice (some ⟨g, 0, none⟩) (RV.length + 1) cap) (site.content.drop q).reverse.length (strCells (site.content.drop q).reverse)) := (by rw [hdr.out, List.length_append, List.length_singleton, strCells_add]; exact hT.out.push str_site (hwa.out _) hgrow hown2 rfl); clear hown2 hgrow hat hlt)
      all_goals
       go_wp2_with fail
       go_roundw
       case rel => exact ⟨q, _, by omega, by go_num, hT'⟩
       case measure => first | exact hmeas | (simp [intOf]; omega)
     have e0 : (((0 : Nat) : Int) - 1) = -1 := by omega
     rw [e0]
     rw [List.drop_zero] at hT
     obtain ⟨hk3, hcap3, xa3, xc3, hxe3⟩ := own_strsT hT.out.own (by rw [List.length_reverse]; omega) (b := w.heap.size + 2) hw23
     rw [List.length_reverse] at hxe3
     subst hxe3
     replace hk3 := Lib.hid hk3
     clear zs zb
     have hT3 := hT
     have hst4 : Hid (wr.heap[w.heap.size]? = some (.cells #[vl, vd, vf, vc] 25 (0, 0))) := (hT.out.far.2 _ (by have := hw23; omega) (by omega)).trans hst3.out
     have hrs4 : Hid (wr.heap[w.heap.size + 1]? = some (.cells #[.slice none 0 0, .slice none 0 0, .slice none 0 0, .slice none 0 0] 25 (0, 0))) := (hT.out.far.2 _ (by have := hw23; omega) (by omega)).trans hrs3.out
     have hvb4 : Hid (wr.heap[w.heap.size + 2]? = some (.cells #[.slice xa0 site.languages.length xc0, .slice xa1 site.disabled.length xc1, .slice xa2 site.formats.length xc2, .slice xa3 site.content.length xc3] 25 (0, 0))) := hT.out.blk
     have hB5 : Hid (Below w.heap.size w wr) := hT.out.bel
     replace hk0 : Hid (∀ w', Far2 (w.heap.size + 2) wr w' -> StrsAt w' _ _) := fun w' hf => hk0.out w' (hT.out.far.two.trans hf)
     replace hk1 : Hid (∀ w', Far2 (w.heap.size + 2) wr w' -> StrsAt w' _ _) := fun w' hf => hk1.out w' (hT.out.far.two.trans hf)
     replace hk2 : Hid (∀ w', Far2 (w.heap.size + 2) wr w' -> FmtsAt w' _ _) := fun w' hf => hk2.out w' (hT.out.far.two.trans hf)
     clear hT hsc3 hs3 hsv3
     generalize wr = w5 at hT3 hst4 hrs4 hvb4 hB5 hk0 hk1 hk2 hk3 |-
     clear hst3 hrs3 hvb3 hB4
     have hone : (#[.slice xa0 site.languages.length xc0, .slice xa1 site.disabled.length xc1, .slice xa2 site.formats.length xc2, .slice xa3 site.content.length xc3] : Array Value).all (·.oneCell') = true := by simp [Value.oneCell']
     have hkf : Hid (∀ w', Far2 (w.heap.size + 2) w5 w' -> SiteAt w' (.slice xa0 site.languages.length xc0) (.slice xa1 site.disabled.length xc1) (.slice xa2 site.formats.length xc2) (.slice xa3 site.content.length xc3) (turnedL site)) := fun w' h => ⟨hk0.out _ h, hk1.out _ h, hk2.out _ h, hk3.out _ h⟩
     clear hk0 hk1 hk2 hk3
     go_wp2_with (refine wpList_load_g (by rfl) 25 (.tmp 3) rfl (w.heap.size + 2) 0 rfl (#[.slice xa0 site.languages.length xc0, .slice xa1 site.disabled.length xc1, .slice xa2 site.formats.length xc2, .slice xa3 site.content.length xc3] : Array Value).toList _ (range_blk hvb4.out) Tryz.underlying25 rfl (by kernel_rfl) ?_; refine wpList_store_row rfl 25 (.tmp 2) (.tmp 80) rfl (w.heap.size + 1) #[.slice xa0 site.languages.length xc0, .slice xa1 site.disabled.length xc1, .slice xa2 site.formats.length xc2, .slice xa3 site.content.length xc3] rfl rfl 25 _ hrs4.out (by kernel_rfl) (by rfl) hone (Hid.out ?_))
     have hrow := Lib.hid (setRow_heap w5 (w.heap.size + 1) _ #[.slice xa0 site.languages.length xc0, .slice xa1 site.disabled.length xc1, .slice xa2 site.formats.length xc2, .slice xa3 site.content.length xc3] _ _ hrs4.out)
     have hbel : Hid (Below w.heap.size w (w5.setRow (w.heap.size + 1) #[.slice xa0 site.languages.length xc0, .slice xa1 site.disabled.length xc1, .slice xa2 site.formats.length xc2, .slice xa3 site.content.length xc3])) := hB5.out.trans ⟨rfl, rfl, rfl, by simp, fun k hk => setRow_other _ _ _ _ (by omega)⟩
     have hfin := Lib.hid (hkf.out (w5.setRow (w.heap.size + 1) #[.slice xa0 site.languages.length xc0, .slice xa1 site.disabled.length xc1, .slice xa2 site.formats.length xc2, .slice xa3 site.content.length xc3]) ⟨by simp, fun k hk hn hm => setRow_other _ _ _ _ (by omega)⟩)
     generalize w5.setRow _ _ = wf at hrow hbel hfin |-
     refine Lib.hid ?_
     go_wp2_with fail
     (try simp only [Exit.inBlock, Exit.then])
     refine bodyPost_ret (results_cell (w.heap.size + 1) rfl rfl (run_loadVar_row wf (w.heap.size + 1) _ 25 #[.slice xa0 site.languages.length xc0, .slice xa1 site.disabled.length xc1, .slice xa2 site.formats.length xc2, .slice xa3 site.content.length xc3] _ _ hrow.out Tryz.underlying25 rfl (by kernel_rfl))) rfl ?_
     exact ⟨_, _, _, _, rfl, hfin.out, hcap0, hcap1, hcap3, hbel.out⟩

end Go.Proofs.YtfekhbnefogkdaaGreatDoor
