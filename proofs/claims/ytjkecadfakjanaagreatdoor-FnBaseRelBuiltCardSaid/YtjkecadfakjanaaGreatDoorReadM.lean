/- A reading (the reference's state while it reads a last part word by word) in memory, and how it grows. No program walked here but an append. Conditions: lists of at most 10^12 entries. -/
import Derived.Test.YtjkecadfakjanaaGreatDoorSpecD
import Derived.Test.YtjkecadfakjanaaGreatDoorTold
import Derived.Test.YtjkecadfakjanaaGreatDoorPlain
import Derived.Test.YtjkecadfakjanaaGreatDoorRepF
import Derived.Deep.DeepCutAuto
import Derived.Laws.OwnMore
import Derived.Deep.MidRow
set_option maxRecDepth 100000
set_option linter.unusedVariables false
set_option linter.unusedSimpArgs false
namespace Go.Proofs.YtjkecadfakjanaaGreatDoor
open Go.RowKit

/-- Two slices that lie in different blocks (or one of them in none). -/
def Apart (v u : Value) : Prop := ∀ g, v.ownBlock = some g -> u.ownBlock ≠ some g
theorem Apart.symm {v u : Value} (h : Apart v u) : Apart u v := fun g h1 h2 => h g h2 h1
theorem Apart.nilL (u : Value) : Apart (.slice none 0 0) u := fun g h => by cases h
theorem Apart.nilR (v : Value) : Apart v (.slice none 0 0) := fun g _ h => by cases h

section
variable {w wa w1 : World} {base : Nat} {v v' : Value}
/-- What an append to the row v (of elements e) leaves: blocks of other types. -/
theorem grown_blk {e T : TypeId} {s n : Nat} {xs : List Value} (hv : w.ownsRow base e s v n xs) (hwa : Below w.heap.size w wa) (hg : wa.grownBy w1 v.ownBlock) {b : Nat} {c : Array Value} {fr : Nat × Nat} (hb : w.heap[b]? = some (.cells c T fr)) (hne : e ≠ T) : w1.heap[b]? = some (.cells c T fr) := by
 have hbl := (Array.getElem?_eq_some_iff.1 hb).1
 have hsz := hwa.size
 rw [hg.block b (by omega) (fun x => by obtain ⟨cur, hc, _⟩ := ownsRow_blk hv x.symm; exact blk_ne hc hb hne rfl), hwa.block b hbl]
 exact hb
/-- Another row. -/
theorem grown_row {e e' : TypeId} {s s' n m : Nat} {xs ys : List Value} {u : Value} (hv : w.ownsRow base e s v n xs) (hu : w.ownsRow base e' s' u m ys) (hwa : Below w.heap.size w wa) (hg : wa.grownBy w1 v.ownBlock) (hap : Apart v u) : w1.ownsRow base e' s' u m ys := by
 have hsz := hwa.size
 refine ownsRow_far hu fun g hg' => ?_
 obtain ⟨cur, hc, _, hlt⟩ := ownsRow_blk hu hg'
 rw [hg.block g (by omega) (fun x => hap g x.symm hg'), hwa.block g hlt]
theorem apart_types {e e' : TypeId} {s s' n m : Nat} {xs ys : List Value} {u : Value} (hv : w.ownsRow base e s v n xs) (hu : w.ownsRow base e' s' u m ys) (hne : e ≠ e') : Apart v u := fun g h1 h2 => by
 obtain ⟨c1, d1, _⟩ := ownsRow_blk hv h1
 obtain ⟨c2, d2, _⟩ := ownsRow_blk hu h2
 exact blk_ne d1 d2 hne rfl
theorem apart_new {e' : TypeId} {s' m : Nat} {ys : List Value} {u : Value} (hu : w.ownsRow base e' s' u m ys) (hwa : Below w.heap.size w wa) (hat : v'.ownBlock = v.ownBlock \/ v'.ownBlock = some wa.heap.size) (hap : Apart v u) : Apart v' u := fun g h1 h2 => by
 rcases hat with h | h
 ·exact hap g (h ▸ h1) h2
 ·obtain ⟨_, _, _, hlt⟩ := ownsRow_blk hu h2
  have := hwa.size
  rw [h1] at h
  have := Option.some.inj h
  omega
theorem grown_below2 {e : TypeId} {s n : Nat} {xs : List Value} (hv : w.ownsRow base e s v n xs) (hwa : Below w.heap.size w wa) (hg : wa.grownBy w1 v.ownBlock) (hb : base <= w.heap.size) : Below base w w1 := by
 have hsz := hwa.size
 exact Below.grown (hwa.mono hb) hg (by omega) (fun k hk => (ownsRow_blk hv hk).choose_spec.2.1)
end
/-- A row behind a store into a block of another type. -/
theorem row_set {w : World} {base b k : Nat} {e T : TypeId} {s n : Nat} {v x : Value} {xs : List Value} {c : Array Value} {fr : Nat × Nat} (h : w.ownsRow base e s v n xs) (hb : w.heap[b]? = some (.cells c T fr)) (hne : e ≠ T) : (w.setCell ⟨b, k, none⟩ x).ownsRow base e s v n xs :=
 ownsRow_far h fun g hg => heap_set_far x (by obtain ⟨cur, hc, _⟩ := ownsRow_blk h hg; exact blk_ne hc hb hne)

def intCells (l : List Int) : List Value := l.map fun x => i64 x
theorem intCells_add (l : List Int) (x : Int) : intCells (l ++ [x]) = intCells l ++ [i64 x] := by simp [intCells]

/-- The cells of the words of a reading: its identifiers (vi), unknown words (vu), languages (vg). -/
def wcells (w : WordsM) (vi vu vg : Value) : List Value :=
 [.string (B w.component), .string (B w.path), .string (B w.name), i64 w.nameEnd, vi, vu, vg, .string (B w.ext), .string (B w.format), .string (B w.kind), .string (B w.layout), .string (B w.lang), .string (B w.custom), .bool w.disabled, i64 w.typ]
/-- The four lists of a site. -/
structure SiteV where
 vl : Value
 vd : Value
 vf : Value
 vc : Value
 /-- A row of numbers that lies by: the points of the name. -/
 cv : Value := .slice none 0 0
 cl : List Nat := []
def rcells (sv : SiteV) (r : ReadM) (vi vu vg vm : Value) : Array Value :=
 #[.string (B r.w.component), .string (B r.w.path), .string (B r.w.name), i64 r.w.nameEnd, vi, vu, vg, .string (B r.w.ext), .string (B r.w.format), .string (B r.w.kind), .string (B r.w.layout), .string (B r.w.lang), .string (B r.w.custom), .bool r.w.disabled, i64 r.w.typ,
  sv.vl, sv.vd, sv.vf, sv.vc, .bool r.layouts, .bool r.shortcode, i64 r.points, vm, .string (B r.lang), .string (B r.format), .string (B r.kind), .string (B r.layout), .bool r.hasLang, .bool r.hasKind, .bool r.baseof, i64 r.layoutAt]

/-- A reading r lies at block b; its lists lie in blocks of the call's own from 'base' on. -/
structure RdAt (w : World) (base b : Nat) (sv : SiteV) (r : ReadM) (vi vu vg vm : Value) : Prop where
 blk : w.heap[b]? = some (.cells (rcells sv r vi vu vg vm) 105 (0, 0))
 ids : w.ownsRow base 9 1 vi r.w.ids.length (strCells r.w.ids)
 unk : w.ownsRow base 9 1 vu r.w.unknown.length (strCells r.w.unknown)
 lgs : w.ownsRow base 9 1 vg r.w.langs.length (strCells r.w.langs)
 mks : w.ownsRow base 3 1 vm r.marks.length (intCells r.marks)
 iu : Apart vi vu
 ig : Apart vi vg
 ug : Apart vu vg
 lb : base <= b
 cut : w.ownsRow base 3 1 sv.cv sv.cl.length (natCells sv.cl)
 cm : Apart vm sv.cv

theorem str_rd : (9 : TypeId) ≠ 105 := by decide
theorem int_rd : (3 : TypeId) ≠ 105 := by decide
theorem str_int : (9 : TypeId) ≠ 3 := by decide
theorem int_str : (3 : TypeId) ≠ 9 := by decide

section
variable {w wa w1 : World} {base b : Nat} {sv : SiteV} {r : ReadM} {vi vu vg vm : Value}
theorem RdAt.below {w' : World} (h : RdAt w base b sv r vi vu vg vm) (hb : Below w.heap.size w w') : RdAt w' base b sv r vi vu vg vm :=
 ⟨blk_below h.blk hb, ownsRow_below h.ids hb, ownsRow_below h.unk hb, ownsRow_below h.lgs hb, ownsRow_below h.mks hb, h.iu, h.ig, h.ug, h.lb, ownsRow_below h.cut hb, h.cm⟩
theorem RdAt.cell (h : RdAt w base b sv r vi vu vg vm) (k : Nat) (v : Value) (hk : (rcells sv r vi vu vg vm)[k]? = some v) : w.cell? ⟨b, k, none⟩ = some v := by rw [cell_blk h.blk]; exact hk
theorem RdAt.free (h : RdAt w base b sv r vi vu vg vm) (k : Nat) : w.frozen? ⟨b, k, none⟩ = false := free_blk h.blk k
theorem RdAt.lt (h : RdAt w base b sv r vi vu vg vm) : b < w.heap.size := (Array.getElem?_eq_some_iff.1 h.blk).1
/-- A field other than the lists is written. -/
theorem RdAt.set (h : RdAt w base b sv r vi vu vg vm) (k : Nat) (v : Value) (r' : ReadM) (he : (rcells sv r vi vu vg vm).setIfInBounds k v = rcells sv r' vi vu vg vm)
  (h1 : r'.w.ids = r.w.ids) (h2 : r'.w.unknown = r.w.unknown) (h3 : r'.w.langs = r.w.langs) (h4 : r'.marks = r.marks) : RdAt (w.setCell ⟨b, k, none⟩ v) base b sv r' vi vu vg vm /\ Below base w (w.setCell ⟨b, k, none⟩ v) := by
 refine ⟨⟨?_, ?_, ?_, ?_, ?_, h.iu, h.ig, h.ug, h.lb, row_set h.cut h.blk int_rd, h.cm⟩, (Below.refl _ _).setCell h.lb v⟩
 ·rw [blk_set v h.blk, he]
 ·rw [h1]; exact row_set h.ids h.blk str_rd
 ·rw [h2]; exact row_set h.unk h.blk str_rd
 ·rw [h3]; exact row_set h.lgs h.blk str_rd
 ·rw [h4]; exact row_set h.mks h.blk int_rd

theorem RdAt.pushIds (h : RdAt w base b sv r vi vu vg vm) (hwa : Below w.heap.size w wa) (t : Str) {v' : Value}
  (hown : w1.ownsRow base 9 1 v' (r.w.ids ++ [t]).length (strCells (r.w.ids ++ [t]))) (hg : wa.grownBy w1 vi.ownBlock) (hat : v'.ownBlock = vi.ownBlock \/ v'.ownBlock = some wa.heap.size) :
  RdAt (w1.setCell ⟨b, 4, none⟩ v') base b sv { r with w := { r.w with ids := r.w.ids ++ [t] } } v' vu vg vm /\ Below base w (w1.setCell ⟨b, 4, none⟩ v') := by
 have hlt := h.lt
 have hlb := h.lb
 have hb1 := grown_blk h.ids hwa hg h.blk str_rd
 refine ⟨⟨?_, row_set hown hb1 str_rd, row_set (grown_row h.ids h.unk hwa hg h.iu) hb1 str_rd, row_set (grown_row h.ids h.lgs hwa hg h.ig) hb1 str_rd, row_set (grown_row h.ids h.mks hwa hg (apart_types h.ids h.mks str_int)) hb1 int_rd,
  apart_new h.unk hwa hat h.iu, apart_new h.lgs hwa hat h.ig, h.ug, h.lb, row_set (grown_row h.ids h.cut hwa hg (apart_types h.ids h.cut str_int)) hb1 int_rd, h.cm⟩, (grown_below2 h.ids hwa hg (by omega)).setCell h.lb _⟩
 rw [blk_set _ hb1]; rfl
theorem RdAt.pushUnk (h : RdAt w base b sv r vi vu vg vm) (hwa : Below w.heap.size w wa) (t : Str) {v' : Value}
  (hown : w1.ownsRow base 9 1 v' (r.w.unknown ++ [t]).length (strCells (r.w.unknown ++ [t]))) (hg : wa.grownBy w1 vu.ownBlock) (hat : v'.ownBlock = vu.ownBlock \/ v'.ownBlock = some wa.heap.size) :
  RdAt (w1.setCell ⟨b, 5, none⟩ v') base b sv { r with w := { r.w with unknown := r.w.unknown ++ [t] } } vi v' vg vm /\ Below base w (w1.setCell ⟨b, 5, none⟩ v') := by
 have hlt := h.lt
 have hlb := h.lb
 have hb1 := grown_blk h.unk hwa hg h.blk str_rd
 refine ⟨⟨?_, row_set (grown_row h.unk h.ids hwa hg h.iu.symm) hb1 str_rd, row_set hown hb1 str_rd, row_set (grown_row h.unk h.lgs hwa hg h.ug) hb1 str_rd, row_set (grown_row h.unk h.mks hwa hg (apart_types h.unk h.mks str_int)) hb1 int_rd,
  (apart_new h.ids hwa hat h.iu.symm).symm, h.ig, apart_new h.lgs hwa hat h.ug, h.lb, row_set (grown_row h.unk h.cut hwa hg (apart_types h.unk h.cut str_int)) hb1 int_rd, h.cm⟩, (grown_below2 h.unk hwa hg (by omega)).setCell h.lb _⟩
 rw [blk_set _ hb1]; rfl
theorem RdAt.pushLgs (h : RdAt w base b sv r vi vu vg vm) (hwa : Below w.heap.size w wa) (t : Str) {v' : Value}
  (hown : w1.ownsRow base 9 1 v' (r.w.langs ++ [t]).length (strCells (r.w.langs ++ [t]))) (hg : wa.grownBy w1 vg.ownBlock) (hat : v'.ownBlock = vg.ownBlock \/ v'.ownBlock = some wa.heap.size) :
  RdAt (w1.setCell ⟨b, 6, none⟩ v') base b sv { r with w := { r.w with langs := r.w.langs ++ [t] } } vi vu v' vm /\ Below base w (w1.setCell ⟨b, 6, none⟩ v') := by
 have hlt := h.lt
 have hlb := h.lb
 have hb1 := grown_blk h.lgs hwa hg h.blk str_rd
 refine ⟨⟨?_, row_set (grown_row h.lgs h.ids hwa hg h.ig.symm) hb1 str_rd, row_set (grown_row h.lgs h.unk hwa hg h.ug.symm) hb1 str_rd, row_set hown hb1 str_rd, row_set (grown_row h.lgs h.mks hwa hg (apart_types h.lgs h.mks str_int)) hb1 int_rd,
  h.iu, (apart_new h.ids hwa hat h.ig.symm).symm, (apart_new h.unk hwa hat h.ug.symm).symm, h.lb, row_set (grown_row h.lgs h.cut hwa hg (apart_types h.lgs h.cut str_int)) hb1 int_rd, h.cm⟩, (grown_below2 h.lgs hwa hg (by omega)).setCell h.lb _⟩
 rw [blk_set _ hb1]; rfl
theorem RdAt.pushMks (h : RdAt w base b sv r vi vu vg vm) (hwa : Below w.heap.size w wa) (x : Int) {v' : Value}
  (hown : w1.ownsRow base 3 1 v' (r.marks ++ [x]).length (intCells (r.marks ++ [x]))) (hg : wa.grownBy w1 vm.ownBlock) (hat : v'.ownBlock = vm.ownBlock \/ v'.ownBlock = some wa.heap.size) :
  RdAt (w1.setCell ⟨b, 22, none⟩ v') base b sv { r with marks := r.marks ++ [x] } vi vu vg v' /\ Below base w (w1.setCell ⟨b, 22, none⟩ v') := by
 have hlt := h.lt
 have hlb := h.lb
 have hb1 := grown_blk h.mks hwa hg h.blk int_rd
 have ap : ∀ {u : Value} {ys : List Value} {m : Nat}, w.ownsRow base 9 1 u m ys -> Apart vm u := fun hu => apart_types h.mks hu int_str
 refine ⟨⟨?_, row_set (grown_row h.mks h.ids hwa hg (ap h.ids)) hb1 str_rd, row_set (grown_row h.mks h.unk hwa hg (ap h.unk)) hb1 str_rd, row_set (grown_row h.mks h.lgs hwa hg (ap h.lgs)) hb1 str_rd, row_set hown hb1 int_rd,
  h.iu, h.ig, h.ug, h.lb, row_set (grown_row h.mks h.cut hwa hg h.cm) hb1 int_rd, apart_new h.cut hwa hat h.cm⟩, (grown_below2 h.mks hwa hg (by omega)).setCell h.lb _⟩
 rw [blk_set _ hb1]; rfl
end

/-- Reading r lies at block b in world w; of what was there in w0 nothing has turned. -/
def RScan (w0 w : World) (b : Nat) (sv : SiteV) (r : ReadM) : Prop := ∃ vi vu vg vm, RdAt w w0.heap.size b sv r vi vu vg vm /\ Below w0.heap.size w0 w
theorem RScan.below {w0 w w' : World} {b : Nat} {sv : SiteV} {r : ReadM} (h : RScan w0 w b sv r) (hb : Below w.heap.size w w') : RScan w0 w' b sv r := by
 obtain ⟨vi, vu, vg, vm, h1, h2⟩ := h
 exact ⟨vi, vu, vg, vm, h1.below hb, h2.trans (hb.mono h2.size)⟩
/-- Small enough for one more word. -/
structure RFits (r : ReadM) : Prop where
 il : r.w.ids.length <= 1000000
 ul : r.w.unknown.length <= 1000000
 gl : r.w.langs.length <= 1000000
 ml : r.marks.length <= 1000000

/-! ### A number appended -/
structure OwnI (w : World) (base : Nat) (v : Value) (l : List Int) : Prop where
 own : w.ownsRow base 3 1 v l.length (intCells l)
 le : base <= w.heap.size
theorem OwnI.slice {w : World} {base : Nat} {v : Value} {l : List Int} (h : OwnI w base v l) : ∃ a cap, v = .slice a l.length cap := by
 obtain ⟨h1, h | ⟨g, cap, cur, rfl, hb, hg, hn, hm, hc, ht⟩⟩ := h.own
 ·obtain ⟨rfl, h0⟩ := h
  exact ⟨none, 0, by rw [h0]⟩
 ·exact ⟨_, cap, rfl⟩
theorem wpList_appI {ops : Array Oper} {rest : List Oper} {o : Oper} {a : Act} {w : World} {Q : Exit -> Act -> World -> Prop} (hgd : o.guard = none) (sl x : Operand)
  (ho : o.op = .call { callee := .builtin .append, args := #[sl, x], argTypes := #[78, 78] })
  (base : Nat) (v : Value) (l : List Int) (n : Int) (hs : a.eval sl = v) (hown : OwnI w base v l) (g : Nat) (hx : a.eval x = .slice (some ⟨g, 0, none⟩) 1 1) (hc : w.cell? ⟨g, 0, none⟩ = some (.int .i64 n)) (hlen : l.length <= 1000000000000)
  (h : ∀ v' w', OwnI w' base v' (l ++ [n]) -> w.grownBy w' v.ownBlock -> (v'.ownBlock = v.ownBlock \/ v'.ownBlock = some w.heap.size) -> wpList Tryz.prog ops Q rest (a.put o.dst v') w') : wpList Tryz.prog ops Q (o :: rest) a w := by
 obtain ⟨i0, hi, hz0, hz1, hz2⟩ := info_split Tryz.infoInt
 have hnews : ∀ j u, [Value.int .i64 n][j]? = some u -> w.cell? ((⟨g, 0, none⟩ : Addr).add j) = some u := by
  intro j u hj
  match j, hj with
  | 0, hj => simp at hj; subst hj; simpa [Addr.add] using hc
 have h1 : ∀ u ∈ [Value.int .i64 n], u.oneCell' = true := by intro u hu; simp at hu; subst hu; rfl
 have h63 : l.length + 1 <= maxLen := Nat.le_trans (show l.length + 1 <= 1000000000001 by omega) (by decide)
 obtain ⟨v', w', hr, h2, h3, h4⟩ := run_append_own (P := Tryz.prog) w base 78 o.type 3 i0 _ 1 8 Tryz.underlying78 hi hz0 hz1 hz2 rfl (by decide) v l.length _ hown.own ⟨g, 0, none⟩ 1 1 [.int .i64 n] rfl hnews h1 h63 (by omega) hown.le
 have h5 := append_place (P := Tryz.prog) (w := w) (base := base) 78 o.type 3 i0 _ 8 Tryz.underlying78 hi hz0 hz1 hz2 v l.length _ hown.own ⟨g, 0, none⟩ (.int .i64 n) hnews rfl h63 (by omega) hr
 refine wpList_plain hgd fun _ hK => ?_
 unfold Oper.wp execOp
 simp only [ho, resolve, invoke, builtin, Sem.run_bind, Sem.run_pure, Result.andThen_ok, List.map_toArray, List.map_cons, List.map_nil, hs, hx, hr]
 refine hK _ _ (h v' w' ⟨?_, Nat.le_trans hown.le h3.size⟩ h3 h5)
 rw [List.length_append, intCells_add]
 exact h2

end Go.Proofs.YtjkecadfakjanaaGreatDoor

namespace Go.Proofs.YtjkecadfakjanaaGreatDoor
open Go.RowKit
attribute [local go_sem] B_extract B_toList B_append

set_option maxHeartbeats 1000000 in
theorem c_identify {w0 w : World} {b : Nat} {sv : SiteV} {r : ReadM} (h : RScan w0 w b sv r) (f : RFits r) (t : Str) (x : Int) :
  Calls Tryz.prog 129 #[.pointer (some ⟨b, 0, none⟩), .string (B t), .int .i64 x] w fun e w' => e = .returned (.tuple #[]) /\ RScan w0 w' b sv (r.identify t x) := by
 obtain ⟨vi, vu, vg, vm, h1, hB⟩ := h
 have hl1 := f.il
 have hl2 := f.ml
 have hz := hB.size
 have hlt := h1.lt
 have HB := Lib.hid hB
 have H1 := Lib.hid h1
 have c4 := h1.cell 4 vi rfl
 have c4a : ∀ o, (w.alloc o).cell? ⟨b, 4, none⟩ = some vi := fun o => (h1.below (Below_alloc w o)).cell 4 vi rfl
 have HO : Hid (∀ o, OwnS (w.alloc o) w0.heap.size vi r.w.ids) := fun o => ⟨h1.ids.alloc o, by simp; omega⟩
 clear h1 hB f
 go_enter Tryz.func129, Tryz.ntmps129
 go_wp2_with (at_builtin; refine wpList_appS rfl (.tmp 11) (.tmp 13) rfl w0.heap.size vi r.w.ids t rfl (HO.out _) w.heap.size rfl ?c1 (by omega) ?_)
 try (case c1 => exact cell_blk (blk_new _ _) 0)
 intro v' w1 hown hg hat
 obtain ⟨a', cap', hv⟩ := hown.slice; rw [List.length_append, List.length_singleton] at hv; subst hv
 obtain ⟨q1, q2⟩ := H1.out.pushIds (Below_alloc w _) t hown.own hg (by simpa using hat)
 have hb1 := grown_blk H1.out.ids (Below_alloc w _) hg H1.out.blk str_rd
 have k4 : w1.cell? ⟨b, 4, none⟩ = some vi := by rw [cell_blk hb1]; rfl
 have k4f : w1.frozen? ⟨b, 4, none⟩ = false := free_blk hb1 4
 have H2 := Lib.hid q1
 have HB2 := Lib.hid (HB.out.trans q2)
 clear q1 q2 hown hg hat hb1 c4 c4a HO H1 HB
 go_upto_region 1 with fail
 generalize w1.setCell ⟨b, 4, none⟩ _ = w2 at H2 HB2 |-
 have hz2 := HB2.out.size
 have c22 := H2.out.cell 22 vm rfl
 have c22a : ∀ o, (w2.alloc o).cell? ⟨b, 22, none⟩ = some vm := fun o => (H2.out.below (Below_alloc w2 o)).cell 22 vm rfl
 have HO : Hid (∀ o, OwnI (w2.alloc o) w0.heap.size vm r.marks) := fun o => ⟨H2.out.mks.alloc o, by simp; omega⟩
 go_wp2_with (at_builtin; refine wpList_appI rfl (.tmp 22) (.tmp 24) rfl w0.heap.size vm r.marks x rfl (HO.out _) w2.heap.size rfl ?c2 (by omega) ?_)
 try (case c2 => exact cell_blk (blk_new _ _) 0)
 intro v'' w3 hown hg hat
 obtain ⟨a'', cap'', hv⟩ := hown.slice; rw [List.length_append, List.length_singleton] at hv; subst hv
 obtain ⟨q1, q2⟩ := H2.out.pushMks (Below_alloc w2 _) x hown.own hg (by simpa using hat)
 have hb1 := grown_blk H2.out.mks (Below_alloc w2 _) hg H2.out.blk int_rd
 have k22 : w3.cell? ⟨b, 22, none⟩ = some vm := by rw [cell_blk hb1]; rfl
 have k22f : w3.frozen? ⟨b, 22, none⟩ = false := free_blk hb1 22
 have H3 := Lib.hid q1
 have HB3 := Lib.hid (HB2.out.trans q2)
 clear q1 q2 hown hg hb1 c22 c22a HO H2 HB2
 go_wp2_with fail
 go_end0
 exact ⟨rfl, _, _, _, _, H3.out, HB3.out⟩

set_option maxHeartbeats 1000000 in
theorem c_tagged (x p : Str) (w : World) (hx : x.length <= 1000000000) (hp : p.length <= 100) :
  Calls Tryz.prog 151 #[.string (B x), .string (B p)] w fun e w' => e = .returned (.tuple #[.string (B (tagStr x p)), .bool (tagOk x p)]) /\ Below w.heap.size w w' := by
 have HL := Lib.hid (c_lower x w (by omega))
 have hll : (lowerL x).length = x.length := lowerL_len x
 have HS : Hid (∀ wx, Calls Tryz.prog 109 #[.string (B (lowerL x)), .string (B p)] wx fun e w' => e = .returned (.bool (tagOk x p)) /\ wx = w') := fun wx => c_starts (lowerL x) p wx (by omega) (by omega)
 have HR1 : Hid (tagOk x p = true -> tagStr x p = x.drop p.length) := fun h => by unfold tagStr; rw [if_pos h]
 have HR2 : Hid (tagOk x p = false -> tagStr x p = []) := fun h => by unfold tagStr; rw [if_neg (by rw [h]; decide)]
 have HLE : Hid (tagOk x p = true -> p.length <= x.length) := fun h => by rw [<- hll]; exact (by unfold tagOk startsL at h; rw [List.isPrefixOf_iff_prefix] at h; exact h.length_le)
 generalize tagOk x p = ok at HS HR1 HR2 HLE |-
 generalize tagStr x p = R at HR1 HR2 |-
 have HL2 : Hid (Calls Tryz.prog 100 #[.string (B x)] w fun e w' => e = .returned (.string (B (lowerL x))) /\ Below w.heap.size w w') := HL.out
 generalize lowerL x = lx at HS HL2
 clear HL hll
 go_enter Tryz.func151, Tryz.ntmps151
 go_wp2_with fail
 refine HL2.out.mono ?_; rintro e w1 ⟨rfl, hb⟩
 replace hb := Lib.hid hb
 go_wp2_with fail
 refine (HS.out _).mono ?_; rintro e w2 ⟨rfl, rfl⟩
 cases ok with
 | true =>
  have hle := HLE.out rfl
  have HQ := Lib.hid (HR1.out rfl)
  clear HR1 HR2 HLE
  have hle' : (p.length : Int) <= (x.length : Int) := by omega
  go_wp2_with fail
  exact bodyPost_ret (v := .tuple #[.string (B (List.take (x.length - p.length) (List.drop p.length x))), .bool true]) (by simp [results, Tryz.results151, go_sem]) rfl ⟨by rw [HQ.out, List.take_of_length_le (by rw [List.length_drop]; omega)], hb.out⟩
 | false =>
  have HQ := Lib.hid (HR2.out rfl)
  clear HR1 HR2 HLE
  go_wp2_with fail
  exact bodyPost_ret (v := .tuple #[.string (B []), .bool false]) (by simp [results, Tryz.results151, go_sem]) rfl ⟨by rw [HQ.out], hb.out⟩

set_option maxHeartbeats 1000000 in
theorem c_IsKind (x : Str) (w : World) (hx : x.length <= 1000000000) :
  Calls Tryz.prog 47 #[.string (B x)] w fun e w' => e = .returned (.bool (isKindL x)) /\ Below w.heap.size w w' := by
 have HL : Hid (Calls Tryz.prog 100 #[.string (B x)] w fun e w' => e = .returned (.string (B (lowerL x))) /\ Below w.heap.size w w') := c_lower x w (by omega)
 have HR : Hid (isKindL x = (lowerL x == [104, 111, 109, 101] || lowerL x == [112, 97, 103, 101] || lowerL x == [115, 101, 99, 116, 105, 111, 110] || lowerL x == [116, 97, 120, 111, 110, 111, 109, 121] || lowerL x == [116, 101, 114, 109] || lowerL x == [116, 97, 120, 111, 110, 111, 109, 121, 116, 101, 114, 109])) := rfl
 generalize isKindL x = R at HR |-
 generalize lowerL x = l at HR HL
 go_enter Tryz.func47, Tryz.ntmps47
 go_wp2_with fail
 refine HL.out.mono ?_; rintro e w1 ⟨rfl, hb⟩
 replace hb := Lib.hid hb
 cases h1 : (l == [104, 111, 109, 101]) with
 | true =>
  have q : Hid (R = true) := by show _ = _; rw [HR.out, h1]; rfl
  go_wp2_with fail
  go_ret
  exact ⟨ret_bool q.out.symm, hb.out⟩
 | false =>
 cases h2 : (l == [112, 97, 103, 101]) with
 | true =>
  have q : Hid (R = true) := by show _ = _; rw [HR.out, h1, h2]; rfl
  go_wp2_with fail
  go_ret
  exact ⟨ret_bool q.out.symm, hb.out⟩
 | false =>
 cases h3 : (l == [115, 101, 99, 116, 105, 111, 110]) with
 | true =>
  have q : Hid (R = true) := by show _ = _; rw [HR.out, h1, h2, h3]; rfl
  go_wp2_with fail
  go_ret
  exact ⟨ret_bool q.out.symm, hb.out⟩
 | false =>
 cases h4 : (l == [116, 97, 120, 111, 110, 111, 109, 121]) with
 | true =>
  have q : Hid (R = true) := by show _ = _; rw [HR.out, h1, h2, h3, h4]; rfl
  go_wp2_with fail
  go_ret
  exact ⟨ret_bool q.out.symm, hb.out⟩
 | false =>
 cases h5 : (l == [116, 101, 114, 109]) with
 | true =>
  have q : Hid (R = true) := by show _ = _; rw [HR.out, h1, h2, h3, h4, h5]; rfl
  go_wp2_with fail
  go_ret
  exact ⟨ret_bool q.out.symm, hb.out⟩
 | false =>
 cases h6 : (l == [116, 97, 120, 111, 110, 111, 109, 121, 116, 101, 114, 109]) with
 | true =>
  have q : Hid (R = true) := by show _ = _; rw [HR.out, h1, h2, h3, h4, h5, h6]; rfl
  go_wp2_with fail
  go_ret
  exact ⟨ret_bool q.out.symm, hb.out⟩
 | false =>
  have q : Hid (R = false) := by show _ = _; rw [HR.out, h1, h2, h3, h4, h5, h6]; rfl
  go_wp2_with fail
  go_ret
  exact ⟨ret_bool q.out.symm, hb.out⟩

theorem c_choose (a c : Str) (w : World) : Calls Tryz.prog 132 #[.string (B a), .string (B c)] w fun e w' => e = .returned (.string (B (chooseL a c))) /\ w = w' := by
 cases h : a.isEmpty with
 | true =>
  have HR : Hid (chooseL a c = c) := by show _ = _; unfold chooseL; rw [if_neg (by simpa using h)]
  go_enter Tryz.func132, Tryz.ntmps132
  go_wp2_with fail
  go_ret
  exact ⟨ret_str (by rw [HR.out]), rfl⟩
 | false =>
  have HR : Hid (chooseL a c = a) := by show _ = _; unfold chooseL; rw [if_pos (by simpa using h)]
  go_enter Tryz.func132, Tryz.ntmps132
  go_wp2_with fail
  go_ret
  exact ⟨ret_str (by rw [HR.out]), rfl⟩

end Go.Proofs.YtjkecadfakjanaaGreatDoor

namespace Go.Proofs.YtjkecadfakjanaaGreatDoor
open Go.RowKit
attribute [local go_sem] B_extract B_toList B_append

set_option maxHeartbeats 8000000 in
theorem c_wrapper {w0 w : World} {b : Nat} {sv : SiteV} {r : ReadM} {site : SiteM} (h : RScan w0 w b sv r) (f : RFits r) (hsite : SiteAt w0 sv.vl sv.vd sv.vf sv.vc site) (word x : Str) (at_ : Int) (hx : x.length <= 1000000000) :
  Calls Tryz.prog 130 #[.pointer (some ⟨b, 0, none⟩), .string (B word), .string (B x), .int .i64 at_] w fun e w' => e = .returned (.tuple #[]) /\ RScan w0 w' b sv (ReadM.wrapper site r word x at_) := by
 have hgl := f.gl
 have HR := Lib.hid h
 have HS := Lib.hid hsite
 have HT := Lib.hid (fun (p : Str) (hp : p.length <= 100) (wx : World) => c_tagged x p wx hx hp)
 have HLo : Hid (∀ (t : Str) (ht : t.length <= 1000000000) (wx : World), Calls Tryz.prog 100 #[.string (B t)] wx fun e w' => e = .returned (.string (B (lowerL t))) /\ Below wx.heap.size wx w') := fun t ht wx => c_lower t wx (Nat.le_trans ht (by decide))
 have HKi := Lib.hid (fun (t : Str) (ht : t.length <= 1000000000) (wx : World) => c_IsKind t wx ht)
 have HID : Hid (∀ (wx : World) (hr : RScan w0 wx b sv r) (t : Str) (a : Int), Calls Tryz.prog 129 #[.pointer (some ⟨b, 0, none⟩), .string (B t), .int .i64 a] wx fun e w' => e = .returned (.tuple #[]) /\ RScan w0 w' b sv (r.identify t a)) := fun wx hr t a => c_identify hr f t a
 have HAL : Hid (∀ (wx : World), Below w0.heap.size w0 wx -> ∀ t, Calls Tryz.prog 105 #[sv.vl, .string (B t)] wx fun e w' => e = .returned (.bool (amongL site.languages t)) /\ wx = w') := fun wx hb t => c_among site.languages t _ wx (hsite.below hb).l
 have HAD : Hid (∀ (wx : World), Below w0.heap.size w0 wx -> ∀ t, Calls Tryz.prog 105 #[sv.vd, .string (B t)] wx fun e w' => e = .returned (.bool (amongL site.disabled t)) /\ wx = w') := fun wx hb t => c_among site.disabled t _ wx (hsite.below hb).d
 have HFN : Hid (∀ (wx : World), Below w0.heap.size w0 wx -> ∀ t, Calls Tryz.prog 133 #[sv.vf, .string (B t)] wx fun e w' => e = .returned (.bool (formatNamed site.formats t)) /\ wx = w') := fun wx hb t => c_formatNamed site.formats t _ wx (hsite.below hb).f
 have hle : ∀ p, (tagStr x p).length <= 1000000000 := fun p => Nat.le_trans (tagStr_len x p) hx
 have l1 := hle pLanguage
 have l2 := hle pFormat
 have l3 := hle pKind
 obtain ⟨W, hW⟩ : ∃ W, W = ReadM.wrapper site r word x at_ := ⟨_, rfl⟩
 have HW := Lib.hid (hW.trans (wrapper_eq site r word x at_))
 rw [<- hW]
 clear hW hle h f hsite
 obtain ⟨V, hV⟩ : ∃ V, V = tagStr x pLanguage := ⟨_, rfl⟩
 have HLH : Hid (langHit site x = (tagOk x pLanguage && (amongL site.languages (lowerL V) || amongL site.disabled (lowerL V)))) := by rw [hV]; exact Lib.hid rfl
 have HV2 : Hid (langV x = V) := by rw [hV]; exact Lib.hid rfl
 have HT1 : Hid (∀ wx, Calls Tryz.prog 151 #[.string (B x), .string (B pLanguage)] wx fun e w' => e = .returned (.tuple #[.string (B V), .bool (tagOk x pLanguage)]) /\ Below wx.heap.size wx w') := by rw [hV]; exact Lib.hid (fun wx => HT.out pLanguage (by decide) wx)
 rw [<- hV] at l1
 clear hV
 cases hhit : langHit site x with
 | true =>
  have HW1 : Hid (W = readLang site r V at_) := by show _ = _; rw [HW.out, hhit, if_pos rfl, HV2.out]
  have hh := HLH.out
  rw [hhit] at hh
  obtain ⟨t1, t2⟩ : tagOk x pLanguage = true /\ (amongL site.languages (lowerL V) || amongL site.disabled (lowerL V)) = true := by
   have := hh.symm
   rw [Bool.and_eq_true] at this
   exact this
  rw [t1] at HT1
  have HW2 : Hid (readLang site r V at_ = { r.identify V at_ with w := { (r.identify V at_).w with langs := (r.identify V at_).w.langs ++ [V], disabled := (r.identify V at_).w.disabled || !amongL site.languages (lowerL V) } }) := rfl
  obtain ⟨low, hlow⟩ : ∃ l, l = lowerL V := ⟨_, rfl⟩
  have HLo1 : Hid (∀ wx, Calls Tryz.prog 100 #[.string (B V)] wx fun e w' => e = .returned (.string (B low)) /\ Below wx.heap.size wx w') := by rw [hlow]; exact Lib.hid (fun wx => HLo.out V l1 wx)
  rw [<- hlow] at t2 HW2
  have T2 := Lib.hid t2
  clear HW HLH HV2 hh hlow t1 t2 HT HLo HKi HFN hhit
  go_enter Tryz.func130, Tryz.ntmps130
  go_wp2_with fail
  refine (HT1.out _).mono ?_; rintro e w1 ⟨rfl, b1⟩
  have H1 := Lib.hid (HR.out.below b1)
  clear b1 HR HT1
  go_wp2_with fail
  refine (HLo1.out _).mono ?_; rintro e w2 ⟨rfl, b2⟩
  have H2 := Lib.hid (H1.out.below b2)
  clear b2 H1 HLo1
  obtain ⟨vi, vu, vg, vm, a, hB⟩ := H2.out
  have k15 := a.cell 15 sv.vl rfl
  have k16 := a.cell 16 sv.vd rfl
  have HB := Lib.hid hB
  clear a hB
  cases hl : amongL site.languages low with
  | true =>
   go_wp2_with fail
   refine (HAL.out _ HB.out low).mono ?_; rintro e w3 ⟨rfl, rfl⟩
   rw [hl]
   clear k15 k16
   rw [hl] at HW2
   replace hl := Lib.hid hl
   go_wp2_with fail
   refine (HID.out _ H2.out V at_).mono ?_; rintro e w4 ⟨rfl, hr4⟩
   clear H2 HB HID HAD
   obtain ⟨vi4, vu4, vg4, vm4, a4, hB4⟩ := hr4
   have A4 := Lib.hid a4
   have HB4 := Lib.hid hB4
   have hz := hB4.size
   have c6 := a4.cell 6 vg4 rfl
   have c6a : ∀ o, (w4.alloc o).cell? ⟨b, 6, none⟩ = some vg4 := fun o => (a4.below (Below_alloc w4 o)).cell 6 vg4 rfl
   have HO : Hid (∀ o, OwnS (w4.alloc o) w0.heap.size vg4 r.w.langs) := fun o => ⟨a4.lgs.alloc o, by simp; omega⟩
   clear a4 hB4
   go_wp2_with (at_builtin; refine wpList_appS rfl (.tmp 50) (.tmp 52) rfl w0.heap.size vg4 r.w.langs V rfl (HO.out _) w4.heap.size rfl ?c1 (by omega) ?_)
   try (case c1 => exact cell_blk (blk_new _ _) 0)
   intro v' w5 hown hg hat
   obtain ⟨a', cap', hv⟩ := hown.slice; rw [List.length_append, List.length_singleton] at hv; subst hv
   obtain ⟨q1, q2⟩ := A4.out.pushLgs (Below_alloc w4 _) V hown.own hg (by simpa using hat)
   have hb1 := grown_blk A4.out.lgs (Below_alloc w4 _) hg A4.out.blk str_rd
   have k6 : w5.cell? ⟨b, 6, none⟩ = some vg4 := by rw [cell_blk hb1]; rfl
   have k6f : w5.frozen? ⟨b, 6, none⟩ = false := free_blk hb1 6
   have H6 := Lib.hid q1
   have HB6 := Lib.hid (HB4.out.trans q2)
   clear q1 q2 hown hg hat hb1 c6 c6a HO A4 HB4
   go_upto_region 6 with fail
   generalize w5.setCell ⟨b, 6, none⟩ _ = w6 at H6 HB6 |-
   have k13 := H6.out.cell 13 (.bool r.w.disabled) rfl
   have k13f := H6.out.free 13
   have k15 := H6.out.cell 15 sv.vl rfl
   cases hd : r.w.disabled with
   | true =>
    obtain ⟨q1, q2⟩ := H6.out.set 13 (.bool true) W (by rw [HW1.out, HW2.out]; show _ = rcells _ _ _ _ _ _; simp [rcells, ReadM.identify, hd]) (by rw [HW1.out]; rfl) (by rw [HW1.out]; rfl) (by rw [HW1.out]; rfl) (by rw [HW1.out]; rfl)
    have H7 := Lib.hid q1
    have HB7 := Lib.hid (HB6.out.trans q2)
    clear q1 q2
    rw [hd] at k13
    go_wp2_with fail
    (first | go_end0 | (refine bodyPost_ret (results_none rfl _ _ _) rfl ?_))
    exact ⟨rfl, _, _, _, _, H7.out, HB7.out⟩
   | false =>
    obtain ⟨q1, q2⟩ := H6.out.set 13 (.bool false) W (by rw [HW1.out, HW2.out]; show _ = rcells _ _ _ _ _ _; simp [rcells, ReadM.identify, hd]) (by rw [HW1.out]; rfl) (by rw [HW1.out]; rfl) (by rw [HW1.out]; rfl) (by rw [HW1.out]; rfl)
    have H7 := Lib.hid q1
    have HB7 := Lib.hid (HB6.out.trans q2)
    clear q1 q2
    rw [hd] at k13
    go_wp2_with fail
    refine (HAL.out _ HB6.out low).mono ?_; rintro e w3 ⟨rfl, rfl⟩
    rw [hl.out]
    go_wp2_with fail
    (first | go_end0 | (refine bodyPost_ret (results_none rfl _ _ _) rfl ?_))
    exact ⟨rfl, _, _, _, _, H7.out, HB7.out⟩
  | false =>
   have hl2 : amongL site.disabled low = true := by have := T2.out; rw [hl] at this; simpa using this
   go_wp2_with fail
   refine (HAL.out _ HB.out low).mono ?_; rintro e w3 ⟨rfl, rfl⟩
   rw [hl]
   go_wp2_with fail
   refine (HAD.out _ HB.out low).mono ?_; rintro e w3 ⟨rfl, rfl⟩
   rw [hl2]
   clear k15 k16
   rw [hl] at HW2
   replace hl := Lib.hid hl
   replace hl2 := Lib.hid hl2
   go_wp2_with fail
   refine (HID.out _ H2.out V at_).mono ?_; rintro e w4 ⟨rfl, hr4⟩
   clear H2 HB HID HAD
   obtain ⟨vi4, vu4, vg4, vm4, a4, hB4⟩ := hr4
   have A4 := Lib.hid a4
   have HB4 := Lib.hid hB4
   have hz := hB4.size
   have c6 := a4.cell 6 vg4 rfl
   have c6a : ∀ o, (w4.alloc o).cell? ⟨b, 6, none⟩ = some vg4 := fun o => (a4.below (Below_alloc w4 o)).cell 6 vg4 rfl
   have HO : Hid (∀ o, OwnS (w4.alloc o) w0.heap.size vg4 r.w.langs) := fun o => ⟨a4.lgs.alloc o, by simp; omega⟩
   clear a4 hB4
   go_wp2_with (at_builtin; refine wpList_appS rfl (.tmp 50) (.tmp 52) rfl w0.heap.size vg4 r.w.langs V rfl (HO.out _) w4.heap.size rfl ?c1 (by omega) ?_)
   try (case c1 => exact cell_blk (blk_new _ _) 0)
   intro v' w5 hown hg hat
   obtain ⟨a', cap', hv⟩ := hown.slice; rw [List.length_append, List.length_singleton] at hv; subst hv
   obtain ⟨q1, q2⟩ := A4.out.pushLgs (Below_alloc w4 _) V hown.own hg (by simpa using hat)
   have hb1 := grown_blk A4.out.lgs (Below_alloc w4 _) hg A4.out.blk str_rd
   have k6 : w5.cell? ⟨b, 6, none⟩ = some vg4 := by rw [cell_blk hb1]; rfl
   have k6f : w5.frozen? ⟨b, 6, none⟩ = false := free_blk hb1 6
   have H6 := Lib.hid q1
   have HB6 := Lib.hid (HB4.out.trans q2)
   clear q1 q2 hown hg hat hb1 c6 c6a HO A4 HB4
   go_upto_region 6 with fail
   generalize w5.setCell ⟨b, 6, none⟩ _ = w6 at H6 HB6 |-
   have k13 := H6.out.cell 13 (.bool r.w.disabled) rfl
   have k13f := H6.out.free 13
   have k15 := H6.out.cell 15 sv.vl rfl
   obtain ⟨q1, q2⟩ := H6.out.set 13 (.bool true) W (by rw [HW1.out, HW2.out]; show _ = rcells _ _ _ _ _ _; simp [rcells, ReadM.identify]) (by rw [HW1.out]; rfl) (by rw [HW1.out]; rfl) (by rw [HW1.out]; rfl) (by rw [HW1.out]; rfl)
   have H7 := Lib.hid q1
   have HB7 := Lib.hid (HB6.out.trans q2)
   clear q1 q2
   cases hd : r.w.disabled with
   | true =>
    rw [hd] at k13
    go_wp2_with fail
    (first | go_end0 | (refine bodyPost_ret (results_none rfl _ _ _) rfl ?_))
    exact ⟨rfl, _, _, _, _, H7.out, HB7.out⟩
   | false =>
    rw [hd] at k13
    go_wp2_with fail
    refine (HAL.out _ HB6.out low).mono ?_; rintro e w3 ⟨rfl, rfl⟩
    rw [hl.out]
    go_wp2_with fail
    (first | go_end0 | (refine bodyPost_ret (results_none rfl _ _ _) rfl ?_))
    exact ⟨rfl, _, _, _, _, H7.out, HB7.out⟩
 | false =>
  have HW1 : Hid (W = if r.layouts then (if fmtHit site x then readFmt r (tagStr x pFormat) at_ else if kindHit x then readKind r (tagStr x pKind) at_ else if tagOk x pLayout then readLay r (tagStr x pLayout) at_ else readCus r word x at_) else readCus r word x at_) := by show _ = _; rw [HW.out, hhit, if_neg (by decide)]
  have hh := Lib.hid (HLH.out.symm.trans hhit)
  obtain ⟨tl, htl⟩ : ∃ t, t = tagOk x pLanguage := ⟨_, rfl⟩
  rw [<- htl] at HT1 hh
  clear HW HLH HV2 hhit htl
  go_enter Tryz.func130, Tryz.ntmps130
  go_wp2_with fail
  refine (HT1.out _).mono ?_; rintro e w1 ⟨rfl, b1⟩
  have H1 := Lib.hid (HR.out.below b1)
  clear b1 HR HT1
  go_upto_if 22 with fail
  go_cut [10] from 22 to 75 (fun s10 wx => RScan w0 wx b sv r)
  case first =>
   cases tl with
   | false =>
    go_wp2_with fail
    go_meet
    exact H1.out
   | true =>
    have hh2 := hh.out
    rw [Bool.true_and, Bool.or_eq_false_iff] at hh2
    obtain ⟨m1, m2⟩ := hh2
    obtain ⟨low, hlow⟩ : ∃ l, l = lowerL V := ⟨_, rfl⟩
    have HLo1 : Hid (∀ wx, Calls Tryz.prog 100 #[.string (B V)] wx fun e w' => e = .returned (.string (B low)) /\ Below wx.heap.size wx w') := by rw [hlow]; exact Lib.hid (fun wx => HLo.out V l1 wx)
    rw [<- hlow] at m1 m2
    replace m1 := Lib.hid m1
    replace m2 := Lib.hid m2
    clear hlow HLo hh
    go_wp2_with fail
    refine (HLo1.out _).mono ?_; rintro e w2 ⟨rfl, b2⟩
    have H2 := Lib.hid (H1.out.below b2)
    clear b2 H1 HLo1
    obtain ⟨vi, vu, vg, vm, a, hB⟩ := H2.out
    have k15 := a.cell 15 sv.vl rfl
    have k16 := a.cell 16 sv.vd rfl
    have HB := Lib.hid hB
    clear a hB
    go_wp2_with fail
    refine (HAL.out _ HB.out low).mono ?_; rintro e w3 ⟨rfl, rfl⟩
    rw [m1.out]
    go_wp2_with fail
    refine (HAD.out _ HB.out low).mono ?_; rintro e w3 ⟨rfl, rfl⟩
    rw [m2.out]
    go_wp2_with fail
    go_meet
    exact H2.out
  case rest =>
  have H2 := Lib.hid hcut
  clear hcut H1 hh HAL HAD l1
  obtain ⟨vi, vu, vg, vm, a, hB⟩ := H2.out
  have k19 := a.cell 19 (.bool r.layouts) rfl
  clear a hB
  -- no sort of wrapper
  have cus : ∀ (w3 : World) (H3 : Hid (RScan w0 w3 b sv (r.identify word at_))) (hw : W = readCus r word x at_), ∃ vi vu vg vm, RdAt w3 w0.heap.size b sv (r.identify word at_) vi vu vg vm /\ RScan w0 (w3.setCell ⟨b, 12, none⟩ (.string (B x))) b sv W := by
   intro w3 H3 hw
   obtain ⟨vi, vu, vg, vm, a, hB⟩ := H3.out
   obtain ⟨q1, q2⟩ := a.set 12 (.string (B x)) W (by rw [hw]; rfl) (by rw [hw]; rfl) (by rw [hw]; rfl) (by rw [hw]; rfl) (by rw [hw]; rfl)
   exact ⟨vi, vu, vg, vm, a, _, _, _, _, q1, hB.trans q2⟩
  replace cus := Lib.hid cus
  cases hlay : r.layouts with
  | false =>
   have HW2 : Hid (W = readCus r word x at_) := by show _ = _; rw [HW1.out, hlay, if_neg (by decide)]
   rw [hlay] at k19
   go_wp2_with fail
   refine (HID.out _ H2.out word at_).mono ?_; rintro e w3 ⟨rfl, hr3⟩
   obtain ⟨vi, vu, vg, vm, a, q⟩ := cus.out _ (Lib.hid hr3) HW2.out
   have k12 := a.cell 12 (.string (B r.w.custom)) rfl
   have k12f := a.free 12
   have Q := Lib.hid q
   clear a q hr3 k19 cus HW1 HW2
   go_wp2_with fail
   (first | go_end0 | (refine bodyPost_ret (results_none rfl _ _ _) rfl ?_))
   exact ⟨rfl, Q.out⟩
  | true =>
  rw [hlay] at k19
  replace HW1 := HW1.out
  rw [if_pos hlay] at HW1
  replace HW1 := Lib.hid HW1
  obtain ⟨VF, hVF⟩ : ∃ V, V = tagStr x pFormat := ⟨_, rfl⟩
  obtain ⟨tf, htf⟩ : ∃ t, t = tagOk x pFormat := ⟨_, rfl⟩
  have HFH : Hid (fmtHit site x = (tf && formatNamed site.formats (lowerL VF))) := by rw [hVF, htf]; exact Lib.hid rfl
  have HT2 : Hid (∀ wx, Calls Tryz.prog 151 #[.string (B x), .string (B pFormat)] wx fun e w' => e = .returned (.tuple #[.string (B VF), .bool tf]) /\ Below wx.heap.size wx w') := by rw [hVF, htf]; exact Lib.hid (fun wx => HT.out pFormat (by decide) wx)
  rw [<- hVF] at HW1 l2
  obtain ⟨FH, hFH⟩ : ∃ t, t = fmtHit site x := ⟨_, rfl⟩
  rw [<- hFH] at HW1 HFH
  clear hVF htf hFH
  go_wp2_with fail
  refine (HT2.out _).mono ?_; rintro e w3 ⟨rfl, b3⟩
  have H3 := Lib.hid (H2.out.below b3)
  clear b3 H2 HT2 k19
  obtain ⟨vi, vu, vg, vm, a, hB⟩ := H3.out
  have k17 := a.cell 17 sv.vf rfl
  have HB3 := Lib.hid hB
  clear a hB
  go_upto_region 9 with fail
  go_cut [95] from 85 to 94 (fun s95 wx => s95 = .bool FH /\ RScan w0 wx b sv r)
  case first =>
   cases tf with
   | false =>
    have q : Hid (FH = false) := by show _ = _; rw [HFH.out]; rfl
    have H4 : Hid (∀ n, RScan w0 (w3.drewN n) b sv r) := fun n => H3.out.below (Below_drewN (Below.refl _ _) n)
    go_quiet (fail)
    go_wp2_with fail
    go_meet
    exact ⟨by rw [q.out], H4.out _⟩
   | true =>
    have q : Hid (FH = formatNamed site.formats (lowerL VF)) := by show _ = _; rw [HFH.out]; rfl
    obtain ⟨low, hlow⟩ : ∃ l, l = lowerL VF := ⟨_, rfl⟩
    have HLo1 : Hid (∀ wx, Calls Tryz.prog 100 #[.string (B VF)] wx fun e w' => e = .returned (.string (B low)) /\ Below wx.heap.size wx w') := by rw [hlow]; exact Lib.hid (fun wx => HLo.out VF l2 wx)
    rw [<- hlow] at q
    clear hlow HLo HFH
    have K : Hid (∀ wx wy, Below w3.heap.size w3 wx -> Below wx.heap.size wx wy -> wy.cell? ⟨b, 17, none⟩ = some sv.vf /\ RScan w0 wy b sv r /\ Below w0.heap.size w0 wy) := fun wx wy h1 h2 => by
     have h3 := belowThen h1 h2 (Nat.le_refl _)
     obtain ⟨vi, vu, vg, vm, a, hB⟩ := H3.out.below h3
     exact ⟨a.cell 17 sv.vf rfl, ⟨vi, vu, vg, vm, a, hB⟩, hB⟩
    go_region_with ((first | (go_at_call 100; refine (HLo1.out _).mono ?_; rintro e w4 ⟨rfl, b4⟩; obtain ⟨k17b, H4, HB4⟩ := K.out _ _ (Below_drewN (Below.refl _ _) 1) b4; replace H4 := Lib.hid H4; replace HB4 := Lib.hid HB4; clear b4) | (go_at_call 133; refine (HFN.out _ HB4.out low).mono ?_; rintro e w5 ⟨rfl, rfl⟩)))
    all_goals
     go_wp2_with fail
     go_meet
     exact ⟨by rw [q.out], H4.out⟩
  case rest =>
  obtain ⟨rfl, hr4⟩ := hcut
  have H4 := Lib.hid hr4
  clear hr4 H3 HB3 k17 HFH HFN HLo l2
  -- a field of the words set behind an identifier
  have fld : ∀ (k : Nat) (t v : Str) (R : ReadM) (o : Str) (w5 : World) (hr : RScan w0 w5 b sv (r.identify t at_)) (h0 : ∀ vi vu vg vm, (rcells sv (r.identify t at_) vi vu vg vm)[k]? = some (.string (B o)))
    (he : ∀ vi vu vg vm, (rcells sv (r.identify t at_) vi vu vg vm).setIfInBounds k (.string (B v)) = rcells sv R vi vu vg vm) (e1 : R.w.ids = (r.identify t at_).w.ids) (e2 : R.w.unknown = (r.identify t at_).w.unknown) (e3 : R.w.langs = (r.identify t at_).w.langs) (e4 : R.marks = (r.identify t at_).marks),
    w5.cell? ⟨b, k, none⟩ = some (.string (B o)) /\ w5.frozen? ⟨b, k, none⟩ = false /\ Hid (RScan w0 (w5.setCell ⟨b, k, none⟩ (.string (B v))) b sv R) := by
   intro k t v R o w5 hr h0 he e1 e2 e3 e4
   obtain ⟨vi, vu, vg, vm, a, hB⟩ := hr
   obtain ⟨q1, q2⟩ := a.set k (.string (B v)) R (he _ _ _ _) e1 e2 e3 e4
   exact ⟨a.cell k _ (h0 _ _ _ _), a.free k, _, _, _, _, q1, hB.trans q2⟩
  replace fld := Lib.hid fld
  cases FH with
  | true =>
   have HW2 : Hid (W = readFmt r VF at_) := by show _ = _; rw [HW1.out, if_pos rfl]
   go_wp2_with fail
   refine (HID.out _ H4.out VF at_).mono ?_; rintro e w5 ⟨rfl, hr5⟩
   obtain ⟨k8, k8f, Q⟩ := fld.out 8 VF VF W r.w.format w5 hr5 (fun _ _ _ _ => rfl) (fun _ _ _ _ => by rw [HW2.out]; rfl) (by rw [HW2.out]; rfl) (by rw [HW2.out]; rfl) (by rw [HW2.out]; rfl) (by rw [HW2.out]; rfl)
   clear hr5 cus HW1 HW2 fld
   go_wp2_with fail
   (first | go_end0 | (refine bodyPost_ret (results_none rfl _ _ _) rfl ?_))
   exact ⟨rfl, Q.out⟩
  | false =>
  obtain ⟨VK, hVK⟩ : ∃ V, V = tagStr x pKind := ⟨_, rfl⟩
  obtain ⟨tk, htk⟩ : ∃ t, t = tagOk x pKind := ⟨_, rfl⟩
  have HKH : Hid (kindHit x = (tk && isKindL VK)) := by rw [hVK, htk]; exact Lib.hid rfl
  have HT3 : Hid (∀ wx, Calls Tryz.prog 151 #[.string (B x), .string (B pKind)] wx fun e w' => e = .returned (.tuple #[.string (B VK), .bool tk]) /\ Below wx.heap.size wx w') := by rw [hVK, htk]; exact Lib.hid (fun wx => HT.out pKind (by decide) wx)
  have HW2 : Hid (W = if kindHit x then readKind r VK at_ else if tagOk x pLayout then readLay r (tagStr x pLayout) at_ else readCus r word x at_) := by show _ = _; rw [hVK, HW1.out, if_neg (by decide)]
  rw [<- hVK] at l3
  obtain ⟨KH, hKH⟩ : ∃ t, t = kindHit x := ⟨_, rfl⟩
  rw [<- hKH] at HW2 HKH
  clear hVK htk hKH HW1
  go_wp2_with fail
  refine (HT3.out _).mono ?_; rintro e w5 ⟨rfl, b5⟩
  have H5 := Lib.hid (H4.out.below b5)
  clear b5 H4 HT3
  go_upto_region 13 with fail
  go_cut [114] from 110 to 113 (fun s114 wx => s114 = .bool KH /\ RScan w0 wx b sv r)
  case first =>
   cases tk with
   | false =>
    have q : Hid (KH = false) := by show _ = _; rw [HKH.out]; rfl
    go_wp2_with fail
    go_meet
    exact ⟨by rw [q.out], H5.out⟩
   | true =>
    have q : Hid (KH = isKindL VK) := by show _ = _; rw [HKH.out]; rfl
    go_wp2_with fail
    refine (HKi.out VK l3 _).mono ?_; rintro e w6 ⟨rfl, b6⟩
    have H6 := Lib.hid (H5.out.below b6)
    clear b6
    go_wp2_with fail
    go_meet
    exact ⟨by rw [q.out], H6.out⟩
  case rest =>
  obtain ⟨rfl, hr6⟩ := hcut
  have H6 := Lib.hid hr6
  clear hr6 H5 HKH HKi l3
  cases KH with
  | true =>
   have HW3 : Hid (W = readKind r VK at_) := by show _ = _; rw [HW2.out, if_pos rfl]
   go_wp2_with fail
   refine (HID.out _ H6.out VK at_).mono ?_; rintro e w7 ⟨rfl, hr7⟩
   obtain ⟨k9, k9f, Q⟩ := fld.out 9 VK VK W r.w.kind w7 hr7 (fun _ _ _ _ => rfl) (fun _ _ _ _ => by rw [HW3.out]; rfl) (by rw [HW3.out]; rfl) (by rw [HW3.out]; rfl) (by rw [HW3.out]; rfl) (by rw [HW3.out]; rfl)
   clear hr7 cus HW2 HW3 fld
   go_wp2_with fail
   (first | go_end0 | (refine bodyPost_ret (results_none rfl _ _ _) rfl ?_))
   exact ⟨rfl, Q.out⟩
  | false =>
  obtain ⟨VL, hVL⟩ : ∃ V, V = tagStr x pLayout := ⟨_, rfl⟩
  obtain ⟨ty, hty⟩ : ∃ t, t = tagOk x pLayout := ⟨_, rfl⟩
  have HT4 : Hid (∀ wx, Calls Tryz.prog 151 #[.string (B x), .string (B pLayout)] wx fun e w' => e = .returned (.tuple #[.string (B VL), .bool ty]) /\ Below wx.heap.size wx w') := by rw [hVL, hty]; exact Lib.hid (fun wx => HT.out pLayout (by decide) wx)
  have HW3 : Hid (W = if ty then readLay r VL at_ else readCus r word x at_) := by show _ = _; rw [hVL, hty, HW2.out, if_neg (by decide)]
  clear hVL hty HW2 HT
  go_wp2_with fail
  refine (HT4.out _).mono ?_; rintro e w7 ⟨rfl, b7⟩
  have H7 := Lib.hid (H6.out.below b7)
  clear b7 H6 HT4
  cases ty with
  | true =>
   have HW4 : Hid (W = readLay r VL at_) := by show _ = _; rw [HW3.out, if_pos rfl]
   go_wp2_with fail
   refine (HID.out _ H7.out VL at_).mono ?_; rintro e w8 ⟨rfl, hr8⟩
   obtain ⟨k10, k10f, Q⟩ := fld.out 10 VL VL W r.w.layout w8 hr8 (fun _ _ _ _ => rfl) (fun _ _ _ _ => by rw [HW4.out]; rfl) (by rw [HW4.out]; rfl) (by rw [HW4.out]; rfl) (by rw [HW4.out]; rfl) (by rw [HW4.out]; rfl)
   clear hr8 cus HW3 HW4 fld
   go_wp2_with fail
   (first | go_end0 | (refine bodyPost_ret (results_none rfl _ _ _) rfl ?_))
   exact ⟨rfl, Q.out⟩
  | false =>
   have HW4 : Hid (W = readCus r word x at_) := by show _ = _; rw [HW3.out, if_neg (by decide)]
   go_wp2_with fail
   refine (HID.out _ H7.out word at_).mono ?_; rintro e w8 ⟨rfl, hr8⟩
   obtain ⟨k12, k12f, Q⟩ := fld.out 12 word x W r.w.custom w8 hr8 (fun _ _ _ _ => rfl) (fun _ _ _ _ => by rw [HW4.out]; rfl) (by rw [HW4.out]; rfl) (by rw [HW4.out]; rfl) (by rw [HW4.out]; rfl) (by rw [HW4.out]; rfl)
   clear hr8 cus HW3 HW4 fld
   go_wp2_with fail
   (first | go_end0 | (refine bodyPost_ret (results_none rfl _ _ _) rfl ?_))
   exact ⟨rfl, Q.out⟩

end Go.Proofs.YtjkecadfakjanaaGreatDoor

namespace Go.Proofs.YtjkecadfakjanaaGreatDoor
open Go.RowKit
attribute [local go_sem] B_extract B_toList B_append

theorem strCells_set (l : List Str) (i : Nat) (x : Str) : strCells (l.set i x) = (strCells l).set i (.string (B x)) := by unfold strCells; rw [List.map_set]
theorem RdAt.setIds {w : World} {base b : Nat} {sv : SiteV} {r : ReadM} {vi vu vg vm : Value} (h : RdAt w base b sv r vi vu vg vm) {g cap : Nat} (hv : vi = .slice (some ⟨g, 0, none⟩) r.w.ids.length cap) (l : Nat) (t : Str) :
  RdAt (w.setCell ⟨g, l, none⟩ (.string (B t))) base b sv { r with w := { r.w with ids := r.w.ids.set l t } } vi vu vg vm /\ Below base w (w.setCell ⟨g, l, none⟩ (.string (B t))) := by
 subst hv
 obtain ⟨cur, hcur, hbg, hlt⟩ := ownsRow_blk h.ids (g := g) rfl
 have far : ∀ k, k ≠ g -> (w.setCell ⟨g, l, none⟩ (.string (B t))).heap[k]? = w.heap[k]? := fun k hk => heap_set_far _ hk
 have hbg' : b ≠ g := fun e => blk_ne hcur h.blk str_rd e.symm
 refine ⟨⟨(far b hbg').trans h.blk, ?_, ?_, ?_, ?_, h.iu, h.ig, h.ug, h.lb, ownsRow_far h.cut fun k hk => far k (fun e => by subst e; obtain ⟨c2, hc2, _⟩ := ownsRow_blk h.cut hk; exact blk_ne hc2 hcur int_str rfl), h.cm⟩, (Below.refl _ _).setCell hbg _⟩
 ·have := (h.ids.stored l (.string (B t))).1
  rw [strCells_set]
  simpa using this
 ·exact ownsRow_far h.unk fun k hk => far k (fun e => h.iu g rfl (e ▸ hk))
 ·exact ownsRow_far h.lgs fun k hk => far k (fun e => h.ig g rfl (e ▸ hk))
 ·exact ownsRow_far h.mks fun k hk => far k (fun e => by subst e; obtain ⟨c2, hc2, _⟩ := ownsRow_blk h.mks hk; exact blk_ne hc2 hcur int_str rfl)

theorem strs_get {w : World} {base : Nat} {v : Value} {l : List Str} (h : w.ownsRow base 9 1 v l.length (strCells l)) {k : Nat} (hk : k < l.length) : ∃ g cap, v = .slice (some ⟨g, 0, none⟩) l.length cap /\ w.cell? ⟨g, k, none⟩ = some (.string (B l[k])) /\ w.frozen? ⟨g, k, none⟩ = false /\ v.ownBlock = some g := by
 obtain ⟨h1, h | ⟨g, cap, cur, rfl, hb, hg, hn, hm, hc, ht⟩⟩ := h
 ·obtain ⟨rfl, h0⟩ := h; omega
 ·refine ⟨g, cap, rfl, ?_, free_blk hg k, rfl⟩
  have h1 : (strCells l)[k]? = some (.string (B l[k])) := by simp [strCells, hk]
  rw [<- ht, List.getElem?_take_of_lt (by omega), Array.getElem?_toList] at h1
  rw [cell_blk hg, h1]

set_option maxHeartbeats 16000000 in
theorem c_plain {w0 w : World} {b : Nat} {sv : SiteV} {r : ReadM} {site : SiteM} (h : RScan w0 w b sv r) (f : RFits r) (hsite : SiteAt w0 sv.vl sv.vd sv.vf sv.vc site) (word : Str) (at_ : Int) (hx : word.length <= 1000000000)
  (hly : r.layoutAt < 0 \/ ∃ k : Nat, r.layoutAt = (k : Int) /\ k < r.w.ids.length) :
  Calls Tryz.prog 131 #[.pointer (some ⟨b, 0, none⟩), .string (B word), .int .i64 at_] w fun e w' => e = .returned (.tuple #[]) /\ RScan w0 w' b sv (ReadM.plain site r word at_) := by
 have hil := f.il
 have hul := f.ul
 have hml := f.ml
 have hgl := f.gl
 have HR := Lib.hid h
 have HKi := Lib.hid (fun (wx : World) => c_IsKind word wx hx)
 have HID : Hid (∀ (wx : World) (hr : RScan w0 wx b sv r), Calls Tryz.prog 129 #[.pointer (some ⟨b, 0, none⟩), .string (B word), .int .i64 at_] wx fun e w' => e = .returned (.tuple #[]) /\ RScan w0 w' b sv (r.identify word at_)) := fun wx hr => c_identify hr f word at_
 have HAL : Hid (∀ (wx : World), Below w0.heap.size w0 wx -> Calls Tryz.prog 105 #[sv.vl, .string (B word)] wx fun e w' => e = .returned (.bool (amongL site.languages word)) /\ wx = w') := fun wx hb => c_among site.languages word _ wx (hsite.below hb).l
 have HAD : Hid (∀ (wx : World), Below w0.heap.size w0 wx -> Calls Tryz.prog 105 #[sv.vd, .string (B word)] wx fun e w' => e = .returned (.bool (amongL site.disabled word)) /\ wx = w') := fun wx hb => c_among site.disabled word _ wx (hsite.below hb).d
 have HFB : Hid (∀ (wx : World), Below w0.heap.size w0 wx -> Calls Tryz.prog 152 #[sv.vf, .string (B word), .string (B r.w.ext)] wx fun e w' => e = .returned (.bool (formatBeside site.formats word r.w.ext)) /\ wx = w') := fun wx hb => c_formatBeside site.formats word r.w.ext _ wx (hsite.below hb).f
 obtain ⟨W, hW⟩ : ∃ W, W = ReadM.plain site r word at_ := ⟨_, rfl⟩
 have hW0 := hW.trans (plain_eq site r word at_)
 rw [<- hW]
 clear hW h f hsite
 generalize amongL site.languages word = l1 at HAL hW0
 generalize amongL site.disabled word = l2 at HAD hW0
 generalize formatBeside site.formats word r.w.ext = fb at HFB hW0
 obtain ⟨LG, hLG⟩ : ∃ t, t = plainLang r := ⟨_, rfl⟩
 obtain ⟨cO, hcO⟩ : ∃ t, t = (r.w.component == kContent) := ⟨_, rfl⟩
 have HLG : Hid (LG = ((cO || r.layouts) && decide (2 <= r.points) && !r.hasLang)) := by rw [hLG, hcO]; exact Lib.hid rfl
 rw [<- hLG] at hW0
 have hcO2 : (r.w.component == [99, 111, 110, 116, 101, 110, 116]) = cO := hcO.symm
 obtain ⟨C1, hC1⟩ : ∃ t, t = (LG && (l1 || l2)) := ⟨_, rfl⟩
 obtain ⟨C2, hC2⟩ : ∃ t, t = (r.layouts && fb) := ⟨_, rfl⟩
 obtain ⟨ik, hik⟩ : ∃ t, t = isKindL word := ⟨_, rfl⟩
 rw [<- hik] at hW0
 have HKi2 : Hid (∀ wx, Calls Tryz.prog 47 #[.string (B word)] wx fun e w' => e = .returned (.bool ik) /\ Below wx.heap.size wx w') := by rw [hik]; exact HKi
 obtain ⟨C3, hC3⟩ : ∃ t, t = (r.layouts && !r.hasKind && ik) := ⟨_, rfl⟩
 obtain ⟨C4, hC4⟩ : ∃ t, t = (word == kBaseof) := ⟨_, rfl⟩
 obtain ⟨C5, hC5⟩ : ∃ t, t = (r.layouts && !(r.shortcode && decide (at_ < 0))) := ⟨_, rfl⟩
 rw [<- hC1, <- hC2, <- hC3, <- hC4, <- hC5] at hW0
 have HW := Lib.hid hW0
 replace hC1 := Lib.hid hC1
 replace hC2 := Lib.hid hC2
 replace hC3 := Lib.hid hC3
 have hC4' : (word == [98, 97, 115, 101, 111, 102]) = C4 := hC4.symm
 replace hC4' := Lib.hid hC4'
 replace hC5 := Lib.hid hC5
 clear hW0 hLG hcO hik HKi hC4
 have CELLS : Hid (∀ wx, RScan w0 wx b sv r -> Below w0.heap.size w0 wx /\ wx.cell? ⟨b, 15, none⟩ = some sv.vl /\ wx.cell? ⟨b, 16, none⟩ = some sv.vd /\ wx.cell? ⟨b, 17, none⟩ = some sv.vf /\ wx.cell? ⟨b, 19, none⟩ = some (.bool r.layouts) /\ wx.cell? ⟨b, 20, none⟩ = some (.bool r.shortcode) /\
   wx.cell? ⟨b, 28, none⟩ = some (.bool r.hasKind) /\ wx.cell? ⟨b, 7, none⟩ = some (.string (B r.w.ext)) /\ wx.cell? ⟨b, 30, none⟩ = some (.int .i64 r.layoutAt)) := by
  rintro wx ⟨vi, vu, vg, vm, a, hB⟩
  exact ⟨hB, a.cell 15 _ rfl, a.cell 16 _ rfl, a.cell 17 _ rfl, a.cell 19 _ rfl, a.cell 20 _ rfl, a.cell 28 _ rfl, a.cell 7 _ rfl, a.cell 30 _ rfl⟩
 obtain ⟨vi, vu, vg, vm, a, hB⟩ := HR.out
 have k0 := a.cell 0 (.string (B r.w.component)) rfl
 have k19 := a.cell 19 (.bool r.layouts) rfl
 have k21 := a.cell 21 (.int .i64 r.points) rfl
 have k27 := a.cell 27 (.bool r.hasLang) rfl
 clear a hB
 go_enter Tryz.func131, Tryz.ntmps131
 go_upto_region 1 with fail
 clear hcO2 k0
 go_cut [7] from 14 to 34 (fun s7 wx => s7 = .bool LG /\ w = wx)
 case first =>
  cases cO with
  | true =>
   by_cases h3 : 2 <= r.points
   ·have h3' : (2 : Int) <= (r.points : Int) := by omega
    have h3b : decide (2 <= r.points) = true := by simpa using h3
    cases h4 : r.hasLang with
    | true =>
     have q : Hid (LG = false) := by show _ = _; rw [HLG.out, h4]; simp
     rw [h4] at k27
     go_wp2_with fail
     go_meet
     exact ⟨by rw [q.out], rfl⟩
    | false =>
     have q : Hid (LG = true) := by show _ = _; rw [HLG.out, h4, h3b]; rfl
     rw [h4] at k27
     go_wp2_with fail
     go_meet
     exact ⟨by rw [q.out], rfl⟩
   ·have h3' : ¬ (2 : Int) <= (r.points : Int) := by omega
    have h3b : decide (2 <= r.points) = false := by simpa using h3
    have q : Hid (LG = false) := by show _ = _; rw [HLG.out, h3b]; simp
    go_wp2_with fail
    go_meet
    exact ⟨by rw [q.out], rfl⟩
  | false =>
   cases h2 : r.layouts with
   | false =>
    have q : Hid (LG = false) := by show _ = _; rw [HLG.out, h2]; rfl
    rw [h2] at k19
    go_wp2_with fail
    go_meet
    exact ⟨by rw [q.out], rfl⟩
   | true =>
    rw [h2] at k19
    by_cases h3 : 2 <= r.points
    ·have h3' : (2 : Int) <= (r.points : Int) := by omega
     have h3b : decide (2 <= r.points) = true := by simpa using h3
     cases h4 : r.hasLang with
     | true =>
      have q : Hid (LG = false) := by show _ = _; rw [HLG.out, h4]; simp
      rw [h4] at k27
      go_wp2_with fail
      go_meet
      exact ⟨by rw [q.out], rfl⟩
     | false =>
      have q : Hid (LG = true) := by show _ = _; rw [HLG.out, h4, h3b]; rw [h2]; rfl
      rw [h4] at k27
      go_wp2_with fail
      go_meet
      exact ⟨by rw [q.out], rfl⟩
    ·have h3' : ¬ (2 : Int) <= (r.points : Int) := by omega
     have h3b : decide (2 <= r.points) = false := by simpa using h3
     have q : Hid (LG = false) := by show _ = _; rw [HLG.out, h3b]; simp
     go_wp2_with fail
     go_meet
     exact ⟨by rw [q.out], rfl⟩
 case rest =>
 obtain ⟨rfl, rfl⟩ := hcut
 clear k19 k21 k27 HLG
 obtain ⟨hB0, k15, k16, k17, k19, k20, k28, k7, k30⟩ := CELLS.out _ HR.out
 replace hB0 := Lib.hid hB0
 go_upto_region 3 with fail
 go_cut [47] from 48 to 66 (fun s47 wx => s47 = .bool C1 /\ w = wx)
 case first =>
  cases LG with
  | false =>
   have q : Hid (C1 = false) := hC1.out
   go_wp2_with fail
   go_meet
   exact ⟨by rw [q.out], rfl⟩
  | true =>
   go_wp2_with fail
   refine (HAL.out _ hB0.out).mono ?_; rintro e w' ⟨rfl, rfl⟩
   cases l1 with
   | true =>
    have q : Hid (C1 = true) := hC1.out
    go_wp2_with fail
    go_meet
    exact ⟨by rw [q.out], rfl⟩
   | false =>
    have q : Hid (C1 = l2) := by show _ = _; rw [hC1.out]; rfl
    go_wp2_with fail
    refine (HAD.out _ hB0.out).mono ?_; rintro e w' ⟨rfl, rfl⟩
    go_wp2_with fail
    go_meet
    exact ⟨by rw [q.out], rfl⟩
 case rest =>
 obtain ⟨rfl, rfl⟩ := hcut
 clear hC1 HAD
 cases C1 with
 | true =>
  have HW1 := Lib.hid (HW.out.trans (if_pos rfl))
  clear HW CELLS hC2 hC3 hC4' hC5 HFB HKi2 k15 k16 k17 k19 k20 k28 k7 k30
  go_wp2_with fail
  refine (HID.out _ HR.out).mono ?_; rintro e w4 ⟨rfl, hr⟩
  obtain ⟨vi, vu, vg, vm, a, hB⟩ := hr
  have k23 := a.cell 23 (.string (B r.lang)) rfl
  have k23f := a.free 23
  have k27 := a.cell 27 (.bool r.hasLang) rfl
  have k27f := a.free 27
  obtain ⟨p1, p2⟩ := a.set 23 (.string (B word)) { r.identify word at_ with lang := word } rfl rfl rfl rfl rfl
  obtain ⟨q1, q2⟩ := p1.set 27 (.bool true) { r.identify word at_ with lang := word, hasLang := true } rfl rfl rfl rfl rfl
  have H6 := Lib.hid q1
  have HB6 := Lib.hid ((hB.trans p2).trans q2)
  clear a hB p1 p2 q1 q2 HR HID hB0
  go_upto_region 6 with fail
  generalize (w4.setCell ⟨b, 23, none⟩ _).setCell ⟨b, 27, none⟩ _ = w6 at H6 HB6 |-
  clear k23 k23f k27 k27f
  have k13 := H6.out.cell 13 (.bool r.w.disabled) rfl
  have k13f := H6.out.free 13
  have k15 := H6.out.cell 15 sv.vl rfl
  cases hd : r.w.disabled with
  | true =>
   obtain ⟨q1, q2⟩ := H6.out.set 13 (.bool true) W (by rw [HW1.out]; simp [rcells, ReadM.identify, hd]) (by rw [HW1.out]) (by rw [HW1.out]) (by rw [HW1.out]) (by rw [HW1.out])
   have H7 := Lib.hid q1
   have HB7 := Lib.hid (HB6.out.trans q2)
   clear q1 q2
   rw [hd] at k13
   go_wp2_with fail
   (first | go_end0 | (refine bodyPost_ret (results_none rfl _ _ _) rfl ?_))
   exact ⟨rfl, _, _, _, _, H7.out, HB7.out⟩
  | false =>
   obtain ⟨q1, q2⟩ := H6.out.set 13 (.bool !l1) W (by rw [HW1.out]; simp [rcells, ReadM.identify, hd]) (by rw [HW1.out]) (by rw [HW1.out]) (by rw [HW1.out]) (by rw [HW1.out])
   have H7 := Lib.hid q1
   have HB7 := Lib.hid (HB6.out.trans q2)
   clear q1 q2
   rw [hd] at k13
   go_wp2_with fail
   refine (HAL.out _ HB6.out).mono ?_; rintro e w' ⟨rfl, rfl⟩
   go_wp2_with fail
   (first | go_end0 | (refine bodyPost_ret (results_none rfl _ _ _) rfl ?_))
   exact ⟨rfl, _, _, _, _, H7.out, HB7.out⟩
 | false =>
 replace HW := Lib.hid (HW.out.trans (if_neg (by decide)))
 clear HAL k15 k16
 go_upto_region 7 with fail
 go_cut [97] from 98 to 115 (fun s97 wx => s97 = .bool C2 /\ RScan w0 wx b sv r)
 case first =>
  have HD : Hid (∀ n, RScan w0 (w.drewN n) b sv r) := fun n => HR.out.below (Below_drewN (Below.refl _ _) n)
  cases h2 : r.layouts with
  | false =>
   have q : Hid (C2 = false) := by show _ = _; rw [hC2.out, h2]; rfl
   rw [h2] at k19
   go_quiet (fail)
   go_wp2_with fail
   go_meet
   exact ⟨by rw [q.out], HD.out _⟩
  | true =>
   have q : Hid (C2 = fb) := by show _ = _; rw [hC2.out, h2]; rfl
   rw [h2] at k19
   have HFQ : Hid (∀ n, Calls Tryz.prog 152 #[sv.vf, .string (B word), .string (B r.w.ext)] (w.drewN n) fun e w' => e = .returned (.bool fb) /\ w.drewN n = w') := fun n => HFB.out _ (Below_drewN hB0.out n)
   go_quiet ((go_at_call 152; exact Calls.quiet_of_same ((HFQ.out _).mono fun _ _ ⟨he, hw⟩ => ⟨he, hw.symm⟩)))
   go_wp2_with fail
   go_meet
   exact ⟨by rw [q.out], HD.out _⟩
 case rest =>
 obtain ⟨rfl, hr1⟩ := hcut
 have HR1 := Lib.hid hr1
 clear hr1 HR hB0 k17 k19 k20 k28 k7 k30 HFB hC2
 obtain ⟨w1, rfl⟩ : ∃ x : World, x = wc := ⟨_, rfl⟩
 cases C2 with
 | true =>
  have HW1 := Lib.hid (HW.out.trans (if_pos rfl))
  clear HW CELLS hC3 hC4' hC5 HKi2
  go_wp2_with fail
  refine (HID.out _ HR1.out).mono ?_; rintro e w4 ⟨rfl, hr⟩
  obtain ⟨vi, vu, vg, vm, a, hB⟩ := hr
  have k24 := a.cell 24 (.string (B r.format)) rfl
  have k24f := a.free 24
  obtain ⟨q1, q2⟩ := a.set 24 (.string (B word)) W (by rw [HW1.out]; rfl) (by rw [HW1.out]) (by rw [HW1.out]) (by rw [HW1.out]) (by rw [HW1.out])
  have Q := Lib.hid q1
  have QB := Lib.hid (hB.trans q2)
  clear a hB q1 q2 HR1 HID
  go_wp2_with fail
  (first | go_end0 | (refine bodyPost_ret (results_none rfl _ _ _) rfl ?_))
  exact ⟨rfl, _, _, _, _, Q.out, QB.out⟩
 | false =>
 replace HW := Lib.hid (HW.out.trans (if_neg (by decide)))
 obtain ⟨hB1, k15, k16, k17, k19, k20, k28, k7, k30⟩ := CELLS.out _ HR1.out
 replace hB1 := Lib.hid hB1
 clear k15 k16 k17 k20 k7 k30
 go_upto_region 10 with fail
 go_cut [124] from 125 to 139 (fun s124 wx => s124 = .bool C3 /\ RScan w0 wx b sv r)
 case first =>
  cases h2 : r.layouts with
  | false =>
   have q : Hid (C3 = false) := by show _ = _; rw [hC3.out, h2]; rfl
   rw [h2] at k19
   go_wp2_with fail
   go_meet
   exact ⟨by rw [q.out], HR1.out⟩
  | true =>
   rw [h2] at k19
   cases h4 : r.hasKind with
   | true =>
    have q : Hid (C3 = false) := by show _ = _; rw [hC3.out, h2, h4]; rfl
    rw [h4] at k28
    go_wp2_with fail
    go_meet
    exact ⟨by rw [q.out], HR1.out⟩
   | false =>
    have q : Hid (C3 = ik) := by show _ = _; rw [hC3.out, h2, h4]; rfl
    rw [h4] at k28
    go_wp2_with fail
    refine (HKi2.out _).mono ?_; rintro e w5 ⟨rfl, b5⟩
    have HR2 := Lib.hid (HR1.out.below b5)
    clear b5
    go_wp2_with fail
    go_meet
    exact ⟨by rw [q.out], HR2.out⟩
 case rest =>
 obtain ⟨rfl, hr2⟩ := hcut
 have HR2 := Lib.hid hr2
 clear hr2 HR1 hB1 k19 k28 HKi2 hC3
 obtain ⟨w2, rfl⟩ : ∃ x : World, x = wc := ⟨_, rfl⟩
 cases C3 with
 | true =>
  have HW1 := Lib.hid (HW.out.trans (if_pos rfl))
  clear HW CELLS hC4' hC5
  go_wp2_with fail
  refine (HID.out _ HR2.out).mono ?_; rintro e w4 ⟨rfl, hr⟩
  obtain ⟨vi, vu, vg, vm, a, hB⟩ := hr
  have k25 := a.cell 25 (.string (B r.kind)) rfl
  have k25f := a.free 25
  have k28 := a.cell 28 (.bool r.hasKind) rfl
  have k28f := a.free 28
  obtain ⟨p1, p2⟩ := a.set 25 (.string (B word)) { r.identify word at_ with kind := word } rfl rfl rfl rfl rfl
  obtain ⟨q1, q2⟩ := p1.set 28 (.bool true) W (by rw [HW1.out]; rfl) (by rw [HW1.out]) (by rw [HW1.out]) (by rw [HW1.out]) (by rw [HW1.out])
  have Q := Lib.hid q1
  have QB := Lib.hid ((hB.trans p2).trans q2)
  clear a hB p1 p2 q1 q2 HR2 HID
  go_wp2_with fail
  (first | go_end0 | (refine bodyPost_ret (results_none rfl _ _ _) rfl ?_))
  exact ⟨rfl, _, _, _, _, Q.out, QB.out⟩
 | false =>
 replace HW := Lib.hid (HW.out.trans (if_neg (by decide)))
 cases C4 with
 | true =>
  have HW1 := Lib.hid (HW.out.trans (if_pos rfl))
  have f4 := hC4'.out
  clear HW CELLS hC5
  go_wp2_with fail
  refine (HID.out _ HR2.out).mono ?_; rintro e w4 ⟨rfl, hr⟩
  obtain ⟨vi, vu, vg, vm, a, hB⟩ := hr
  have k29 := a.cell 29 (.bool r.baseof) rfl
  have k29f := a.free 29
  obtain ⟨q1, q2⟩ := a.set 29 (.bool true) W (by rw [HW1.out]; rfl) (by rw [HW1.out]) (by rw [HW1.out]) (by rw [HW1.out]) (by rw [HW1.out])
  have Q := Lib.hid q1
  have QB := Lib.hid (hB.trans q2)
  clear a hB q1 q2 HR2 HID f4
  go_wp2_with fail
  (first | go_end0 | (refine bodyPost_ret (results_none rfl _ _ _) rfl ?_))
  exact ⟨rfl, _, _, _, _, Q.out, QB.out⟩
 | false =>
 replace HW := Lib.hid (HW.out.trans (if_neg (by decide)))
 have f4 := hC4'.out
 obtain ⟨hB2, k15, k16, k17, k19, k20, k28, k7, k30⟩ := CELLS.out _ HR2.out
 replace hB2 := Lib.hid hB2
 clear k15 k16 k17 k28 k7 CELLS
 go_upto_region 16 with fail
 clear f4 hC4'
 go_cut [161] from 162 to 176 (fun s161 wx => s161 = .bool C5 /\ w2 = wx)
 case first =>
  clear k30
  cases h2 : r.layouts with
  | false =>
   have q : Hid (C5 = false) := by show _ = _; rw [hC5.out, h2]; rfl
   rw [h2] at k19
   go_wp2_with fail
   go_meet
   exact ⟨by rw [q.out], rfl⟩
  | true =>
   rw [h2] at k19
   cases h4 : r.shortcode with
   | false =>
    have q : Hid (C5 = true) := by show _ = _; rw [hC5.out, h2, h4]; rfl
    rw [h4] at k20
    go_wp2_with fail
    go_meet
    exact ⟨by rw [q.out], rfl⟩
   | true =>
    rw [h4] at k20
    by_cases h5 : at_ < 0
    ·have q : Hid (C5 = false) := by show _ = _; rw [hC5.out, h2, h4, decide_eq_true h5]; rfl
     go_wp2_with fail
     go_meet
     exact ⟨by rw [q.out], rfl⟩
    ·have q : Hid (C5 = true) := by show _ = _; rw [hC5.out, h2, h4, decide_eq_false h5]; rfl
     go_wp2_with fail
     go_meet
     exact ⟨by rw [q.out], rfl⟩
 case rest =>
 obtain ⟨rfl, rfl⟩ := hcut
 clear hC5 k19 k20
 cases C5 with
 | true =>
  replace HW := Lib.hid (HW.out.trans (if_pos rfl))
  by_cases hl : r.layoutAt < 0
  ·have HW1 := Lib.hid (HW.out.trans (if_pos hl))
   clear HW hly
   obtain ⟨vi, vu, vg, vm, a, hB⟩ := HR2.out
   obtain ⟨ai, ci, rfl⟩ := (OwnS.mk a.ids hB.size).slice
   have k4 : w2.cell? ⟨b, 4, none⟩ = some (.slice ai r.w.ids.length ci) := a.cell 4 _ rfl
   have k30f := a.free 30
   obtain ⟨p1, p2⟩ := a.set 30 (.int .i64 r.w.ids.length) { r with layoutAt := r.w.ids.length } rfl rfl rfl rfl rfl
   have Q1 : Hid (RScan w0 (w2.setCell ⟨b, 30, none⟩ (.int .i64 r.w.ids.length)) b sv { r with layoutAt := r.w.ids.length }) := ⟨_, _, _, _, p1, hB.trans p2⟩
   have HID2 : Hid (∀ (wx : World) (hr : RScan w0 wx b sv { r with layoutAt := r.w.ids.length }), Calls Tryz.prog 129 #[.pointer (some ⟨b, 0, none⟩), .string (B word), .int .i64 at_] wx fun e w' => e = .returned (.tuple #[]) /\ RScan w0 w' b sv (({ r with layoutAt := r.w.ids.length } : ReadM).identify word at_)) := fun wx hr => c_identify hr ⟨hil, hul, hgl, hml⟩ word at_
   clear a hB p1 p2 HR2 HID
   go_upto_region 19 with fail
   generalize w2.setCell ⟨b, 30, none⟩ _ = w3 at Q1 |-
   go_wp2_with fail
   refine (HID2.out _ Q1.out).mono ?_; rintro e w4 ⟨rfl, hr⟩
   obtain ⟨vi, vu, vg, vm, a, hB⟩ := hr
   have k26 := a.cell 26 (.string (B r.layout)) rfl
   have k26f := a.free 26
   obtain ⟨q1, q2⟩ := a.set 26 (.string (B word)) W (by rw [HW1.out]; rfl) (by rw [HW1.out]; rfl) (by rw [HW1.out]; rfl) (by rw [HW1.out]; rfl) (by rw [HW1.out]; rfl)
   have Q := Lib.hid q1
   have QB := Lib.hid (hB.trans q2)
   clear a hB q1 q2 Q1 HID2 k4 k30f k30
   go_wp2_with fail
   (first | go_end0 | (refine bodyPost_ret (results_none rfl _ _ _) rfl ?_))
   exact ⟨rfl, _, _, _, _, Q.out, QB.out⟩
  ·obtain ⟨k, hk1, hk2⟩ : ∃ k : Nat, r.layoutAt = (k : Int) /\ k < r.w.ids.length := by
    rcases hly with x | x
    ·exact absurd x hl
    ·exact x
   have HW1 := Lib.hid (HW.out.trans (if_neg hl))
   have hkn : r.layoutAt.toNat = k := by rw [hk1]; rfl
   have HK1 := Lib.hid hk1
   rw [hkn] at HW1
   rw [hk1] at k30 hl
   clear HW hly hkn hk1
   obtain ⟨vi, vu, vg, vm, a, hB⟩ := HR2.out
   have hz := hB.size
   have A := Lib.hid a
   have HB := Lib.hid hB
   have k5 := a.cell 5 vu rfl
   have k5a : ∀ o, (w2.alloc o).cell? ⟨b, 5, none⟩ = some vu := fun o => (a.below (Below_alloc w2 o)).cell 5 vu rfl
   have k26 := a.cell 26 (.string (B r.layout)) rfl
   have k26a : ∀ o, (w2.alloc o).cell? ⟨b, 26, none⟩ = some (.string (B r.layout)) := fun o => (a.below (Below_alloc w2 o)).cell 26 _ rfl
   have hbase : ∀ o, w0.heap.size <= ((w2.alloc o).drew).heap.size := fun o => by simp; omega
   have HBW : Hid (∀ o, Below w2.heap.size w2 ((w2.alloc o).drew)) := fun o => Below_drewN (Below_alloc _ o) 1
   clear a hB HR2 HID
   go_upto_region 20 with fail
   clear k30
   go_cut [] from 195 to 209 (fun wx => RScan w0 wx b sv { r with w := { r.w with unknown := r.w.unknown ++ [r.layout] } })
   case first =>
    obtain ⟨iS, hi0, hz0, hz1, hz2⟩ := info_split Tryz.infoStr
    have hmx : r.w.unknown.length + 1 <= maxLen := by have : (1000000000001 : Nat) <= maxLen := (by decide); omega
    go_region_law (refine step_append_lies _ (by rfl) (.tmp 200) (.tmp 205) 22 (by rfl) w0.heap.size 9 iS _ 1 16 Tryz.underlying22 hi0 hz0 hz1 hz2 rfl (by decide) vu r.w.unknown.length (strCells r.w.unknown) (by rfl) (A.out.unk.alloc _).drew _ 1 1 [.string (B r.layout)] (by rfl) rfl (World.news_of_block (blk_new _ _)) (by simp [Value.oneCell']) (by decide) hmx (by omega) (hbase _) _ rfl ?_; intro g cap w5 hown2 hgrow hat hlt; have q5 : w5.cell? ⟨b, 5, none⟩ = some vu := (by rw [cell_blk (grown_blk A.out.unk (HBW.out _) hgrow A.out.blk str_rd)]; rfl); have q5f : w5.frozen? ⟨b, 5, none⟩ = false := free_blk (grown_blk A.out.unk (HBW.out _) hgrow A.out.blk str_rd) 5)
    all_goals
     go_wp2_with fail
     go_meet
     obtain ⟨q1, q2⟩ := A.out.pushUnk (HBW.out _) r.layout (v' := .slice (some ⟨g, 0, none⟩) (r.w.unknown.length + 1) cap) (by rw [List.length_append, List.length_singleton, strCells_add]; exact hown2) hgrow (hat.elim (fun h => .inl (by rw [h]; rfl)) (fun h => .inr (by rw [h]; rfl)))
     exact ⟨_, _, _, _, q1, HB.out.trans q2⟩
   case rest =>
   have H3 := Lib.hid hcut
   clear hcut A HB k5 k5a k26 k26a hbase HBW hz
   obtain ⟨w3, rfl⟩ : ∃ x : World, x = wc := ⟨_, rfl⟩
   obtain ⟨vi, vu, vg, vm, a, hB⟩ := H3.out
   obtain ⟨g, cap, hvi, x4, x4f, hog⟩ := strs_get a.ids hk2
   have k4 := a.cell 4 vi rfl
   rw [hvi] at k4
   have k30 := a.cell 30 (.int .i64 r.layoutAt) rfl
   rw [HK1.out] at k30
   have hk3 : (k : Int) < (r.w.ids.length : Int) := by omega
   have hk4 : (0 : Int) <= (k : Int) := by omega
   obtain ⟨q1, q2⟩ := (a.below (Below_drewN (Below.refl _ _) 1)).setIds hvi k word
   have Q : Hid (RScan w0 ((w3.drewN 1).setCell ⟨g, k, none⟩ (.string (B word))) b sv { r with w := { r.w with unknown := r.w.unknown ++ [r.layout], ids := r.w.ids.set k word } }) := ⟨_, _, _, _, q1, (Below_drewN hB 1).trans q2⟩
   replace hvi := Lib.hid hvi
   replace hog := Lib.hid hog
   clear a hB q1 q2 H3
   go_upto_region 21 with fail
   go_cut [] from 210 to 220 (fun wx => RScan w0 wx b sv { r with w := { r.w with unknown := r.w.unknown ++ [r.layout], ids := r.w.ids.set k word } })
   case first =>
    refine wp_tail 11 (by kernel_rfl) (by kernel_rfl) ?_
    simp only [List.take_succ_cons, List.take_zero, List.drop_succ_cons, List.drop_zero]
    repeat still_step
    try refine wpStill_nil ?_
    go_wp2_with fail
    go_meet
    exact Q.out
   case rest =>
   have H4 := Lib.hid hcut
   clear hcut Q k4 k30 x4 x4f hvi hog
   obtain ⟨w4, rfl⟩ : ∃ x : World, x = wc := ⟨_, rfl⟩
   obtain ⟨vi, vu, vg, vm, a, hB⟩ := H4.out
   have A := Lib.hid a
   have HB := Lib.hid hB
   have hz := hB.size
   have c22 := a.cell 22 vm rfl
   have c22a : ∀ o, (w4.alloc o).cell? ⟨b, 22, none⟩ = some vm := fun o => (a.below (Below_alloc w4 o)).cell 22 vm rfl
   have HO : Hid (∀ o, OwnI (w4.alloc o) w0.heap.size vm r.marks) := fun o => ⟨a.mks.alloc o, by simp; omega⟩
   clear a hB H4
   go_wp2_with (at_builtin; refine wpList_appI rfl (.tmp 225) (.tmp 227) rfl w0.heap.size vm r.marks at_ rfl (HO.out _) w4.heap.size rfl ?c2 (by omega) ?_)
   try (case c2 => exact cell_blk (blk_new _ _) 0)
   intro v'' w5 hown hg hat
   obtain ⟨a'', cap'', hv⟩ := hown.slice; rw [List.length_append, List.length_singleton] at hv; subst hv
   obtain ⟨q1, q2⟩ := A.out.pushMks (Below_alloc w4 _) at_ hown.own hg (by simpa using hat)
   have hb1 := grown_blk A.out.mks (Below_alloc w4 _) hg A.out.blk int_rd
   have k22 : w5.cell? ⟨b, 22, none⟩ = some vm := by rw [cell_blk hb1]; rfl
   have k22f : w5.frozen? ⟨b, 22, none⟩ = false := free_blk hb1 22
   have H6 := Lib.hid q1
   have HB6 := Lib.hid (HB.out.trans q2)
   clear q1 q2 hown hg hb1 c22 c22a HO A HB
   go_upto_region 23 with fail
   generalize w5.setCell ⟨b, 22, none⟩ _ = w6 at H6 HB6 |-
   have k26 := H6.out.cell 26 (.string (B r.layout)) rfl
   have k26f := H6.out.free 26
   obtain ⟨q1, q2⟩ := H6.out.set 26 (.string (B word)) W (by rw [HW1.out]; rfl) (by rw [HW1.out]) (by rw [HW1.out]) (by rw [HW1.out]) (by rw [HW1.out])
   have Q := Lib.hid q1
   have QB := Lib.hid (HB6.out.trans q2)
   clear q1 q2
   go_wp2_with fail
   (first | go_end0 | (refine bodyPost_ret (results_none rfl _ _ _) rfl ?_))
   exact ⟨rfl, _, _, _, _, Q.out, QB.out⟩
 | false =>
  have HW1 := Lib.hid (HW.out.trans (if_neg (by decide)))
  obtain ⟨vi, vu, vg, vm, a, hB⟩ := HR2.out
  have hz := hB.size
  have A := Lib.hid a
  have HB := Lib.hid hB
  have k5 := a.cell 5 vu rfl
  have k5a : ∀ o, (w2.alloc o).cell? ⟨b, 5, none⟩ = some vu := fun o => (a.below (Below_alloc w2 o)).cell 5 vu rfl
  have HO : Hid (∀ o, OwnS (w2.alloc o) w0.heap.size vu r.w.unknown) := fun o => ⟨a.unk.alloc o, by simp; omega⟩
  clear a hB HR2 HID HW k30
  go_wp2_with (at_builtin; go_loud (refine wpList_appS rfl (.tmp 40) (.tmp 42) rfl w0.heap.size vu r.w.unknown word rfl (HO.out _) w2.heap.size rfl ?c1 (by omega) ?_))
  try (case c1 => exact cell_blk (blk_new _ _) 0)
  intro v' w5 hown hg hat
  obtain ⟨a', cap', hv⟩ := hown.slice; rw [List.length_append, List.length_singleton] at hv; subst hv
  obtain ⟨q1, q2⟩ := A.out.pushUnk (Below_alloc w2 _) word hown.own hg (by simpa using hat)
  have hb1 := grown_blk A.out.unk (Below_alloc w2 _) hg A.out.blk str_rd
  have k5b : w5.cell? ⟨b, 5, none⟩ = some vu := by rw [cell_blk hb1]; rfl
  have k5f : w5.frozen? ⟨b, 5, none⟩ = false := free_blk hb1 5
  have Q := Lib.hid q1
  have QB := Lib.hid (HB.out.trans q2)
  clear q1 q2 hown hg hat hb1 HO
  go_wp2_with fail
  (first | go_end0 | (refine bodyPost_ret (results_none rfl _ _ _) rfl ?_))
  exact ⟨rfl, by rw [HW1.out]; exact ⟨_, _, _, _, Q.out, QB.out⟩⟩

end Go.Proofs.YtjkecadfakjanaaGreatDoor

namespace Go.Proofs.YtjkecadfakjanaaGreatDoor
open Go.RowKit
attribute [local go_sem] B_extract B_toList B_append

theorem RdAt.words {w : World} {base b : Nat} {sv : SiteV} {r : ReadM} {vi vu vg vm : Value} (h : RdAt w base b sv r vi vu vg vm) : w.rangeAt b 0 (wcells r.w vi vu vg) := by
 intro j v hj
 have hlt : j < (wcells r.w vi vu vg).length := (List.getElem?_eq_some_iff.1 hj).1
 rw [Nat.zero_add, cell_blk h.blk, <- hj]
 have e : rcells sv r vi vu vg vm = (wcells r.w vi vu vg ++ [sv.vl, sv.vd, sv.vf, sv.vc, .bool r.layouts, .bool r.shortcode, i64 r.points, vm, .string (B r.lang), .string (B r.format), .string (B r.kind), .string (B r.layout), .bool r.hasLang, .bool r.hasKind, .bool r.baseof, i64 r.layoutAt]).toArray := rfl
 rw [e, List.getElem?_toArray, List.getElem?_append_left hlt]
theorem wcells_one (w : WordsM) (a1 a2 a3 : Option Addr) (n1 n2 n3 c1 c2 c3 : Nat) : (wcells w (.slice a1 n1 c1) (.slice a2 n2 c2) (.slice a3 n3 c3)).toArray.all (·.oneCell') = true := by simp [wcells, i64, Value.oneCell']
theorem wcells_len (w : WordsM) (vi vu vg : Value) : (wcells w vi vu vg).length = 15 := rfl
theorem RdAt.slices {w : World} {base b : Nat} {sv : SiteV} {r : ReadM} {vi vu vg vm : Value} (h : RdAt w base b sv r vi vu vg vm) (hz : base <= w.heap.size) :
  ∃ a1 a2 a3 c1 c2 c3, vi = .slice a1 r.w.ids.length c1 /\ vu = .slice a2 r.w.unknown.length c2 /\ vg = .slice a3 r.w.langs.length c3 := by
 obtain ⟨a1, c1, e1⟩ := (OwnS.mk h.ids hz).slice
 obtain ⟨a2, c2, e2⟩ := (OwnS.mk h.unk hz).slice
 obtain ⟨a3, c3, e3⟩ := (OwnS.mk h.lgs hz).slice
 exact ⟨a1, a2, a3, c1, c2, c3, e1, e2, e3⟩

theorem typeOf_eq (site : SiteM) (r : ReadM) : ReadM.typeOf site r =
  if (!r.w.ids.isEmpty && (r.w.component == kContent || r.w.component == kArch) && amongL site.content r.w.ext && !(r.w.name.take r.w.nameEnd).isEmpty) = true then
   (if r.w.name.take r.w.nameEnd = kIndex then 3 else if r.w.name.take r.w.nameEnd = kUIndex then 4 else 2)
  else if (!r.w.ids.isEmpty && r.w.name.take r.w.nameEnd == kUContent && r.w.ext == kGotmpl && !r.layouts) = true then 5
  else if (!r.w.ids.isEmpty && r.w.name.take r.w.nameEnd == kUContent && r.w.ext == kGotmpl && r.baseof) = true then 9
  else if holdsL r.w.path kShort = true then 7
  else if (r.layouts && r.baseof) = true then 9
  else if (r.layouts && holdsL r.w.path kMarkup) = true then 6
  else if (r.layouts && startsL r.w.path kPartials) = true then 8
  else if (!r.w.ids.isEmpty && r.w.name.take r.w.nameEnd == kUContent && r.w.ext == kGotmpl) = true then 5
  else 0 := rfl

set_option maxHeartbeats 16000000 in
theorem c_typeOf {w : World} {base b : Nat} {sv : SiteV} {r : ReadM} {vi vu vg vm : Value} {site : SiteM} (a : RdAt w base b sv r vi vu vg vm) (hz : base <= w.heap.size) (hsite : SiteAt w sv.vl sv.vd sv.vf sv.vc site) (hne : r.w.nameEnd <= r.w.name.length) (hnl : r.w.name.length <= 1000000) (hpl : r.w.path.length <= 1000000) (hil : r.w.ids.length <= 1000000) :
  Calls Tryz.prog 134 #[.pointer (some ⟨b, 0, none⟩)] w fun e w' => e = .returned (.int .i64 (ReadM.typeOf site r)) /\ Below w.heap.size w w' := by
 obtain ⟨TY, hTY⟩ : ∃ t, t = ReadM.typeOf site r := ⟨_, rfl⟩
 have hT0 := hTY.trans (typeOf_eq site r)
 rw [<- hTY]
 clear hTY
 obtain ⟨a1, a2, a3, c1, c2, c3, rfl, rfl, rfl⟩ := a.slices hz
 have HRng := Lib.hid a.words
 have hone := wcells_one r.w a1 a2 a3 r.w.ids.length r.w.unknown.length r.w.langs.length c1 c2 c3
 have hlen := wcells_len r.w (.slice a1 r.w.ids.length c1) (.slice a2 r.w.unknown.length c2) (.slice a3 r.w.langs.length c3)
 obtain ⟨L, hL⟩ : ∃ L, L = wcells r.w (.slice a1 r.w.ids.length c1) (.slice a2 r.w.unknown.length c2) (.slice a3 r.w.langs.length c3) := ⟨_, rfl⟩
 rw [<- hL] at HRng hone hlen
 replace hL := Lib.hid hL
 replace hone := Lib.hid hone
 replace hlen := Lib.hid hlen
 have HK : Hid (∀ wx, Below w.heap.size w wx -> wx.cell? ⟨b, 18, none⟩ = some sv.vc /\ wx.cell? ⟨b, 19, none⟩ = some (.bool r.layouts) /\ wx.cell? ⟨b, 29, none⟩ = some (.bool r.baseof)) := fun wx hb => ⟨(a.below hb).cell 18 _ rfl, (a.below hb).cell 19 _ rfl, (a.below hb).cell 29 _ rfl⟩
 have HAC : Hid (∀ wx, Below w.heap.size w wx -> Calls Tryz.prog 105 #[sv.vc, .string (B r.w.ext)] wx fun e w' => e = .returned (.bool (amongL site.content r.w.ext)) /\ wx = w') := fun wx hb => c_among site.content r.w.ext _ wx (hsite.below hb).c
 have HHS : Hid (∀ wx, Calls Tryz.prog 57 #[.string (B r.w.path), .string (B kShort)] wx fun e w' => e = .returned (.bool (holdsL r.w.path kShort)) /\ wx = w') := fun wx => c_holds r.w.path kShort wx (by omega) (by decide)
 have HHM : Hid (∀ wx, Calls Tryz.prog 57 #[.string (B r.w.path), .string (B kMarkup)] wx fun e w' => e = .returned (.bool (holdsL r.w.path kMarkup)) /\ wx = w') := fun wx => c_holds r.w.path kMarkup wx (by omega) (by decide)
 have HHP : Hid (∀ wx, Calls Tryz.prog 109 #[.string (B r.w.path), .string (B kPartials)] wx fun e w' => e = .returned (.bool (startsL r.w.path kPartials)) /\ wx = w') := fun wx => c_starts r.w.path kPartials wx (by omega) (by decide)
 obtain ⟨nm, hnm⟩ : ∃ t, t = r.w.name.take r.w.nameEnd := ⟨_, rfl⟩
 rw [<- hnm] at hT0
 replace hnm := Lib.hid hnm
 have hnei : (r.w.nameEnd : Int) <= (r.w.name.length : Int) := by omega
 generalize amongL site.content r.w.ext = am at HAC hT0
 generalize holdsL r.w.path kShort = sh at HHS hT0
 generalize holdsL r.w.path kMarkup = mk at HHM hT0
 generalize startsL r.w.path kPartials = pa at HHP hT0
 have HT := Lib.hid hT0
 clear hT0 a hsite hne
 go_enter Tryz.func134, Tryz.ntmps134
 go_wp2_with (refine wpList_load_mid rfl 85 (.tmp 9) rfl b 0 rfl L _ HRng.out Tryz.underlying85 rfl (by rw [hlen.out]; kernel_rfl) (Hid.out ?_))
 refine Lib.hid ?_
 go_wp2_with (refine wpList_store_row rfl 85 (.tmp 3) (.tmp 10) rfl w.heap.size L.toArray rfl rfl 85 _ (blk_new w _) (by rw [List.size_toArray, hlen.out]; kernel_rfl) hlen.out.symm hone.out (Hid.out ?_))
 have hrow := Lib.hid (setRow_heap (w.alloc (.cells #[.string (B []), .string (B []), .string (B []), .int .i64 0, .slice none 0 0, .slice none 0 0, .slice none 0 0, .string (B []), .string (B []), .string (B []), .string (B []), .string (B []), .string (B []), .bool false, .int .i64 0] 85)) w.heap.size _ L.toArray _ _ (blk_new w _))
 have hbel : Hid (Below w.heap.size w ((w.alloc (.cells #[.string (B []), .string (B []), .string (B []), .int .i64 0, .slice none 0 0, .slice none 0 0, .slice none 0 0, .string (B []), .string (B []), .string (B []), .string (B []), .string (B []), .string (B []), .bool false, .int .i64 0] 85)).setRow w.heap.size L.toArray)) := (Below_alloc w _).trans ⟨rfl, rfl, rfl, by simp, fun k hk => setRow_other _ _ _ _ (by omega)⟩
 generalize (w.alloc _).setRow _ _ = wf at hrow hbel |-
 generalize w.heap.size = gW at hrow |-
 refine Lib.hid ?_
 obtain ⟨x0, x2, x3, x4, x7, x1⟩ : wf.cell? ⟨gW, 0, none⟩ = some (.string (B r.w.component)) /\ wf.cell? ⟨gW, 2, none⟩ = some (.string (B r.w.name)) /\ wf.cell? ⟨gW, 3, none⟩ = some (.int .i64 r.w.nameEnd) /\ wf.cell? ⟨gW, 4, none⟩ = some (.slice a1 r.w.ids.length c1) /\ wf.cell? ⟨gW, 7, none⟩ = some (.string (B r.w.ext)) /\ wf.cell? ⟨gW, 1, none⟩ = some (.string (B r.w.path)) := by
  refine ⟨?_, ?_, ?_, ?_, ?_, ?_⟩ <;> (rw [cell_blk hrow.out, hL.out]; rfl)
 obtain ⟨k18, k19, k29⟩ := HK.out _ hbel.out
 replace HAC : Hid (∀ n, Calls Tryz.prog 105 #[sv.vc, .string (B r.w.ext)] (wf.drewN n) fun e w' => e = .returned (.bool am) /\ wf.drewN n = w') := fun n => HAC.out _ (Below_drewN hbel.out n)
 clear hrow hL hone hlen HRng HK
 obtain ⟨pt, hpt⟩ : ∃ t, t = !r.w.ids.isEmpty := ⟨_, rfl⟩
 rw [<- hpt] at HT
 have hptv : (decide (0 < r.w.ids.length)) = pt := by
  rw [hpt]
  cases r.w.ids with
  | nil => rfl
  | cons x t => simp <;> omega
 replace hptv := Lib.hid hptv
 go_upto_region 3 with fail
 clear x2 x3 hnei
 go_cut [4, 5] from 16 to 19 (fun s4 s5 wx => s4 = .string (B nm) /\ s5 = .bool pt /\ wf = wx)
 case first =>
  go_wp2_with fail
  go_meet
  exact ⟨by rw [hnm.out], by first | exact congrArg Value.bool hpt.symm | exact congrArg Value.bool hptv.out | (rw [hpt]; cases r.w.ids <;> simp), rfl⟩
 case rest =>
 obtain ⟨rfl, rfl, rfl⟩ := hcut
 clear hpt hptv x4 hnm
 obtain ⟨CC, hCC⟩ : ∃ t, t = (pt && (r.w.component == kContent || r.w.component == kArch) && am && !nm.isEmpty) := ⟨_, rfl⟩
 rw [<- hCC] at HT
 replace hCC := Lib.hid hCC
 go_upto_region 4 with fail
 go_cut [44] from 20 to 43 (fun s44 wx => s44 = .bool CC /\ ∃ n, wf.drewN n = wx)
 case first =>
  cases pt with
  | false =>
   have q : Hid (CC = false) := hCC.out
   go_quiet (fail)
   go_wp2_with fail
   go_meet
   exact ⟨by rw [q.out], _, rfl⟩
  | true =>
   cases hc : (r.w.component == [99, 111, 110, 116, 101, 110, 116]) with
   | true =>
    cases am with
    | false =>
     have q : Hid (CC = false) := by show _ = _; rw [hCC.out, show (r.w.component == kContent) = true from hc]; rfl
     go_quiet ((go_at_call 105; exact Calls.quiet_of_same ((HAC.out _).mono fun _ _ ⟨he, hw⟩ => ⟨he, hw.symm⟩)))
     go_wp2_with fail
     go_meet
     exact ⟨by rw [q.out], _, rfl⟩
    | true =>
     cases he : nm.isEmpty with
     | true =>
      have q : Hid (CC = false) := by show _ = _; rw [hCC.out, show (r.w.component == kContent) = true from hc, he]; rfl
      go_quiet ((go_at_call 105; exact Calls.quiet_of_same ((HAC.out _).mono fun _ _ ⟨he, hw⟩ => ⟨he, hw.symm⟩)))
      go_wp2_with fail
      go_meet
      exact ⟨by rw [q.out], _, rfl⟩
     | false =>
      have q : Hid (CC = true) := by show _ = _; rw [hCC.out, show (r.w.component == kContent) = true from hc, he]; rfl
      go_quiet ((go_at_call 105; exact Calls.quiet_of_same ((HAC.out _).mono fun _ _ ⟨he, hw⟩ => ⟨he, hw.symm⟩)))
      go_wp2_with fail
      go_meet
      exact ⟨by rw [q.out], _, rfl⟩
   | false =>
    cases ha : (r.w.component == [97, 114, 99, 104, 101, 116, 121, 112, 101, 115]) with
    | true =>
     cases am with
     | false =>
      have q : Hid (CC = false) := by show _ = _; rw [hCC.out, show (r.w.component == kContent) = false from hc, show (r.w.component == kArch) = true from ha]; rfl
      go_quiet ((go_at_call 105; exact Calls.quiet_of_same ((HAC.out _).mono fun _ _ ⟨he, hw⟩ => ⟨he, hw.symm⟩)))
      go_wp2_with fail
      go_meet
      exact ⟨by rw [q.out], _, rfl⟩
     | true =>
      cases he : nm.isEmpty with
      | true =>
       have q : Hid (CC = false) := by show _ = _; rw [hCC.out, show (r.w.component == kContent) = false from hc, show (r.w.component == kArch) = true from ha, he]; rfl
       go_quiet ((go_at_call 105; exact Calls.quiet_of_same ((HAC.out _).mono fun _ _ ⟨he, hw⟩ => ⟨he, hw.symm⟩)))
       go_wp2_with fail
       go_meet
       exact ⟨by rw [q.out], _, rfl⟩
      | false =>
       have q : Hid (CC = true) := by show _ = _; rw [hCC.out, show (r.w.component == kContent) = false from hc, show (r.w.component == kArch) = true from ha, he]; rfl
       go_quiet ((go_at_call 105; exact Calls.quiet_of_same ((HAC.out _).mono fun _ _ ⟨he, hw⟩ => ⟨he, hw.symm⟩)))
       go_wp2_with fail
       go_meet
       exact ⟨by rw [q.out], _, rfl⟩
    | false =>
     have q : Hid (CC = false) := by show _ = _; rw [hCC.out, show (r.w.component == kContent) = false from hc, show (r.w.component == kArch) = false from ha]; rfl
     go_quiet (fail)
     go_wp2_with fail
     go_meet
     exact ⟨by rw [q.out], _, rfl⟩
 case rest =>
 obtain ⟨rfl, n, rfl⟩ := hcut
 clear hCC HAC k18 x0
 replace hbel := Lib.hid (Below_drewN hbel.out n)
 cases CC with
 | true =>
  replace HT := Lib.hid (HT.out.trans (if_pos rfl))
  clear HHS HHM HHP k19 k29 x7 x1
  cases h1 : (nm == [105, 110, 100, 101, 120]) with
  | true =>
   have q : Hid (TY = 3) := by show _ = _; rw [HT.out, if_pos (show nm = kIndex by simpa using h1)]
   go_wp2_with fail
   go_ret
   exact ⟨by rw [q.out]; rfl, hbel.out⟩
  | false =>
   cases h2 : (nm == [95, 105, 110, 100, 101, 120]) with
   | true =>
    have q : Hid (TY = 4) := by show _ = _; rw [HT.out, if_neg (show ¬ nm = kIndex by simpa using h1), if_pos (show nm = kUIndex by simpa using h2)]
    go_wp2_with fail
    go_ret
    exact ⟨by rw [q.out]; rfl, hbel.out⟩
   | false =>
    have q : Hid (TY = 2) := by show _ = _; rw [HT.out, if_neg (show ¬ nm = kIndex by simpa using h1), if_neg (show ¬ nm = kUIndex by simpa using h2)]
    go_wp2_with fail
    go_ret
    exact ⟨by rw [q.out]; rfl, hbel.out⟩
 | false =>
 replace HT := Lib.hid (HT.out.trans (if_neg (by decide)))
 obtain ⟨DT, hDT⟩ : ∃ t, t = (pt && nm == kUContent && r.w.ext == kGotmpl) := ⟨_, rfl⟩
 rw [<- hDT] at HT
 replace hDT := Lib.hid hDT
 go_upto_region 11 with fail
 go_cut [6] from 50 to 59 (fun s6 wx => s6 = .bool DT /\ wf.drewN n = wx)
 case first =>
  cases pt with
  | false =>
   have q : Hid (DT = false) := hDT.out
   go_wp2_with fail
   go_meet
   exact ⟨by rw [q.out], rfl⟩
  | true =>
   cases h1 : (nm == [95, 99, 111, 110, 116, 101, 110, 116]) with
   | false =>
    have q : Hid (DT = false) := by show _ = _; rw [hDT.out, show (nm == kUContent) = false from h1]; rfl
    go_wp2_with fail
    go_meet
    exact ⟨by rw [q.out], rfl⟩
   | true =>
    cases h2 : (r.w.ext == [103, 111, 116, 109, 112, 108]) with
    | false =>
     have q : Hid (DT = false) := by show _ = _; rw [hDT.out, show (nm == kUContent) = true from h1, show (r.w.ext == kGotmpl) = false from h2]; rfl
     go_wp2_with fail
     go_meet
     exact ⟨by rw [q.out], rfl⟩
    | true =>
     have q : Hid (DT = true) := by show _ = _; rw [hDT.out, show (nm == kUContent) = true from h1, show (r.w.ext == kGotmpl) = true from h2]; rfl
     go_wp2_with fail
     go_meet
     exact ⟨by rw [q.out], rfl⟩
 case rest =>
 obtain ⟨rfl, rfl⟩ := hcut
 clear hDT x7
 obtain ⟨z19, z29, z1⟩ : (wf.drewN n).cell? ⟨b, 19, none⟩ = some (.bool r.layouts) /\ (wf.drewN n).cell? ⟨b, 29, none⟩ = some (.bool r.baseof) /\ (wf.drewN n).cell? ⟨gW, 1, none⟩ = some (.string (B r.w.path)) := ⟨((Below_drewN (Below.refl (wf.heap.size) wf) n).cell (p := ⟨b, 19, none⟩) (cell_lt k19)).trans k19, ((Below_drewN (Below.refl (wf.heap.size) wf) n).cell (p := ⟨b, 29, none⟩) (cell_lt k29)).trans k29, ((Below_drewN (Below.refl (wf.heap.size) wf) n).cell (p := ⟨gW, 1, none⟩) (cell_lt x1)).trans x1⟩
 clear k19 k29 x1
 generalize wf.drewN n = wd at hbel z19 z29 z1 |-
 cases DT with
 | true =>
  cases hl : r.layouts with
  | true =>
   rw [hl] at z19 HT
   cases hb : r.baseof with
   | true =>
    rw [hb] at z29 HT
    have q : Hid (TY = 9) := by show _ = _; rw [HT.out]; rfl
    go_wp2_with fail
    go_ret
    exact ⟨by rw [q.out]; rfl, hbel.out⟩
   | false =>
    rw [hb] at z29 HT
    go_wp2_with fail
    refine (HHS.out _).mono ?_; rintro e w' ⟨rfl, rfl⟩
    cases sh with
    | true =>
     have q : Hid (TY = 7) := by show _ = _; rw [HT.out]; rfl
     go_wp2_with fail
     go_ret
     exact ⟨by rw [q.out]; rfl, hbel.out⟩
    | false =>
     go_wp2_with fail
     refine (HHM.out _).mono ?_; rintro e w' ⟨rfl, rfl⟩
     cases mk with
     | true =>
      have q : Hid (TY = 6) := by show _ = _; rw [HT.out]; rfl
      go_wp2_with fail
      go_ret
      exact ⟨by rw [q.out]; rfl, hbel.out⟩
     | false =>
      go_wp2_with fail
      refine (HHP.out _).mono ?_; rintro e w' ⟨rfl, rfl⟩
      cases pa with
      | true =>
       have q : Hid (TY = 8) := by show _ = _; rw [HT.out]; rfl
       go_wp2_with fail
       go_ret
       exact ⟨by rw [q.out]; rfl, hbel.out⟩
      | false =>
       have q : Hid (TY = 5) := by show _ = _; rw [HT.out]; rfl
       go_wp2_with fail
       go_ret
       exact ⟨by rw [q.out]; rfl, hbel.out⟩
  | false =>
   rw [hl] at z19 HT
   have q : Hid (TY = 5) := by show _ = _; rw [HT.out]; rfl
   go_wp2_with fail
   go_ret
   exact ⟨by rw [q.out]; rfl, hbel.out⟩
 | false =>
  go_wp2_with fail
  refine (HHS.out _).mono ?_; rintro e w' ⟨rfl, rfl⟩
  cases sh with
  | true =>
   have q : Hid (TY = 7) := by show _ = _; rw [HT.out]; rfl
   go_wp2_with fail
   go_ret
   exact ⟨by rw [q.out]; rfl, hbel.out⟩
  | false =>
   cases hl : r.layouts with
   | true =>
    rw [hl] at z19 HT
    cases hb : r.baseof with
    | true =>
     rw [hb] at z29 HT
     have q : Hid (TY = 9) := by show _ = _; rw [HT.out]; rfl
     go_wp2_with fail
     go_ret
     exact ⟨by rw [q.out]; rfl, hbel.out⟩
    | false =>
     rw [hb] at z29 HT
     go_wp2_with fail
     refine (HHM.out _).mono ?_; rintro e w' ⟨rfl, rfl⟩
     cases mk with
     | true =>
      have q : Hid (TY = 6) := by show _ = _; rw [HT.out]; rfl
      go_wp2_with fail
      go_ret
      exact ⟨by rw [q.out]; rfl, hbel.out⟩
     | false =>
      go_wp2_with fail
      refine (HHP.out _).mono ?_; rintro e w' ⟨rfl, rfl⟩
      cases pa with
      | true =>
       have q : Hid (TY = 8) := by show _ = _; rw [HT.out]; rfl
       go_wp2_with fail
       go_ret
       exact ⟨by rw [q.out]; rfl, hbel.out⟩
      | false =>
       have q : Hid (TY = 0) := by show _ = _; rw [HT.out]; rfl
       go_wp2_with fail
       go_ret
       exact ⟨by rw [q.out]; rfl, hbel.out⟩
   | false =>
    rw [hl] at z19 HT
    have q : Hid (TY = 0) := by show _ = _; rw [HT.out]; rfl
    go_wp2_with fail
    go_ret
    exact ⟨by rw [q.out]; rfl, hbel.out⟩

end Go.Proofs.YtjkecadfakjanaaGreatDoor
