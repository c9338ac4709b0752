/- The reference's Answers walked: what a path answers, by its words. Printed by gen_ansc.py. Conditions: texts of at most 10^8 bytes; a name within its path, a name's end and an extension within the name. -/
import Derived.Test.YtjkecadfakjanaaGreatDoorAnsM
import Derived.Test.YtjkecadfakjanaaGreatDoorTold
import Derived.Deep.RegionHeld3
set_option maxRecDepth 100000
set_option linter.unusedVariables false
set_option linter.unusedSimpArgs false
namespace Go.Proofs.YtjkecadfakjanaaGreatDoor
open Go.RowKit
attribute [local go_sem] B_extract B_toList B_append

/-- The cells of a Told. -/
def tcel (t : ToldM) (vl vi vu : Value) : Array Value := #[.string (B t.component), .string (B t.container), .string (B t.containerDir), .string (B t.section_), .string (B t.name), .string (B t.nameNoExt), .string (B t.baseName), .string (B t.nameNoId), .string (B t.dir), .string (B t.path), .string (B t.pathNoLang), .string (B t.pathNoId), .string (B t.pathBefore), .string (B t.base), .string (B t.idBase), .string (B t.ext), .string (B t.format), .string (B t.kind), .string (B t.layout), .string (B t.lang), .string (B t.custom), vl, vi, vu, .bool t.disabled, .bool t.isContent, .bool t.isBundle, .bool t.isBranch, .bool t.isLeaf, .bool t.isData, .int .i64 t.typ]
theorem toldVal_eq (t : ToldM) (vl vi vu : Value) : toldVal t vl vi vu = .agg (tcel t vl vi vu) := rfl

/-- The answers as they grow. -/
def ans0 (W : WordsM) : ToldM := { component := W.component, path := W.path, name := W.name, typ := W.typ, ext := W.ext, format := W.format, kind := W.kind, layout := W.layout, lang := W.lang, custom := W.custom, langs := W.langs, ids := W.ids, unknown := W.unknown, disabled := W.disabled }
def an2 (T : ToldM) (DI CO SE : Str) : ToldM := { T with dir := DI, container := CO, section_ := SE }
def an3 (T : ToldM) (DI : Str) : ToldM := { T with containerDir := DI }
def an4 (T : ToldM) (NN BE : Str) : ToldM := { T with nameNoId := NN, nameNoExt := BE }
def an5 (T : ToldM) (NN : Str) : ToldM := { T with baseName := NN }
def an6 (T : ToldM) (c b : Bool) : ToldM := { T with isContent := c, isBundle := b }
def an7 (T : ToldM) (l r d : Bool) : ToldM := { T with isLeaf := l, isBranch := r, isData := d }
def an8 (T : ToldM) (bn cd : Str) : ToldM := { T with baseName := bn, containerDir := cd }
def an12 (T : ToldM) (NL NI BP : Str) : ToldM := { T with pathNoLang := NL, pathNoId := NI, pathBefore := BP }
def an13 (T : ToldM) (BA : Str) : ToldM := { T with base := BA }
def an14 (T : ToldM) (IB : Str) : ToldM := { T with idBase := IB }
theorem answers_eq (W : WordsM) : answers W = an14 (an13 (an12 (an8 (an7 (an6 (an5 (an4 (an3 (an2 (ans0 W) (dirOf W.path) (containerOf W.path) (sectionOf W)) (dirOf W.path)) (W.name.take W.nameEnd) (beforeExt W W.name)) (W.name.take W.nameEnd))
  (decide (1 <= W.typ) && decide (W.typ <= 5)) (isBundleT W.typ)) (decide (W.typ = 3)) (decide (W.typ = 4)) (decide (W.typ = 5)))
  (if isBundleT W.typ then containerOf W.path else W.name.take W.nameEnd) (if isBundleT W.typ /\ containerOf W.path ≠ [] then (dirOf W.path).take (slashB (dirOf W.path) (dirOf W.path).length).toNat else dirOf W.path))
  (noLang W) (noIdentifier W) (beforeExt W W.path)) (baseOf W)) (if W.component = kLayouts then W.path else baseOf W) := rfl

theorem slashB_ge (s : Str) : ∀ (k i : Nat), i < k -> s[i]? = some 47 -> (i : Int) <= slashB s k
 | 0, i, h, _ => by omega
 | k + 1, i, h, e => by
  unfold slashB
  split
  ·omega
  ·rename_i hk
   by_cases hik : i = k
   ·exact absurd (hik ▸ e) hk
   ·exact slashB_ge s k i (by omega) e
theorem con_slash (p : Str) (h47 : p.head? = some 47) (h : containerOf p ≠ []) : 0 <= slashB (dirOf p) (dirOf p).length := by
 unfold containerOf at h
 have hp : ¬ slashB p p.length <= 0 := fun x => h (if_pos x)
 unfold dirOf
 rw [if_neg hp]
 obtain ⟨k, hk⟩ : ∃ k : Nat, slashB p p.length = ((k + 1 : Nat) : Int) := ⟨(slashB p p.length).toNat - 1, by omega⟩
 have hlt := (slashB_lt p p.length).1
 rw [hk]
 have e0 : (p.take (k + 1))[0]? = some 47 := by
  rw [List.getElem?_take_of_lt (by omega), <- List.head?_eq_getElem?]; exact h47
 have hl : 0 < (p.take ((k + 1 : Nat) : Int).toNat).length := by rw [Int.toNat_natCast, List.length_take]; omega
 have := slashB_ge (p.take ((k + 1 : Nat) : Int).toNat) _ 0 hl (by rw [Int.toNat_natCast]; exact e0)
 exact this

/-- While Answers runs: the words, the result's cell, the answers so far. -/
structure AnsIn (w wx : World) (W : WordsM) (a1 a2 a3 : Option Addr) (c1 c2 c3 : Nat) (T : ToldM) : Prop where
 wd : wx.heap[w.heap.size]? = some (.cells #[.string (B W.component), .string (B W.path), .string (B W.name), .int .i64 W.nameEnd, .slice a1 W.ids.length c1, .slice a2 W.unknown.length c2, .slice a3 W.langs.length c3, .string (B W.ext), .string (B W.format), .string (B W.kind), .string (B W.layout), .string (B W.lang), .string (B W.custom), .bool W.disabled, .int .i64 W.typ] 85 (0, 0))
 rs : wx.heap[w.heap.size + 1]? = some (.cells #[.string (B []), .string (B []), .string (B []), .string (B []), .string (B []), .string (B []), .string (B []), .string (B []), .string (B []), .string (B []), .string (B []), .string (B []), .string (B []), .string (B []), .string (B []), .string (B []), .string (B []), .string (B []), .string (B []), .string (B []), .string (B []), .slice none 0 0, .slice none 0 0, .slice none 0 0, .bool false, .bool false, .bool false, .bool false, .bool false, .bool false, .int .i64 0] 29 (0, 0))
 td : wx.heap[w.heap.size + 2]? = some (.cells (tcel T (.slice a3 W.langs.length c3) (.slice a1 W.ids.length c1) (.slice a2 W.unknown.length c2)) 29 (0, 0))
 bel : Below w.heap.size w wx
section
variable {w wx : World} {W : WordsM} {a1 a2 a3 : Option Addr} {c1 c2 c3 : Nat} {T : ToldM}
theorem AnsIn.below {w' : World} (h : AnsIn w wx W a1 a2 a3 c1 c2 c3 T) (hb : Below wx.heap.size wx w') : AnsIn w w' W a1 a2 a3 c1 c2 c3 T :=
 ⟨blk_below h.wd hb, blk_below h.rs hb, blk_below h.td hb, belowThen h.bel hb (Nat.le_refl _)⟩
theorem AnsIn.wc (h : AnsIn w wx W a1 a2 a3 c1 c2 c3 T) (k : Nat) (v : Value) (hk : (#[.string (B W.component), .string (B W.path), .string (B W.name), .int .i64 W.nameEnd, .slice a1 W.ids.length c1, .slice a2 W.unknown.length c2, .slice a3 W.langs.length c3, .string (B W.ext), .string (B W.format), .string (B W.kind), .string (B W.layout), .string (B W.lang), .string (B W.custom), .bool W.disabled, .int .i64 W.typ] : Array Value)[k]? = some v) : wx.cell? ⟨w.heap.size, k, none⟩ = some v := by rw [cell_blk h.wd]; exact hk
theorem AnsIn.lt (h : AnsIn w wx W a1 a2 a3 c1 c2 c3 T) : w.heap.size < wx.heap.size := (Array.getElem?_eq_some_iff.1 h.wd).1
theorem AnsIn.tc (h : AnsIn w wx W a1 a2 a3 c1 c2 c3 T) (k : Nat) (v : Value) (hk : (tcel T (.slice a3 W.langs.length c3) (.slice a1 W.ids.length c1) (.slice a2 W.unknown.length c2))[k]? = some v) : wx.cell? ⟨w.heap.size + 2, k, none⟩ = some v := by rw [cell_blk h.td]; exact hk
theorem AnsIn.tf (h : AnsIn w wx W a1 a2 a3 c1 c2 c3 T) (k : Nat) : wx.frozen? ⟨w.heap.size + 2, k, none⟩ = false := free_blk h.td k
theorem AnsIn.set (h : AnsIn w wx W a1 a2 a3 c1 c2 c3 T) (k : Nat) (v : Value) (T' : ToldM) (he : (tcel T (.slice a3 W.langs.length c3) (.slice a1 W.ids.length c1) (.slice a2 W.unknown.length c2)).setIfInBounds k v = tcel T' (.slice a3 W.langs.length c3) (.slice a1 W.ids.length c1) (.slice a2 W.unknown.length c2)) :
  AnsIn w (wx.setCell ⟨w.heap.size + 2, k, none⟩ v) W a1 a2 a3 c1 c2 c3 T' :=
 ⟨(heap_set_far v (by omega)).trans h.wd, (heap_set_far v (by omega)).trans h.rs, by rw [blk_set v h.td, he], h.bel.setCell (show w.heap.size <= w.heap.size + 2 by omega) v⟩
end

set_option maxHeartbeats 16000000 in
theorem c_Answers (W : WordsM) (a1 a2 a3 : Option Addr) (c1 c2 c3 : Nat) (w : World) (hp : W.path.length <= 100000000) (hn : W.name.length <= W.path.length) (hne : W.nameEnd <= W.name.length) (hx : W.ids ≠ [] -> W.ext.length + 1 <= W.name.length) (hxl : W.ext.length <= 1000000000) (h47 : W.path.head? = some 47) :
  Calls Tryz.prog 98 #[.agg #[.string (B W.component), .string (B W.path), .string (B W.name), .int .i64 W.nameEnd, .slice a1 W.ids.length c1, .slice a2 W.unknown.length c2, .slice a3 W.langs.length c3, .string (B W.ext), .string (B W.format), .string (B W.kind), .string (B W.layout), .string (B W.lang), .string (B W.custom), .bool W.disabled, .int .i64 W.typ]] w fun e w' => e = .returned (toldVal (answers W) (.slice a3 W.langs.length c3) (.slice a1 W.ids.length c1) (.slice a2 W.unknown.length c2)) /\ Below w.heap.size w w' := by
 have HA := Lib.hid (answers_eq W)
 generalize answers W = AW at HA
 have HDI : Hid (∀ wx, Calls Tryz.prog 121 #[.string (B W.path)] wx fun e w' => e = .returned (.string (B (dirOf W.path))) /\ wx = w') := fun wx => c_dirOf W.path wx (by omega)
 have HCO : Hid (∀ wx, Calls Tryz.prog 122 #[.string (B W.path)] wx fun e w' => e = .returned (.string (B (containerOf W.path))) /\ wx = w') := fun wx => c_containerOf W.path wx (by omega)
 have HSE : Hid (∀ wx, Calls Tryz.prog 123 #[.agg #[.string (B W.component), .string (B W.path), .string (B W.name), .int .i64 W.nameEnd, .slice a1 W.ids.length c1, .slice a2 W.unknown.length c2, .slice a3 W.langs.length c3, .string (B W.ext), .string (B W.format), .string (B W.kind), .string (B W.layout), .string (B W.lang), .string (B W.custom), .bool W.disabled, .int .i64 W.typ]] wx fun e w' => e = .returned (.string (B (sectionOf W))) /\ Below wx.heap.size wx w') := fun wx => c_sectionOf W a1 a2 a3 c1 c2 c3 wx hp
 have HBE : Hid (∀ wx, Calls Tryz.prog 124 #[.agg #[.string (B W.component), .string (B W.path), .string (B W.name), .int .i64 W.nameEnd, .slice a1 W.ids.length c1, .slice a2 W.unknown.length c2, .slice a3 W.langs.length c3, .string (B W.ext), .string (B W.format), .string (B W.kind), .string (B W.layout), .string (B W.lang), .string (B W.custom), .bool W.disabled, .int .i64 W.typ], .string (B W.name)] wx fun e w' => e = .returned (.string (B (beforeExt W W.name))) /\ Below wx.heap.size wx w') := fun wx => c_beforeExt W a1 a2 a3 c1 c2 c3 W.name wx (by omega) hx
 have HBP : Hid (∀ wx, Calls Tryz.prog 124 #[.agg #[.string (B W.component), .string (B W.path), .string (B W.name), .int .i64 W.nameEnd, .slice a1 W.ids.length c1, .slice a2 W.unknown.length c2, .slice a3 W.langs.length c3, .string (B W.ext), .string (B W.format), .string (B W.kind), .string (B W.layout), .string (B W.lang), .string (B W.custom), .bool W.disabled, .int .i64 W.typ], .string (B W.path)] wx fun e w' => e = .returned (.string (B (beforeExt W W.path))) /\ Below wx.heap.size wx w') := fun wx => c_beforeExt W a1 a2 a3 c1 c2 c3 W.path wx (by omega) (fun h => by have := hx h; omega)
 have HBU : Hid (∀ wx, Calls Tryz.prog 125 #[.int .i64 W.typ] wx fun e w' => e = .returned (.bool (isBundleT W.typ)) /\ wx = w') := fun wx => c_isBundle W.typ wx
 have HNL : Hid (∀ wx, Calls Tryz.prog 126 #[.agg #[.string (B W.component), .string (B W.path), .string (B W.name), .int .i64 W.nameEnd, .slice a1 W.ids.length c1, .slice a2 W.unknown.length c2, .slice a3 W.langs.length c3, .string (B W.ext), .string (B W.format), .string (B W.kind), .string (B W.layout), .string (B W.lang), .string (B W.custom), .bool W.disabled, .int .i64 W.typ]] wx fun e w' => e = .returned (.string (B (noLang W))) /\ Below wx.heap.size wx w') := fun wx => c_noLang W a1 a2 a3 c1 c2 c3 wx (by omega) hn hne hxl
 have HNI : Hid (∀ wx, Calls Tryz.prog 127 #[.agg #[.string (B W.component), .string (B W.path), .string (B W.name), .int .i64 W.nameEnd, .slice a1 W.ids.length c1, .slice a2 W.unknown.length c2, .slice a3 W.langs.length c3, .string (B W.ext), .string (B W.format), .string (B W.kind), .string (B W.layout), .string (B W.lang), .string (B W.custom), .bool W.disabled, .int .i64 W.typ]] wx fun e w' => e = .returned (.string (B (noIdentifier W))) /\ Below wx.heap.size wx w') := fun wx => c_noIdentifier W a1 a2 a3 c1 c2 c3 wx (by omega) hn hne
 have HBA : Hid (∀ wx, Calls Tryz.prog 128 #[.agg #[.string (B W.component), .string (B W.path), .string (B W.name), .int .i64 W.nameEnd, .slice a1 W.ids.length c1, .slice a2 W.unknown.length c2, .slice a3 W.langs.length c3, .string (B W.ext), .string (B W.format), .string (B W.kind), .string (B W.layout), .string (B W.lang), .string (B W.custom), .bool W.disabled, .int .i64 W.typ]] wx fun e w' => e = .returned (.string (B (baseOf W))) /\ Below wx.heap.size wx w') := fun wx => c_baseOf W a1 a2 a3 c1 c2 c3 wx (by omega) hn hne hxl
 have hdl : (dirOf W.path).length <= 100000001 := by
  unfold dirOf
  split
  ·simp
  ·rw [List.length_take]; omega
 obtain ⟨hsl1, hsl2⟩ := slashB_lt (dirOf W.path) (dirOf W.path).length
 have HSB : Hid (∀ wx, Calls Tryz.prog 110 #[.string (B (dirOf W.path)), .int .i64 (dirOf W.path).length] wx fun e w' => e = .returned (.int .i64 (slashB (dirOf W.path) (dirOf W.path).length)) /\ w' = wx) := fun wx => (c_slashBefore (dirOf W.path) (dirOf W.path).length wx (by omega) (Nat.le_refl _)).mono fun _ _ ⟨h1, h2⟩ => ⟨h1, h2.symm⟩
 have hcon : Hid (containerOf W.path ≠ [] -> 0 <= slashB (dirOf W.path) (dirOf W.path).length) := con_slash W.path h47
 generalize sectionOf W = SE at HSE HA
 generalize containerOf W.path = CO at HCO HA hcon
 generalize beforeExt W W.name = BN at HBE HA
 generalize beforeExt W W.path = BP at HBP HA
 generalize noLang W = NL at HNL HA
 generalize noIdentifier W = NI at HNI HA
 generalize baseOf W = BA at HBA HA
 generalize slashB (dirOf W.path) (dirOf W.path).length = SB at HSB HA hsl1 hsl2 hcon
 generalize dirOf W.path = DI at HDI HA HSB hdl hsl1
 generalize isBundleT W.typ = IB at HBU HA
 have g0 : (W.nameEnd : Int) <= (W.name.length : Int) := by omega
 obtain ⟨obs, hobs⟩ : ∃ o : Obj, o = .cells #[.string (B W.component), .string (B W.path), .string (B W.name), .int .i64 W.nameEnd, .slice a1 W.ids.length c1, .slice a2 W.unknown.length c2, .slice a3 W.langs.length c3, .string (B W.ext), .string (B W.format), .string (B W.kind), .string (B W.layout), .string (B W.lang), .string (B W.custom), .bool W.disabled, .int .i64 W.typ] 85 := ⟨_, rfl⟩
 obtain ⟨oz, hoz⟩ : ∃ o : Obj, o = .cells #[.string (B []), .string (B []), .string (B []), .string (B []), .string (B []), .string (B []), .string (B []), .string (B []), .string (B []), .string (B []), .string (B []), .string (B []), .string (B []), .string (B []), .string (B []), .string (B []), .string (B []), .string (B []), .string (B []), .string (B []), .string (B []), .slice none 0 0, .slice none 0 0, .slice none 0 0, .bool false, .bool false, .bool false, .bool false, .bool false, .bool false, .int .i64 0] 29 := ⟨_, rfl⟩
 have hB1 : Hid (Below w.heap.size w ((w.alloc obs).alloc oz)) := (Below_alloc w obs).trans ((Below_alloc (w.alloc obs) oz).mono (by simp))
 have hz1 : Hid (((w.alloc obs).alloc oz).heap.size = w.heap.size + 2) := by show _ = _; simp
 have hwd : Hid (((w.alloc obs).alloc oz).heap[w.heap.size]? = some (.cells #[.string (B W.component), .string (B W.path), .string (B W.name), .int .i64 W.nameEnd, .slice a1 W.ids.length c1, .slice a2 W.unknown.length c2, .slice a3 W.langs.length c3, .string (B W.ext), .string (B W.format), .string (B W.kind), .string (B W.layout), .string (B W.lang), .string (B W.custom), .bool W.disabled, .int .i64 W.typ] 85)) := by
  have := blk_old (w.alloc obs) oz (blk_new w obs)
  rw [hobs] at this |-; exact this
 have hrs : Hid (((w.alloc obs).alloc oz).heap[w.heap.size + 1]? = some (.cells #[.string (B []), .string (B []), .string (B []), .string (B []), .string (B []), .string (B []), .string (B []), .string (B []), .string (B []), .string (B []), .string (B []), .string (B []), .string (B []), .string (B []), .string (B []), .string (B []), .string (B []), .string (B []), .string (B []), .string (B []), .string (B []), .slice none 0 0, .slice none 0 0, .slice none 0 0, .bool false, .bool false, .bool false, .bool false, .bool false, .bool false, .int .i64 0] 29)) := by
  have := blk_new (w.alloc obs) oz
  rw [show (w.alloc obs).heap.size = w.heap.size + 1 by simp, hoz] at this
  rw [hoz]; exact this
 go_enter Tryz.func98, Tryz.ntmps98
 go_upto_region 1 with fail
 rw [<- hobs, <- hoz]
 generalize (w.alloc obs).alloc oz = w1 at hB1 hz1 hwd hrs |-
 obtain ⟨k0, k1, k2, k3, k4, k5, k6, k7, k8, k9, k10, k11, k12, k13, k14⟩ : w1.cell? ⟨w.heap.size, 0, none⟩ = some (.string (B W.component)) /\ w1.cell? ⟨w.heap.size, 1, none⟩ = some (.string (B W.path)) /\ w1.cell? ⟨w.heap.size, 2, none⟩ = some (.string (B W.name)) /\ w1.cell? ⟨w.heap.size, 3, none⟩ = some (.int .i64 W.nameEnd) /\ w1.cell? ⟨w.heap.size, 4, none⟩ = some (.slice a1 W.ids.length c1) /\ w1.cell? ⟨w.heap.size, 5, none⟩ = some (.slice a2 W.unknown.length c2) /\ w1.cell? ⟨w.heap.size, 6, none⟩ = some (.slice a3 W.langs.length c3) /\ w1.cell? ⟨w.heap.size, 7, none⟩ = some (.string (B W.ext)) /\ w1.cell? ⟨w.heap.size, 8, none⟩ = some (.string (B W.format)) /\ w1.cell? ⟨w.heap.size, 9, none⟩ = some (.string (B W.kind)) /\ w1.cell? ⟨w.heap.size, 10, none⟩ = some (.string (B W.layout)) /\ w1.cell? ⟨w.heap.size, 11, none⟩ = some (.string (B W.lang)) /\ w1.cell? ⟨w.heap.size, 12, none⟩ = some (.string (B W.custom)) /\ w1.cell? ⟨w.heap.size, 13, none⟩ = some (.bool W.disabled) /\ w1.cell? ⟨w.heap.size, 14, none⟩ = some (.int .i64 W.typ) := ⟨cell_blk hwd.out 0, cell_blk hwd.out 1, cell_blk hwd.out 2, cell_blk hwd.out 3, cell_blk hwd.out 4, cell_blk hwd.out 5, cell_blk hwd.out 6, cell_blk hwd.out 7, cell_blk hwd.out 8, cell_blk hwd.out 9, cell_blk hwd.out 10, cell_blk hwd.out 11, cell_blk hwd.out 12, cell_blk hwd.out 13, cell_blk hwd.out 14⟩
 go_wp2_with fail
 refine wp_buildC 29 _ (tcel (ans0 W) (.slice a3 W.langs.length c3) (.slice a1 W.ids.length c1) (.slice a2 W.unknown.length c2)) rfl (by kernel_rfl) ?_
 rename_i hK
 refine hK _ _ ?_
 clear k0 k1 k2 k3 k4 k5 k6 k7 k8 k9 k10 k11 k12 k13 k14
 go_wp2_with (refine wpList_store_row rfl 29 (.tmp 3) (.tmp 32) rfl w1.heap.size (tcel (ans0 W) (.slice a3 W.langs.length c3) (.slice a1 W.ids.length c1) (.slice a2 W.unknown.length c2)) rfl rfl 29 _ (blk_new w1 _) (by kernel_rfl) (by rfl) (by kernel_rfl) (Hid.out ?_))
 have hz2 := hz1.out
 have hrow := setRow_heap (w1.alloc (.cells #[.string (B []), .string (B []), .string (B []), .string (B []), .string (B []), .string (B []), .string (B []), .string (B []), .string (B []), .string (B []), .string (B []), .string (B []), .string (B []), .string (B []), .string (B []), .string (B []), .string (B []), .string (B []), .string (B []), .string (B []), .string (B []), .slice none 0 0, .slice none 0 0, .slice none 0 0, .bool false, .bool false, .bool false, .bool false, .bool false, .bool false, .int .i64 0] 29)) w1.heap.size _ (tcel (ans0 W) (.slice a3 W.langs.length c3) (.slice a1 W.ids.length c1) (.slice a2 W.unknown.length c2)) _ _ (blk_new w1 _)
 have A1 : Hid (AnsIn w ((w1.alloc (.cells #[.string (B []), .string (B []), .string (B []), .string (B []), .string (B []), .string (B []), .string (B []), .string (B []), .string (B []), .string (B []), .string (B []), .string (B []), .string (B []), .string (B []), .string (B []), .string (B []), .string (B []), .string (B []), .string (B []), .string (B []), .string (B []), .slice none 0 0, .slice none 0 0, .slice none 0 0, .bool false, .bool false, .bool false, .bool false, .bool false, .bool false, .int .i64 0] 29)).setRow w1.heap.size (tcel (ans0 W) (.slice a3 W.langs.length c3) (.slice a1 W.ids.length c1) (.slice a2 W.unknown.length c2))) W a1 a2 a3 c1 c2 c3 (ans0 W)) := by
  refine ⟨(setRow_other _ _ _ _ (by omega)).trans (blk_old _ _ hwd.out), (setRow_other _ _ _ _ (by omega)).trans (blk_old _ _ hrs.out), ?_, hB1.out.trans (((Below_alloc w1 _).mono (by omega)).trans ⟨rfl, rfl, rfl, by simp, fun k hk => setRow_other _ _ _ _ (by omega)⟩)⟩
  rw [<- hz2]; exact hrow
 generalize (w1.alloc _).setRow _ _ = w2 at A1 |-
 rw [hz2]
 clear hrow hwd hrs hB1 hz1 hz2 hobs hoz
 refine Lib.hid ?_
 go_upto_region 2 with fail
 have z0 := fun z => Fam.cell (A1.out.wc 0 (.string (B W.component)) rfl) A1.out.lt z
 have z1 := fun z => Fam.cell (A1.out.wc 1 (.string (B W.path)) rfl) A1.out.lt z
 have z2 := fun z => Fam.cell (A1.out.wc 2 (.string (B W.name)) rfl) A1.out.lt z
 have z3 := fun z => Fam.cell (A1.out.wc 3 (.int .i64 W.nameEnd) rfl) A1.out.lt z
 have z4 := fun z => Fam.cell (A1.out.wc 4 (.slice a1 W.ids.length c1) rfl) A1.out.lt z
 have z5 := fun z => Fam.cell (A1.out.wc 5 (.slice a2 W.unknown.length c2) rfl) A1.out.lt z
 have z6 := fun z => Fam.cell (A1.out.wc 6 (.slice a3 W.langs.length c3) rfl) A1.out.lt z
 have z7 := fun z => Fam.cell (A1.out.wc 7 (.string (B W.ext)) rfl) A1.out.lt z
 have z8 := fun z => Fam.cell (A1.out.wc 8 (.string (B W.format)) rfl) A1.out.lt z
 have z9 := fun z => Fam.cell (A1.out.wc 9 (.string (B W.kind)) rfl) A1.out.lt z
 have z10 := fun z => Fam.cell (A1.out.wc 10 (.string (B W.layout)) rfl) A1.out.lt z
 have z11 := fun z => Fam.cell (A1.out.wc 11 (.string (B W.lang)) rfl) A1.out.lt z
 have z12 := fun z => Fam.cell (A1.out.wc 12 (.string (B W.custom)) rfl) A1.out.lt z
 have z13 := fun z => Fam.cell (A1.out.wc 13 (.bool W.disabled) rfl) A1.out.lt z
 have z14 := fun z => Fam.cell (A1.out.wc 14 (.int .i64 W.typ) rfl) A1.out.lt z
 have q1 : Hid (∀ z : Fam w2, Calls Tryz.prog 121 #[.string (B W.path)] z.val fun e w'' => e = .returned (.string (B DI)) /\ ∃ z' : Fam w2, w'' = z'.val) := fun z => Fam.callS (fun wx => HDI.out wx) z
 have q2 : Hid (∀ z : Fam w2, Calls Tryz.prog 122 #[.string (B W.path)] z.val fun e w'' => e = .returned (.string (B CO)) /\ ∃ z' : Fam w2, w'' = z'.val) := fun z => Fam.callS (fun wx => HCO.out wx) z
 have q3 : Hid (∀ z : Fam w2, Calls Tryz.prog 123 #[.agg #[.string (B W.component), .string (B W.path), .string (B W.name), .int .i64 W.nameEnd, .slice a1 W.ids.length c1, .slice a2 W.unknown.length c2, .slice a3 W.langs.length c3, .string (B W.ext), .string (B W.format), .string (B W.kind), .string (B W.layout), .string (B W.lang), .string (B W.custom), .bool W.disabled, .int .i64 W.typ]] z.val fun e w'' => e = .returned (.string (B SE)) /\ ∃ z' : Fam w2, w'' = z'.val) := fun z => Fam.call (fun wx => HSE.out wx) z
 refine wp_family (Z := Fam w2) Fam.val (Fam.mk0 w2) rfl 9 (by kernel_rfl) (by kernel_rfl) ?_
 simp only [List.take_succ_cons, List.take_zero, List.drop_succ_cons, List.drop_zero]
 quiet_step (fail)
 quiet_step (fail)
 quiet_step ((go_at_call 121; exact q1.out _))
 quiet_step (fail)
 quiet_step (fail)
 quiet_step ((go_at_call 122; exact q2.out _))
 quiet_step (fail)
 quiet_step ((go_at_call 123; exact q3.out _))
 quiet_step (fail)
 refine wpQuiet_nil ?_
 intro z
 have Az := Lib.hid (A1.out.below z.bel)
 clear z0 z1 z2 z3 z4 z5 z6 z7 z8 z9 z10 z11 z12 z13 z14
 clear q1 q2 q3 HDI HCO HSE A1
 generalize z.val = wz at Az |-
 have t8 := Az.out.tc 8 (.string (B [])) rfl
 have f8 := Az.out.tf 8
 have t1 := Az.out.tc 1 (.string (B [])) rfl
 have f1 := Az.out.tf 1
 have t3 := Az.out.tc 3 (.string (B [])) rfl
 have f3 := Az.out.tf 3
 have S0 := AnsIn.set (Az.out) 8 (.string (B DI)) ({ ans0 W with dir := DI }) rfl
 have S1 := AnsIn.set (S0) 1 (.string (B CO)) ({ ans0 W with dir := DI, container := CO }) rfl
 have S2 := AnsIn.set (S1) 3 (.string (B SE)) (an2 (ans0 W) DI CO SE) rfl
 have A3 := Lib.hid S2
 clear S0 S1 S2
 go_upto_region 3 with fail
 generalize (World.setCell (World.setCell (World.setCell wz ⟨w.heap.size + 2, 8, none⟩ (.string (B DI))) ⟨w.heap.size + 2, 1, none⟩ (.string (B CO))) ⟨w.heap.size + 2, 3, none⟩ (.string (B SE))) = w3 at A3 |-
 clear t8 f8 t1 f1 t3 f3 Az
 have l8 := A3.out.tc 8 (.string (B DI)) rfl
 have t2 := A3.out.tc 2 (.string (B [])) rfl
 have f2 := A3.out.tf 2
 have S0 := AnsIn.set (A3.out) 2 (.string (B DI)) (an3 (an2 (ans0 W) DI CO SE) DI) rfl
 have A4 := Lib.hid S0
 clear S0
 go_upto_region 4 with fail
 generalize (World.setCell w3 ⟨w.heap.size + 2, 2, none⟩ (.string (B DI))) = w4 at A4 |-
 clear t2 f2 A3
 clear l8
 have z0 := fun z => Fam.cell (A4.out.wc 0 (.string (B W.component)) rfl) A4.out.lt z
 have z1 := fun z => Fam.cell (A4.out.wc 1 (.string (B W.path)) rfl) A4.out.lt z
 have z2 := fun z => Fam.cell (A4.out.wc 2 (.string (B W.name)) rfl) A4.out.lt z
 have z3 := fun z => Fam.cell (A4.out.wc 3 (.int .i64 W.nameEnd) rfl) A4.out.lt z
 have z4 := fun z => Fam.cell (A4.out.wc 4 (.slice a1 W.ids.length c1) rfl) A4.out.lt z
 have z5 := fun z => Fam.cell (A4.out.wc 5 (.slice a2 W.unknown.length c2) rfl) A4.out.lt z
 have z6 := fun z => Fam.cell (A4.out.wc 6 (.slice a3 W.langs.length c3) rfl) A4.out.lt z
 have z7 := fun z => Fam.cell (A4.out.wc 7 (.string (B W.ext)) rfl) A4.out.lt z
 have z8 := fun z => Fam.cell (A4.out.wc 8 (.string (B W.format)) rfl) A4.out.lt z
 have z9 := fun z => Fam.cell (A4.out.wc 9 (.string (B W.kind)) rfl) A4.out.lt z
 have z10 := fun z => Fam.cell (A4.out.wc 10 (.string (B W.layout)) rfl) A4.out.lt z
 have z11 := fun z => Fam.cell (A4.out.wc 11 (.string (B W.lang)) rfl) A4.out.lt z
 have z12 := fun z => Fam.cell (A4.out.wc 12 (.string (B W.custom)) rfl) A4.out.lt z
 have z13 := fun z => Fam.cell (A4.out.wc 13 (.bool W.disabled) rfl) A4.out.lt z
 have z14 := fun z => Fam.cell (A4.out.wc 14 (.int .i64 W.typ) rfl) A4.out.lt z
 have q1 : Hid (∀ z : Fam w4, Calls Tryz.prog 124 #[.agg #[.string (B W.component), .string (B W.path), .string (B W.name), .int .i64 W.nameEnd, .slice a1 W.ids.length c1, .slice a2 W.unknown.length c2, .slice a3 W.langs.length c3, .string (B W.ext), .string (B W.format), .string (B W.kind), .string (B W.layout), .string (B W.lang), .string (B W.custom), .bool W.disabled, .int .i64 W.typ], .string (B W.name)] z.val fun e w'' => e = .returned (.string (B BN)) /\ ∃ z' : Fam w4, w'' = z'.val) := fun z => Fam.call (fun wx => HBE.out wx) z
 refine wp_family (Z := Fam w4) Fam.val (Fam.mk0 w4) rfl 10 (by kernel_rfl) (by kernel_rfl) ?_
 simp only [List.take_succ_cons, List.take_zero, List.drop_succ_cons, List.drop_zero]
 quiet_step (fail)
 quiet_step (fail)
 quiet_step (fail)
 quiet_step (fail)
 quiet_step (fail)
 quiet_step (fail)
 quiet_step (fail)
 quiet_step (fail)
 quiet_step ((go_at_call 124; exact q1.out _))
 quiet_step (fail)
 refine wpQuiet_nil ?_
 intro z
 have Az := Lib.hid (A4.out.below z.bel)
 clear z0 z1 z2 z3 z4 z5 z6 z7 z8 z9 z10 z11 z12 z13 z14
 clear q1 HBE A4
 generalize z.val = wz at Az |-
 have t7 := Az.out.tc 7 (.string (B [])) rfl
 have f7 := Az.out.tf 7
 have t5 := Az.out.tc 5 (.string (B [])) rfl
 have f5 := Az.out.tf 5
 have S0 := AnsIn.set (Az.out) 7 (.string (B (W.name.take W.nameEnd))) ({ an3 (an2 (ans0 W) DI CO SE) DI with nameNoId := (W.name.take W.nameEnd) }) rfl
 have S1 := AnsIn.set (S0) 5 (.string (B BN)) (an4 (an3 (an2 (ans0 W) DI CO SE) DI) (W.name.take W.nameEnd) BN) rfl
 have A5 := Lib.hid S1
 clear S0 S1
 go_upto_region 5 with fail
 generalize (World.setCell (World.setCell wz ⟨w.heap.size + 2, 7, none⟩ (.string (B (W.name.take W.nameEnd)))) ⟨w.heap.size + 2, 5, none⟩ (.string (B BN))) = w5 at A5 |-
 clear t7 f7 t5 f5 Az
 have l7 := A5.out.tc 7 (.string (B (W.name.take W.nameEnd))) rfl
 have t6 := A5.out.tc 6 (.string (B [])) rfl
 have f6 := A5.out.tf 6
 have S0 := AnsIn.set (A5.out) 6 (.string (B (W.name.take W.nameEnd))) (an5 (an4 (an3 (an2 (ans0 W) DI CO SE) DI) (W.name.take W.nameEnd) BN) (W.name.take W.nameEnd)) rfl
 have A6 := Lib.hid S0
 clear S0
 go_upto_region 6 with fail
 generalize (World.setCell w5 ⟨w.heap.size + 2, 6, none⟩ (.string (B (W.name.take W.nameEnd)))) = w6 at A6 |-
 clear t6 f6 A5
 clear l7
 go_cut [] from 61 to 73 (fun wx => AnsIn w wx W a1 a2 a3 c1 c2 c3 (an6 (an5 (an4 (an3 (an2 (ans0 W) DI CO SE) DI) (W.name.take W.nameEnd) BN) (W.name.take W.nameEnd)) (decide (1 <= W.typ) && decide (W.typ <= 5)) IB))
 case first =>
  by_cases h1 : 1 <= W.typ
  ·skip
   have z0 := fun z => Fam.cell (A6.out.wc 0 (.string (B W.component)) rfl) A6.out.lt z
   have z1 := fun z => Fam.cell (A6.out.wc 1 (.string (B W.path)) rfl) A6.out.lt z
   have z2 := fun z => Fam.cell (A6.out.wc 2 (.string (B W.name)) rfl) A6.out.lt z
   have z3 := fun z => Fam.cell (A6.out.wc 3 (.int .i64 W.nameEnd) rfl) A6.out.lt z
   have z4 := fun z => Fam.cell (A6.out.wc 4 (.slice a1 W.ids.length c1) rfl) A6.out.lt z
   have z5 := fun z => Fam.cell (A6.out.wc 5 (.slice a2 W.unknown.length c2) rfl) A6.out.lt z
   have z6 := fun z => Fam.cell (A6.out.wc 6 (.slice a3 W.langs.length c3) rfl) A6.out.lt z
   have z7 := fun z => Fam.cell (A6.out.wc 7 (.string (B W.ext)) rfl) A6.out.lt z
   have z8 := fun z => Fam.cell (A6.out.wc 8 (.string (B W.format)) rfl) A6.out.lt z
   have z9 := fun z => Fam.cell (A6.out.wc 9 (.string (B W.kind)) rfl) A6.out.lt z
   have z10 := fun z => Fam.cell (A6.out.wc 10 (.string (B W.layout)) rfl) A6.out.lt z
   have z11 := fun z => Fam.cell (A6.out.wc 11 (.string (B W.lang)) rfl) A6.out.lt z
   have z12 := fun z => Fam.cell (A6.out.wc 12 (.string (B W.custom)) rfl) A6.out.lt z
   have z13 := fun z => Fam.cell (A6.out.wc 13 (.bool W.disabled) rfl) A6.out.lt z
   have z14 := fun z => Fam.cell (A6.out.wc 14 (.int .i64 W.typ) rfl) A6.out.lt z
   have q1 : Hid (∀ z : Fam w6, Calls Tryz.prog 125 #[.int .i64 W.typ] z.val fun e w'' => e = .returned (.bool IB) /\ ∃ z' : Fam w6, w'' = z'.val) := fun z => Fam.callS (fun wx => HBU.out wx) z
   refine wp_family (Z := Fam w6) Fam.val (Fam.mk0 w6) rfl 12 (by kernel_rfl) (by kernel_rfl) ?_
   simp only [List.take_succ_cons, List.take_zero, List.drop_succ_cons, List.drop_zero]
   quiet_step (fail)
   quiet_step (fail)
   quiet_step (fail)
   quiet_step (fail)
   quiet_step (fail)
   quiet_step (fail)
   quiet_step (fail)
   quiet_step (fail)
   quiet_step (fail)
   quiet_step (fail)
   quiet_step ((go_at_call 125; exact q1.out _))
   quiet_step (fail)
   refine wpQuiet_nil ?_
   intro z
   have Az := Lib.hid (A6.out.below z.bel)
   clear z0 z1 z2 z3 z4 z5 z6 z7 z8 z9 z10 z11 z12 z13 z14
   clear q1 HBU
   generalize z.val = wz at Az |-
   have t25 := Az.out.tc 25 (.bool false) rfl
   have f25 := Az.out.tf 25
   have t26 := Az.out.tc 26 (.bool false) rfl
   have f26 := Az.out.tf 26
   have S0 := AnsIn.set (Az.out) 25 (.bool (decide (W.typ <= 5))) ({ an5 (an4 (an3 (an2 (ans0 W) DI CO SE) DI) (W.name.take W.nameEnd) BN) (W.name.take W.nameEnd) with isContent := (decide (W.typ <= 5)) }) rfl
   have S1 := AnsIn.set (S0) 26 (.bool IB) (an6 (an5 (an4 (an3 (an2 (ans0 W) DI CO SE) DI) (W.name.take W.nameEnd) BN) (W.name.take W.nameEnd)) (decide (W.typ <= 5)) IB) rfl
   have A7 := Lib.hid S1
   clear S0 S1
   go_wp2_with fail
   generalize (World.setCell (World.setCell wz ⟨w.heap.size + 2, 25, none⟩ (.bool (decide (W.typ <= 5)))) ⟨w.heap.size + 2, 26, none⟩ (.bool IB)) = w7 at A7 |-
   clear t25 f25 t26 f26 Az
   go_meet
   rw [show (decide (1 <= W.typ) && decide (W.typ <= 5)) = (decide (W.typ <= 5)) from by rw [decide_eq_true h1]; rfl]
   exact A7.out
  ·have h1' : decide (1 <= W.typ) = false := decide_eq_false h1
   have h1'' : W.typ < 1 := by omega
   have z0 := fun z => Fam.cell (A6.out.wc 0 (.string (B W.component)) rfl) A6.out.lt z
   have z1 := fun z => Fam.cell (A6.out.wc 1 (.string (B W.path)) rfl) A6.out.lt z
   have z2 := fun z => Fam.cell (A6.out.wc 2 (.string (B W.name)) rfl) A6.out.lt z
   have z3 := fun z => Fam.cell (A6.out.wc 3 (.int .i64 W.nameEnd) rfl) A6.out.lt z
   have z4 := fun z => Fam.cell (A6.out.wc 4 (.slice a1 W.ids.length c1) rfl) A6.out.lt z
   have z5 := fun z => Fam.cell (A6.out.wc 5 (.slice a2 W.unknown.length c2) rfl) A6.out.lt z
   have z6 := fun z => Fam.cell (A6.out.wc 6 (.slice a3 W.langs.length c3) rfl) A6.out.lt z
   have z7 := fun z => Fam.cell (A6.out.wc 7 (.string (B W.ext)) rfl) A6.out.lt z
   have z8 := fun z => Fam.cell (A6.out.wc 8 (.string (B W.format)) rfl) A6.out.lt z
   have z9 := fun z => Fam.cell (A6.out.wc 9 (.string (B W.kind)) rfl) A6.out.lt z
   have z10 := fun z => Fam.cell (A6.out.wc 10 (.string (B W.layout)) rfl) A6.out.lt z
   have z11 := fun z => Fam.cell (A6.out.wc 11 (.string (B W.lang)) rfl) A6.out.lt z
   have z12 := fun z => Fam.cell (A6.out.wc 12 (.string (B W.custom)) rfl) A6.out.lt z
   have z13 := fun z => Fam.cell (A6.out.wc 13 (.bool W.disabled) rfl) A6.out.lt z
   have z14 := fun z => Fam.cell (A6.out.wc 14 (.int .i64 W.typ) rfl) A6.out.lt z
   have q1 : Hid (∀ z : Fam w6, Calls Tryz.prog 125 #[.int .i64 W.typ] z.val fun e w'' => e = .returned (.bool IB) /\ ∃ z' : Fam w6, w'' = z'.val) := fun z => Fam.callS (fun wx => HBU.out wx) z
   refine wp_family (Z := Fam w6) Fam.val (Fam.mk0 w6) rfl 12 (by kernel_rfl) (by kernel_rfl) ?_
   simp only [List.take_succ_cons, List.take_zero, List.drop_succ_cons, List.drop_zero]
   quiet_step (fail)
   quiet_step (fail)
   quiet_step (fail)
   quiet_step (fail)
   quiet_step (fail)
   quiet_step (fail)
   quiet_step (fail)
   quiet_step (fail)
   quiet_step (fail)
   quiet_step (fail)
   quiet_step ((go_at_call 125; exact q1.out _))
   quiet_step (fail)
   refine wpQuiet_nil ?_
   intro z
   have Az := Lib.hid (A6.out.below z.bel)
   clear z0 z1 z2 z3 z4 z5 z6 z7 z8 z9 z10 z11 z12 z13 z14
   clear q1 HBU
   generalize z.val = wz at Az |-
   have t25 := Az.out.tc 25 (.bool false) rfl
   have f25 := Az.out.tf 25
   have t26 := Az.out.tc 26 (.bool false) rfl
   have f26 := Az.out.tf 26
   have S0 := AnsIn.set (Az.out) 25 (.bool false) ({ an5 (an4 (an3 (an2 (ans0 W) DI CO SE) DI) (W.name.take W.nameEnd) BN) (W.name.take W.nameEnd) with isContent := false }) rfl
   have S1 := AnsIn.set (S0) 26 (.bool IB) (an6 (an5 (an4 (an3 (an2 (ans0 W) DI CO SE) DI) (W.name.take W.nameEnd) BN) (W.name.take W.nameEnd)) false IB) rfl
   have A7 := Lib.hid S1
   clear S0 S1
   go_wp2_with fail
   generalize (World.setCell (World.setCell wz ⟨w.heap.size + 2, 25, none⟩ (.bool false)) ⟨w.heap.size + 2, 26, none⟩ (.bool IB)) = w7 at A7 |-
   clear t25 f25 t26 f26 Az
   go_meet
   rw [show (decide (1 <= W.typ) && decide (W.typ <= 5)) = false from by rw [h1']; rfl]
   exact A7.out
 case rest =>
 have A7 := Lib.hid hcut
 clear hcut A6 HBU
 obtain ⟨w7, rfl⟩ : ∃ x : World, x = wc := ⟨_, rfl⟩
 go_upto_region 7 with fail
 go_cut [] from 74 to 85 (fun wx => AnsIn w wx W a1 a2 a3 c1 c2 c3 (an7 (an6 (an5 (an4 (an3 (an2 (ans0 W) DI CO SE) DI) (W.name.take W.nameEnd) BN) (W.name.take W.nameEnd)) (decide (1 <= W.typ) && decide (W.typ <= 5)) IB) (decide (W.typ = 3)) (decide (W.typ = 4)) (decide (W.typ = 5))))
 case first =>
  have l14 := A7.out.wc 14 (.int .i64 W.typ) rfl
  have A7d := Lib.hid (A7.out.below (Below_drewN (Below.refl _ _) 1))
  have t28 := A7.out.tc 28 (.bool false) rfl
  have f28 := A7.out.tf 28
  have t27 := A7.out.tc 27 (.bool false) rfl
  have f27 := A7.out.tf 27
  have t29 := A7.out.tc 29 (.bool false) rfl
  have f29 := A7.out.tf 29
  have S0 := AnsIn.set (A7d.out) 28 (.bool (decide (W.typ = 3))) ({ an6 (an5 (an4 (an3 (an2 (ans0 W) DI CO SE) DI) (W.name.take W.nameEnd) BN) (W.name.take W.nameEnd)) (decide (1 <= W.typ) && decide (W.typ <= 5)) IB with isLeaf := decide (W.typ = 3) }) rfl
  have S1 := AnsIn.set (S0) 27 (.bool (decide (W.typ = 4))) ({ an6 (an5 (an4 (an3 (an2 (ans0 W) DI CO SE) DI) (W.name.take W.nameEnd) BN) (W.name.take W.nameEnd)) (decide (1 <= W.typ) && decide (W.typ <= 5)) IB with isLeaf := decide (W.typ = 3), isBranch := decide (W.typ = 4) }) rfl
  have S2 := AnsIn.set (S1) 29 (.bool (decide (W.typ = 5))) (an7 (an6 (an5 (an4 (an3 (an2 (ans0 W) DI CO SE) DI) (W.name.take W.nameEnd) BN) (W.name.take W.nameEnd)) (decide (1 <= W.typ) && decide (W.typ <= 5)) IB) (decide (W.typ = 3)) (decide (W.typ = 4)) (decide (W.typ = 5))) rfl
  have A8 := Lib.hid S2
  clear S0 S1 S2
  have e3 : (W.typ == 3) = decide (W.typ = 3) := rfl
  have e4 : (W.typ == 4) = decide (W.typ = 4) := rfl
  have e5 : (W.typ == 5) = decide (W.typ = 5) := rfl
  clear A7 A7d
  generalize hx3 : decide (W.typ = 3) = y3 at A8 e3
  generalize hx4 : decide (W.typ = 4) = y4 at A8 e4
  generalize hx5 : decide (W.typ = 5) = y5 at A8 e5
  replace hx3 := Lib.hid hx3
  replace hx4 := Lib.hid hx4
  replace hx5 := Lib.hid hx5
  go_region_held3 (fun w' => w'.cell? ⟨w.heap.size, 14, none⟩ = some (.int .i64 W.typ)) (first | assumption | exact l14 | go_keep) (fail)
  all_goals
   go_wp2_with fail
   go_meet
   rw [hx3.out, hx4.out, hx5.out]
   exact A8.out
 case rest =>
 have A8 := Lib.hid hcut
 clear hcut A7
 obtain ⟨w8, rfl⟩ : ∃ x : World, x = wc := ⟨_, rfl⟩
 have l26 := A8.out.tc 26 (.bool IB) rfl
 go_upto_if 87 with fail
 clear l26
 go_cut [] from 88 to 103 (fun wx => AnsIn w wx W a1 a2 a3 c1 c2 c3 (an8 (an7 (an6 (an5 (an4 (an3 (an2 (ans0 W) DI CO SE) DI) (W.name.take W.nameEnd) BN) (W.name.take W.nameEnd)) (decide (1 <= W.typ) && decide (W.typ <= 5)) IB) (decide (W.typ = 3)) (decide (W.typ = 4)) (decide (W.typ = 5))) (if IB = true then CO else W.name.take W.nameEnd) (if IB = true /\ CO ≠ [] then DI.take SB.toNat else DI)))
 case first =>
  cases IB with
  | false =>
   have A9 : Hid (AnsIn w w8 W a1 a2 a3 c1 c2 c3 (an8 (an7 (an6 (an5 (an4 (an3 (an2 (ans0 W) DI CO SE) DI) (W.name.take W.nameEnd) BN) (W.name.take W.nameEnd)) (decide (1 <= W.typ) && decide (W.typ <= 5)) false) (decide (W.typ = 3)) (decide (W.typ = 4)) (decide (W.typ = 5))) (if false = true then CO else W.name.take W.nameEnd) (if false = true /\ CO ≠ [] then DI.take SB.toNat else DI))) := by
    rw [if_neg (by decide), if_neg (fun h => absurd h.1 (by decide))]; exact A8.out
   clear A8
   go_wp2_with fail
   go_meet
   exact A9.out
  | true =>
   have l1 := A8.out.tc 1 (.string (B CO)) rfl
   have t6 := A8.out.tc 6 (.string (B (W.name.take W.nameEnd))) rfl
   have f6 := A8.out.tf 6
   have A9 := Lib.hid (A8.out.set 6 (.string (B CO)) (an8 (an7 (an6 (an5 (an4 (an3 (an2 (ans0 W) DI CO SE) DI) (W.name.take W.nameEnd) BN) (W.name.take W.nameEnd)) (decide (1 <= W.typ) && decide (W.typ <= 5)) true) (decide (W.typ = 3)) (decide (W.typ = 4)) (decide (W.typ = 5))) CO DI) rfl)
   by_cases hc : CO = []
   ·have hcb : (CO != []) = false := by rw [hc]; rfl
    have hcb2 : (CO == []) = true := by rw [hc]; rfl
    have A10 : Hid (AnsIn w (w8.setCell ⟨w.heap.size + 2, 6, none⟩ (.string (B CO))) W a1 a2 a3 c1 c2 c3 (an8 (an7 (an6 (an5 (an4 (an3 (an2 (ans0 W) DI CO SE) DI) (W.name.take W.nameEnd) BN) (W.name.take W.nameEnd)) (decide (1 <= W.typ) && decide (W.typ <= 5)) true) (decide (W.typ = 3)) (decide (W.typ = 4)) (decide (W.typ = 5))) (if true = true then CO else W.name.take W.nameEnd) (if true = true /\ CO ≠ [] then DI.take SB.toNat else DI))) := by
     rw [if_pos rfl, if_neg (fun h => h.2 hc)]; exact A9.out
    clear A8 A9 hc
    go_wp2_with fail
    go_meet
    exact A10.out
   ·have hcb : (CO != []) = true := by rw [bne_iff_ne]; exact hc
    have hcb2 : (CO == []) = false := by rw [beq_eq_false_iff_ne]; exact hc
    clear A8
    go_upto_region 10 with fail
    generalize w8.setCell ⟨w.heap.size + 2, 6, none⟩ _ = w9 at A9 |-
    clear l1 t6 f6
    have l1 := A9.out.tc 1 (.string (B CO)) rfl
    go_upto_region 11 with fail
    have l8 := A9.out.tc 8 (.string (B DI)) rfl
    have t2 := A9.out.tc 2 (.string (B DI)) rfl
    have f2 := A9.out.tf 2
    obtain ⟨k, rfl⟩ : ∃ k : Nat, SB = (k : Int) := by
     refine ⟨SB.toNat, ?_⟩
     have := hcon.out hc
     omega
    have gk : (k : Int) <= (DI.length : Int) := by omega
    have A10 : Hid (AnsIn w ((w9.drewN 1).setCell ⟨w.heap.size + 2, 2, none⟩ (.string (B (DI.take k)))) W a1 a2 a3 c1 c2 c3 (an8 (an7 (an6 (an5 (an4 (an3 (an2 (ans0 W) DI CO SE) DI) (W.name.take W.nameEnd) BN) (W.name.take W.nameEnd)) (decide (1 <= W.typ) && decide (W.typ <= 5)) true) (decide (W.typ = 3)) (decide (W.typ = 4)) (decide (W.typ = 5))) (if true = true then CO else W.name.take W.nameEnd) (if true = true /\ CO ≠ [] then DI.take (k : Int).toNat else DI))) := by
     rw [if_pos rfl, if_pos ⟨rfl, hc⟩]
     exact (A9.out.below (Below_drewN (Below.refl _ _) 1)).set 2 (.string (B (DI.take k))) _ rfl
    clear A9 hc
    refine wp_tail 10 (by kernel_rfl) (by kernel_rfl) ?_
    simp only [List.take_succ_cons, List.take_zero, List.drop_succ_cons, List.drop_zero]
    still_step
    still_step
    still_step
    still_step
    still_step
    still_step
    still_step
    still_call (HSB.out _)
    repeat still_step
    try refine wpStill_nil ?_
    go_wp2_with fail
    go_meet
    exact A10.out
 case rest =>
 have A9 := Lib.hid hcut
 clear hcut A8 HSB
 obtain ⟨w9, rfl⟩ : ∃ x : World, x = wc := ⟨_, rfl⟩
 have HTX : Hid (∃ T, T = an8 (an7 (an6 (an5 (an4 (an3 (an2 (ans0 W) DI CO SE) DI) (W.name.take W.nameEnd) BN) (W.name.take W.nameEnd)) (decide (1 <= W.typ) && decide (W.typ <= 5)) IB) (decide (W.typ = 3)) (decide (W.typ = 4)) (decide (W.typ = 5))) (if IB = true then CO else W.name.take W.nameEnd) (if IB = true /\ CO ≠ [] then DI.take SB.toNat else DI)) := ⟨_, rfl⟩
 go_upto_region 12 with fail
 have z0 := fun z => Fam.cell (A9.out.wc 0 (.string (B W.component)) rfl) A9.out.lt z
 have z1 := fun z => Fam.cell (A9.out.wc 1 (.string (B W.path)) rfl) A9.out.lt z
 have z2 := fun z => Fam.cell (A9.out.wc 2 (.string (B W.name)) rfl) A9.out.lt z
 have z3 := fun z => Fam.cell (A9.out.wc 3 (.int .i64 W.nameEnd) rfl) A9.out.lt z
 have z4 := fun z => Fam.cell (A9.out.wc 4 (.slice a1 W.ids.length c1) rfl) A9.out.lt z
 have z5 := fun z => Fam.cell (A9.out.wc 5 (.slice a2 W.unknown.length c2) rfl) A9.out.lt z
 have z6 := fun z => Fam.cell (A9.out.wc 6 (.slice a3 W.langs.length c3) rfl) A9.out.lt z
 have z7 := fun z => Fam.cell (A9.out.wc 7 (.string (B W.ext)) rfl) A9.out.lt z
 have z8 := fun z => Fam.cell (A9.out.wc 8 (.string (B W.format)) rfl) A9.out.lt z
 have z9 := fun z => Fam.cell (A9.out.wc 9 (.string (B W.kind)) rfl) A9.out.lt z
 have z10 := fun z => Fam.cell (A9.out.wc 10 (.string (B W.layout)) rfl) A9.out.lt z
 have z11 := fun z => Fam.cell (A9.out.wc 11 (.string (B W.lang)) rfl) A9.out.lt z
 have z12 := fun z => Fam.cell (A9.out.wc 12 (.string (B W.custom)) rfl) A9.out.lt z
 have z13 := fun z => Fam.cell (A9.out.wc 13 (.bool W.disabled) rfl) A9.out.lt z
 have z14 := fun z => Fam.cell (A9.out.wc 14 (.int .i64 W.typ) rfl) A9.out.lt z
 have q1 : Hid (∀ z : Fam w9, Calls Tryz.prog 126 #[.agg #[.string (B W.component), .string (B W.path), .string (B W.name), .int .i64 W.nameEnd, .slice a1 W.ids.length c1, .slice a2 W.unknown.length c2, .slice a3 W.langs.length c3, .string (B W.ext), .string (B W.format), .string (B W.kind), .string (B W.layout), .string (B W.lang), .string (B W.custom), .bool W.disabled, .int .i64 W.typ]] z.val fun e w'' => e = .returned (.string (B NL)) /\ ∃ z' : Fam w9, w'' = z'.val) := fun z => Fam.call (fun wx => HNL.out wx) z
 have q2 : Hid (∀ z : Fam w9, Calls Tryz.prog 127 #[.agg #[.string (B W.component), .string (B W.path), .string (B W.name), .int .i64 W.nameEnd, .slice a1 W.ids.length c1, .slice a2 W.unknown.length c2, .slice a3 W.langs.length c3, .string (B W.ext), .string (B W.format), .string (B W.kind), .string (B W.layout), .string (B W.lang), .string (B W.custom), .bool W.disabled, .int .i64 W.typ]] z.val fun e w'' => e = .returned (.string (B NI)) /\ ∃ z' : Fam w9, w'' = z'.val) := fun z => Fam.call (fun wx => HNI.out wx) z
 have q3 : Hid (∀ z : Fam w9, Calls Tryz.prog 124 #[.agg #[.string (B W.component), .string (B W.path), .string (B W.name), .int .i64 W.nameEnd, .slice a1 W.ids.length c1, .slice a2 W.unknown.length c2, .slice a3 W.langs.length c3, .string (B W.ext), .string (B W.format), .string (B W.kind), .string (B W.layout), .string (B W.lang), .string (B W.custom), .bool W.disabled, .int .i64 W.typ], .string (B W.path)] z.val fun e w'' => e = .returned (.string (B BP)) /\ ∃ z' : Fam w9, w'' = z'.val) := fun z => Fam.call (fun wx => HBP.out wx) z
 refine wp_family (Z := Fam w9) Fam.val (Fam.mk0 w9) rfl 9 (by kernel_rfl) (by kernel_rfl) ?_
 simp only [List.take_succ_cons, List.take_zero, List.drop_succ_cons, List.drop_zero]
 quiet_step (fail)
 quiet_step ((go_at_call 126; exact q1.out _))
 quiet_step (fail)
 quiet_step ((go_at_call 127; exact q2.out _))
 quiet_step (fail)
 quiet_step (fail)
 quiet_step (fail)
 quiet_step ((go_at_call 124; exact q3.out _))
 quiet_step (fail)
 refine wpQuiet_nil ?_
 intro z
 have Az := Lib.hid (A9.out.below z.bel)
 clear z0 z1 z2 z3 z4 z5 z6 z7 z8 z9 z10 z11 z12 z13 z14
 clear q1 q2 q3 HNL HNI HBP A9
 generalize z.val = wz at Az |-
 have t10 := Az.out.tc 10 (.string (B [])) rfl
 have f10 := Az.out.tf 10
 have t11 := Az.out.tc 11 (.string (B [])) rfl
 have f11 := Az.out.tf 11
 have t12 := Az.out.tc 12 (.string (B [])) rfl
 have f12 := Az.out.tf 12
 have S0 := AnsIn.set (Az.out) 10 (.string (B NL)) ({ an8 (an7 (an6 (an5 (an4 (an3 (an2 (ans0 W) DI CO SE) DI) (W.name.take W.nameEnd) BN) (W.name.take W.nameEnd)) (decide (1 <= W.typ) && decide (W.typ <= 5)) IB) (decide (W.typ = 3)) (decide (W.typ = 4)) (decide (W.typ = 5))) (if IB = true then CO else W.name.take W.nameEnd) (if IB = true /\ CO ≠ [] then DI.take SB.toNat else DI) with pathNoLang := NL }) rfl
 have S1 := AnsIn.set (S0) 11 (.string (B NI)) ({ an8 (an7 (an6 (an5 (an4 (an3 (an2 (ans0 W) DI CO SE) DI) (W.name.take W.nameEnd) BN) (W.name.take W.nameEnd)) (decide (1 <= W.typ) && decide (W.typ <= 5)) IB) (decide (W.typ = 3)) (decide (W.typ = 4)) (decide (W.typ = 5))) (if IB = true then CO else W.name.take W.nameEnd) (if IB = true /\ CO ≠ [] then DI.take SB.toNat else DI) with pathNoLang := NL, pathNoId := NI }) rfl
 have S2 := AnsIn.set (S1) 12 (.string (B BP)) (an12 (an8 (an7 (an6 (an5 (an4 (an3 (an2 (ans0 W) DI CO SE) DI) (W.name.take W.nameEnd) BN) (W.name.take W.nameEnd)) (decide (1 <= W.typ) && decide (W.typ <= 5)) IB) (decide (W.typ = 3)) (decide (W.typ = 4)) (decide (W.typ = 5))) (if IB = true then CO else W.name.take W.nameEnd) (if IB = true /\ CO ≠ [] then DI.take SB.toNat else DI)) NL NI BP) rfl
 have A12 := Lib.hid S2
 clear S0 S1 S2
 go_upto_region 13 with fail
 generalize (World.setCell (World.setCell (World.setCell wz ⟨w.heap.size + 2, 10, none⟩ (.string (B NL))) ⟨w.heap.size + 2, 11, none⟩ (.string (B NI))) ⟨w.heap.size + 2, 12, none⟩ (.string (B BP))) = w12 at A12 |-
 clear t10 f10 t11 f11 t12 f12 Az
 have k0 := A12.out.wc 0 (.string (B W.component)) rfl
 have k1 := A12.out.wc 1 (.string (B W.path)) rfl
 have k2 := A12.out.wc 2 (.string (B W.name)) rfl
 have k3 := A12.out.wc 3 (.int .i64 W.nameEnd) rfl
 have k4 := A12.out.wc 4 (.slice a1 W.ids.length c1) rfl
 have k5 := A12.out.wc 5 (.slice a2 W.unknown.length c2) rfl
 have k6 := A12.out.wc 6 (.slice a3 W.langs.length c3) rfl
 have k7 := A12.out.wc 7 (.string (B W.ext)) rfl
 have k8 := A12.out.wc 8 (.string (B W.format)) rfl
 have k9 := A12.out.wc 9 (.string (B W.kind)) rfl
 have k10 := A12.out.wc 10 (.string (B W.layout)) rfl
 have k11 := A12.out.wc 11 (.string (B W.lang)) rfl
 have k12 := A12.out.wc 12 (.string (B W.custom)) rfl
 have k13 := A12.out.wc 13 (.bool W.disabled) rfl
 have k14 := A12.out.wc 14 (.int .i64 W.typ) rfl
 go_wp2_with fail
 refine (HBA.out _).mono ?_; rintro ex w13 ⟨rfl, b13⟩
 clear k0 k1 k2 k3 k4 k5 k6 k7 k8 k9 k10 k11 k12 k13 k14
 have A13 := Lib.hid (A12.out.below b13)
 clear A12 b13 HBA
 have t13 := A13.out.tc 13 (.string (B [])) rfl
 have f13 := A13.out.tf 13
 have A14 := Lib.hid (A13.out.set 13 (.string (B BA)) (an13 (an12 (an8 (an7 (an6 (an5 (an4 (an3 (an2 (ans0 W) DI CO SE) DI) (W.name.take W.nameEnd) BN) (W.name.take W.nameEnd)) (decide (1 <= W.typ) && decide (W.typ <= 5)) IB) (decide (W.typ = 3)) (decide (W.typ = 4)) (decide (W.typ = 5))) (if IB = true then CO else W.name.take W.nameEnd) (if IB = true /\ CO ≠ [] then DI.take SB.toNat else DI)) NL NI BP) BA) rfl)
 clear A13
 go_upto_region 14 with fail
 generalize World.setCell w13 ⟨w.heap.size + 2, 13, none⟩ (.string (B BA)) = w14 at A14 |-
 clear t13 f13
 have l13 := A14.out.tc 13 (.string (B BA)) rfl
 have t14 := A14.out.tc 14 (.string (B [])) rfl
 have f14 := A14.out.tf 14
 have A15 := Lib.hid (A14.out.set 14 (.string (B BA)) (an14 (an13 (an12 (an8 (an7 (an6 (an5 (an4 (an3 (an2 (ans0 W) DI CO SE) DI) (W.name.take W.nameEnd) BN) (W.name.take W.nameEnd)) (decide (1 <= W.typ) && decide (W.typ <= 5)) IB) (decide (W.typ = 3)) (decide (W.typ = 4)) (decide (W.typ = 5))) (if IB = true then CO else W.name.take W.nameEnd) (if IB = true /\ CO ≠ [] then DI.take SB.toNat else DI)) NL NI BP) BA) BA) rfl)
 clear A14
 go_upto_region 15 with fail
 generalize World.setCell w14 ⟨w.heap.size + 2, 14, none⟩ (.string (B BA)) = w15 at A15 |-
 clear t14 f14
 clear l13
 have l0 := A15.out.wc 0 (.string (B W.component)) rfl
 have l1 := A15.out.wc 1 (.string (B W.path)) rfl
 go_upto_if 123 with fail
 go_cut [] from 123 to 126 (fun wx => AnsIn w wx W a1 a2 a3 c1 c2 c3 (an14 (an13 (an12 (an8 (an7 (an6 (an5 (an4 (an3 (an2 (ans0 W) DI CO SE) DI) (W.name.take W.nameEnd) BN) (W.name.take W.nameEnd)) (decide (1 <= W.typ) && decide (W.typ <= 5)) IB) (decide (W.typ = 3)) (decide (W.typ = 4)) (decide (W.typ = 5))) (if IB = true then CO else W.name.take W.nameEnd) (if IB = true /\ CO ≠ [] then DI.take SB.toNat else DI)) NL NI BP) BA) (if W.component = kLayouts then W.path else BA)))
 case first =>
  cases hc : (W.component == [108, 97, 121, 111, 117, 116, 115]) with
  | true =>
   have hc' : W.component = kLayouts := by simpa using hc
   have t14 := A15.out.tc 14 (.string (B BA)) rfl
   have f14 := A15.out.tf 14
   have A16 := Lib.hid (A15.out.set 14 (.string (B W.path)) (an14 (an13 (an12 (an8 (an7 (an6 (an5 (an4 (an3 (an2 (ans0 W) DI CO SE) DI) (W.name.take W.nameEnd) BN) (W.name.take W.nameEnd)) (decide (1 <= W.typ) && decide (W.typ <= 5)) IB) (decide (W.typ = 3)) (decide (W.typ = 4)) (decide (W.typ = 5))) (if IB = true then CO else W.name.take W.nameEnd) (if IB = true /\ CO ≠ [] then DI.take SB.toNat else DI)) NL NI BP) BA) W.path) rfl)
   rw [show W.path = (if W.component = kLayouts then W.path else BA) from (if_pos hc').symm] at A16
   clear A15 hc'
   go_wp2_with fail
   go_meet
   first | exact A16.out | (have h := A16.out; rw [if_pos (show W.component = kLayouts by simpa using hc)] at h |-; exact h)
  | false =>
   have hc' : ¬ W.component = kLayouts := by simpa using hc
   have A16 : Hid (AnsIn w w15 W a1 a2 a3 c1 c2 c3 (an14 (an13 (an12 (an8 (an7 (an6 (an5 (an4 (an3 (an2 (ans0 W) DI CO SE) DI) (W.name.take W.nameEnd) BN) (W.name.take W.nameEnd)) (decide (1 <= W.typ) && decide (W.typ <= 5)) IB) (decide (W.typ = 3)) (decide (W.typ = 4)) (decide (W.typ = 5))) (if IB = true then CO else W.name.take W.nameEnd) (if IB = true /\ CO ≠ [] then DI.take SB.toNat else DI)) NL NI BP) BA) (if W.component = kLayouts then W.path else BA))) := by rw [if_neg hc']; exact A15.out
   clear A15 hc'
   go_wp2_with fail
   go_meet
   exact A16.out
 case rest =>
 have A16 := Lib.hid hcut
 clear hcut A15 l0 l1
 obtain ⟨w16, rfl⟩ : ∃ x : World, x = wc := ⟨_, rfl⟩
 rw [<- HA.out] at A16
 obtain ⟨cs, hcs⟩ : ∃ c : List Value, c = (tcel AW (.slice a3 W.langs.length c3) (.slice a1 W.ids.length c1) (.slice a2 W.unknown.length c2)).toList := ⟨_, rfl⟩
 have hsz : cs.length = 31 := by rw [hcs]; rfl
 have hone : cs.toArray.all (·.oneCell') = true := by rw [hcs]; kernel_rfl
 have hrg : Hid (w16.rangeAt (w.heap.size + 2) 0 cs) := by
  intro j v hj
  rw [Nat.zero_add, cell_blk A16.out.td, <- hj, hcs, Array.getElem?_toList]
 have hrs := Lib.hid A16.out.rs
 have hbl := Lib.hid A16.out.bel
 replace hcs := Lib.hid hcs
 replace hsz := Lib.hid hsz
 replace hone := Lib.hid hone
 clear A16
 go_wp2_with (refine wpList_load_mid rfl 29 (.tmp 3) rfl (w.heap.size + 2) 0 rfl cs _ hrg.out Tryz.underlying29 rfl (by rw [hsz.out]; kernel_rfl) (Hid.out ?_))
 refine Lib.hid ?_
 go_wp2_with (refine wpList_store_row rfl 29 (.tmp 2) (.tmp 127) rfl (w.heap.size + 1) cs.toArray rfl rfl 29 _ hrs.out (by rw [List.size_toArray, hsz.out]; kernel_rfl) hsz.out.symm hone.out (Hid.out ?_))
 have hrow := Lib.hid (setRow_heap w16 (w.heap.size + 1) _ cs.toArray _ _ hrs.out)
 have hbel : Hid (Below w.heap.size w (w16.setRow (w.heap.size + 1) cs.toArray)) := hbl.out.trans ⟨rfl, rfl, rfl, by simp, fun k hk => setRow_other _ _ _ _ (by omega)⟩
 generalize w16.setRow _ _ = wf at hrow hbel |-
 refine Lib.hid ?_
 go_wp2_with fail
 refine bodyPost_ret (results_cell (w.heap.size + 1) rfl rfl (run_loadVar_row wf (w.heap.size + 1) _ 29 cs.toArray _ _ hrow.out Tryz.underlying29 rfl (by rw [List.size_toArray, hsz.out]; kernel_rfl))) rfl ?_
 refine ⟨?_, hbel.out⟩
 rw [hcs.out, toldVal_eq]

end Go.Proofs.YtjkecadfakjanaaGreatDoor
