/- The walk of told: what the 31 methods tell of a path, in one value. Conditions: a path in memory that a parse has finished (PathOK). -/
import Derived.Test.YtjkecadfakjanaaGreatDoorGet4
set_option maxRecDepth 100000
set_option linter.unusedVariables false
set_option linter.unusedSimpArgs false
namespace Go.Proofs.YtjkecadfakjanaaGreatDoor
open Go.RowKit
attribute [local go_sem] B_extract B_toList B_append

/-- The value of a Told: the texts and truths of t, and the three lists as they lie. -/
def toldVal (t : ToldM) (vl vi vu : Value) : Value :=
 .agg #[.string (B t.component), .string (B t.container), .string (B t.containerDir), .string (B t.section_), .string (B t.name), .string (B t.nameNoExt), .string (B t.baseName), .string (B t.nameNoId),
  .string (B t.dir), .string (B t.path), .string (B t.pathNoLang), .string (B t.pathNoId), .string (B t.pathBefore), .string (B t.base), .string (B t.idBase), .string (B t.ext), .string (B t.format), .string (B t.kind), .string (B t.layout),
  .string (B t.lang), .string (B t.custom), vl, vi, vu, .bool t.disabled, .bool t.isContent, .bool t.isBundle, .bool t.isBranch, .bool t.isLeaf, .bool t.isData, .int .i64 t.typ]
theorem StrsAt.slice {w : World} {v : Value} {l : List Str} (h : StrsAt w v l) : ∃ a n c, v = .slice a n c := by
 obtain ⟨_, a, cap, e, _⟩ := h
 exact ⟨_, _, _, e⟩
/-- v is a Told that reads as t. -/
def ToldAt (w : World) (v : Value) (t : ToldM) : Prop := ∃ vl vi vu, v = toldVal t vl vi vu /\ StrsAt w vl t.langs /\ StrsAt w vi t.ids /\ StrsAt w vu t.unknown
/-- .. and its lists lie in blocks from n on. -/
def ToldAtN (n : Nat) (w : World) (v : Value) (t : ToldM) : Prop := ∃ vl vi vu, v = toldVal t vl vi vu /\ (StrsAt w vl t.langs /\ NewRow n vl) /\ (StrsAt w vi t.ids /\ NewRow n vi) /\ (StrsAt w vu t.unknown /\ NewRow n vu)
theorem ToldAtN.at {n : Nat} {w : World} {v : Value} {t : ToldM} (h : ToldAtN n w v t) : ToldAt w v t := by
 obtain ⟨vl, vi, vu, rfl, h1, h2, h3⟩ := h
 exact ⟨vl, vi, vu, rfl, h1.1, h2.1, h3.1⟩
theorem ToldAt.below {w w' : World} {v : Value} {t : ToldM} (h : ToldAt w v t) (hb : Below w.heap.size w w') : ToldAt w' v t := by
 obtain ⟨vl, vi, vu, rfl, h1, h2, h3⟩ := h
 exact ⟨vl, vi, vu, rfl, h1.below hb, h2.below hb, h3.below hb⟩

theorem results_cell {P : Program} {fn : Func} {tmps : Array Value} {w : World} {a : Nat} {t : TypeId} {v : Value} (g : Nat) (hr : fn.results = #[.cell a t]) (ht : tmps.getD a undef = .pointer (some ⟨g, 0, none⟩))
  (hl : (loadVar t ⟨g, 0, none⟩).run P w = .ok v w) : (results fn tmps).run P w = .ok v w := by
 rw [Array.getD_eq_getD_getElem?] at ht
 simp [results, hr, ht, hl, asAddr]

theorem wp_buildC {P : Program} {o : Oper} {a : Act} {w : World} {K : Act -> World -> Prop} {Q : Exit -> Act -> World -> Prop} (t : TypeId) (parts : Array (Nat × Operand)) (cells : Array Value) (ho : o.op = .build t parts)
  (hc : P.built t (parts.map fun (i, x) => (i, a.eval x)).toList = some cells) (h : K (a.put o.dst (.agg cells)) w) : o.wp P a w K Q :=
 wp_build t parts ho (by rw [hc]; rfl) (by rw [hc]; exact h)

set_option maxHeartbeats 8000000 in
theorem c_told (p : PathS) (w : World) (base b : Nat) (vk vu vl : Value) (un : Un) (h : PathAt w base b p vk vu vl un) (ok : PathOK p) :
  Calls Tryz.prog 41 #[.pointer (some ⟨b, 0, none⟩)] w fun e w' => ∃ v, e = .returned v /\ ToldAtN w.heap.size w' v (toldM p) /\ Below w.heap.size w w' := by
 have hh := Lib.hid h
 have HV : ∀ vl vi vu, Hid (toldVal (toldM p) vl vi vu = toldVal (toldM p) vl vi vu) := fun _ _ _ => rfl
 have H0 : Hid (∀ w, PathAt w base b p vk vu vl un -> Calls Tryz.prog 62 #[.pointer (some ⟨b, 0, none⟩)] w fun e w' => e = .returned (.string (B p.comp)) /\ Below w.heap.size w w') := fun w h => (c_Component p w base b vk vu vl un h).mono fun _ _ ⟨h1, h2⟩ => ⟨h1, h2 ▸ Below.refl _ _⟩
 generalize hx0 : ((B p.comp)) = x0 at H0
 have E0 := Lib.hid hx0
 clear hx0
 have H1 : Hid (∀ w, PathAt w base b p vk vu vl un -> Calls Tryz.prog 63 #[.pointer (some ⟨b, 0, none⟩)] w fun e w' => e = .returned (.string (B p.containerM)) /\ Below w.heap.size w w') := fun w h => c_Container p w base b vk vu vl un h ok
 generalize hx1 : ((B p.containerM)) = x1 at H1
 have E1 := Lib.hid hx1
 clear hx1
 have H2 : Hid (∀ w, PathAt w base b p vk vu vl un -> Calls Tryz.prog 64 #[.pointer (some ⟨b, 0, none⟩)] w fun e w' => e = .returned (.string (B p.containerDirM)) /\ Below w.heap.size w w') := fun w h => c_ContainerDir p w base b vk vu vl un h ok
 generalize hx2 : ((B p.containerDirM)) = x2 at H2
 have E2 := Lib.hid hx2
 clear hx2
 have H3 : Hid (∀ w, PathAt w base b p vk vu vl un -> Calls Tryz.prog 65 #[.pointer (some ⟨b, 0, none⟩)] w fun e w' => e = .returned (.string (B p.sectionM)) /\ Below w.heap.size w w') := fun w h => c_Section p w base b vk vu vl un h ok
 generalize hx3 : ((B p.sectionM)) = x3 at H3
 have E3 := Lib.hid hx3
 clear hx3
 have H4 : Hid (∀ w, PathAt w base b p vk vu vl un -> Calls Tryz.prog 66 #[.pointer (some ⟨b, 0, none⟩)] w fun e w' => e = .returned (.string (B p.nameM)) /\ Below w.heap.size w w') := fun w h => c_Name p w base b vk vu vl un h ok
 generalize hx4 : ((B p.nameM)) = x4 at H4
 have E4 := Lib.hid hx4
 clear hx4
 have H5 : Hid (∀ w, PathAt w base b p vk vu vl un -> Calls Tryz.prog 67 #[.pointer (some ⟨b, 0, none⟩)] w fun e w' => e = .returned (.string (B p.nameNoExtM)) /\ Below w.heap.size w w') := fun w h => c_NameNoExt p w base b vk vu vl un h ok
 generalize hx5 : ((B p.nameNoExtM)) = x5 at H5
 have E5 := Lib.hid hx5
 clear hx5
 have H6 : Hid (∀ w, PathAt w base b p vk vu vl un -> Calls Tryz.prog 68 #[.pointer (some ⟨b, 0, none⟩)] w fun e w' => e = .returned (.string (B p.baseNameM)) /\ Below w.heap.size w w') := fun w h => c_BaseName p w base b vk vu vl un h ok
 generalize hx6 : ((B p.baseNameM)) = x6 at H6
 have E6 := Lib.hid hx6
 clear hx6
 have H7 : Hid (∀ w, PathAt w base b p vk vu vl un -> Calls Tryz.prog 69 #[.pointer (some ⟨b, 0, none⟩)] w fun e w' => e = .returned (.string (B p.nameNoIdM)) /\ Below w.heap.size w w') := fun w h => c_nameNoId p w base b vk vu vl un h ok
 generalize hx7 : ((B p.nameNoIdM)) = x7 at H7
 have E7 := Lib.hid hx7
 clear hx7
 have H8 : Hid (∀ w, PathAt w base b p vk vu vl un -> Calls Tryz.prog 70 #[.pointer (some ⟨b, 0, none⟩)] w fun e w' => e = .returned (.string (B p.dirM)) /\ Below w.heap.size w w') := fun w h => c_Dir p w base b vk vu vl un h ok
 generalize hx8 : ((B p.dirM)) = x8 at H8
 have E8 := Lib.hid hx8
 clear hx8
 have H9 : Hid (∀ w, PathAt w base b p vk vu vl un -> Calls Tryz.prog 71 #[.pointer (some ⟨b, 0, none⟩)] w fun e w' => e = .returned (.string (B p.path)) /\ Below w.heap.size w w') := fun w h => (c_Path p w base b vk vu vl un h (Nat.le_trans ok.len (by decide))).mono fun _ _ ⟨h1, h2⟩ => ⟨h1, h2 ▸ Below.refl _ _⟩
 generalize hx9 : ((B p.path)) = x9 at H9
 have E9 := Lib.hid hx9
 clear hx9
 have H10 : Hid (∀ w, PathAt w base b p vk vu vl un -> Calls Tryz.prog 72 #[.pointer (some ⟨b, 0, none⟩)] w fun e w' => e = .returned (.string (B p.pathNoLangM)) /\ Below w.heap.size w w') := fun w h => c_PathNoLang p w base b vk vu vl un h ok
 generalize hx10 : ((B p.pathNoLangM)) = x10 at H10
 have E10 := Lib.hid hx10
 clear hx10
 have H11 : Hid (∀ w, PathAt w base b p vk vu vl un -> Calls Tryz.prog 73 #[.pointer (some ⟨b, 0, none⟩)] w fun e w' => e = .returned (.string (B (p.baseM false false))) /\ Below w.heap.size w w') := fun w h => c_PathNoId p w base b vk vu vl un h ok
 generalize hx11 : ((B (p.baseM false false))) = x11 at H11
 have E11 := Lib.hid hx11
 clear hx11
 have H12 : Hid (∀ w, PathAt w base b p vk vu vl un -> Calls Tryz.prog 74 #[.pointer (some ⟨b, 0, none⟩)] w fun e w' => e = .returned (.string (B p.pathBeforeM)) /\ Below w.heap.size w w') := fun w h => c_PathBefore p w base b vk vu vl un h ok
 generalize hx12 : ((B p.pathBeforeM)) = x12 at H12
 have E12 := Lib.hid hx12
 clear hx12
 have H13 : Hid (∀ w, PathAt w base b p vk vu vl un -> Calls Tryz.prog 75 #[.pointer (some ⟨b, 0, none⟩)] w fun e w' => e = .returned (.string (B p.base)) /\ Below w.heap.size w w') := fun w h => c_Base p w base b vk vu vl un h ok
 generalize hx13 : ((B p.base)) = x13 at H13
 have E13 := Lib.hid hx13
 clear hx13
 have H14 : Hid (∀ w, PathAt w base b p vk vu vl un -> Calls Tryz.prog 76 #[.pointer (some ⟨b, 0, none⟩)] w fun e w' => e = .returned (.string (B (if p.comp = kLayouts then p.path else p.base))) /\ Below w.heap.size w w') := fun w h => c_IdBase p w base b vk vu vl un h ok
 generalize hx14 : ((B (if p.comp = kLayouts then p.path else p.base))) = x14 at H14
 have E14 := Lib.hid hx14
 clear hx14
 have H15 : Hid (∀ w, PathAt w base b p vk vu vl un -> Calls Tryz.prog 77 #[.pointer (some ⟨b, 0, none⟩)] w fun e w' => e = .returned (.string (B p.ext)) /\ Below w.heap.size w w') := fun w h => c_Ext p w base b vk vu vl un h ok
 generalize hx15 : ((B p.ext)) = x15 at H15
 have E15 := Lib.hid hx15
 clear hx15
 have H16 : Hid (∀ w, PathAt w base b p vk vu vl un -> Calls Tryz.prog 78 #[.pointer (some ⟨b, 0, none⟩)] w fun e w' => e = .returned (.string (B p.formatM)) /\ Below w.heap.size w w') := fun w h => c_OutputFormat p w base b vk vu vl un h ok
 generalize hx16 : ((B p.formatM)) = x16 at H16
 have E16 := Lib.hid hx16
 clear hx16
 have H17 : Hid (∀ w, PathAt w base b p vk vu vl un -> Calls Tryz.prog 79 #[.pointer (some ⟨b, 0, none⟩)] w fun e w' => e = .returned (.string (B p.kindM)) /\ Below w.heap.size w w') := fun w h => c_Kind p w base b vk vu vl un h ok
 generalize hx17 : ((B p.kindM)) = x17 at H17
 have E17 := Lib.hid hx17
 clear hx17
 have H18 : Hid (∀ w, PathAt w base b p vk vu vl un -> Calls Tryz.prog 80 #[.pointer (some ⟨b, 0, none⟩)] w fun e w' => e = .returned (.string (B p.layoutM)) /\ Below w.heap.size w w') := fun w h => c_Layout p w base b vk vu vl un h ok
 generalize hx18 : ((B p.layoutM)) = x18 at H18
 have E18 := Lib.hid hx18
 clear hx18
 have H19 : Hid (∀ w, PathAt w base b p vk vu vl un -> Calls Tryz.prog 81 #[.pointer (some ⟨b, 0, none⟩)] w fun e w' => e = .returned (.string (B p.langM)) /\ Below w.heap.size w w') := fun w h => c_Lang p w base b vk vu vl un h ok
 generalize hx19 : ((B p.langM)) = x19 at H19
 have E19 := Lib.hid hx19
 clear hx19
 have H20 : Hid (∀ w, PathAt w base b p vk vu vl un -> Calls Tryz.prog 82 #[.pointer (some ⟨b, 0, none⟩)] w fun e w' => e = .returned (.string (B p.customM)) /\ Below w.heap.size w w') := fun w h => c_Custom p w base b vk vu vl un h ok
 generalize hx20 : ((B p.customM)) = x20 at H20
 have E20 := Lib.hid hx20
 clear hx20
 have H21 : Hid (∀ w, PathAt w base b p vk vu vl un -> Calls Tryz.prog 83 #[.pointer (some ⟨b, 0, none⟩)] w fun e w' => ∃ v, e = .returned v /\ StrsAt w' v (p.langs.map fun (i : Nat) => p.idStr i) /\ NewRow w.heap.size v /\ Below w.heap.size w w') := fun w h => c_Langs p w base b vk vu vl un h ok
 generalize hx21 : (p.langs.map fun (i : Nat) => p.idStr i) = x21 at H21
 have E21 := Lib.hid hx21
 clear hx21
 have H22 : Hid (∀ w, PathAt w base b p vk vu vl un -> Calls Tryz.prog 84 #[.pointer (some ⟨b, 0, none⟩)] w fun e w' => ∃ v, e = .returned v /\ StrsAt w' v (p.known.map (sub p.s)) /\ NewRow w.heap.size v /\ Below w.heap.size w w') := fun w h => c_Identifiers p w base b vk vu vl un h ok
 generalize hx22 : (p.known.map (sub p.s)) = x22 at H22
 have E22 := Lib.hid hx22
 clear hx22
 have H23 : Hid (∀ w, PathAt w base b p vk vu vl un -> Calls Tryz.prog 85 #[.pointer (some ⟨b, 0, none⟩)] w fun e w' => ∃ v, e = .returned v /\ StrsAt w' v (p.unknown.map (sub p.s)) /\ NewRow w.heap.size v /\ Below w.heap.size w w') := fun w h => c_IdentifiersUnknown p w base b vk vu vl un h ok
 generalize hx23 : (p.unknown.map (sub p.s)) = x23 at H23
 have E23 := Lib.hid hx23
 clear hx23
 have H24 : Hid (∀ w, PathAt w base b p vk vu vl un -> Calls Tryz.prog 86 #[.pointer (some ⟨b, 0, none⟩)] w fun e w' => e = .returned (.bool p.disabled) /\ Below w.heap.size w w') := fun w h => (c_Disabled p w base b vk vu vl un h).mono fun _ _ ⟨h1, h2⟩ => ⟨h1, h2 ▸ Below.refl _ _⟩
 generalize hx24 : (p.disabled) = x24 at H24
 have E24 := Lib.hid hx24
 clear hx24
 have H25 : Hid (∀ w, PathAt w base b p vk vu vl un -> Calls Tryz.prog 87 #[.pointer (some ⟨b, 0, none⟩)] w fun e w' => e = .returned (.bool (decide (1 <= p.typ) && decide (p.typ <= 5))) /\ Below w.heap.size w w') := fun w h => (c_IsContent p w base b vk vu vl un h).mono fun _ _ ⟨h1, h2⟩ => ⟨h1, h2 ▸ Below.refl _ _⟩
 generalize hx25 : ((decide (1 <= p.typ) && decide (p.typ <= 5))) = x25 at H25
 have E25 := Lib.hid hx25
 clear hx25
 have H26 : Hid (∀ w, PathAt w base b p vk vu vl un -> Calls Tryz.prog 88 #[.pointer (some ⟨b, 0, none⟩)] w fun e w' => e = .returned (.bool p.isBundle) /\ Below w.heap.size w w') := fun w h => (c_IsBundle p w base b vk vu vl un h).mono fun _ _ ⟨h1, h2⟩ => ⟨h1, h2 ▸ Below.refl _ _⟩
 generalize hx26 : (p.isBundle) = x26 at H26
 have E26 := Lib.hid hx26
 clear hx26
 have H27 : Hid (∀ w, PathAt w base b p vk vu vl un -> Calls Tryz.prog 89 #[.pointer (some ⟨b, 0, none⟩)] w fun e w' => e = .returned (.bool (decide (p.typ = 4))) /\ Below w.heap.size w w') := fun w h => (c_IsBranch p w base b vk vu vl un h).mono fun _ _ ⟨h1, h2⟩ => ⟨h1, h2 ▸ Below.refl _ _⟩
 generalize hx27 : ((decide (p.typ = 4))) = x27 at H27
 have E27 := Lib.hid hx27
 clear hx27
 have H28 : Hid (∀ w, PathAt w base b p vk vu vl un -> Calls Tryz.prog 90 #[.pointer (some ⟨b, 0, none⟩)] w fun e w' => e = .returned (.bool (decide (p.typ = 3))) /\ Below w.heap.size w w') := fun w h => (c_IsLeaf p w base b vk vu vl un h).mono fun _ _ ⟨h1, h2⟩ => ⟨h1, h2 ▸ Below.refl _ _⟩
 generalize hx28 : ((decide (p.typ = 3))) = x28 at H28
 have E28 := Lib.hid hx28
 clear hx28
 have H29 : Hid (∀ w, PathAt w base b p vk vu vl un -> Calls Tryz.prog 91 #[.pointer (some ⟨b, 0, none⟩)] w fun e w' => e = .returned (.bool (decide (p.typ = 5))) /\ Below w.heap.size w w') := fun w h => (c_IsData p w base b vk vu vl un h).mono fun _ _ ⟨h1, h2⟩ => ⟨h1, h2 ▸ Below.refl _ _⟩
 generalize hx29 : ((decide (p.typ = 5))) = x29 at H29
 have E29 := Lib.hid hx29
 clear hx29
 have H30 : Hid (∀ w, PathAt w base b p vk vu vl un -> Calls Tryz.prog 92 #[.pointer (some ⟨b, 0, none⟩)] w fun e w' => e = .returned (.int .i64 p.typ) /\ Below w.heap.size w w') := fun w h => (c_Type p w base b vk vu vl un h).mono fun _ _ ⟨h1, h2⟩ => ⟨h1, h2 ▸ Below.refl _ _⟩
 generalize hx30 : (p.typ) = x30 at H30
 have E30 := Lib.hid hx30
 clear hx30
 obtain ⟨obj, ho⟩ : ∃ o : Obj, o = .cells #[.string (B []), .string (B []), .string (B []), .string (B []), .string (B []), .string (B []), .string (B []), .string (B []), .string (B []), .string (B []), .string (B []), .string (B []), .string (B []), .string (B []), .string (B []), .string (B []), .string (B []), .string (B []), .string (B []), .string (B []), .string (B []), .slice none 0 0, .slice none 0 0, .slice none 0 0, .bool false, .bool false, .bool false, .bool false, .bool false, .bool false, .int .i64 0] 29 := ⟨_, rfl⟩
 have hh0 := Lib.hid (hh.out.below (Below_alloc w obj))
 have hC := Lib.hid (Below_alloc w obj)
 have hsz : (w.alloc obj).heap.size = w.heap.size + 1 := by simp
 have hblk : Hid ((w.alloc obj).heap[w.heap.size]? = some (.cells #[.string (B []), .string (B []), .string (B []), .string (B []), .string (B []), .string (B []), .string (B []), .string (B []), .string (B []), .string (B []), .string (B []), .string (B []), .string (B []), .string (B []), .string (B []), .string (B []), .string (B []), .string (B []), .string (B []), .string (B []), .string (B []), .slice none 0 0, .slice none 0 0, .slice none 0 0, .bool false, .bool false, .bool false, .bool false, .bool false, .bool false, .int .i64 0] 29)) := by rw [ho]; exact blk_new w _
 clear h ok HV
 go_enter Tryz.func41, Tryz.ntmps41
 go_wp2_with fail
 rw [<- ho]
 have C0 : Hid (Below (w.alloc obj).heap.size (w.alloc obj) (w.alloc obj)) := Below.refl _ _
 generalize w.alloc obj = w0 at hh0 hC hsz hblk C0 |-

 refine (H0.out _ hh0.out).mono ?_; rintro e w1 ⟨rfl, b⟩
 have hh1 := Lib.hid (hh0.out.below b)
 have C1 := Lib.hid (belowThen C0.out b (Nat.le_refl _))
 clear b H0 hh0
 try clear C0
 go_wp2_with fail
 refine (H1.out _ hh1.out).mono ?_; rintro e w2 ⟨rfl, b⟩
 have hh2 := Lib.hid (hh1.out.below b)
 have C2 := Lib.hid (belowThen C1.out b (Nat.le_refl _))
 clear b H1 hh1
 try clear C1
 go_wp2_with fail
 refine (H2.out _ hh2.out).mono ?_; rintro e w3 ⟨rfl, b⟩
 have hh3 := Lib.hid (hh2.out.below b)
 have C3 := Lib.hid (belowThen C2.out b (Nat.le_refl _))
 clear b H2 hh2
 try clear C2
 go_wp2_with fail
 refine (H3.out _ hh3.out).mono ?_; rintro e w4 ⟨rfl, b⟩
 have hh4 := Lib.hid (hh3.out.below b)
 have C4 := Lib.hid (belowThen C3.out b (Nat.le_refl _))
 clear b H3 hh3
 try clear C3
 go_wp2_with fail
 refine (H4.out _ hh4.out).mono ?_; rintro e w5 ⟨rfl, b⟩
 have hh5 := Lib.hid (hh4.out.below b)
 have C5 := Lib.hid (belowThen C4.out b (Nat.le_refl _))
 clear b H4 hh4
 try clear C4
 go_wp2_with fail
 refine (H5.out _ hh5.out).mono ?_; rintro e w6 ⟨rfl, b⟩
 have hh6 := Lib.hid (hh5.out.below b)
 have C6 := Lib.hid (belowThen C5.out b (Nat.le_refl _))
 clear b H5 hh5
 try clear C5
 go_wp2_with fail
 refine (H6.out _ hh6.out).mono ?_; rintro e w7 ⟨rfl, b⟩
 have hh7 := Lib.hid (hh6.out.below b)
 have C7 := Lib.hid (belowThen C6.out b (Nat.le_refl _))
 clear b H6 hh6
 try clear C6
 go_wp2_with fail
 refine (H7.out _ hh7.out).mono ?_; rintro e w8 ⟨rfl, b⟩
 have hh8 := Lib.hid (hh7.out.below b)
 have C8 := Lib.hid (belowThen C7.out b (Nat.le_refl _))
 clear b H7 hh7
 try clear C7
 go_wp2_with fail
 refine (H8.out _ hh8.out).mono ?_; rintro e w9 ⟨rfl, b⟩
 have hh9 := Lib.hid (hh8.out.below b)
 have C9 := Lib.hid (belowThen C8.out b (Nat.le_refl _))
 clear b H8 hh8
 try clear C8
 go_wp2_with fail
 refine (H9.out _ hh9.out).mono ?_; rintro e w10 ⟨rfl, b⟩
 have hh10 := Lib.hid (hh9.out.below b)
 have C10 := Lib.hid (belowThen C9.out b (Nat.le_refl _))
 clear b H9 hh9
 try clear C9
 go_wp2_with fail
 refine (H10.out _ hh10.out).mono ?_; rintro e w11 ⟨rfl, b⟩
 have hh11 := Lib.hid (hh10.out.below b)
 have C11 := Lib.hid (belowThen C10.out b (Nat.le_refl _))
 clear b H10 hh10
 try clear C10
 go_wp2_with fail
 refine (H11.out _ hh11.out).mono ?_; rintro e w12 ⟨rfl, b⟩
 have hh12 := Lib.hid (hh11.out.below b)
 have C12 := Lib.hid (belowThen C11.out b (Nat.le_refl _))
 clear b H11 hh11
 try clear C11
 go_wp2_with fail
 refine (H12.out _ hh12.out).mono ?_; rintro e w13 ⟨rfl, b⟩
 have hh13 := Lib.hid (hh12.out.below b)
 have C13 := Lib.hid (belowThen C12.out b (Nat.le_refl _))
 clear b H12 hh12
 try clear C12
 go_wp2_with fail
 refine (H13.out _ hh13.out).mono ?_; rintro e w14 ⟨rfl, b⟩
 have hh14 := Lib.hid (hh13.out.below b)
 have C14 := Lib.hid (belowThen C13.out b (Nat.le_refl _))
 clear b H13 hh13
 try clear C13
 go_wp2_with fail
 refine (H14.out _ hh14.out).mono ?_; rintro e w15 ⟨rfl, b⟩
 have hh15 := Lib.hid (hh14.out.below b)
 have C15 := Lib.hid (belowThen C14.out b (Nat.le_refl _))
 clear b H14 hh14
 try clear C14
 go_wp2_with fail
 refine (H15.out _ hh15.out).mono ?_; rintro e w16 ⟨rfl, b⟩
 have hh16 := Lib.hid (hh15.out.below b)
 have C16 := Lib.hid (belowThen C15.out b (Nat.le_refl _))
 clear b H15 hh15
 try clear C15
 go_wp2_with fail
 refine (H16.out _ hh16.out).mono ?_; rintro e w17 ⟨rfl, b⟩
 have hh17 := Lib.hid (hh16.out.below b)
 have C17 := Lib.hid (belowThen C16.out b (Nat.le_refl _))
 clear b H16 hh16
 try clear C16
 go_wp2_with fail
 refine (H17.out _ hh17.out).mono ?_; rintro e w18 ⟨rfl, b⟩
 have hh18 := Lib.hid (hh17.out.below b)
 have C18 := Lib.hid (belowThen C17.out b (Nat.le_refl _))
 clear b H17 hh17
 try clear C17
 go_wp2_with fail
 refine (H18.out _ hh18.out).mono ?_; rintro e w19 ⟨rfl, b⟩
 have hh19 := Lib.hid (hh18.out.below b)
 have C19 := Lib.hid (belowThen C18.out b (Nat.le_refl _))
 clear b H18 hh18
 try clear C18
 go_wp2_with fail
 refine (H19.out _ hh19.out).mono ?_; rintro e w20 ⟨rfl, b⟩
 have hh20 := Lib.hid (hh19.out.below b)
 have C20 := Lib.hid (belowThen C19.out b (Nat.le_refl _))
 clear b H19 hh19
 try clear C19
 go_wp2_with fail
 refine (H20.out _ hh20.out).mono ?_; rintro e w21 ⟨rfl, b⟩
 have hh21 := Lib.hid (hh20.out.below b)
 have C21 := Lib.hid (belowThen C20.out b (Nat.le_refl _))
 clear b H20 hh20
 try clear C20
 go_wp2_with fail
 refine (H21.out _ hh21.out).mono ?_; rintro e w22 ⟨v21, rfl, s21, r21, b⟩
 obtain ⟨a21, n21, c21, rfl⟩ := s21.slice
 have hh22 := Lib.hid (hh21.out.below b)
 have C22 := Lib.hid (belowThen C21.out b (Nat.le_refl _))
 have S21 := Lib.hid s21
 have R21 : Hid (NewRow (w.heap.size + 1) (.slice a21 n21 c21)) := r21.mono (by have := C21.out.size; omega)
 clear s21 r21
 clear b H21 hh21
 try clear C21
 go_wp2_with fail
 refine (H22.out _ hh22.out).mono ?_; rintro e w23 ⟨v22, rfl, s22, r22, b⟩
 obtain ⟨a22, n22, c22, rfl⟩ := s22.slice
 have hh23 := Lib.hid (hh22.out.below b)
 have C23 := Lib.hid (belowThen C22.out b (Nat.le_refl _))
 have S21 := Lib.hid (S21.out.below b)
 have S22 := Lib.hid s22
 have R22 : Hid (NewRow (w.heap.size + 1) (.slice a22 n22 c22)) := r22.mono (by have := C22.out.size; omega)
 clear s22 r22
 clear b H22 hh22
 try clear C22
 go_wp2_with fail
 refine (H23.out _ hh23.out).mono ?_; rintro e w24 ⟨v23, rfl, s23, r23, b⟩
 obtain ⟨a23, n23, c23, rfl⟩ := s23.slice
 have hh24 := Lib.hid (hh23.out.below b)
 have C24 := Lib.hid (belowThen C23.out b (Nat.le_refl _))
 have S21 := Lib.hid (S21.out.below b)
 have S22 := Lib.hid (S22.out.below b)
 have S23 := Lib.hid s23
 have R23 : Hid (NewRow (w.heap.size + 1) (.slice a23 n23 c23)) := r23.mono (by have := C23.out.size; omega)
 clear s23 r23
 clear b H23 hh23
 try clear C23
 go_wp2_with fail
 refine (H24.out _ hh24.out).mono ?_; rintro e w25 ⟨rfl, b⟩
 have hh25 := Lib.hid (hh24.out.below b)
 have C25 := Lib.hid (belowThen C24.out b (Nat.le_refl _))
 have S21 := Lib.hid (S21.out.below b)
 have S22 := Lib.hid (S22.out.below b)
 have S23 := Lib.hid (S23.out.below b)
 clear b H24 hh24
 try clear C24
 go_wp2_with fail
 refine (H25.out _ hh25.out).mono ?_; rintro e w26 ⟨rfl, b⟩
 have hh26 := Lib.hid (hh25.out.below b)
 have C26 := Lib.hid (belowThen C25.out b (Nat.le_refl _))
 have S21 := Lib.hid (S21.out.below b)
 have S22 := Lib.hid (S22.out.below b)
 have S23 := Lib.hid (S23.out.below b)
 clear b H25 hh25
 try clear C25
 go_wp2_with fail
 refine (H26.out _ hh26.out).mono ?_; rintro e w27 ⟨rfl, b⟩
 have hh27 := Lib.hid (hh26.out.below b)
 have C27 := Lib.hid (belowThen C26.out b (Nat.le_refl _))
 have S21 := Lib.hid (S21.out.below b)
 have S22 := Lib.hid (S22.out.below b)
 have S23 := Lib.hid (S23.out.below b)
 clear b H26 hh26
 try clear C26
 go_wp2_with fail
 refine (H27.out _ hh27.out).mono ?_; rintro e w28 ⟨rfl, b⟩
 have hh28 := Lib.hid (hh27.out.below b)
 have C28 := Lib.hid (belowThen C27.out b (Nat.le_refl _))
 have S21 := Lib.hid (S21.out.below b)
 have S22 := Lib.hid (S22.out.below b)
 have S23 := Lib.hid (S23.out.below b)
 clear b H27 hh27
 try clear C27
 go_wp2_with fail
 refine (H28.out _ hh28.out).mono ?_; rintro e w29 ⟨rfl, b⟩
 have hh29 := Lib.hid (hh28.out.below b)
 have C29 := Lib.hid (belowThen C28.out b (Nat.le_refl _))
 have S21 := Lib.hid (S21.out.below b)
 have S22 := Lib.hid (S22.out.below b)
 have S23 := Lib.hid (S23.out.below b)
 clear b H28 hh28
 try clear C28
 go_wp2_with fail
 refine (H29.out _ hh29.out).mono ?_; rintro e w30 ⟨rfl, b⟩
 have hh30 := Lib.hid (hh29.out.below b)
 have C30 := Lib.hid (belowThen C29.out b (Nat.le_refl _))
 have S21 := Lib.hid (S21.out.below b)
 have S22 := Lib.hid (S22.out.below b)
 have S23 := Lib.hid (S23.out.below b)
 clear b H29 hh29
 try clear C29
 go_wp2_with fail
 refine (H30.out _ hh30.out).mono ?_; rintro e w31 ⟨rfl, b⟩
 have hh31 := Lib.hid (hh30.out.below b)
 have C31 := Lib.hid (belowThen C30.out b (Nat.le_refl _))
 have S21 := Lib.hid (S21.out.below b)
 have S22 := Lib.hid (S22.out.below b)
 have S23 := Lib.hid (S23.out.below b)
 clear b H30 hh30
 try clear C30
 go_wp2_with fail
 refine wp_buildC 29 _ #[(.string x0), (.string x1), (.string x2), (.string x3), (.string x4), (.string x5), (.string x6), (.string x7), (.string x8), (.string x9), (.string x10), (.string x11), (.string x12), (.string x13), (.string x14), (.string x15), (.string x16), (.string x17), (.string x18), (.string x19), (.string x20), (.slice a21 n21 c21), (.slice a22 n22 c22), (.slice a23 n23 c23), (.bool x24), (.bool x25), (.bool x26), (.bool x27), (.bool x28), (.bool x29), (.int .i64 x30)] rfl (by kernel_rfl) ?_
 have hb31 := blk_below hblk.out C31.out
 rename_i hK
 refine hK _ _ ?_
 refine wpList_store_row rfl 29 (.tmp 2) (.tmp 65) rfl w.heap.size #[(.string x0), (.string x1), (.string x2), (.string x3), (.string x4), (.string x5), (.string x6), (.string x7), (.string x8), (.string x9), (.string x10), (.string x11), (.string x12), (.string x13), (.string x14), (.string x15), (.string x16), (.string x17), (.string x18), (.string x19), (.string x20), (.slice a21 n21 c21), (.slice a22 n22 c22), (.slice a23 n23 c23), (.bool x24), (.bool x25), (.bool x26), (.bool x27), (.bool x28), (.bool x29), (.int .i64 x30)] ?_ ?_ 29 _ hb31 ?_ ?_ ?_ ?_
 ·rfl
 ·rfl
 ·kernel_rfl
 ·rfl
 ·kernel_rfl
 have hrow := Lib.hid (setRow_heap w31 w.heap.size _ #[(.string x0), (.string x1), (.string x2), (.string x3), (.string x4), (.string x5), (.string x6), (.string x7), (.string x8), (.string x9), (.string x10), (.string x11), (.string x12), (.string x13), (.string x14), (.string x15), (.string x16), (.string x17), (.string x18), (.string x19), (.string x20), (.slice a21 n21 c21), (.slice a22 n22 c22), (.slice a23 n23 c23), (.bool x24), (.bool x25), (.bool x26), (.bool x27), (.bool x28), (.bool x29), (.int .i64 x30)] _ _ hb31)
 have hbel : Hid (Below w.heap.size w (w31.setRow w.heap.size #[(.string x0), (.string x1), (.string x2), (.string x3), (.string x4), (.string x5), (.string x6), (.string x7), (.string x8), (.string x9), (.string x10), (.string x11), (.string x12), (.string x13), (.string x14), (.string x15), (.string x16), (.string x17), (.string x18), (.string x19), (.string x20), (.slice a21 n21 c21), (.slice a22 n22 c22), (.slice a23 n23 c23), (.bool x24), (.bool x25), (.bool x26), (.bool x27), (.bool x28), (.bool x29), (.int .i64 x30)])) := by
  have b1 : Below w.heap.size w w31 := (hC.out.trans (C31.out.mono (by omega)))
  exact b1.trans ⟨rfl, rfl, rfl, by simp, fun k hk => setRow_other _ _ _ _ (by omega)⟩
 clear hblk hb31
 go_wp2_with fail
 have T21 := Lib.hid (S21.out.setRow (g := w.heap.size) (cs := #[(.string x0), (.string x1), (.string x2), (.string x3), (.string x4), (.string x5), (.string x6), (.string x7), (.string x8), (.string x9), (.string x10), (.string x11), (.string x12), (.string x13), (.string x14), (.string x15), (.string x16), (.string x17), (.string x18), (.string x19), (.string x20), (.slice a21 n21 c21), (.slice a22 n22 c22), (.slice a23 n23 c23), (.bool x24), (.bool x25), (.bool x26), (.bool x27), (.bool x28), (.bool x29), (.int .i64 x30)]) R21.out (by omega))
 have T22 := Lib.hid (S22.out.setRow (g := w.heap.size) (cs := #[(.string x0), (.string x1), (.string x2), (.string x3), (.string x4), (.string x5), (.string x6), (.string x7), (.string x8), (.string x9), (.string x10), (.string x11), (.string x12), (.string x13), (.string x14), (.string x15), (.string x16), (.string x17), (.string x18), (.string x19), (.string x20), (.slice a21 n21 c21), (.slice a22 n22 c22), (.slice a23 n23 c23), (.bool x24), (.bool x25), (.bool x26), (.bool x27), (.bool x28), (.bool x29), (.int .i64 x30)]) R22.out (by omega))
 have T23 := Lib.hid (S23.out.setRow (g := w.heap.size) (cs := #[(.string x0), (.string x1), (.string x2), (.string x3), (.string x4), (.string x5), (.string x6), (.string x7), (.string x8), (.string x9), (.string x10), (.string x11), (.string x12), (.string x13), (.string x14), (.string x15), (.string x16), (.string x17), (.string x18), (.string x19), (.string x20), (.slice a21 n21 c21), (.slice a22 n22 c22), (.slice a23 n23 c23), (.bool x24), (.bool x25), (.bool x26), (.bool x27), (.bool x28), (.bool x29), (.int .i64 x30)]) R23.out (by omega))
 generalize w31.setRow _ _ = wf at hrow hbel T21 T22 T23 |-
 refine bodyPost_ret (results_cell w.heap.size rfl rfl (run_loadVar_row wf w.heap.size _ 29 #[(.string x0), (.string x1), (.string x2), (.string x3), (.string x4), (.string x5), (.string x6), (.string x7), (.string x8), (.string x9), (.string x10), (.string x11), (.string x12), (.string x13), (.string x14), (.string x15), (.string x16), (.string x17), (.string x18), (.string x19), (.string x20), (.slice a21 n21 c21), (.slice a22 n22 c22), (.slice a23 n23 c23), (.bool x24), (.bool x25), (.bool x26), (.bool x27), (.bool x28), (.bool x29), (.int .i64 x30)] _ _ hrow.out Tryz.underlying29 rfl (by kernel_rfl))) rfl ?_
 have hq : toldVal (toldM p) (.slice a21 n21 c21) (.slice a22 n22 c22) (.slice a23 n23 c23) = .agg #[(.string x0), (.string x1), (.string x2), (.string x3), (.string x4), (.string x5), (.string x6), (.string x7), (.string x8), (.string x9), (.string x10), (.string x11), (.string x12), (.string x13), (.string x14), (.string x15), (.string x16), (.string x17), (.string x18), (.string x19), (.string x20), (.slice a21 n21 c21), (.slice a22 n22 c22), (.slice a23 n23 c23), (.bool x24), (.bool x25), (.bool x26), (.bool x27), (.bool x28), (.bool x29), (.int .i64 x30)] := by
  rw [<- E0.out, <- E1.out, <- E2.out, <- E3.out, <- E4.out, <- E5.out, <- E6.out, <- E7.out, <- E8.out, <- E9.out, <- E10.out, <- E11.out, <- E12.out, <- E13.out, <- E14.out, <- E15.out, <- E16.out, <- E17.out, <- E18.out, <- E19.out, <- E20.out, <- E24.out, <- E25.out, <- E26.out, <- E27.out, <- E28.out, <- E29.out, <- E30.out]; rfl
 refine ⟨_, rfl, ⟨_, _, _, hq.symm, ?_, ?_, ?_⟩, hbel.out⟩
 ·rw [show (toldM p).langs = x21 from E21.out]; exact ⟨T21.out, R21.out.mono (by omega)⟩
 ·rw [show (toldM p).ids = x22 from E22.out]; exact ⟨T22.out, R22.out.mono (by omega)⟩
 ·rw [show (toldM p).unknown = x23 from E23.out]; exact ⟨T23.out, R23.out.mono (by omega)⟩

end Go.Proofs.YtjkecadfakjanaaGreatDoor
