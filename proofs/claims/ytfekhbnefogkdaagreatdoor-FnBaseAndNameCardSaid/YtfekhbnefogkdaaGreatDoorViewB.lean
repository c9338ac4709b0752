/- The base and the logical name of a path that is asked for both at once: impl.BaseAndName walked, its deferred call too. Conditions: a site in memory that names each language once; a path of ASCII of at most 900000 bytes. -/
import Derived.Test.YtfekhbnefogkdaaGreatDoorParse
import Derived.Defers
import Derived.Deep.DeepCutAuto
set_option maxRecDepth 100000
set_option linter.unusedVariables false
set_option linter.unusedSimpArgs false
namespace Go.Proofs.YtfekhbnefogkdaaGreatDoor
open Go.RowKit
attribute [local go_sem] B_extract B_toList B_append

set_option maxHeartbeats 1000000 in
theorem c_getPath (w : World) :
  Calls Tryz.prog 118 #[] w fun e w' => ∃ b, e = .returned (.pointer (some ⟨b, 0, none⟩)) /\ PathAt w' w.heap.size b (emptyPath []) (.slice none 0 0) (.slice none 0 0) (.slice none 0 0) ⟨.pointer none, none⟩ /\ Below w.heap.size w w' := by
 go_enter Tryz.func118, Tryz.ntmps118
 go_wp2_with (go_at_call 119; go_in)
 go_end0
 go_wp2_with fail
 go_ret
 refine ⟨w.heap.size, rfl, ⟨?_, World.ownsRow_nil _ _ _ _, World.ownsRow_nil _ _ _ _, World.ownsRow_nil _ _ _ _, .inl rfl, fun g cur e => by (cases e), Nat.le_refl _⟩, ?_⟩
 ·exact blk_new w _
 ·exact Below_alloc _ _

/-- The component is written into a path. -/
theorem PathAt.setComp {w : World} {base b : Nat} {p : PathS} {vk vu vl uv : Value} (h : PathAt w base b p vk vu vl ⟨uv, none⟩) (c : Str) : PathAt (w.setCell ⟨b, 4, none⟩ (.string (B c))) base b { p with comp := c } vk vu vl ⟨uv, none⟩ /\ Below base w (w.setCell ⟨b, 4, none⟩ (.string (B c))) := by
 refine ⟨⟨?_, ?_, ?_, ?_, h.ne, fun g cur e => by (cases e), h.lb⟩, (Below.refl _ _).setCell h.lb _⟩
 ·rw [blk_set _ h.blk]; rfl
 ·exact ownsRow_far h.kn fun g hg => heap_set_far _ (by obtain ⟨cur, hc, _⟩ := ownsRow_blk h.kn hg; exact blk_ne hc h.blk lh_path)
 ·exact ownsRow_far h.uk fun g hg => heap_set_far _ (by obtain ⟨cur, hc, _⟩ := ownsRow_blk h.uk hg; exact blk_ne hc h.blk lh_path)
 ·exact ownsRow_far h.lg fun g hg => heap_set_far _ (by obtain ⟨cur, hc, _⟩ := ownsRow_blk h.lg hg; exact blk_ne hc h.blk int_path)

set_option maxHeartbeats 2000000 in
theorem c_pooled (w : World) (comp s : Str) (pb mb fb sb : Nat) (vl0 vd vf vc : Value) (site : SiteM) (hpp : PPAt w pb mb fb sb vl0 vd vf vc site) (hl : s.length <= 900000) (ha : asciiL s = true) :
  Calls Tryz.prog 97 #[.pointer (some ⟨pb, 0, none⟩), .string (B comp), .string (B s)] w
   fun e w' => ∃ b vk vu vl, e = .returned (.pointer (some ⟨b, 0, none⟩)) /\ PathAt w' w.heap.size b (doParseM site comp (normL s)) vk vu vl ⟨.pointer none, none⟩ /\ Below w.heap.size w w' := by
 have HN := Lib.hid (c_normBasic s w (by omega) ha)
 have HPP := Lib.hid hpp
 have HGP := Lib.hid (fun wx => c_getPath wx)
 have hnl := normL_len s
 have hna := Lib.hid (normL_ascii ha)
 have HDP : Hid (∀ (w0 w1 : World) (t : Str) (b : Nat), PPAt w0 pb mb fb sb vl0 vd vf vc site -> Scan w0 w1 b (emptyPath comp) ⟨.pointer none, none⟩ -> t.length <= 900000 -> asciiL t = true ->
   Calls Tryz.prog 107 #[.pointer (some ⟨pb, 0, none⟩), .string (B comp), .string (B t), .pointer (some ⟨b, 0, none⟩)] w1
    fun e w' => e = .returned (.tuple #[.pointer (some ⟨b, 0, none⟩), .nilIface]) /\ Scan w0 w' b (doParseM site comp t) ⟨.pointer none, none⟩) :=
  fun w0 w1 t b h1 h2 h3 h4 => c_doParse w0 w1 comp t b pb mb fb sb vl0 vd vf vc (.pointer none) site h1 h2 h3 h4
 obtain ⟨P1, hP1⟩ : ∃ P, P = doParseM site comp (normL s) := ⟨_, rfl⟩
 rw [<- hP1]
 replace hP1 := Lib.hid hP1
 obtain ⟨ss, hss⟩ : ∃ t, t = normL s := ⟨_, rfl⟩
 rw [<- hss] at HN hnl hna hP1
 clear hpp ha hss
 go_enter Tryz.func97, Tryz.ntmps97
 go_wp2_with fail
 refine HN.out.mono ?_; rintro e w1 ⟨rfl, b1⟩
 replace b1 := Lib.hid b1
 have hp1 := Lib.hid (HPP.out.below b1.out)
 clear HN
 go_wp2_with fail
 refine (HGP.out _).mono ?_; rintro e w2 ⟨b, rfl, hat, hb2⟩
 have c4 := hat.cell 4 (.string (B [])) rfl
 have f4 := hat.free 4
 obtain ⟨h4, hb4⟩ := hat.setComp comp
 have hsc : Hid (Scan w1 (w2.setCell ⟨b, 4, none⟩ (.string (B comp))) b (emptyPath comp) ⟨.pointer none, none⟩) := ⟨_, _, _, h4, hb2.trans hb4⟩
 clear hat hb2 h4 hb4
 go_wp2_with fail
 clear c4 f4
 refine (HDP.out w1 _ ss b hp1.out hsc.out (by omega) hna.out).mono ?_; rintro e w3 ⟨rfl, vk, vu, vl, h3, hb3⟩
 rw [<- hP1.out] at h3
 replace h3 := Lib.hid h3
 have hB3 : Hid (Below w.heap.size w w3) := belowThen b1.out hb3 (Nat.le_refl _)
 have hz1 := b1.out.size
 clear hb3 hsc hp1 b1
 go_wp2_with fail
 go_ret
 exact ⟨b, vk, vu, vl, rfl, h3.out.lower hz1, hB3.out⟩

/-- A path's block while its fields are written. -/
structure RS (w0 w : World) (base b : Nat) (c : Array Value) : Prop where
 blk : w.heap[b]? = some (.cells c 81 (0, 0))
 bel : Below base w0 w
theorem RS.set {w0 w : World} {base b : Nat} {c : Array Value} (h : RS w0 w base b c) (hb : base <= b) (k : Nat) (v : Value) : RS w0 (w.setCell ⟨b, k, none⟩ v) base b (c.setIfInBounds k v) :=
 ⟨blk_set v h.blk, h.bel.setCell hb v⟩

set_option maxHeartbeats 4000000 in
theorem c_reset (p : PathS) (w : World) (base b : Nat) (vk vu vl uv : Value) (h : PathAt w base b p vk vu vl ⟨uv, none⟩) :
  Calls Tryz.prog 119 #[.pointer (some ⟨b, 0, none⟩)] w fun e w' => e = .returned (.tuple #[]) /\ Below base w w' := by
 obtain ⟨a1, c1, rfl, y1⟩ := pairs_read h.kn
 obtain ⟨a2, c2, rfl, y2⟩ := pairs_read h.uk
 obtain ⟨a3, c3, rfl, y3⟩ := nats_read h.lg
 have hlb := Lib.hid h.lb
 have R0 : Hid (RS w w base b (pcells p (.slice a1 p.known.length c1) (.slice a2 p.unknown.length c2) (.slice a3 p.langs.length c3) ⟨uv, none⟩)) := ⟨h.blk, Below.refl _ _⟩
 clear h y1 y2 y3
 go_enter Tryz.func119, Tryz.ntmps119
 obtain ⟨x0, k0⟩ : ∃ x, w.cell? ⟨b, 0, none⟩ = some x := ⟨_, (cell_blk R0.out.blk 0).trans rfl⟩
 have f0 : w.frozen? ⟨b, 0, none⟩ = false := free_blk R0.out.blk 0
 obtain ⟨x1, k1⟩ : ∃ x, w.cell? ⟨b, 1, none⟩ = some x := ⟨_, (cell_blk R0.out.blk 1).trans rfl⟩
 have f1 : w.frozen? ⟨b, 1, none⟩ = false := free_blk R0.out.blk 1
 obtain ⟨x2, k2⟩ : ∃ x, w.cell? ⟨b, 2, none⟩ = some x := ⟨_, (cell_blk R0.out.blk 2).trans rfl⟩
 have f2 : w.frozen? ⟨b, 2, none⟩ = false := free_blk R0.out.blk 2
 obtain ⟨x3, k3⟩ : ∃ x, w.cell? ⟨b, 3, none⟩ = some x := ⟨_, (cell_blk R0.out.blk 3).trans rfl⟩
 have f3 : w.frozen? ⟨b, 3, none⟩ = false := free_blk R0.out.blk 3
 obtain ⟨x4, k4⟩ : ∃ x, w.cell? ⟨b, 4, none⟩ = some x := ⟨_, (cell_blk R0.out.blk 4).trans rfl⟩
 have f4 : w.frozen? ⟨b, 4, none⟩ = false := free_blk R0.out.blk 4
 go_upto_region 5 with fail
 generalize hw1 : (World.setCell _ ⟨b, 4, none⟩ _) = w1
 have R1 : Hid (RS w w1 base b #[(.string (B [])), (.int .i64 (-1)), (.int .i64 (-1)), (.int .i64 (-1)), (.string (B [])), i64 p.typ, .slice a1 p.known.length c1, .slice a2 p.unknown.length c2, i64 p.lang, i64 p.fmt, i64 p.kind, i64 p.lay, i64 p.baseof, i64 p.custom, .slice a3 p.langs.length c3, .slice none 0 0, .slice none 0 0, i64 p.pfmt, i64 p.pkind, i64 p.play, i64 p.nLow, i64 p.nHigh, i64 p.nameHigh, .bool p.disabled, .bool p.trim, uv]) := by show RS _ _ _ _ _; rw [<- hw1]; exact (((((R0.out.set hlb.out 0 (.string (B []))).set hlb.out 1 (.int .i64 (-1))).set hlb.out 2 (.int .i64 (-1))).set hlb.out 3 (.int .i64 (-1))).set hlb.out 4 (.string (B [])))
 clear hw1 R0 k0 f0 k1 f1 k2 f2 k3 f3 k4 f4
 obtain ⟨x5, k5⟩ : ∃ x, w1.cell? ⟨b, 5, none⟩ = some x := ⟨_, (cell_blk R1.out.blk 5).trans rfl⟩
 have f5 : w1.frozen? ⟨b, 5, none⟩ = false := free_blk R1.out.blk 5
 have k6 : w1.cell? ⟨b, 6, none⟩ = some (.slice a1 p.known.length c1) := (cell_blk R1.out.blk 6).trans rfl
 have f6 : w1.frozen? ⟨b, 6, none⟩ = false := free_blk R1.out.blk 6
 obtain ⟨x8, k8⟩ : ∃ x, w1.cell? ⟨b, 8, none⟩ = some x := ⟨_, (cell_blk R1.out.blk 8).trans rfl⟩
 have f8 : w1.frozen? ⟨b, 8, none⟩ = false := free_blk R1.out.blk 8
 obtain ⟨x9, k9⟩ : ∃ x, w1.cell? ⟨b, 9, none⟩ = some x := ⟨_, (cell_blk R1.out.blk 9).trans rfl⟩
 have f9 : w1.frozen? ⟨b, 9, none⟩ = false := free_blk R1.out.blk 9
 obtain ⟨x10, k10⟩ : ∃ x, w1.cell? ⟨b, 10, none⟩ = some x := ⟨_, (cell_blk R1.out.blk 10).trans rfl⟩
 have f10 : w1.frozen? ⟨b, 10, none⟩ = false := free_blk R1.out.blk 10
 go_upto_region 10 with fail
 generalize hw2 : (World.setCell _ ⟨b, 10, none⟩ _) = w2
 have R2 : Hid (RS w w2 base b #[(.string (B [])), (.int .i64 (-1)), (.int .i64 (-1)), (.int .i64 (-1)), (.string (B [])), (.int .i64 0), (.slice a1 0 c1), .slice a2 p.unknown.length c2, (.int .i64 (-1)), (.int .i64 (-1)), (.int .i64 (-1)), i64 p.lay, i64 p.baseof, i64 p.custom, .slice a3 p.langs.length c3, .slice none 0 0, .slice none 0 0, i64 p.pfmt, i64 p.pkind, i64 p.play, i64 p.nLow, i64 p.nHigh, i64 p.nameHigh, .bool p.disabled, .bool p.trim, uv]) := by show RS _ _ _ _ _; rw [<- hw2]; exact (((((R1.out.set hlb.out 5 (.int .i64 0)).set hlb.out 6 (.slice a1 0 c1)).set hlb.out 8 (.int .i64 (-1))).set hlb.out 9 (.int .i64 (-1))).set hlb.out 10 (.int .i64 (-1)))
 clear hw2 R1 k5 f5 k6 f6 k8 f8 k9 f9 k10 f10
 obtain ⟨x11, k11⟩ : ∃ x, w2.cell? ⟨b, 11, none⟩ = some x := ⟨_, (cell_blk R2.out.blk 11).trans rfl⟩
 have f11 : w2.frozen? ⟨b, 11, none⟩ = false := free_blk R2.out.blk 11
 obtain ⟨x12, k12⟩ : ∃ x, w2.cell? ⟨b, 12, none⟩ = some x := ⟨_, (cell_blk R2.out.blk 12).trans rfl⟩
 have f12 : w2.frozen? ⟨b, 12, none⟩ = false := free_blk R2.out.blk 12
 obtain ⟨x13, k13⟩ : ∃ x, w2.cell? ⟨b, 13, none⟩ = some x := ⟨_, (cell_blk R2.out.blk 13).trans rfl⟩
 have f13 : w2.frozen? ⟨b, 13, none⟩ = false := free_blk R2.out.blk 13
 have k14 : w2.cell? ⟨b, 14, none⟩ = some (.slice a3 p.langs.length c3) := (cell_blk R2.out.blk 14).trans rfl
 have f14 : w2.frozen? ⟨b, 14, none⟩ = false := free_blk R2.out.blk 14
 have k15 : w2.cell? ⟨b, 15, none⟩ = some (.slice none 0 0) := (cell_blk R2.out.blk 15).trans rfl
 have f15 : w2.frozen? ⟨b, 15, none⟩ = false := free_blk R2.out.blk 15
 go_upto_region 15 with fail
 generalize hw3 : (World.setCell _ ⟨b, 15, none⟩ _) = w3
 have R3 : Hid (RS w w3 base b #[(.string (B [])), (.int .i64 (-1)), (.int .i64 (-1)), (.int .i64 (-1)), (.string (B [])), (.int .i64 0), (.slice a1 0 c1), .slice a2 p.unknown.length c2, (.int .i64 (-1)), (.int .i64 (-1)), (.int .i64 (-1)), (.int .i64 (-1)), (.int .i64 (-1)), (.int .i64 (-1)), (.slice a3 0 c3), (.slice none 0 0), .slice none 0 0, i64 p.pfmt, i64 p.pkind, i64 p.play, i64 p.nLow, i64 p.nHigh, i64 p.nameHigh, .bool p.disabled, .bool p.trim, uv]) := by show RS _ _ _ _ _; rw [<- hw3]; exact (((((R2.out.set hlb.out 11 (.int .i64 (-1))).set hlb.out 12 (.int .i64 (-1))).set hlb.out 13 (.int .i64 (-1))).set hlb.out 14 (.slice a3 0 c3)).set hlb.out 15 (.slice none 0 0))
 clear hw3 R2 k11 f11 k12 f12 k13 f13 k14 f14 k15 f15
 have k16 : w3.cell? ⟨b, 16, none⟩ = some (.slice none 0 0) := (cell_blk R3.out.blk 16).trans rfl
 have f16 : w3.frozen? ⟨b, 16, none⟩ = false := free_blk R3.out.blk 16
 obtain ⟨x17, k17⟩ : ∃ x, w3.cell? ⟨b, 17, none⟩ = some x := ⟨_, (cell_blk R3.out.blk 17).trans rfl⟩
 have f17 : w3.frozen? ⟨b, 17, none⟩ = false := free_blk R3.out.blk 17
 obtain ⟨x18, k18⟩ : ∃ x, w3.cell? ⟨b, 18, none⟩ = some x := ⟨_, (cell_blk R3.out.blk 18).trans rfl⟩
 have f18 : w3.frozen? ⟨b, 18, none⟩ = false := free_blk R3.out.blk 18
 obtain ⟨x19, k19⟩ : ∃ x, w3.cell? ⟨b, 19, none⟩ = some x := ⟨_, (cell_blk R3.out.blk 19).trans rfl⟩
 have f19 : w3.frozen? ⟨b, 19, none⟩ = false := free_blk R3.out.blk 19
 obtain ⟨x20, k20⟩ : ∃ x, w3.cell? ⟨b, 20, none⟩ = some x := ⟨_, (cell_blk R3.out.blk 20).trans rfl⟩
 have f20 : w3.frozen? ⟨b, 20, none⟩ = false := free_blk R3.out.blk 20
 obtain ⟨x21, k21⟩ : ∃ x, w3.cell? ⟨b, 21, none⟩ = some x := ⟨_, (cell_blk R3.out.blk 21).trans rfl⟩
 have f21 : w3.frozen? ⟨b, 21, none⟩ = false := free_blk R3.out.blk 21
 go_upto_region 20 with fail
 generalize hw4 : (World.setCell _ ⟨b, 21, none⟩ _) = w4
 have R4 : Hid (RS w w4 base b #[(.string (B [])), (.int .i64 (-1)), (.int .i64 (-1)), (.int .i64 (-1)), (.string (B [])), (.int .i64 0), (.slice a1 0 c1), .slice a2 p.unknown.length c2, (.int .i64 (-1)), (.int .i64 (-1)), (.int .i64 (-1)), (.int .i64 (-1)), (.int .i64 (-1)), (.int .i64 (-1)), (.slice a3 0 c3), (.slice none 0 0), (.slice none 0 0), (.int .i64 (-1)), (.int .i64 (-1)), (.int .i64 (-1)), (.int .i64 0), (.int .i64 0), i64 p.nameHigh, .bool p.disabled, .bool p.trim, uv]) := by show RS _ _ _ _ _; rw [<- hw4]; exact ((((((R3.out.set hlb.out 16 (.slice none 0 0)).set hlb.out 17 (.int .i64 (-1))).set hlb.out 18 (.int .i64 (-1))).set hlb.out 19 (.int .i64 (-1))).set hlb.out 20 (.int .i64 0)).set hlb.out 21 (.int .i64 0))
 clear hw4 R3 k16 f16 k17 f17 k18 f18 k19 f19 k20 f20 k21 f21
 obtain ⟨x22, k22⟩ : ∃ x, w4.cell? ⟨b, 22, none⟩ = some x := ⟨_, (cell_blk R4.out.blk 22).trans rfl⟩
 have f22 : w4.frozen? ⟨b, 22, none⟩ = false := free_blk R4.out.blk 22
 obtain ⟨x23, k23⟩ : ∃ x, w4.cell? ⟨b, 23, none⟩ = some x := ⟨_, (cell_blk R4.out.blk 23).trans rfl⟩
 have f23 : w4.frozen? ⟨b, 23, none⟩ = false := free_blk R4.out.blk 23
 obtain ⟨x24, k24⟩ : ∃ x, w4.cell? ⟨b, 24, none⟩ = some x := ⟨_, (cell_blk R4.out.blk 24).trans rfl⟩
 have f24 : w4.frozen? ⟨b, 24, none⟩ = false := free_blk R4.out.blk 24
 obtain ⟨x25, k25⟩ : ∃ x, w4.cell? ⟨b, 25, none⟩ = some x := ⟨_, (cell_blk R4.out.blk 25).trans rfl⟩
 have f25 : w4.frozen? ⟨b, 25, none⟩ = false := free_blk R4.out.blk 25
 go_wp2_with fail
 go_end0
 refine ⟨rfl, ?_⟩
 exact ((((R4.out.set hlb.out 22 (.int .i64 (-1))).set hlb.out 23 (.bool false)).set hlb.out 24 (.bool false)).set hlb.out 25 (.pointer none)).bel
theorem d_putPath (p : PathS) (w : World) (base b : Nat) (vk vu vl uv : Value) (h : PathAt w base b p vk vu vl ⟨uv, none⟩) (u : FrameMode) :
  CallsD Tryz.prog 98 #[.pointer (some ⟨b, 0, none⟩)] u w fun e u' w' => u' = u /\ (e = .returned (.tuple #[]) /\ Below base w w') := by
 have H := Lib.hid (c_reset p w base b vk vu vl uv h)
 clear h
 go_enter_d Tryz.func98, Tryz.ntmps98
 go_wp2_with fail
 refine H.out.mono ?_; rintro e w' ⟨rfl, hb⟩
 go_wp2_with fail
 go_end0
 exact ⟨rfl, hb⟩

set_option maxHeartbeats 2000000 in
theorem c_baseName (w : World) (comp s : Str) (pb mb fb sb : Nat) (vl0 vd vf vc : Value) (site : SiteM) (hpp : PPAt w pb mb fb sb vl0 vd vf vc site) (hl : s.length <= 900000) (ha : asciiL s = true) :
  Calls Tryz.prog 47 #[.pointer (some ⟨pb, 0, none⟩), .string (B comp), .string (B s)] w
   fun e w' => e = .returned (.tuple #[.string (B (doParseM site comp (normL s)).base), .string (B (doParseM site comp (normL s)).baseNameM)]) /\ Below w.heap.size w w' := by
 have HPO := Lib.hid (c_pooled w comp s pb mb fb sb vl0 vd vf vc site hpp hl ha)
 have ok : PathOK (doParseM site comp (normL s)) := doParse_ok site comp (normL s) (by rw [normL_len]; omega)
 generalize doParseM site comp (normL s) = P at HPO ok |-
 have HB : Hid (∀ wx base b vk vu vl un, PathAt wx base b P vk vu vl un -> Calls Tryz.prog 70 #[.pointer (some ⟨b, 0, none⟩)] wx fun e w' => e = .returned (.string (B P.base)) /\ Below wx.heap.size wx w') := fun wx base b vk vu vl un h => c_Base P wx base b vk vu vl un h ok
 have HN : Hid (∀ wx base b vk vu vl un, PathAt wx base b P vk vu vl un -> Calls Tryz.prog 63 #[.pointer (some ⟨b, 0, none⟩)] wx fun e w' => e = .returned (.string (B P.baseNameM)) /\ Below wx.heap.size wx w') := fun wx base b vk vu vl un h => c_BaseName P wx base b vk vu vl un h ok
 generalize P.base = x at HB |-
 generalize P.baseNameM = y at HN |-
 clear hpp ha ok
 go_enter_defers Tryz.func47, Tryz.ntmps47
 go_wp2_with fail
 refine HPO.out.mono ?_; rintro e w1 ⟨b, vk, vu, vl, rfl, hat, hb1⟩
 replace hat := Lib.hid hat
 replace hb1 := Lib.hid hb1
 clear HPO
 go_wp2_with fail
 refine (HB.out _ _ _ _ _ _ _ hat.out).mono ?_; rintro e w2 ⟨rfl, b2⟩
 replace hat := Lib.hid (hat.out.below b2)
 replace hb1 := Lib.hid (belowThen hb1.out b2 (Nat.le_refl _))
 clear HB b2
 go_wp2_with fail
 refine (HN.out _ _ _ _ _ _ _ hat.out).mono ?_; rintro e w3 ⟨rfl, b3⟩
 replace hat := Lib.hid (hat.out.below b3)
 replace hb1 := Lib.hid (belowThen hb1.out b3 (Nat.le_refl _))
 clear HN b3
 go_wp2_with fail
 refine leaves_cons (f := 98) (args := #[.pointer (some ⟨b, 0, none⟩)]) (by simp) (by simp [go_sem]) ?_
 refine (d_putPath P w3 w.heap.size b vk vu vl _ hat.out .returning).mono ?_
 rintro e u' w'' ⟨rfl, rfl, hb4⟩
 exact ⟨_, results_tmp2 rfl _ _ _, rfl, hb1.out.trans hb4⟩

set_option maxHeartbeats 2000000 in
theorem c_implBaseName (w : World) (site : SiteM) (comp s : Str) (vl vd vf vc : Value) (hs : SiteAt w vl vd vf vc site) (hn : Once site.languages) (hl : s.length <= 900000) (ha : asciiL s = true) :
  Calls Tryz.prog 26 #[.agg #[vl, vd, vf, vc], .string (B comp), .string (B s)] w
   fun e w' => e = .returned (.tuple #[.string (B (toldM (doParseM site comp (normL s))).base), .string (B (toldM (doParseM site comp (normL s))).baseName)]) /\ Below w.heap.size w w' := by
 have HPR : Hid (∀ wx, SiteAt wx vl vd vf vc site -> Calls Tryz.prog 39 #[.agg #[vl, vd, vf, vc]] wx fun e w' => ∃ pb mb fb sb, e = .returned (.pointer (some ⟨pb, 0, none⟩)) /\ PPAt w' pb mb fb sb vl vd vf vc site /\ wx.heap.size <= pb /\ Below wx.heap.size wx w') := fun wx h => c_parser site vl vd vf vc wx h hn
 have HBN : Hid (∀ wx pb mb fb sb, PPAt wx pb mb fb sb vl vd vf vc site -> Calls Tryz.prog 47 #[.pointer (some ⟨pb, 0, none⟩), .string (B comp), .string (B s)] wx fun e w' => e = .returned (.tuple #[.string (B (toldM (doParseM site comp (normL s))).base), .string (B (toldM (doParseM site comp (normL s))).baseName)]) /\ Below wx.heap.size wx w') := fun wx pb mb fb sb h => c_baseName wx comp s pb mb fb sb vl vd vf vc site h hl ha
 generalize (toldM (doParseM site comp (normL s))).base = x at HBN |-
 generalize (toldM (doParseM site comp (normL s))).baseName = y at HBN |-
 obtain ⟨obs, hobs⟩ : ∃ o : Obj, o = .cells #[vl, vd, vf, vc] 25 := ⟨_, rfl⟩
 have hB1 : Hid (Below w.heap.size w (w.alloc obs)) := Below_alloc w obs
 have HV1 : Hid (SiteAt (w.alloc obs) vl vd vf vc site) := hs.alloc obs
 clear hs hn ha
 go_enter Tryz.func26, Tryz.ntmps26
 go_wp2_with fail
 rw [<- hobs]
 generalize w.alloc obs = w2 at hB1 HV1 |-
 refine (HPR.out _ HV1.out).mono ?_; rintro e w3 ⟨pb, mb, fb, sb, rfl, hpp, hpb, hb3⟩
 replace hpp := Lib.hid hpp
 have hB3 := Lib.hid (belowThen hB1.out hb3 (Nat.le_refl _))
 clear HPR HV1 hB1 hb3 hpb
 go_wp2_with fail
 refine (HBN.out _ pb mb fb sb hpp.out).mono ?_; rintro e w4 ⟨rfl, hb4⟩
 have hB4 := Lib.hid (belowThen hB3.out hb4 (Nat.le_refl _))
 clear HBN hb4 hpp hB3
 go_wp2_with fail
 go_ret2
 exact ⟨rfl, hB4.out⟩

end Go.Proofs.YtfekhbnefogkdaaGreatDoor
