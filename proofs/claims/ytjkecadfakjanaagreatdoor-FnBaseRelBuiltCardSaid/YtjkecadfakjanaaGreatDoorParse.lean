/- The walks of parse, PathParser.Parse and impl.Parse: what a path of a site answers, in memory. Conditions: a site in memory that names each language once, texts of ASCII of at most 900000 bytes. -/
import Derived.Test.YtjkecadfakjanaaGreatDoorDoParse
import Derived.Test.YtjkecadfakjanaaGreatDoorTold
set_option maxRecDepth 100000
set_option linter.unusedVariables false
set_option linter.unusedSimpArgs false
namespace Go.Proofs.YtjkecadfakjanaaGreatDoor
open Go.RowKit
attribute [local go_sem] B_extract B_toList B_append

theorem un_path : (3 : TypeId) ≠ 82 := by decide
/-- The path in its own letters is written beside a path. -/
theorem PathAt.setUn {w : World} {base b : Nat} {p : PathS} {vk vu vl : Value} {un : Un} (h : PathAt w base b p vk vu vl un) (v : Value) : PathAt (w.setCell ⟨b, 25, none⟩ v) base b p vk vu vl ⟨v, none⟩ /\ Below base w (w.setCell ⟨b, 25, none⟩ v) := by
 refine ⟨⟨?_, ?_, ?_, ?_, h.ne, fun g cur e => by (cases e), h.lb⟩, (Below.refl _ _).setCell h.lb v⟩
 ·rw [blk_set v h.blk]; rfl
 ·exact ownsRow_far h.kn fun g hg => heap_set_far v (by obtain ⟨cur, hc, _⟩ := ownsRow_blk h.kn hg; exact blk_ne hc h.blk lh_path)
 ·exact ownsRow_far h.uk fun g hg => heap_set_far v (by obtain ⟨cur, hc, _⟩ := ownsRow_blk h.uk hg; exact blk_ne hc h.blk lh_path)
 ·exact ownsRow_far h.lg fun g hg => heap_set_far v (by obtain ⟨cur, hc, _⟩ := ownsRow_blk h.lg hg; exact blk_ne hc h.blk int_path)
/-- Another path's cell is written. -/
theorem PathAt.setFar {w : World} {base b b' : Nat} {p : PathS} {vk vu vl uv : Value} (h : PathAt w base b p vk vu vl ⟨uv, none⟩) {c : Array Value} {fr : Nat × Nat} (hb : w.heap[b']? = some (.cells c 82 fr)) (hne : b ≠ b') (k : Nat) (v : Value) :
  PathAt (w.setCell ⟨b', k, none⟩ v) base b p vk vu vl ⟨uv, none⟩ := by
 refine ⟨(heap_set_far v hne).trans h.blk, ?_, ?_, ?_, h.ne, fun g cur e => by (cases e), h.lb⟩
 ·exact ownsRow_far h.kn fun g hg => heap_set_far v (by obtain ⟨cur, hc, _⟩ := ownsRow_blk h.kn hg; exact blk_ne hc hb lh_path)
 ·exact ownsRow_far h.uk fun g hg => heap_set_far v (by obtain ⟨cur, hc, _⟩ := ownsRow_blk h.uk hg; exact blk_ne hc hb lh_path)
 ·exact ownsRow_far h.lg fun g hg => heap_set_far v (by obtain ⟨cur, hc, _⟩ := ownsRow_blk h.lg hg; exact blk_ne hc hb int_path)

theorem ownsRow_lower {w : World} {base base' : Nat} {e : TypeId} {size : Nat} {v : Value} {n : Nat} {xs : List Value} (h : w.ownsRow base e size v n xs) (hb : base' <= base) : w.ownsRow base' e size v n xs := by
 obtain ⟨h1, h2⟩ := h
 refine ⟨h1, ?_⟩
 rcases h2 with h2 | ⟨g, cap, cur, hv, hg, r⟩
 ·exact .inl h2
 ·exact .inr ⟨g, cap, cur, hv, Nat.le_trans hb hg, r⟩
theorem PathAt.lower {w : World} {base base' b : Nat} {p : PathS} {vk vu vl : Value} {un : Un} (h : PathAt w base b p vk vu vl un) (hb : base' <= base) : PathAt w base' b p vk vu vl un :=
 ⟨h.blk, ownsRow_lower h.kn hb, ownsRow_lower h.uk hb, ownsRow_lower h.lg hb, h.ne, h.kp, Nat.le_trans hb h.lb⟩

/-- A path p lies at block b, the path in its own letters at block b2. -/
def PathHere (w : World) (base b b2 : Nat) (p : PathS) : Prop := ∃ vk vu vl, PathAt w base b p vk vu vl ⟨.pointer (some ⟨b2, 0, none⟩), none⟩
/-- A path q lies at block b. -/
def SomePath (w : World) (b : Nat) (q : PathS) : Prop := ∃ base vk vu vl un, PathAt w base b q vk vu vl un
theorem PathHere.below {w w' : World} {base b b2 : Nat} {p : PathS} (h : PathHere w base b b2 p) (hb : Below w.heap.size w w') : PathHere w' base b b2 p := by
 obtain ⟨vk, vu, vl, h⟩ := h
 exact ⟨vk, vu, vl, h.below hb⟩
theorem PathHere.some {w : World} {base b b2 : Nat} {p : PathS} (h : PathHere w base b b2 p) : SomePath w b p := by
 obtain ⟨vk, vu, vl, h⟩ := h
 exact ⟨_, _, _, _, _, h⟩
theorem SomePath.below {w w' : World} {b : Nat} {q : PathS} (h : SomePath w b q) (hb : Below w.heap.size w w') : SomePath w' b q := by
 obtain ⟨base, vk, vu, vl, un, h⟩ := h
 exact ⟨base, vk, vu, vl, un, h.below hb⟩

theorem normL_len (s : Str) : (normL s).length = s.length := by simp [normL, Lib.toLowerA]
theorem normB_ascii {c : UInt8} (h : c.toNat <= 127) : (normB c).toNat <= 127 := by
 unfold normB
 split
 ·decide
 ·exact h
theorem normL_ascii {s : Str} (h : asciiL s = true) : asciiL (normL s) = true := by
 have h1 := asciiL_lower h
 unfold asciiL at h1 |-
 rw [List.all_eq_true] at h1 |-
 intro x hx
 obtain ⟨y, hy, rfl⟩ := List.mem_map.1 hx
 have := h1 y hy
 simp only [decide_eq_true_eq] at this |-
 exact normB_ascii this

set_option maxHeartbeats 2000000 in
theorem c_parse (w : World) (comp s : Str) (pb mb fb sb : Nat) (vl0 vd vf vc : Value) (site : SiteM) (hpp : PPAt w pb mb fb sb vl0 vd vf vc site) (hl : s.length <= 900000) (ha : asciiL s = true) :
  Calls Tryz.prog 97 #[.pointer (some ⟨pb, 0, none⟩), .string (B comp), .string (B s)] w
   fun e w' => ∃ b b2, e = .returned (.tuple #[.pointer (some ⟨b, 0, none⟩), .nilIface]) /\ PathHere w' w.heap.size b b2 (doParseM site comp (normL s)) /\ SomePath w' b2 (doParseM site comp s) /\ Below w.heap.size w w' := by
 have HN := Lib.hid (c_normBasic s w (by omega) ha)
 have HPP := Lib.hid hpp
 have HNP := Lib.hid (fun wx => c_newPath comp (.pointer (some ⟨pb, 0, none⟩)) wx)
 have hnl := normL_len s
 have hna := Lib.hid (normL_ascii ha)
 have haa := Lib.hid ha
 have HDP : Hid (∀ (w0 w1 : World) (t : Str) (b : Nat), PPAt w0 pb mb fb sb vl0 vd vf vc site -> Scan w0 w1 b (emptyPath comp) ⟨.pointer none, none⟩ -> t.length <= 900000 -> asciiL t = true ->
   Calls Tryz.prog 119 #[.pointer (some ⟨pb, 0, none⟩), .string (B comp), .string (B t), .pointer (some ⟨b, 0, none⟩)] w1
    fun e w' => e = .returned (.tuple #[.pointer (some ⟨b, 0, none⟩), .nilIface]) /\ Scan w0 w' b (doParseM site comp t) ⟨.pointer none, none⟩) :=
  fun w0 w1 t b h1 h2 h3 h4 => c_doParse w0 w1 comp t b pb mb fb sb vl0 vd vf vc (.pointer none) site h1 h2 h3 h4
 obtain ⟨P1, hP1⟩ : ∃ P, P = doParseM site comp (normL s) := ⟨_, rfl⟩
 rw [<- hP1]
 replace hP1 := Lib.hid hP1
 obtain ⟨ss, hss⟩ : ∃ t, t = normL s := ⟨_, rfl⟩
 rw [<- hss] at HN hnl hna hP1
 have hss2 := Lib.hid hss
 clear hpp ha hss
 go_enter Tryz.func97, Tryz.ntmps97
 go_wp2_with fail
 refine HN.out.mono ?_; rintro e w1 ⟨rfl, b1⟩
 replace b1 := Lib.hid b1
 have hp1 := Lib.hid (HPP.out.below b1.out)
 clear HN
 go_wp2_with fail
 refine (HNP.out _).mono ?_; rintro e w2 ⟨b, rfl, hat, hb2⟩
 have hsc : Hid (Scan w1 w2 b (emptyPath comp) ⟨.pointer none, none⟩) := ⟨_, _, _, hat, hb2⟩
 clear hat hb2
 go_wp2_with fail
 refine (HDP.out w1 w2 ss b hp1.out hsc.out (by omega) hna.out).mono ?_; rintro e w3 ⟨rfl, vk, vu, vl, h3, hb3⟩
 rw [<- hP1.out] at h3
 replace h3 := Lib.hid h3
 have hB3 : Hid (Below w.heap.size w w3) := belowThen b1.out hb3 (Nat.le_refl _)
 have hz1 := b1.out.size
 have hp3 := Lib.hid (hp1.out.below hb3)
 clear hb3 hsc hp1 b1
 cases he : (s == ss) with
 | true =>
  have hes : s = ss := by simpa using he
  have hD : Hid (P1 = doParseM site comp s) := by show _ = _; rw [hP1.out, hes]
  clear hes
  have k25 := h3.out.cell 25 (.pointer none) rfl
  have f25 := h3.out.free 25
  obtain ⟨h4, hb4⟩ := h3.out.setUn (.pointer (some ⟨b, 0, none⟩))
  replace h4 := Lib.hid h4
  have hB4 := Lib.hid (hB3.out.trans (hb4.mono hz1))
  clear hb4
  have he2 : (s != ss) = false := by rw [bne, he]; rfl
  go_wp2_with fail
  have hlb : w.heap.size <= w1.heap.size := hz1
  have r1 : PathHere (w3.setCell ⟨b, 25, none⟩ (.pointer (some ⟨b, 0, none⟩))) w.heap.size b b P1 := ⟨_, _, _, h4.out.lower hlb⟩
  have r2 : SomePath (w3.setCell ⟨b, 25, none⟩ (.pointer (some ⟨b, 0, none⟩))) b (doParseM site comp s) := by rw [<- hD.out]; exact ⟨_, _, _, _, _, h4.out⟩
  exact bodyPost_ret (v := .tuple #[.pointer (some ⟨b, 0, none⟩), .nilIface]) (by simp [results, Tryz.results97, go_sem]) rfl ⟨b, b, rfl, r1, r2, hB4.out⟩
 | false =>
  have he2 : (s != ss) = true := by rw [bne, he]; rfl
  go_wp2_with fail
  refine (HNP.out _).mono ?_; rintro e w4 ⟨c, rfl, hat, hb4⟩
  have hsc : Hid (Scan w3 w4 c (emptyPath comp) ⟨.pointer none, none⟩) := ⟨_, _, _, hat, hb4⟩
  clear hat hb4
  go_wp2_with fail
  refine (HDP.out w3 w4 s c hp3.out hsc.out (by omega) haa.out).mono ?_; rintro e w5 ⟨rfl, vk5, vu5, vl5, h5, hb5⟩
  have hcb : c ≠ b := by
   have h1 := h5.lb
   have h2 := (Array.getElem?_eq_some_iff.1 h3.out.blk).1
   omega
  have h6 := Lib.hid (h3.out.below hb5)
  have k25 := h6.out.cell 25 (.pointer none) rfl
  have f25 := h6.out.free 25
  obtain ⟨h7, hb7⟩ := h6.out.setUn (.pointer (some ⟨c, 0, none⟩))
  have h8 := Lib.hid (h5.setFar h6.out.blk hcb 25 (.pointer (some ⟨c, 0, none⟩)))
  replace h7 := Lib.hid h7
  have hB7 := Lib.hid ((belowThen hB3.out hb5 (by have := hB3.out.size; exact Nat.le_refl _)).trans (hb7.mono hz1))
  clear hb7 h5 hb5 hsc hcb
  go_wp2_with fail
  have r1 : PathHere (w5.setCell ⟨b, 25, none⟩ (.pointer (some ⟨c, 0, none⟩))) w.heap.size b c P1 := ⟨_, _, _, h7.out.lower hz1⟩
  have r2 : SomePath (w5.setCell ⟨b, 25, none⟩ (.pointer (some ⟨c, 0, none⟩))) c (doParseM site comp s) := ⟨_, _, _, _, _, h8.out⟩
  exact bodyPost_ret (v := .tuple #[.pointer (some ⟨b, 0, none⟩), .nilIface]) (by simp [results, Tryz.results97, go_sem]) rfl ⟨b, c, rfl, r1, r2, hB7.out⟩

theorem c_Parse (w : World) (comp s : Str) (pb mb fb sb : Nat) (vl0 vd vf vc : Value) (site : SiteM) (hpp : PPAt w pb mb fb sb vl0 vd vf vc site) (hl : s.length <= 900000) (ha : asciiL s = true) :
  Calls Tryz.prog 43 #[.pointer (some ⟨pb, 0, none⟩), .string (B comp), .string (B s)] w
   fun e w' => ∃ b b2, e = .returned (.pointer (some ⟨b, 0, none⟩)) /\ PathHere w' w.heap.size b b2 (doParseM site comp (normL s)) /\ SomePath w' b2 (doParseM site comp s) /\ Below w.heap.size w w' := by
 have H := Lib.hid (c_parse w comp s pb mb fb sb vl0 vd vf vc site hpp hl ha)
 generalize doParseM site comp (normL s) = P1 at H |-
 generalize doParseM site comp s = P2 at H |-
 clear hpp ha
 go_enter Tryz.func43, Tryz.ntmps43
 go_wp2_with fail
 refine H.out.mono ?_; rintro e w1 ⟨b, b2, rfl, h1, h2, hb⟩
 go_wp2_with fail
 go_ret
 exact ⟨b, b2, rfl, h1, h2, hb⟩

theorem told_cells (t : ToldM) (a1 a2 a3 : Option Addr) (n1 n2 n3 c1 c2 c3 : Nat) : ∃ c : Array Value, toldVal t (.slice a1 n1 c1) (.slice a2 n2 c2) (.slice a3 n3 c3) = .agg c /\ c.size = 31 /\ c.all (·.oneCell') = true :=
 ⟨_, rfl, rfl, by kernel_rfl⟩

set_option maxHeartbeats 4000000 in
theorem c_implParse (w : World) (site : SiteM) (comp s : Str) (vl vd vf vc : Value) (hs : SiteAt w vl vd vf vc site) (hn : Once site.languages) (hl : s.length <= 900000) (ha : asciiL s = true) :
  Calls Tryz.prog 48 #[.agg #[vl, vd, vf, vc], .string (B comp), .string (B s)] w
   fun e w' => ∃ v, e = .returned v /\ ToldAtN w.heap.size w' v (toldM (doParseM site comp (normL s))) /\ Below w.heap.size w w' := by
 have HS := Lib.hid hs
 have HPR : Hid (∀ wx, SiteAt wx vl vd vf vc site -> Calls Tryz.prog 42 #[.agg #[vl, vd, vf, vc]] wx fun e w' => ∃ pb mb fb sb, e = .returned (.pointer (some ⟨pb, 0, none⟩)) /\ PPAt w' pb mb fb sb vl vd vf vc site /\ wx.heap.size <= pb /\ Below wx.heap.size wx w') := fun wx h => c_parser site vl vd vf vc wx h hn
 have HPA : Hid (∀ wx pb mb fb sb, PPAt wx pb mb fb sb vl vd vf vc site -> Calls Tryz.prog 43 #[.pointer (some ⟨pb, 0, none⟩), .string (B comp), .string (B s)] wx
   fun e w' => ∃ b b2, e = .returned (.pointer (some ⟨b, 0, none⟩)) /\ PathHere w' wx.heap.size b b2 (doParseM site comp (normL s)) /\ SomePath w' b2 (doParseM site comp s) /\ Below wx.heap.size wx w') := fun wx pb mb fb sb h => c_Parse wx comp s pb mb fb sb vl vd vf vc site h hl ha
 have ok : PathOK (doParseM site comp (normL s)) := doParse_ok site comp (normL s) (by rw [normL_len]; omega)
 have HTD : Hid (∀ wx base b vk vu vl1 un, PathAt wx base b (doParseM site comp (normL s)) vk vu vl1 un -> Calls Tryz.prog 41 #[.pointer (some ⟨b, 0, none⟩)] wx fun e w' => ∃ v, e = .returned v /\ ToldAtN wx.heap.size w' v (toldM (doParseM site comp (normL s))) /\ Below wx.heap.size wx w') := fun wx base b vk vu vl1 un h => c_told _ wx base b vk vu vl1 un h ok
 generalize doParseM site comp (normL s) = P1 at HPA HTD |-
 generalize doParseM site comp s = P2 at HPA
 obtain ⟨obj, ho⟩ : ∃ o : Obj, o = .cells #[.string (B []), .string (B []), .string (B []), .string (B []), .string (B []), .string (B []), .string (B []), .string (B []), .string (B []), .string (B []), .string (B []), .string (B []), .string (B []), .string (B []), .string (B []), .string (B []), .string (B []), .string (B []), .string (B []), .string (B []), .string (B []), .slice none 0 0, .slice none 0 0, .slice none 0 0, .bool false, .bool false, .bool false, .bool false, .bool false, .bool false, .int .i64 0] 29 := ⟨_, rfl⟩
 obtain ⟨obs, hobs⟩ : ∃ o : Obj, o = .cells #[vl, vd, vf, vc] 25 := ⟨_, rfl⟩
 have hb1 := Lib.hid (Below_alloc w obs)
 have hb2 := Lib.hid (Below_alloc (w.alloc obs) obj)
 have hz1 : (w.alloc obs).heap.size = w.heap.size + 1 := by simp
 have hz2 : ((w.alloc obs).alloc obj).heap.size = w.heap.size + 2 := by simp
 have hblk : Hid (((w.alloc obs).alloc obj).heap[w.heap.size + 1]? = some (.cells #[.string (B []), .string (B []), .string (B []), .string (B []), .string (B []), .string (B []), .string (B []), .string (B []), .string (B []), .string (B []), .string (B []), .string (B []), .string (B []), .string (B []), .string (B []), .string (B []), .string (B []), .string (B []), .string (B []), .string (B []), .string (B []), .slice none 0 0, .slice none 0 0, .slice none 0 0, .bool false, .bool false, .bool false, .bool false, .bool false, .bool false, .int .i64 0] 29)) := by
  have := blk_new (w.alloc obs) obj
  rw [hz1, ho] at this
  rw [ho]; exact this
 have hsb : Hid (((w.alloc obs).alloc obj).heap[w.heap.size]? = some (.cells #[vl, vd, vf, vc] 25)) := by
  have := blk_old (w.alloc obs) obj (blk_new w obs)
  rw [hobs] at this |-; exact this
 clear hs hn ha ok
 go_enter Tryz.func48, Tryz.ntmps48
 go_wp2_with fail
 rw [<- ho, <- hobs]
 have hsi2 : Hid (SiteAt ((w.alloc obs).alloc obj) vl vd vf vc site) := (HS.out.alloc obs).alloc obj
 generalize (w.alloc obs).alloc obj = w2 at hb2 hz2 hblk hsb hsi2 |-
 have hB2 : Hid (Below w.heap.size w w2) := hb1.out.trans (hb2.out.mono (by omega))
 clear hb1 hb2 HS
 refine (HPR.out _ hsi2.out).mono ?_; rintro e w3 ⟨pb, mb, fb, sb, rfl, hpp, hpb, hb3⟩
 replace hpp := Lib.hid hpp
 replace hpb := Lib.hid hpb
 have hB3 := Lib.hid (belowThen hB2.out hb3 (Nat.le_refl _))
 have hblk3 := Lib.hid (blk_below hblk.out hb3)
 clear HPR hsi2 hB2 hb3 hblk hsb
 go_wp2_with fail
 refine (HPA.out _ pb mb fb sb hpp.out).mono ?_; rintro e w4 ⟨b, b2, rfl, h1, h2, hb4⟩
 clear h2
 obtain ⟨vk, vu, vl1, hat⟩ := h1
 replace hat := Lib.hid hat
 have hB4 := Lib.hid (belowThen hB3.out hb4 (Nat.le_refl _))
 have hblk4 := Lib.hid (blk_below hblk3.out hb4)
 clear HPA hb4 hblk3 hpp hpb hB3
 go_wp2_with fail
 refine (HTD.out _ _ _ _ _ _ _ hat.out).mono ?_; rintro e w5 ⟨v, rfl, ⟨ql, qi, qu, rfl, ⟨s1, n1⟩, ⟨s2, n2⟩, ⟨s3, n3⟩⟩, hb5⟩
 have hsz4 : w.heap.size + 2 <= w4.heap.size := by have := lt_of_block hblk4.out; omega
 have hB5 := Lib.hid (belowThen hB4.out hb5 (Nat.le_refl _))
 have hblk5 := Lib.hid (blk_below hblk4.out hb5)
 obtain ⟨a1, l1, c1, rfl⟩ := s1.slice
 obtain ⟨a2, l2, c2, rfl⟩ := s2.slice
 obtain ⟨a3, l3, c3, rfl⟩ := s3.slice
 obtain ⟨cs, hcs, hsz, hone⟩ := told_cells (toldM P1) a1 a2 a3 l1 l2 l3 c1 c2 c3
 rw [hcs]
 replace hcs := Lib.hid hcs
 replace s1 := Lib.hid s1
 replace s2 := Lib.hid s2
 replace s3 := Lib.hid s3
 replace n1 : Hid (NewRow (w.heap.size + 2) _) := n1.mono hsz4
 replace n2 : Hid (NewRow (w.heap.size + 2) _) := n2.mono hsz4
 replace n3 : Hid (NewRow (w.heap.size + 2) _) := n3.mono hsz4
 clear HTD hb5 hat hblk4 hB4 hsz4
 rename_i hK
 refine hK _ _ ?_
 refine wpList_store_row rfl 29 (.tmp 6) (.tmp 12) rfl (w.heap.size + 1) cs ?_ ?_ 29 _ hblk5.out ?_ ?_ ?_ ?_
 ·rfl
 ·rfl
 ·rw [hsz]; kernel_rfl
 ·rw [hsz]; rfl
 ·exact hone
 have hrow := Lib.hid (setRow_heap w5 (w.heap.size + 1) _ cs _ _ hblk5.out)
 have hbel : Hid (Below w.heap.size w (w5.setRow (w.heap.size + 1) cs)) := hB5.out.trans ⟨rfl, rfl, rfl, by simp, fun k hk => setRow_other _ _ _ _ (by omega)⟩
 have t1 := Lib.hid (s1.out.setRow (g := w.heap.size + 1) (cs := cs) n1.out (by omega))
 have t2 := Lib.hid (s2.out.setRow (g := w.heap.size + 1) (cs := cs) n2.out (by omega))
 have t3 := Lib.hid (s3.out.setRow (g := w.heap.size + 1) (cs := cs) n3.out (by omega))
 generalize w5.setRow _ _ = wf at hrow hbel t1 t2 t3 |-
 go_wp2_with fail
 refine bodyPost_ret (results_cell (w.heap.size + 1) rfl rfl (run_loadVar_row wf (w.heap.size + 1) _ 29 cs _ _ hrow.out Tryz.underlying29 rfl (by rw [hsz]; kernel_rfl))) rfl ?_
 exact ⟨_, rfl, ⟨_, _, _, hcs.out.symm, ⟨t1.out, n1.out.mono (by omega)⟩, ⟨t2.out, n2.out.mono (by omega)⟩, ⟨t3.out, n3.out.mono (by omega)⟩⟩, hbel.out⟩

end Go.Proofs.YtjkecadfakjanaaGreatDoor
