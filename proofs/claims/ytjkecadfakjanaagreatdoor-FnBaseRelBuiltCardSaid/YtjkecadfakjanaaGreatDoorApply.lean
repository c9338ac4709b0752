/- What a prefixed word makes of a path. Conditions: a path in memory whose text is ASCII, the word within it, a parser that knows the site. -/
import Derived.Test.YtjkecadfakjanaaGreatDoorGrow
import Derived.Deep.RegionLaw
import Derived.Deep.DeepCutAuto
set_option maxRecDepth 100000
set_option linter.unusedVariables false
set_option linter.unusedSimpArgs false
namespace Go.Proofs.YtjkecadfakjanaaGreatDoor
open Go.RowKit
attribute [local go_sem] B_extract B_toList B_append

theorem Tryz.infoLH : (Tryz.prog.info? 80).map (fun i => (i.zero, i.size, i.bytes)) = some (some (.agg #[.int .i64 0, .int .i64 0]), 2, 16) := by kernel_rfl
theorem Tryz.infoInt : (Tryz.prog.info? 3).map (fun i => (i.zero, i.size, i.bytes)) = some (some (.int .i64 0), 1, 8) := by kernel_rfl
theorem info_split {P : Program} {t : TypeId} {z : Option Value} {s y : Nat} (h : (P.info? t).map (fun i => (i.zero, i.size, i.bytes)) = some (z, s, y)) : ∃ i, P.info? t = some i /\ i.zero = z /\ i.size = s /\ i.bytes = y := by
 cases hp : P.info? t with
 | none => rw [hp] at h; cases h
 | some i =>
  rw [hp] at h
  have h := Option.some.inj h
  exact ⟨i, rfl, congrArg (·.1) h, congrArg (·.2.1) h, congrArg (·.2.2) h⟩

theorem run_mapNe (mb : Nat) (w : World) : (binOp .neq 70 (.map (some mb)) (.map none)).run Tryz.prog w = .ok (.bool true) w := by kernel_rfl

theorem run_fnNe (fb sb : Nat) (w : World) : (binOp .neq 34 (.func (.func 94) #[] #[.pointer (some ⟨fb, 0, none⟩), .pointer (some ⟨sb, 0, none⟩)]) .nilFunc).run Tryz.prog w = .ok (.bool true) w := by kernel_rfl
theorem run_fnNe3 (sb : Nat) (w : World) : (binOp .neq 64 (.func (.func 95) #[] #[.pointer (some ⟨sb, 0, none⟩)]) .nilFunc).run Tryz.prog w = .ok (.bool true) w := by kernel_rfl

/-- Path p lies at block b in world w; of what was there in w0 nothing has turned. -/
def Scan (w0 w : World) (b : Nat) (p : PathS) (un : Un) : Prop := ∃ vk vu vl, PathAt w w0.heap.size b p vk vu vl un /\ Below w0.heap.size w0 w
def PathS.addLang (p : PathS) (id : Nat × Nat) : PathS := { p.addKnown id with langs := p.langs ++ [p.known.length] }

/-- Small enough for one more word. -/
structure Fits (p : PathS) : Prop where
 len : p.s.length <= 35184372088832
 asc : asciiL p.s = true
 kl : p.known.length <= 1000000
 ul : p.unknown.length <= 1000000
 ll : p.langs.length <= 1000000

theorem asciiL_sub {s : Str} (h : asciiL s = true) (id : Nat × Nat) : asciiL (sub s id) = true := by
 unfold asciiL at h |-
 rw [List.all_eq_true] at h |-
 intro x hx
 exact h x (List.mem_of_mem_drop (List.mem_of_mem_take hx))

theorem lowerL_len (s : Str) : (lowerL s).length = s.length := by simp [lowerL, Lib.toLowerA]
theorem lowerB_ascii (c : UInt8) (h : c.toNat <= 127) : (Lib.lowerB c).toNat <= 127 := by
 unfold Lib.lowerB
 split
 ·rename_i hc
  simp only [Lib.isUpperB, Bool.and_eq_true, decide_eq_true_eq] at hc
  obtain ⟨h1, h2⟩ := hc
  have h1 : 65 <= c.toNat := h1
  have h2 : c.toNat <= 90 := h2
  rw [UInt8.toNat_add]
  show (c.toNat + 32) % 256 <= 127
  omega
 ·exact h
theorem asciiL_lower {s : Str} (h : asciiL s = true) : asciiL (lowerL s) = true := by
 apply asciiL_intro
 intro j hj
 have hj' : j < s.length := by rw [lowerL_len] at hj; exact hj
 have := asciiL_get h j s[j] (by simp)
 have e : (lowerL s)[j] = Lib.lowerB s[j] := by simp [lowerL, Lib.toLowerA]
 rw [e]
 exact lowerB_ascii _ (by omega)


set_option maxHeartbeats 4000000 in
theorem c_apply_lang (w0 w : World) (p : PathS) (b pb mb fb sb : Nat) (vl0 vd vf vc : Value) (un : Un) (site : SiteM) (hpp : PPAt w0 pb mb fb sb vl0 vd vf vc site) (hs : Scan w0 w b p un) (f : Fits p) (comp : Str) (lo hi : Nat) (hlo : lo <= hi) (hhi : hi <= p.s.length) (hy : amongL site.languages (lowerL (sub p.s (lo, hi))) = true) :
  Calls Tryz.prog 165 #[.pointer (some ⟨pb, 0, none⟩), .string (B comp), .string (B pLanguage), .pointer (some ⟨b, 0, none⟩), .agg #[.int .i64 lo, .int .i64 hi]] w
   fun e w' => e = .returned (.bool true) /\ Scan w0 w' b (p.addLang (lo, hi)) un := by
 have hlen := f.len
 have hkl := f.kl
 have hll := f.ll
 have HT := Lib.hid (fun w => toLower_calls (sub p.s (lo, hi)) w (by simp [sub]; omega) (asciiL_sub f.asc _))
 have hal := Lib.hid (asciiL_lower (asciiL_sub f.asc (lo, hi)))
 have hln : Hid ((lowerL (sub p.s (lo, hi))).length <= 70368744177664) := by show _ <= _; rw [lowerL_len]; simp [sub]; omega
 obtain ⟨vk, vu, vl, h, hB⟩ := hs
 have hh := Lib.hid h
 have HB := Lib.hid hB
 have HP := Lib.hid hpp
 have hsub : sub p.s (lo, hi) = (p.s.drop lo).take (hi - lo) := rfl
 have HL := Lib.hid (fun (w' : World) (hb : Below w0.heap.size w0 w') => (hpp.below hb).map.lookup (lowerL (sub p.s (lo, hi))))
 have hy' := Lib.hid hy
 rw [hsub] at HL hy'
 rw [hsub] at HT hal hln
 generalize hlow : lowerL ((p.s.drop lo).take (hi - lo)) = low at HT hal hln HL hy'
 have g1 : (lo : Int) <= (hi : Int) := by omega
 have g2 : (hi : Int) <= (p.s.length : Int) := by omega
 have c0 := h.acell 0 (.string (B p.s)) rfl
 have hbb := Lib.hid (Below_alloc w (.cells #[.int .i64 lo, .int .i64 hi] 80))
 have hnb := Lib.hid (blk_new w (.cells #[.int .i64 lo, .int .i64 hi] 80))
 clear h hB hpp f hsub
 go_enter Tryz.func165, Tryz.ntmps165
 go_wp2_with fail
 refine wp_tail 9 (by kernel_rfl) (by kernel_rfl) ?_
 simp only [List.take_succ_cons, List.take_zero, List.drop_succ_cons, List.drop_zero]
 repeat still_step
 try refine wpStill_nil ?_
 go_wp2_with fail
 refine (HT.out _).mono ?_; rintro e w1 ⟨rfl, b1⟩
 have bw := belowThen hbb.out (belowThen (Below_drewN (Below.refl _ _) 1) b1 (Nat.le_refl _)) (Nat.le_refl _)
 have hh1 := Lib.hid (hh.out.below bw)
 have HB1 : Hid (Below w0.heap.size w0 w1) := belowThen HB.out bw (Nat.le_refl _)
 have hn1 := Lib.hid (blk_below hnb.out (belowThen (Below_drewN (Below.refl _ _) 1) b1 (Nat.le_refl _)))
 have hp1 := Lib.hid (HP.out.below HB1.out)
 have BW := Lib.hid bw
 clear b1 bw c0 hh HB hnb hbb HT g1 g2
 have m0 : w1.cell? ⟨pb, 0, none⟩ = some (.map (some mb)) := cell_blk hp1.out.pp 0
 have hne := run_mapNe mb
 obtain ⟨nl, hlk⟩ := HL.out _ HB1.out
 rw [hy'.out] at hlk
 go_upto_region 7 with fail
 clear m0 hne hlk HL hy' HP
 obtain ⟨iL, hi0, hz0, hz1, hz2⟩ := info_split Tryz.infoLH
 have hbase : ∀ o, w0.heap.size <= ((w1.alloc o).drew).heap.size := fun o => by have := HB1.out.size; simp; omega
 have k6 : ∀ o, (w1.alloc o).cell? ⟨b, 6, none⟩ = some vk := fun o => hh1.out.acell 6 vk rfl o
 have k6' := hh1.out.cell 6 vk rfl
 obtain ⟨n0, n1⟩ : w1.cell? ⟨w.heap.size, 0, none⟩ = some (.int .i64 lo) /\ w1.cell? ⟨w.heap.size, 1, none⟩ = some (.int .i64 hi) := ⟨cell_blk hn1.out 0, cell_blk hn1.out 1⟩
 have hwa : Hid (∀ o, Below w1.heap.size w1 ((w1.alloc o).drew)) := fun o => Below_drewN (Below_alloc _ o) 1
 have hmx : p.known.length + 1 <= maxLen := by have : (2000000 : Nat) <= maxLen := (by decide); omega
 go_upto_region 7 with fail
 go_cut [] from 42 to 51 (fun wx => ∃ vk', PathAt wx w0.heap.size b (p.addKnown (lo, hi)) vk' vu vl un /\ Below w0.heap.size w0 wx)
 case first =>
  go_region_law (refine step_append_lies _ (by rfl) (.tmp 46) (.tmp 48) 77 (by rfl) w0.heap.size 80 iL _ 2 16 Tryz.underlying77 hi0 hz0 hz1 hz2 rfl (by decide) vk p.known.length (pairCells p.known) (by rfl) (hh1.out.kn.alloc _).drew _ 1 1 [.int .i64 lo, .int .i64 hi] (by rfl) rfl (World.news_of_block (blk_new _ _)) (by simp [Value.oneCell']) (by decide) hmx (by omega) (hbase _) _ rfl ?_; intro g cap w3 hown2 hgrow hat hlt; have q6 : w3.cell? ⟨b, 6, none⟩ = some vk := (hh1.out.behind (hwa.out _) hgrow (.inl rfl)).1 6; have q6f := (hh1.out.behind (hwa.out _) hgrow (.inl rfl)).2 6)
  all_goals
   go_wp2_with fail
   go_meet
   obtain ⟨q1, q2⟩ := hh1.out.pushKnown (hwa.out _) (lo, hi) hown2 hgrow hat
   exact ⟨_, q1, HB1.out.trans q2⟩
 case rest =>
  obtain ⟨vk2, h2, hb2⟩ := hcut
  clear n0 n1 k6 k6' hbase hwa hmx hh1 HB1 hn1 hp1
  obtain ⟨a2, cap2, e2, _⟩ := pairs_read h2.kn
  have hl2 : (p.addKnown (lo, hi)).known.length = p.known.length + 1 := by simp [PathS.addKnown]
  rw [hl2] at e2
  have k6' : wc.cell? ⟨b, 6, none⟩ = some (.slice a2 (p.known.length + 1) cap2) := by rw [<- e2]; exact h2.cell 6 vk2 rfl
  have hwr : IntKind.i64.wrap (p.known.length : Int) = (p.known.length : Int) := by rw [IntKind.wrap_i64]; omega
  have hwr2 : ((p.known.length + 1 : Nat) : Int) - 1 = (p.known.length : Int) := by omega
  obtain ⟨iI, ii0, iz0, iz1, iz2⟩ := info_split Tryz.infoInt
  have k6 : ∀ o, (wc.alloc o).cell? ⟨b, 6, none⟩ = some (.slice a2 (p.known.length + 1) cap2) := fun o => by rw [<- e2]; exact h2.acell 6 vk2 rfl o
  have k14 : ∀ o, (wc.alloc o).cell? ⟨b, 14, none⟩ = some vl := fun o => h2.acell 14 vl rfl o
  have k14' := h2.cell 14 vl rfl
  have hh2 := Lib.hid h2
  have HB2 := Lib.hid hb2
  have hbase : ∀ o, w0.heap.size <= ((wc.alloc o).drew).heap.size := fun o => by have := HB2.out.size; simp; omega
  have hwa : Hid (∀ o, Below wc.heap.size wc ((wc.alloc o).drew)) := fun o => Below_drewN (Below_alloc _ o) 1
  have hmx : p.langs.length + 1 <= maxLen := by have : (2000000 : Nat) <= maxLen := (by decide); omega
  clear h2 hb2 e2 hl2
  go_upto_region 8 with fail
  go_cut [] from 52 to 66 (fun wx => ∃ vl', PathAt wx w0.heap.size b (p.addLang (lo, hi)) vk2 vu vl' un /\ Below w0.heap.size w0 wx)
  case first =>
   go_region_law (refine step_append_lies _ (by rfl) (.tmp 56) (.tmp 63) 78 (by rfl) w0.heap.size 3 iI _ 1 8 Tryz.underlying78 ii0 iz0 iz1 iz2 rfl (by decide) vl p.langs.length (natCells p.langs) (by rfl) (hh2.out.lg.alloc _).drew _ 1 1 [.int .i64 p.known.length] (by rfl) rfl (World.news_of_block (blk_new _ _)) (by simp [Value.oneCell']) (by decide) hmx (by omega) (hbase _) _ rfl ?_; intro g cap w3 hown2 hgrow hat hlt; have q6 : w3.cell? ⟨b, 14, none⟩ = some vl := (hh2.out.behind (hwa.out _) hgrow (.inr (.inr rfl))).1 14; have q6f := (hh2.out.behind (hwa.out _) hgrow (.inr (.inr rfl))).2 14)
   all_goals
    go_wp2_with fail
    go_meet
    obtain ⟨q1, q2⟩ := hh2.out.pushLang (hwa.out _) p.known.length hown2 hgrow hat
    exact ⟨_, q1, HB2.out.trans q2⟩
  case rest =>
   obtain ⟨vl2, h3, hb3⟩ := hcut
   clear k6 k6' k14 k14' hbase hwa hmx hh2 HB2
   go_wp2_with fail
   try go_ret
   exact ⟨rfl, _, _, _, h3, hb3⟩

set_option maxHeartbeats 4000000 in
theorem c_apply_off (w0 w : World) (p : PathS) (b pb mb fb sb : Nat) (vl0 vd vf vc : Value) (un : Un) (site : SiteM) (hpp : PPAt w0 pb mb fb sb vl0 vd vf vc site) (hs : Scan w0 w b p un) (f : Fits p) (comp : Str) (lo hi : Nat) (hlo : lo <= hi) (hhi : hi <= p.s.length) (hy : amongL site.languages (lowerL (sub p.s (lo, hi))) = false) (hd : amongL site.disabled (lowerL (sub p.s (lo, hi))) = true) :
  Calls Tryz.prog 165 #[.pointer (some ⟨pb, 0, none⟩), .string (B comp), .string (B pLanguage), .pointer (some ⟨b, 0, none⟩), .agg #[.int .i64 lo, .int .i64 hi]] w
   fun e w' => e = .returned (.bool true) /\ Scan w0 w' b { p.addLang (lo, hi) with disabled := true } un := by
 have hlen := f.len
 have hkl := f.kl
 have hll := f.ll
 have HT := Lib.hid (fun w => toLower_calls (sub p.s (lo, hi)) w (by simp [sub]; omega) (asciiL_sub f.asc _))
 have hal := Lib.hid (asciiL_lower (asciiL_sub f.asc (lo, hi)))
 have hln : Hid ((lowerL (sub p.s (lo, hi))).length <= 70368744177664) := by show _ <= _; rw [lowerL_len]; simp [sub]; omega
 obtain ⟨vk, vu, vl, h, hB⟩ := hs
 have hh := Lib.hid h
 have HB := Lib.hid hB
 have HP := Lib.hid hpp
 have hsub : sub p.s (lo, hi) = (p.s.drop lo).take (hi - lo) := rfl
 have HL := Lib.hid (fun (w' : World) (hb : Below w0.heap.size w0 w') => (hpp.below hb).map.lookup (lowerL (sub p.s (lo, hi))))
 have hy' := Lib.hid hy
 rw [hsub] at HL hy'
 have HD := Lib.hid (fun (w' : World) (hb : Below w0.heap.size w0 w') => let q := hpp.below hb; c_isDisabled site (lowerL (sub p.s (lo, hi))) vl0 vd vf vc fb sb w' q.read q.fn q.st)
 have hd' := Lib.hid hd
 rw [hsub] at HD hd'
 rw [hsub] at HT hal hln
 generalize hlow : lowerL ((p.s.drop lo).take (hi - lo)) = low at HT hal hln HL hy' HD hd'
 have g1 : (lo : Int) <= (hi : Int) := by omega
 have g2 : (hi : Int) <= (p.s.length : Int) := by omega
 have c0 := h.acell 0 (.string (B p.s)) rfl
 have hbb := Lib.hid (Below_alloc w (.cells #[.int .i64 lo, .int .i64 hi] 80))
 have hnb := Lib.hid (blk_new w (.cells #[.int .i64 lo, .int .i64 hi] 80))
 clear h hB hpp f hsub
 go_enter Tryz.func165, Tryz.ntmps165
 go_wp2_with fail
 refine wp_tail 9 (by kernel_rfl) (by kernel_rfl) ?_
 simp only [List.take_succ_cons, List.take_zero, List.drop_succ_cons, List.drop_zero]
 repeat still_step
 try refine wpStill_nil ?_
 go_wp2_with fail
 refine (HT.out _).mono ?_; rintro e w1 ⟨rfl, b1⟩
 have bw := belowThen hbb.out (belowThen (Below_drewN (Below.refl _ _) 1) b1 (Nat.le_refl _)) (Nat.le_refl _)
 have hh1 := Lib.hid (hh.out.below bw)
 have HB1 : Hid (Below w0.heap.size w0 w1) := belowThen HB.out bw (Nat.le_refl _)
 have hn1 := Lib.hid (blk_below hnb.out (belowThen (Below_drewN (Below.refl _ _) 1) b1 (Nat.le_refl _)))
 have hp1 := Lib.hid (HP.out.below HB1.out)
 have BW := Lib.hid bw
 clear b1 bw c0 hh HB hnb hbb HT g1 g2
 have m0 : w1.cell? ⟨pb, 0, none⟩ = some (.map (some mb)) := cell_blk hp1.out.pp 0
 have hne := run_mapNe mb
 obtain ⟨nl, hlk⟩ := HL.out _ HB1.out
 rw [hy'.out] at hlk
 have m1 : w1.cell? ⟨pb, 1, none⟩ = some (.func (.func 94) #[] #[.pointer (some ⟨fb, 0, none⟩), .pointer (some ⟨sb, 0, none⟩)]) := cell_blk hp1.out.pp 1
 have hnf := run_fnNe
 go_wp2_with fail
 refine (HD.out _ HB1.out).mono ?_; rintro e w2 ⟨rfl, rfl⟩
 rw [hd'.out]
 go_upto_region 11 with fail
 clear m0 m1 hnf hne hlk HL hy' HD hd' HP
 obtain ⟨iL, hi0, hz0, hz1, hz2⟩ := info_split Tryz.infoLH
 have hbase : ∀ o, w0.heap.size <= ((w1.alloc o).drew).heap.size := fun o => by have := HB1.out.size; simp; omega
 have k6 : ∀ o, (w1.alloc o).cell? ⟨b, 6, none⟩ = some vk := fun o => hh1.out.acell 6 vk rfl o
 have k6' := hh1.out.cell 6 vk rfl
 obtain ⟨n0, n1⟩ : w1.cell? ⟨w.heap.size, 0, none⟩ = some (.int .i64 lo) /\ w1.cell? ⟨w.heap.size, 1, none⟩ = some (.int .i64 hi) := ⟨cell_blk hn1.out 0, cell_blk hn1.out 1⟩
 have hwa : Hid (∀ o, Below w1.heap.size w1 ((w1.alloc o).drew)) := fun o => Below_drewN (Below_alloc _ o) 1
 have hmx : p.known.length + 1 <= maxLen := by have : (2000000 : Nat) <= maxLen := (by decide); omega
 go_upto_region 11 with fail
 go_cut [] from 80 to 89 (fun wx => ∃ vk', PathAt wx w0.heap.size b (p.addKnown (lo, hi)) vk' vu vl un /\ Below w0.heap.size w0 wx)
 case first =>
  go_region_law (refine step_append_lies _ (by rfl) (.tmp 84) (.tmp 86) 77 (by rfl) w0.heap.size 80 iL _ 2 16 Tryz.underlying77 hi0 hz0 hz1 hz2 rfl (by decide) vk p.known.length (pairCells p.known) (by rfl) (hh1.out.kn.alloc _).drew _ 1 1 [.int .i64 lo, .int .i64 hi] (by rfl) rfl (World.news_of_block (blk_new _ _)) (by simp [Value.oneCell']) (by decide) hmx (by omega) (hbase _) _ rfl ?_; intro g cap w3 hown2 hgrow hat hlt; have q6 : w3.cell? ⟨b, 6, none⟩ = some vk := (hh1.out.behind (hwa.out _) hgrow (.inl rfl)).1 6; have q6f := (hh1.out.behind (hwa.out _) hgrow (.inl rfl)).2 6)
  all_goals
   go_wp2_with fail
   go_meet
   obtain ⟨q1, q2⟩ := hh1.out.pushKnown (hwa.out _) (lo, hi) hown2 hgrow hat
   exact ⟨_, q1, HB1.out.trans q2⟩
 case rest =>
  obtain ⟨vk2, h2, hb2⟩ := hcut
  clear n0 n1 k6 k6' hbase hwa hmx hh1 HB1 hn1 hp1
  obtain ⟨a2, cap2, e2, _⟩ := pairs_read h2.kn
  have hl2 : (p.addKnown (lo, hi)).known.length = p.known.length + 1 := by simp [PathS.addKnown]
  rw [hl2] at e2
  have k6' : wc.cell? ⟨b, 6, none⟩ = some (.slice a2 (p.known.length + 1) cap2) := by rw [<- e2]; exact h2.cell 6 vk2 rfl
  have hwr : IntKind.i64.wrap (p.known.length : Int) = (p.known.length : Int) := by rw [IntKind.wrap_i64]; omega
  have hwr2 : ((p.known.length + 1 : Nat) : Int) - 1 = (p.known.length : Int) := by omega
  obtain ⟨iI, ii0, iz0, iz1, iz2⟩ := info_split Tryz.infoInt
  have k6 : ∀ o, (wc.alloc o).cell? ⟨b, 6, none⟩ = some (.slice a2 (p.known.length + 1) cap2) := fun o => by rw [<- e2]; exact h2.acell 6 vk2 rfl o
  have k14 : ∀ o, (wc.alloc o).cell? ⟨b, 14, none⟩ = some vl := fun o => h2.acell 14 vl rfl o
  have k14' := h2.cell 14 vl rfl
  have hh2 := Lib.hid h2
  have HB2 := Lib.hid hb2
  have hbase : ∀ o, w0.heap.size <= ((wc.alloc o).drew).heap.size := fun o => by have := HB2.out.size; simp; omega
  have hwa : Hid (∀ o, Below wc.heap.size wc ((wc.alloc o).drew)) := fun o => Below_drewN (Below_alloc _ o) 1
  have hmx : p.langs.length + 1 <= maxLen := by have : (2000000 : Nat) <= maxLen := (by decide); omega
  clear h2 hb2 e2 hl2
  go_upto_region 12 with fail
  go_cut [] from 90 to 104 (fun wx => ∃ vl', PathAt wx w0.heap.size b (p.addLang (lo, hi)) vk2 vu vl' un /\ Below w0.heap.size w0 wx)
  case first =>
   go_region_law (refine step_append_lies _ (by rfl) (.tmp 94) (.tmp 101) 78 (by rfl) w0.heap.size 3 iI _ 1 8 Tryz.underlying78 ii0 iz0 iz1 iz2 rfl (by decide) vl p.langs.length (natCells p.langs) (by rfl) (hh2.out.lg.alloc _).drew _ 1 1 [.int .i64 p.known.length] (by rfl) rfl (World.news_of_block (blk_new _ _)) (by simp [Value.oneCell']) (by decide) hmx (by omega) (hbase _) _ rfl ?_; intro g cap w3 hown2 hgrow hat hlt; have q6 : w3.cell? ⟨b, 14, none⟩ = some vl := (hh2.out.behind (hwa.out _) hgrow (.inr (.inr rfl))).1 14; have q6f := (hh2.out.behind (hwa.out _) hgrow (.inr (.inr rfl))).2 14)
   all_goals
    go_wp2_with fail
    go_meet
    obtain ⟨q1, q2⟩ := hh2.out.pushLang (hwa.out _) p.known.length hown2 hgrow hat
    exact ⟨_, q1, HB2.out.trans q2⟩
  case rest =>
   obtain ⟨vl2, h3, hb3⟩ := hcut
   clear k6 k6' k14 k14' hbase hwa hmx hh2 HB2
   have k23 := h3.cell 23 (.bool p.disabled) rfl
   have f23 := h3.free 23
   obtain ⟨h4, hb4⟩ := h3.set 23 (.bool true) { p.addLang (lo, hi) with disabled := true } rfl rfl rfl rfl
   have h4 := Lib.hid h4
   have hb4 := Lib.hid (hb3.trans hb4)
   clear h3 hb3
   go_wp2_with fail
   try go_ret
   exact ⟨rfl, _, _, _, h4.out, hb4.out⟩

set_option maxHeartbeats 4000000 in
theorem c_apply_nolang (w0 w : World) (p : PathS) (b pb mb fb sb : Nat) (vl0 vd vf vc : Value) (un : Un) (site : SiteM) (hpp : PPAt w0 pb mb fb sb vl0 vd vf vc site) (hs : Scan w0 w b p un) (f : Fits p) (comp : Str) (lo hi : Nat) (hlo : lo <= hi) (hhi : hi <= p.s.length) (hy : amongL site.languages (lowerL (sub p.s (lo, hi))) = false) (hd : amongL site.disabled (lowerL (sub p.s (lo, hi))) = false) :
  Calls Tryz.prog 165 #[.pointer (some ⟨pb, 0, none⟩), .string (B comp), .string (B pLanguage), .pointer (some ⟨b, 0, none⟩), .agg #[.int .i64 lo, .int .i64 hi]] w
   fun e w' => e = .returned (.bool false) /\ Scan w0 w' b p un /\ Below w.heap.size w w' := by
 have hlen := f.len
 have hkl := f.kl
 have hll := f.ll
 have HT := Lib.hid (fun w => toLower_calls (sub p.s (lo, hi)) w (by simp [sub]; omega) (asciiL_sub f.asc _))
 have hal := Lib.hid (asciiL_lower (asciiL_sub f.asc (lo, hi)))
 have hln : Hid ((lowerL (sub p.s (lo, hi))).length <= 70368744177664) := by show _ <= _; rw [lowerL_len]; simp [sub]; omega
 obtain ⟨vk, vu, vl, h, hB⟩ := hs
 have hh := Lib.hid h
 have HB := Lib.hid hB
 have HP := Lib.hid hpp
 have hsub : sub p.s (lo, hi) = (p.s.drop lo).take (hi - lo) := rfl
 have HL := Lib.hid (fun (w' : World) (hb : Below w0.heap.size w0 w') => (hpp.below hb).map.lookup (lowerL (sub p.s (lo, hi))))
 have hy' := Lib.hid hy
 rw [hsub] at HL hy'
 have HD := Lib.hid (fun (w' : World) (hb : Below w0.heap.size w0 w') => let q := hpp.below hb; c_isDisabled site (lowerL (sub p.s (lo, hi))) vl0 vd vf vc fb sb w' q.read q.fn q.st)
 have hd' := Lib.hid hd
 rw [hsub] at HD hd'
 rw [hsub] at HT hal hln
 generalize hlow : lowerL ((p.s.drop lo).take (hi - lo)) = low at HT hal hln HL hy' HD hd'
 have g1 : (lo : Int) <= (hi : Int) := by omega
 have g2 : (hi : Int) <= (p.s.length : Int) := by omega
 have c0 := h.acell 0 (.string (B p.s)) rfl
 have hbb := Lib.hid (Below_alloc w (.cells #[.int .i64 lo, .int .i64 hi] 80))
 have hnb := Lib.hid (blk_new w (.cells #[.int .i64 lo, .int .i64 hi] 80))
 clear h hB hpp f hsub
 go_enter Tryz.func165, Tryz.ntmps165
 go_wp2_with fail
 refine wp_tail 9 (by kernel_rfl) (by kernel_rfl) ?_
 simp only [List.take_succ_cons, List.take_zero, List.drop_succ_cons, List.drop_zero]
 repeat still_step
 try refine wpStill_nil ?_
 go_wp2_with fail
 refine (HT.out _).mono ?_; rintro e w1 ⟨rfl, b1⟩
 have bw := belowThen hbb.out (belowThen (Below_drewN (Below.refl _ _) 1) b1 (Nat.le_refl _)) (Nat.le_refl _)
 have hh1 := Lib.hid (hh.out.below bw)
 have HB1 : Hid (Below w0.heap.size w0 w1) := belowThen HB.out bw (Nat.le_refl _)
 have hn1 := Lib.hid (blk_below hnb.out (belowThen (Below_drewN (Below.refl _ _) 1) b1 (Nat.le_refl _)))
 have hp1 := Lib.hid (HP.out.below HB1.out)
 have BW := Lib.hid bw
 clear b1 bw c0 hh HB hnb hbb HT g1 g2
 have m0 : w1.cell? ⟨pb, 0, none⟩ = some (.map (some mb)) := cell_blk hp1.out.pp 0
 have hne := run_mapNe mb
 obtain ⟨nl, hlk⟩ := HL.out _ HB1.out
 rw [hy'.out] at hlk
 have m1 : w1.cell? ⟨pb, 1, none⟩ = some (.func (.func 94) #[] #[.pointer (some ⟨fb, 0, none⟩), .pointer (some ⟨sb, 0, none⟩)]) := cell_blk hp1.out.pp 1
 have hnf := run_fnNe
 go_wp2_with fail
 refine (HD.out _ HB1.out).mono ?_; rintro e w2 ⟨rfl, rfl⟩
 rw [hd'.out]
 go_wp2_with fail
 try go_ret
 exact ⟨rfl, ⟨_, _, _, hh1.out, HB1.out⟩, BW.out⟩


set_option maxHeartbeats 4000000 in
theorem c_apply_fmt (w0 w : World) (p : PathS) (b pb mb fb sb : Nat) (vl0 vd vf vc : Value) (un : Un) (site : SiteM) (hpp : PPAt w0 pb mb fb sb vl0 vd vf vc site) (hs : Scan w0 w b p un) (f : Fits p) (comp : Str) (lo hi : Nat) (hlo : lo <= hi) (hhi : hi <= p.s.length) (hc : (comp == kLayouts) = true) (hf : isFormat site (lowerL (sub p.s (lo, hi))) [] = true) :
  Calls Tryz.prog 165 #[.pointer (some ⟨pb, 0, none⟩), .string (B comp), .string (B pFormat), .pointer (some ⟨b, 0, none⟩), .agg #[.int .i64 lo, .int .i64 hi]] w
   fun e w' => e = .returned (.bool true) /\ Scan w0 w' b { p.addKnown (lo, hi) with pfmt := p.known.length } un := by
 have hlen := f.len
 have hkl := f.kl
 have hll := f.ll
 have HT := Lib.hid (fun w => toLower_calls (sub p.s (lo, hi)) w (by simp [sub]; omega) (asciiL_sub f.asc _))
 have hal := Lib.hid (asciiL_lower (asciiL_sub f.asc (lo, hi)))
 have hln : Hid ((lowerL (sub p.s (lo, hi))).length <= 70368744177664) := by show _ <= _; rw [lowerL_len]; simp [sub]; omega
 obtain ⟨vk, vu, vl, h, hB⟩ := hs
 have hh := Lib.hid h
 have HB := Lib.hid hB
 have HP := Lib.hid hpp
 have hsub : sub p.s (lo, hi) = (p.s.drop lo).take (hi - lo) := rfl
 have HF := Lib.hid (fun (w' : World) (hb : Below w0.heap.size w0 w') => let q := hpp.below hb; c_isFormat site (lowerL (sub p.s (lo, hi))) [] vl0 vd vf vc sb w' q.read q.st)
 have hf' := Lib.hid hf
 rw [hsub] at HF hf'
 rw [hsub] at HT hal hln
 generalize hlow : lowerL ((p.s.drop lo).take (hi - lo)) = low at HT hal hln HF hf'
 have g1 : (lo : Int) <= (hi : Int) := by omega
 have g2 : (hi : Int) <= (p.s.length : Int) := by omega
 have c0 := h.acell 0 (.string (B p.s)) rfl
 have hbb := Lib.hid (Below_alloc w (.cells #[.int .i64 lo, .int .i64 hi] 80))
 have hnb := Lib.hid (blk_new w (.cells #[.int .i64 lo, .int .i64 hi] 80))
 clear h hB hpp f hsub
 go_enter Tryz.func165, Tryz.ntmps165
 go_wp2_with fail
 refine wp_tail 9 (by kernel_rfl) (by kernel_rfl) ?_
 simp only [List.take_succ_cons, List.take_zero, List.drop_succ_cons, List.drop_zero]
 repeat still_step
 try refine wpStill_nil ?_
 go_wp2_with fail
 refine (HT.out _).mono ?_; rintro e w1 ⟨rfl, b1⟩
 have bw := belowThen hbb.out (belowThen (Below_drewN (Below.refl _ _) 1) b1 (Nat.le_refl _)) (Nat.le_refl _)
 have hh1 := Lib.hid (hh.out.below bw)
 have HB1 : Hid (Below w0.heap.size w0 w1) := belowThen HB.out bw (Nat.le_refl _)
 have hn1 := Lib.hid (blk_below hnb.out (belowThen (Below_drewN (Below.refl _ _) 1) b1 (Nat.le_refl _)))
 have hp1 := Lib.hid (HP.out.below HB1.out)
 have BW := Lib.hid bw
 clear b1 bw c0 hh HB hnb hbb HT g1 g2
 have m2 : w1.cell? ⟨pb, 2, none⟩ = some (.func (.func 95) #[] #[.pointer (some ⟨sb, 0, none⟩)]) := cell_blk hp1.out.pp 2
 have hnf := run_fnNe3
 go_wp2_with fail
 refine (HF.out _ HB1.out).mono ?_; rintro e w2 ⟨rfl, b2⟩
 rw [hf'.out]
 have hh1 := Lib.hid (hh1.out.below b2)
 have HB1 : Hid (Below w0.heap.size w0 w2) := belowThen HB1.out b2 (Nat.le_refl _)
 have hn1 := Lib.hid (blk_below hn1.out b2)
 have BW := Lib.hid (belowThen BW.out b2 (Nat.le_refl _))
 go_upto_region 18 with fail
 clear m2 hnf HF hf' HP
 obtain ⟨iL, hi0, hz0, hz1, hz2⟩ := info_split Tryz.infoLH
 have hbase : ∀ o, w0.heap.size <= ((w2.alloc o).drew).heap.size := fun o => by have := HB1.out.size; simp; omega
 have k6 : ∀ o, (w2.alloc o).cell? ⟨b, 6, none⟩ = some vk := fun o => hh1.out.acell 6 vk rfl o
 have k6' := hh1.out.cell 6 vk rfl
 obtain ⟨n0, n1⟩ : w2.cell? ⟨w.heap.size, 0, none⟩ = some (.int .i64 lo) /\ w2.cell? ⟨w.heap.size, 1, none⟩ = some (.int .i64 hi) := ⟨cell_blk hn1.out 0, cell_blk hn1.out 1⟩
 have hwa : Hid (∀ o, Below w2.heap.size w2 ((w2.alloc o).drew)) := fun o => Below_drewN (Below_alloc _ o) 1
 have hmx : p.known.length + 1 <= maxLen := by have : (2000000 : Nat) <= maxLen := (by decide); omega
 go_upto_region 18 with fail
 go_cut [] from 125 to 134 (fun wx => ∃ vk', PathAt wx w0.heap.size b (p.addKnown (lo, hi)) vk' vu vl un /\ Below w0.heap.size w0 wx)
 case first =>
  go_region_law (refine step_append_lies _ (by rfl) (.tmp 129) (.tmp 131) 77 (by rfl) w0.heap.size 80 iL _ 2 16 Tryz.underlying77 hi0 hz0 hz1 hz2 rfl (by decide) vk p.known.length (pairCells p.known) (by rfl) (hh1.out.kn.alloc _).drew _ 1 1 [.int .i64 lo, .int .i64 hi] (by rfl) rfl (World.news_of_block (blk_new _ _)) (by simp [Value.oneCell']) (by decide) hmx (by omega) (hbase _) _ rfl ?_; intro g cap w3 hown2 hgrow hat hlt; have q6 : w3.cell? ⟨b, 6, none⟩ = some vk := (hh1.out.behind (hwa.out _) hgrow (.inl rfl)).1 6; have q6f := (hh1.out.behind (hwa.out _) hgrow (.inl rfl)).2 6)
  all_goals
   go_wp2_with fail
   go_meet
   obtain ⟨q1, q2⟩ := hh1.out.pushKnown (hwa.out _) (lo, hi) hown2 hgrow hat
   exact ⟨_, q1, HB1.out.trans q2⟩
 case rest =>
  obtain ⟨vk2, h2, hb2⟩ := hcut
  clear n0 n1 k6 k6' hbase hwa hmx hh1 HB1 hn1 hp1
  obtain ⟨a2, cap2, e2, _⟩ := pairs_read h2.kn
  have hl2 : (p.addKnown (lo, hi)).known.length = p.known.length + 1 := by simp [PathS.addKnown]
  rw [hl2] at e2
  have k6' : wc.cell? ⟨b, 6, none⟩ = some (.slice a2 (p.known.length + 1) cap2) := by rw [<- e2]; exact h2.cell 6 vk2 rfl
  have hwr : IntKind.i64.wrap (p.known.length : Int) = (p.known.length : Int) := by rw [IntKind.wrap_i64]; omega
  have hwr2 : ((p.known.length + 1 : Nat) : Int) - 1 = (p.known.length : Int) := by omega
  have k17 := h2.cell 17 (.int .i64 p.pfmt) rfl
  have f17 := h2.free 17
  obtain ⟨h4, hb4⟩ := h2.set 17 (i64 p.known.length) { p.addKnown (lo, hi) with pfmt := p.known.length } rfl rfl rfl rfl
  have h4 := Lib.hid h4
  have hb4 := Lib.hid (hb2.trans hb4)
  clear h2 hb2 e2 hl2
  go_wp2_with fail
  try go_ret
  exact ⟨rfl, _, _, _, h4.out, hb4.out⟩

set_option maxHeartbeats 4000000 in
theorem c_apply_nofmt (w0 w : World) (p : PathS) (b pb mb fb sb : Nat) (vl0 vd vf vc : Value) (un : Un) (site : SiteM) (hpp : PPAt w0 pb mb fb sb vl0 vd vf vc site) (hs : Scan w0 w b p un) (f : Fits p) (comp : Str) (lo hi : Nat) (hlo : lo <= hi) (hhi : hi <= p.s.length) (hc : (comp == kLayouts) = true) (hf : isFormat site (lowerL (sub p.s (lo, hi))) [] = false) :
  Calls Tryz.prog 165 #[.pointer (some ⟨pb, 0, none⟩), .string (B comp), .string (B pFormat), .pointer (some ⟨b, 0, none⟩), .agg #[.int .i64 lo, .int .i64 hi]] w
   fun e w' => e = .returned (.bool false) /\ Scan w0 w' b p un /\ Below w.heap.size w w' := by
 have hlen := f.len
 have hkl := f.kl
 have hll := f.ll
 have HT := Lib.hid (fun w => toLower_calls (sub p.s (lo, hi)) w (by simp [sub]; omega) (asciiL_sub f.asc _))
 have hal := Lib.hid (asciiL_lower (asciiL_sub f.asc (lo, hi)))
 have hln : Hid ((lowerL (sub p.s (lo, hi))).length <= 70368744177664) := by show _ <= _; rw [lowerL_len]; simp [sub]; omega
 obtain ⟨vk, vu, vl, h, hB⟩ := hs
 have hh := Lib.hid h
 have HB := Lib.hid hB
 have HP := Lib.hid hpp
 have hsub : sub p.s (lo, hi) = (p.s.drop lo).take (hi - lo) := rfl
 have HF := Lib.hid (fun (w' : World) (hb : Below w0.heap.size w0 w') => let q := hpp.below hb; c_isFormat site (lowerL (sub p.s (lo, hi))) [] vl0 vd vf vc sb w' q.read q.st)
 have hf' := Lib.hid hf
 rw [hsub] at HF hf'
 rw [hsub] at HT hal hln
 generalize hlow : lowerL ((p.s.drop lo).take (hi - lo)) = low at HT hal hln HF hf'
 have g1 : (lo : Int) <= (hi : Int) := by omega
 have g2 : (hi : Int) <= (p.s.length : Int) := by omega
 have c0 := h.acell 0 (.string (B p.s)) rfl
 have hbb := Lib.hid (Below_alloc w (.cells #[.int .i64 lo, .int .i64 hi] 80))
 have hnb := Lib.hid (blk_new w (.cells #[.int .i64 lo, .int .i64 hi] 80))
 clear h hB hpp f hsub
 go_enter Tryz.func165, Tryz.ntmps165
 go_wp2_with fail
 refine wp_tail 9 (by kernel_rfl) (by kernel_rfl) ?_
 simp only [List.take_succ_cons, List.take_zero, List.drop_succ_cons, List.drop_zero]
 repeat still_step
 try refine wpStill_nil ?_
 go_wp2_with fail
 refine (HT.out _).mono ?_; rintro e w1 ⟨rfl, b1⟩
 have bw := belowThen hbb.out (belowThen (Below_drewN (Below.refl _ _) 1) b1 (Nat.le_refl _)) (Nat.le_refl _)
 have hh1 := Lib.hid (hh.out.below bw)
 have HB1 : Hid (Below w0.heap.size w0 w1) := belowThen HB.out bw (Nat.le_refl _)
 have hn1 := Lib.hid (blk_below hnb.out (belowThen (Below_drewN (Below.refl _ _) 1) b1 (Nat.le_refl _)))
 have hp1 := Lib.hid (HP.out.below HB1.out)
 have BW := Lib.hid bw
 clear b1 bw c0 hh HB hnb hbb HT g1 g2
 have m2 : w1.cell? ⟨pb, 2, none⟩ = some (.func (.func 95) #[] #[.pointer (some ⟨sb, 0, none⟩)]) := cell_blk hp1.out.pp 2
 have hnf := run_fnNe3
 go_wp2_with fail
 refine (HF.out _ HB1.out).mono ?_; rintro e w2 ⟨rfl, b2⟩
 rw [hf'.out]
 have hh1 := Lib.hid (hh1.out.below b2)
 have HB1 : Hid (Below w0.heap.size w0 w2) := belowThen HB1.out b2 (Nat.le_refl _)
 have hn1 := Lib.hid (blk_below hn1.out b2)
 have BW := Lib.hid (belowThen BW.out b2 (Nat.le_refl _))
 go_wp2_with fail
 try go_ret
 exact ⟨rfl, ⟨_, _, _, hh1.out, HB1.out⟩, BW.out⟩


set_option maxHeartbeats 4000000 in
theorem c_apply_fmtoff (w0 w : World) (p : PathS) (b pb mb fb sb : Nat) (vl0 vd vf vc : Value) (un : Un) (site : SiteM) (hpp : PPAt w0 pb mb fb sb vl0 vd vf vc site) (hs : Scan w0 w b p un) (f : Fits p) (comp : Str) (lo hi : Nat) (hlo : lo <= hi) (hhi : hi <= p.s.length) (hc : (comp == kLayouts) = false) :
  Calls Tryz.prog 165 #[.pointer (some ⟨pb, 0, none⟩), .string (B comp), .string (B pFormat), .pointer (some ⟨b, 0, none⟩), .agg #[.int .i64 lo, .int .i64 hi]] w
   fun e w' => e = .returned (.bool false) /\ Scan w0 w' b p un /\ Below w.heap.size w w' := by
 have hlen := f.len
 have hkl := f.kl
 have hll := f.ll
 have HT := Lib.hid (fun w => toLower_calls (sub p.s (lo, hi)) w (by simp [sub]; omega) (asciiL_sub f.asc _))
 have hal := Lib.hid (asciiL_lower (asciiL_sub f.asc (lo, hi)))
 have hln : Hid ((lowerL (sub p.s (lo, hi))).length <= 70368744177664) := by show _ <= _; rw [lowerL_len]; simp [sub]; omega
 obtain ⟨vk, vu, vl, h, hB⟩ := hs
 have hh := Lib.hid h
 have HB := Lib.hid hB
 have HP := Lib.hid hpp
 have hsub : sub p.s (lo, hi) = (p.s.drop lo).take (hi - lo) := rfl
 rw [hsub] at HT hal hln
 generalize hlow : lowerL ((p.s.drop lo).take (hi - lo)) = low at HT hal hln
 have g1 : (lo : Int) <= (hi : Int) := by omega
 have g2 : (hi : Int) <= (p.s.length : Int) := by omega
 have c0 := h.acell 0 (.string (B p.s)) rfl
 have hbb := Lib.hid (Below_alloc w (.cells #[.int .i64 lo, .int .i64 hi] 80))
 have hnb := Lib.hid (blk_new w (.cells #[.int .i64 lo, .int .i64 hi] 80))
 clear h hB hpp f hsub
 go_enter Tryz.func165, Tryz.ntmps165
 go_wp2_with fail
 refine wp_tail 9 (by kernel_rfl) (by kernel_rfl) ?_
 simp only [List.take_succ_cons, List.take_zero, List.drop_succ_cons, List.drop_zero]
 repeat still_step
 try refine wpStill_nil ?_
 go_wp2_with fail
 refine (HT.out _).mono ?_; rintro e w1 ⟨rfl, b1⟩
 have bw := belowThen hbb.out (belowThen (Below_drewN (Below.refl _ _) 1) b1 (Nat.le_refl _)) (Nat.le_refl _)
 have hh1 := Lib.hid (hh.out.below bw)
 have HB1 : Hid (Below w0.heap.size w0 w1) := belowThen HB.out bw (Nat.le_refl _)
 have hn1 := Lib.hid (blk_below hnb.out (belowThen (Below_drewN (Below.refl _ _) 1) b1 (Nat.le_refl _)))
 have hp1 := Lib.hid (HP.out.below HB1.out)
 have BW := Lib.hid bw
 clear b1 bw c0 hh HB hnb hbb HT g1 g2
 go_wp2_with fail
 try go_ret
 exact ⟨rfl, ⟨_, _, _, hh1.out, HB1.out⟩, BW.out⟩


set_option maxHeartbeats 4000000 in
theorem c_apply_kind (w0 w : World) (p : PathS) (b pb mb fb sb : Nat) (vl0 vd vf vc : Value) (un : Un) (site : SiteM) (hpp : PPAt w0 pb mb fb sb vl0 vd vf vc site) (hs : Scan w0 w b p un) (f : Fits p) (comp : Str) (lo hi : Nat) (hlo : lo <= hi) (hhi : hi <= p.s.length) (hc : (comp == kLayouts) = true) (hk : (kindOf (lowerL (sub p.s (lo, hi)))).isEmpty = false) :
  Calls Tryz.prog 165 #[.pointer (some ⟨pb, 0, none⟩), .string (B comp), .string (B pKind), .pointer (some ⟨b, 0, none⟩), .agg #[.int .i64 lo, .int .i64 hi]] w
   fun e w' => e = .returned (.bool true) /\ Scan w0 w' b { p.addKnown (lo, hi) with pkind := p.known.length } un := by
 have hlen := f.len
 have hkl := f.kl
 have hll := f.ll
 have HT := Lib.hid (fun w => toLower_calls (sub p.s (lo, hi)) w (by simp [sub]; omega) (asciiL_sub f.asc _))
 have hal := Lib.hid (asciiL_lower (asciiL_sub f.asc (lo, hi)))
 have hln : Hid ((lowerL (sub p.s (lo, hi))).length <= 70368744177664) := by show _ <= _; rw [lowerL_len]; simp [sub]; omega
 obtain ⟨vk, vu, vl, h, hB⟩ := hs
 have hh := Lib.hid h
 have HB := Lib.hid hB
 have HP := Lib.hid hpp
 have hsub : sub p.s (lo, hi) = (p.s.drop lo).take (hi - lo) := rfl
 have HK := Lib.hid (fun (w' : World) => c_getKind (lowerL (sub p.s (lo, hi))) w' hln.out hal.out)
 have hk' := Lib.hid hk
 rw [hsub] at HK hk'
 rw [hsub] at HT hal hln
 generalize hlow : lowerL ((p.s.drop lo).take (hi - lo)) = low at HT hal hln HK hk'
 have g1 : (lo : Int) <= (hi : Int) := by omega
 have g2 : (hi : Int) <= (p.s.length : Int) := by omega
 have c0 := h.acell 0 (.string (B p.s)) rfl
 have hbb := Lib.hid (Below_alloc w (.cells #[.int .i64 lo, .int .i64 hi] 80))
 have hnb := Lib.hid (blk_new w (.cells #[.int .i64 lo, .int .i64 hi] 80))
 clear h hB hpp f hsub
 go_enter Tryz.func165, Tryz.ntmps165
 go_wp2_with fail
 refine wp_tail 9 (by kernel_rfl) (by kernel_rfl) ?_
 simp only [List.take_succ_cons, List.take_zero, List.drop_succ_cons, List.drop_zero]
 repeat still_step
 try refine wpStill_nil ?_
 go_wp2_with fail
 refine (HT.out _).mono ?_; rintro e w1 ⟨rfl, b1⟩
 have bw := belowThen hbb.out (belowThen (Below_drewN (Below.refl _ _) 1) b1 (Nat.le_refl _)) (Nat.le_refl _)
 have hh1 := Lib.hid (hh.out.below bw)
 have HB1 : Hid (Below w0.heap.size w0 w1) := belowThen HB.out bw (Nat.le_refl _)
 have hn1 := Lib.hid (blk_below hnb.out (belowThen (Below_drewN (Below.refl _ _) 1) b1 (Nat.le_refl _)))
 have hp1 := Lib.hid (HP.out.below HB1.out)
 have BW := Lib.hid bw
 clear b1 bw c0 hh HB hnb hbb HT g1 g2
 go_wp2_with fail
 refine (HK.out _).mono ?_; rintro e w2 ⟨rfl, b2⟩
 have hh1 := Lib.hid (hh1.out.below b2)
 have HB1 : Hid (Below w0.heap.size w0 w2) := belowThen HB1.out b2 (Nat.le_refl _)
 have hn1 := Lib.hid (blk_below hn1.out b2)
 have BW := Lib.hid (belowThen BW.out b2 (Nat.le_refl _))
 have hk2 := hk'.out
 go_upto_region 24 with fail
 clear hk2 HK hk' HP
 obtain ⟨iL, hi0, hz0, hz1, hz2⟩ := info_split Tryz.infoLH
 have hbase : ∀ o, w0.heap.size <= ((w2.alloc o).drew).heap.size := fun o => by have := HB1.out.size; simp; omega
 have k6 : ∀ o, (w2.alloc o).cell? ⟨b, 6, none⟩ = some vk := fun o => hh1.out.acell 6 vk rfl o
 have k6' := hh1.out.cell 6 vk rfl
 obtain ⟨n0, n1⟩ : w2.cell? ⟨w.heap.size, 0, none⟩ = some (.int .i64 lo) /\ w2.cell? ⟨w.heap.size, 1, none⟩ = some (.int .i64 hi) := ⟨cell_blk hn1.out 0, cell_blk hn1.out 1⟩
 have hwa : Hid (∀ o, Below w2.heap.size w2 ((w2.alloc o).drew)) := fun o => Below_drewN (Below_alloc _ o) 1
 have hmx : p.known.length + 1 <= maxLen := by have : (2000000 : Nat) <= maxLen := (by decide); omega
 go_upto_region 24 with fail
 go_cut [] from 151 to 160 (fun wx => ∃ vk', PathAt wx w0.heap.size b (p.addKnown (lo, hi)) vk' vu vl un /\ Below w0.heap.size w0 wx)
 case first =>
  go_region_law (refine step_append_lies _ (by rfl) (.tmp 155) (.tmp 157) 77 (by rfl) w0.heap.size 80 iL _ 2 16 Tryz.underlying77 hi0 hz0 hz1 hz2 rfl (by decide) vk p.known.length (pairCells p.known) (by rfl) (hh1.out.kn.alloc _).drew _ 1 1 [.int .i64 lo, .int .i64 hi] (by rfl) rfl (World.news_of_block (blk_new _ _)) (by simp [Value.oneCell']) (by decide) hmx (by omega) (hbase _) _ rfl ?_; intro g cap w3 hown2 hgrow hat hlt; have q6 : w3.cell? ⟨b, 6, none⟩ = some vk := (hh1.out.behind (hwa.out _) hgrow (.inl rfl)).1 6; have q6f := (hh1.out.behind (hwa.out _) hgrow (.inl rfl)).2 6)
  all_goals
   go_wp2_with fail
   go_meet
   obtain ⟨q1, q2⟩ := hh1.out.pushKnown (hwa.out _) (lo, hi) hown2 hgrow hat
   exact ⟨_, q1, HB1.out.trans q2⟩
 case rest =>
  obtain ⟨vk2, h2, hb2⟩ := hcut
  clear n0 n1 k6 k6' hbase hwa hmx hh1 HB1 hn1 hp1
  obtain ⟨a2, cap2, e2, _⟩ := pairs_read h2.kn
  have hl2 : (p.addKnown (lo, hi)).known.length = p.known.length + 1 := by simp [PathS.addKnown]
  rw [hl2] at e2
  have k6' : wc.cell? ⟨b, 6, none⟩ = some (.slice a2 (p.known.length + 1) cap2) := by rw [<- e2]; exact h2.cell 6 vk2 rfl
  have hwr : IntKind.i64.wrap (p.known.length : Int) = (p.known.length : Int) := by rw [IntKind.wrap_i64]; omega
  have hwr2 : ((p.known.length + 1 : Nat) : Int) - 1 = (p.known.length : Int) := by omega
  have k17 := h2.cell 18 (.int .i64 p.pkind) rfl
  have f17 := h2.free 18
  obtain ⟨h4, hb4⟩ := h2.set 18 (i64 p.known.length) { p.addKnown (lo, hi) with pkind := p.known.length } rfl rfl rfl rfl
  have h4 := Lib.hid h4
  have hb4 := Lib.hid (hb2.trans hb4)
  clear h2 hb2 e2 hl2
  go_wp2_with fail
  try go_ret
  exact ⟨rfl, _, _, _, h4.out, hb4.out⟩

set_option maxHeartbeats 4000000 in
theorem c_apply_nokind (w0 w : World) (p : PathS) (b pb mb fb sb : Nat) (vl0 vd vf vc : Value) (un : Un) (site : SiteM) (hpp : PPAt w0 pb mb fb sb vl0 vd vf vc site) (hs : Scan w0 w b p un) (f : Fits p) (comp : Str) (lo hi : Nat) (hlo : lo <= hi) (hhi : hi <= p.s.length) (hc : (comp == kLayouts) = true) (hk : (kindOf (lowerL (sub p.s (lo, hi)))).isEmpty = true) :
  Calls Tryz.prog 165 #[.pointer (some ⟨pb, 0, none⟩), .string (B comp), .string (B pKind), .pointer (some ⟨b, 0, none⟩), .agg #[.int .i64 lo, .int .i64 hi]] w
   fun e w' => e = .returned (.bool false) /\ Scan w0 w' b p un /\ Below w.heap.size w w' := by
 have hlen := f.len
 have hkl := f.kl
 have hll := f.ll
 have HT := Lib.hid (fun w => toLower_calls (sub p.s (lo, hi)) w (by simp [sub]; omega) (asciiL_sub f.asc _))
 have hal := Lib.hid (asciiL_lower (asciiL_sub f.asc (lo, hi)))
 have hln : Hid ((lowerL (sub p.s (lo, hi))).length <= 70368744177664) := by show _ <= _; rw [lowerL_len]; simp [sub]; omega
 obtain ⟨vk, vu, vl, h, hB⟩ := hs
 have hh := Lib.hid h
 have HB := Lib.hid hB
 have HP := Lib.hid hpp
 have hsub : sub p.s (lo, hi) = (p.s.drop lo).take (hi - lo) := rfl
 have HK := Lib.hid (fun (w' : World) => c_getKind (lowerL (sub p.s (lo, hi))) w' hln.out hal.out)
 have hk' := Lib.hid hk
 rw [hsub] at HK hk'
 rw [hsub] at HT hal hln
 generalize hlow : lowerL ((p.s.drop lo).take (hi - lo)) = low at HT hal hln HK hk'
 have g1 : (lo : Int) <= (hi : Int) := by omega
 have g2 : (hi : Int) <= (p.s.length : Int) := by omega
 have c0 := h.acell 0 (.string (B p.s)) rfl
 have hbb := Lib.hid (Below_alloc w (.cells #[.int .i64 lo, .int .i64 hi] 80))
 have hnb := Lib.hid (blk_new w (.cells #[.int .i64 lo, .int .i64 hi] 80))
 clear h hB hpp f hsub
 go_enter Tryz.func165, Tryz.ntmps165
 go_wp2_with fail
 refine wp_tail 9 (by kernel_rfl) (by kernel_rfl) ?_
 simp only [List.take_succ_cons, List.take_zero, List.drop_succ_cons, List.drop_zero]
 repeat still_step
 try refine wpStill_nil ?_
 go_wp2_with fail
 refine (HT.out _).mono ?_; rintro e w1 ⟨rfl, b1⟩
 have bw := belowThen hbb.out (belowThen (Below_drewN (Below.refl _ _) 1) b1 (Nat.le_refl _)) (Nat.le_refl _)
 have hh1 := Lib.hid (hh.out.below bw)
 have HB1 : Hid (Below w0.heap.size w0 w1) := belowThen HB.out bw (Nat.le_refl _)
 have hn1 := Lib.hid (blk_below hnb.out (belowThen (Below_drewN (Below.refl _ _) 1) b1 (Nat.le_refl _)))
 have hp1 := Lib.hid (HP.out.below HB1.out)
 have BW := Lib.hid bw
 clear b1 bw c0 hh HB hnb hbb HT g1 g2
 go_wp2_with fail
 refine (HK.out _).mono ?_; rintro e w2 ⟨rfl, b2⟩
 have hh1 := Lib.hid (hh1.out.below b2)
 have HB1 : Hid (Below w0.heap.size w0 w2) := belowThen HB1.out b2 (Nat.le_refl _)
 have hn1 := Lib.hid (blk_below hn1.out b2)
 have BW := Lib.hid (belowThen BW.out b2 (Nat.le_refl _))
 have hk2 := hk'.out
 go_wp2_with fail
 try go_ret
 exact ⟨rfl, ⟨_, _, _, hh1.out, HB1.out⟩, BW.out⟩


set_option maxHeartbeats 4000000 in
theorem c_apply_kindoff (w0 w : World) (p : PathS) (b pb mb fb sb : Nat) (vl0 vd vf vc : Value) (un : Un) (site : SiteM) (hpp : PPAt w0 pb mb fb sb vl0 vd vf vc site) (hs : Scan w0 w b p un) (f : Fits p) (comp : Str) (lo hi : Nat) (hlo : lo <= hi) (hhi : hi <= p.s.length) (hc : (comp == kLayouts) = false) :
  Calls Tryz.prog 165 #[.pointer (some ⟨pb, 0, none⟩), .string (B comp), .string (B pKind), .pointer (some ⟨b, 0, none⟩), .agg #[.int .i64 lo, .int .i64 hi]] w
   fun e w' => e = .returned (.bool false) /\ Scan w0 w' b p un /\ Below w.heap.size w w' := by
 have hlen := f.len
 have hkl := f.kl
 have hll := f.ll
 have HT := Lib.hid (fun w => toLower_calls (sub p.s (lo, hi)) w (by simp [sub]; omega) (asciiL_sub f.asc _))
 have hal := Lib.hid (asciiL_lower (asciiL_sub f.asc (lo, hi)))
 have hln : Hid ((lowerL (sub p.s (lo, hi))).length <= 70368744177664) := by show _ <= _; rw [lowerL_len]; simp [sub]; omega
 obtain ⟨vk, vu, vl, h, hB⟩ := hs
 have hh := Lib.hid h
 have HB := Lib.hid hB
 have HP := Lib.hid hpp
 have hsub : sub p.s (lo, hi) = (p.s.drop lo).take (hi - lo) := rfl
 rw [hsub] at HT hal hln
 generalize hlow : lowerL ((p.s.drop lo).take (hi - lo)) = low at HT hal hln
 have g1 : (lo : Int) <= (hi : Int) := by omega
 have g2 : (hi : Int) <= (p.s.length : Int) := by omega
 have c0 := h.acell 0 (.string (B p.s)) rfl
 have hbb := Lib.hid (Below_alloc w (.cells #[.int .i64 lo, .int .i64 hi] 80))
 have hnb := Lib.hid (blk_new w (.cells #[.int .i64 lo, .int .i64 hi] 80))
 clear h hB hpp f hsub
 go_enter Tryz.func165, Tryz.ntmps165
 go_wp2_with fail
 refine wp_tail 9 (by kernel_rfl) (by kernel_rfl) ?_
 simp only [List.take_succ_cons, List.take_zero, List.drop_succ_cons, List.drop_zero]
 repeat still_step
 try refine wpStill_nil ?_
 go_wp2_with fail
 refine (HT.out _).mono ?_; rintro e w1 ⟨rfl, b1⟩
 have bw := belowThen hbb.out (belowThen (Below_drewN (Below.refl _ _) 1) b1 (Nat.le_refl _)) (Nat.le_refl _)
 have hh1 := Lib.hid (hh.out.below bw)
 have HB1 : Hid (Below w0.heap.size w0 w1) := belowThen HB.out bw (Nat.le_refl _)
 have hn1 := Lib.hid (blk_below hnb.out (belowThen (Below_drewN (Below.refl _ _) 1) b1 (Nat.le_refl _)))
 have hp1 := Lib.hid (HP.out.below HB1.out)
 have BW := Lib.hid bw
 clear b1 bw c0 hh HB hnb hbb HT g1 g2
 go_wp2_with fail
 try go_ret
 exact ⟨rfl, ⟨_, _, _, hh1.out, HB1.out⟩, BW.out⟩


set_option maxHeartbeats 4000000 in
theorem c_apply_lay (w0 w : World) (p : PathS) (b pb mb fb sb : Nat) (vl0 vd vf vc : Value) (un : Un) (site : SiteM) (hpp : PPAt w0 pb mb fb sb vl0 vd vf vc site) (hs : Scan w0 w b p un) (f : Fits p) (comp : Str) (lo hi : Nat) (hlo : lo <= hi) (hhi : hi <= p.s.length) (hc : (comp == kLayouts) = true) :
  Calls Tryz.prog 165 #[.pointer (some ⟨pb, 0, none⟩), .string (B comp), .string (B pLayout), .pointer (some ⟨b, 0, none⟩), .agg #[.int .i64 lo, .int .i64 hi]] w
   fun e w' => e = .returned (.bool true) /\ Scan w0 w' b { p.addKnown (lo, hi) with play := p.known.length } un := by
 have hlen := f.len
 have hkl := f.kl
 have hll := f.ll
 have HT := Lib.hid (fun w => toLower_calls (sub p.s (lo, hi)) w (by simp [sub]; omega) (asciiL_sub f.asc _))
 have hal := Lib.hid (asciiL_lower (asciiL_sub f.asc (lo, hi)))
 have hln : Hid ((lowerL (sub p.s (lo, hi))).length <= 70368744177664) := by show _ <= _; rw [lowerL_len]; simp [sub]; omega
 obtain ⟨vk, vu, vl, h, hB⟩ := hs
 have hh := Lib.hid h
 have HB := Lib.hid hB
 have HP := Lib.hid hpp
 have hsub : sub p.s (lo, hi) = (p.s.drop lo).take (hi - lo) := rfl
 rw [hsub] at HT hal hln
 generalize hlow : lowerL ((p.s.drop lo).take (hi - lo)) = low at HT hal hln
 have g1 : (lo : Int) <= (hi : Int) := by omega
 have g2 : (hi : Int) <= (p.s.length : Int) := by omega
 have c0 := h.acell 0 (.string (B p.s)) rfl
 have hbb := Lib.hid (Below_alloc w (.cells #[.int .i64 lo, .int .i64 hi] 80))
 have hnb := Lib.hid (blk_new w (.cells #[.int .i64 lo, .int .i64 hi] 80))
 clear h hB hpp f hsub
 go_enter Tryz.func165, Tryz.ntmps165
 go_wp2_with fail
 refine wp_tail 9 (by kernel_rfl) (by kernel_rfl) ?_
 simp only [List.take_succ_cons, List.take_zero, List.drop_succ_cons, List.drop_zero]
 repeat still_step
 try refine wpStill_nil ?_
 go_wp2_with fail
 refine (HT.out _).mono ?_; rintro e w1 ⟨rfl, b1⟩
 have bw := belowThen hbb.out (belowThen (Below_drewN (Below.refl _ _) 1) b1 (Nat.le_refl _)) (Nat.le_refl _)
 have hh1 := Lib.hid (hh.out.below bw)
 have HB1 : Hid (Below w0.heap.size w0 w1) := belowThen HB.out bw (Nat.le_refl _)
 have hn1 := Lib.hid (blk_below hnb.out (belowThen (Below_drewN (Below.refl _ _) 1) b1 (Nat.le_refl _)))
 have hp1 := Lib.hid (HP.out.below HB1.out)
 have BW := Lib.hid bw
 clear b1 bw c0 hh HB hnb hbb HT g1 g2
 go_upto_region 29 with fail
 clear HP
 obtain ⟨iL, hi0, hz0, hz1, hz2⟩ := info_split Tryz.infoLH
 have hbase : ∀ o, w0.heap.size <= ((w1.alloc o).drew).heap.size := fun o => by have := HB1.out.size; simp; omega
 have k6 : ∀ o, (w1.alloc o).cell? ⟨b, 6, none⟩ = some vk := fun o => hh1.out.acell 6 vk rfl o
 have k6' := hh1.out.cell 6 vk rfl
 obtain ⟨n0, n1⟩ : w1.cell? ⟨w.heap.size, 0, none⟩ = some (.int .i64 lo) /\ w1.cell? ⟨w.heap.size, 1, none⟩ = some (.int .i64 hi) := ⟨cell_blk hn1.out 0, cell_blk hn1.out 1⟩
 have hwa : Hid (∀ o, Below w1.heap.size w1 ((w1.alloc o).drew)) := fun o => Below_drewN (Below_alloc _ o) 1
 have hmx : p.known.length + 1 <= maxLen := by have : (2000000 : Nat) <= maxLen := (by decide); omega
 go_upto_region 29 with fail
 go_cut [] from 174 to 183 (fun wx => ∃ vk', PathAt wx w0.heap.size b (p.addKnown (lo, hi)) vk' vu vl un /\ Below w0.heap.size w0 wx)
 case first =>
  go_region_law (refine step_append_lies _ (by rfl) (.tmp 178) (.tmp 180) 77 (by rfl) w0.heap.size 80 iL _ 2 16 Tryz.underlying77 hi0 hz0 hz1 hz2 rfl (by decide) vk p.known.length (pairCells p.known) (by rfl) (hh1.out.kn.alloc _).drew _ 1 1 [.int .i64 lo, .int .i64 hi] (by rfl) rfl (World.news_of_block (blk_new _ _)) (by simp [Value.oneCell']) (by decide) hmx (by omega) (hbase _) _ rfl ?_; intro g cap w3 hown2 hgrow hat hlt; have q6 : w3.cell? ⟨b, 6, none⟩ = some vk := (hh1.out.behind (hwa.out _) hgrow (.inl rfl)).1 6; have q6f := (hh1.out.behind (hwa.out _) hgrow (.inl rfl)).2 6)
  all_goals
   go_wp2_with fail
   go_meet
   obtain ⟨q1, q2⟩ := hh1.out.pushKnown (hwa.out _) (lo, hi) hown2 hgrow hat
   exact ⟨_, q1, HB1.out.trans q2⟩
 case rest =>
  obtain ⟨vk2, h2, hb2⟩ := hcut
  clear n0 n1 k6 k6' hbase hwa hmx hh1 HB1 hn1 hp1
  obtain ⟨a2, cap2, e2, _⟩ := pairs_read h2.kn
  have hl2 : (p.addKnown (lo, hi)).known.length = p.known.length + 1 := by simp [PathS.addKnown]
  rw [hl2] at e2
  have k6' : wc.cell? ⟨b, 6, none⟩ = some (.slice a2 (p.known.length + 1) cap2) := by rw [<- e2]; exact h2.cell 6 vk2 rfl
  have hwr : IntKind.i64.wrap (p.known.length : Int) = (p.known.length : Int) := by rw [IntKind.wrap_i64]; omega
  have hwr2 : ((p.known.length + 1 : Nat) : Int) - 1 = (p.known.length : Int) := by omega
  have k17 := h2.cell 19 (.int .i64 p.play) rfl
  have f17 := h2.free 19
  obtain ⟨h4, hb4⟩ := h2.set 19 (i64 p.known.length) { p.addKnown (lo, hi) with play := p.known.length } rfl rfl rfl rfl
  have h4 := Lib.hid h4
  have hb4 := Lib.hid (hb2.trans hb4)
  clear h2 hb2 e2 hl2
  go_wp2_with fail
  try go_ret
  exact ⟨rfl, _, _, _, h4.out, hb4.out⟩

set_option maxHeartbeats 4000000 in
theorem c_apply_layoff (w0 w : World) (p : PathS) (b pb mb fb sb : Nat) (vl0 vd vf vc : Value) (un : Un) (site : SiteM) (hpp : PPAt w0 pb mb fb sb vl0 vd vf vc site) (hs : Scan w0 w b p un) (f : Fits p) (comp : Str) (lo hi : Nat) (hlo : lo <= hi) (hhi : hi <= p.s.length) (hc : (comp == kLayouts) = false) :
  Calls Tryz.prog 165 #[.pointer (some ⟨pb, 0, none⟩), .string (B comp), .string (B pLayout), .pointer (some ⟨b, 0, none⟩), .agg #[.int .i64 lo, .int .i64 hi]] w
   fun e w' => e = .returned (.bool false) /\ Scan w0 w' b p un /\ Below w.heap.size w w' := by
 have hlen := f.len
 have hkl := f.kl
 have hll := f.ll
 have HT := Lib.hid (fun w => toLower_calls (sub p.s (lo, hi)) w (by simp [sub]; omega) (asciiL_sub f.asc _))
 have hal := Lib.hid (asciiL_lower (asciiL_sub f.asc (lo, hi)))
 have hln : Hid ((lowerL (sub p.s (lo, hi))).length <= 70368744177664) := by show _ <= _; rw [lowerL_len]; simp [sub]; omega
 obtain ⟨vk, vu, vl, h, hB⟩ := hs
 have hh := Lib.hid h
 have HB := Lib.hid hB
 have HP := Lib.hid hpp
 have hsub : sub p.s (lo, hi) = (p.s.drop lo).take (hi - lo) := rfl
 rw [hsub] at HT hal hln
 generalize hlow : lowerL ((p.s.drop lo).take (hi - lo)) = low at HT hal hln
 have g1 : (lo : Int) <= (hi : Int) := by omega
 have g2 : (hi : Int) <= (p.s.length : Int) := by omega
 have c0 := h.acell 0 (.string (B p.s)) rfl
 have hbb := Lib.hid (Below_alloc w (.cells #[.int .i64 lo, .int .i64 hi] 80))
 have hnb := Lib.hid (blk_new w (.cells #[.int .i64 lo, .int .i64 hi] 80))
 clear h hB hpp f hsub
 go_enter Tryz.func165, Tryz.ntmps165
 go_wp2_with fail
 refine wp_tail 9 (by kernel_rfl) (by kernel_rfl) ?_
 simp only [List.take_succ_cons, List.take_zero, List.drop_succ_cons, List.drop_zero]
 repeat still_step
 try refine wpStill_nil ?_
 go_wp2_with fail
 refine (HT.out _).mono ?_; rintro e w1 ⟨rfl, b1⟩
 have bw := belowThen hbb.out (belowThen (Below_drewN (Below.refl _ _) 1) b1 (Nat.le_refl _)) (Nat.le_refl _)
 have hh1 := Lib.hid (hh.out.below bw)
 have HB1 : Hid (Below w0.heap.size w0 w1) := belowThen HB.out bw (Nat.le_refl _)
 have hn1 := Lib.hid (blk_below hnb.out (belowThen (Below_drewN (Below.refl _ _) 1) b1 (Nat.le_refl _)))
 have hp1 := Lib.hid (HP.out.below HB1.out)
 have BW := Lib.hid bw
 clear b1 bw c0 hh HB hnb hbb HT g1 g2
 go_wp2_with fail
 try go_ret
 exact ⟨rfl, ⟨_, _, _, hh1.out, HB1.out⟩, BW.out⟩


set_option maxHeartbeats 4000000 in
theorem c_apply_version (w0 w : World) (p : PathS) (b pb mb fb sb : Nat) (vl0 vd vf vc : Value) (un : Un) (site : SiteM) (hpp : PPAt w0 pb mb fb sb vl0 vd vf vc site) (hs : Scan w0 w b p un) (f : Fits p) (comp : Str) (lo hi : Nat) (hlo : lo <= hi) (hhi : hi <= p.s.length)  :
  Calls Tryz.prog 165 #[.pointer (some ⟨pb, 0, none⟩), .string (B comp), .string (B pVersion), .pointer (some ⟨b, 0, none⟩), .agg #[.int .i64 lo, .int .i64 hi]] w
   fun e w' => e = .returned (.bool false) /\ Scan w0 w' b p un /\ Below w.heap.size w w' := by
 have hlen := f.len
 have hkl := f.kl
 have hll := f.ll
 have HT := Lib.hid (fun w => toLower_calls (sub p.s (lo, hi)) w (by simp [sub]; omega) (asciiL_sub f.asc _))
 have hal := Lib.hid (asciiL_lower (asciiL_sub f.asc (lo, hi)))
 have hln : Hid ((lowerL (sub p.s (lo, hi))).length <= 70368744177664) := by show _ <= _; rw [lowerL_len]; simp [sub]; omega
 obtain ⟨vk, vu, vl, h, hB⟩ := hs
 have hh := Lib.hid h
 have HB := Lib.hid hB
 have HP := Lib.hid hpp
 have hsub : sub p.s (lo, hi) = (p.s.drop lo).take (hi - lo) := rfl
 rw [hsub] at HT hal hln
 generalize hlow : lowerL ((p.s.drop lo).take (hi - lo)) = low at HT hal hln
 have g1 : (lo : Int) <= (hi : Int) := by omega
 have g2 : (hi : Int) <= (p.s.length : Int) := by omega
 have c0 := h.acell 0 (.string (B p.s)) rfl
 have hbb := Lib.hid (Below_alloc w (.cells #[.int .i64 lo, .int .i64 hi] 80))
 have hnb := Lib.hid (blk_new w (.cells #[.int .i64 lo, .int .i64 hi] 80))
 clear h hB hpp f hsub
 go_enter Tryz.func165, Tryz.ntmps165
 go_wp2_with fail
 refine wp_tail 9 (by kernel_rfl) (by kernel_rfl) ?_
 simp only [List.take_succ_cons, List.take_zero, List.drop_succ_cons, List.drop_zero]
 repeat still_step
 try refine wpStill_nil ?_
 go_wp2_with fail
 refine (HT.out _).mono ?_; rintro e w1 ⟨rfl, b1⟩
 have bw := belowThen hbb.out (belowThen (Below_drewN (Below.refl _ _) 1) b1 (Nat.le_refl _)) (Nat.le_refl _)
 have hh1 := Lib.hid (hh.out.below bw)
 have HB1 : Hid (Below w0.heap.size w0 w1) := belowThen HB.out bw (Nat.le_refl _)
 have hn1 := Lib.hid (blk_below hnb.out (belowThen (Below_drewN (Below.refl _ _) 1) b1 (Nat.le_refl _)))
 have hp1 := Lib.hid (HP.out.below HB1.out)
 have BW := Lib.hid bw
 clear b1 bw c0 hh HB hnb hbb HT g1 g2
 go_wp2_with fail
 try go_ret
 exact ⟨rfl, ⟨_, _, _, hh1.out, HB1.out⟩, BW.out⟩


set_option maxHeartbeats 4000000 in
theorem c_apply_role (w0 w : World) (p : PathS) (b pb mb fb sb : Nat) (vl0 vd vf vc : Value) (un : Un) (site : SiteM) (hpp : PPAt w0 pb mb fb sb vl0 vd vf vc site) (hs : Scan w0 w b p un) (f : Fits p) (comp : Str) (lo hi : Nat) (hlo : lo <= hi) (hhi : hi <= p.s.length)  :
  Calls Tryz.prog 165 #[.pointer (some ⟨pb, 0, none⟩), .string (B comp), .string (B pRole), .pointer (some ⟨b, 0, none⟩), .agg #[.int .i64 lo, .int .i64 hi]] w
   fun e w' => e = .returned (.bool false) /\ Scan w0 w' b p un /\ Below w.heap.size w w' := by
 have hlen := f.len
 have hkl := f.kl
 have hll := f.ll
 have HT := Lib.hid (fun w => toLower_calls (sub p.s (lo, hi)) w (by simp [sub]; omega) (asciiL_sub f.asc _))
 have hal := Lib.hid (asciiL_lower (asciiL_sub f.asc (lo, hi)))
 have hln : Hid ((lowerL (sub p.s (lo, hi))).length <= 70368744177664) := by show _ <= _; rw [lowerL_len]; simp [sub]; omega
 obtain ⟨vk, vu, vl, h, hB⟩ := hs
 have hh := Lib.hid h
 have HB := Lib.hid hB
 have HP := Lib.hid hpp
 have hsub : sub p.s (lo, hi) = (p.s.drop lo).take (hi - lo) := rfl
 rw [hsub] at HT hal hln
 generalize hlow : lowerL ((p.s.drop lo).take (hi - lo)) = low at HT hal hln
 have g1 : (lo : Int) <= (hi : Int) := by omega
 have g2 : (hi : Int) <= (p.s.length : Int) := by omega
 have c0 := h.acell 0 (.string (B p.s)) rfl
 have hbb := Lib.hid (Below_alloc w (.cells #[.int .i64 lo, .int .i64 hi] 80))
 have hnb := Lib.hid (blk_new w (.cells #[.int .i64 lo, .int .i64 hi] 80))
 clear h hB hpp f hsub
 go_enter Tryz.func165, Tryz.ntmps165
 go_wp2_with fail
 refine wp_tail 9 (by kernel_rfl) (by kernel_rfl) ?_
 simp only [List.take_succ_cons, List.take_zero, List.drop_succ_cons, List.drop_zero]
 repeat still_step
 try refine wpStill_nil ?_
 go_wp2_with fail
 refine (HT.out _).mono ?_; rintro e w1 ⟨rfl, b1⟩
 have bw := belowThen hbb.out (belowThen (Below_drewN (Below.refl _ _) 1) b1 (Nat.le_refl _)) (Nat.le_refl _)
 have hh1 := Lib.hid (hh.out.below bw)
 have HB1 : Hid (Below w0.heap.size w0 w1) := belowThen HB.out bw (Nat.le_refl _)
 have hn1 := Lib.hid (blk_below hnb.out (belowThen (Below_drewN (Below.refl _ _) 1) b1 (Nat.le_refl _)))
 have hp1 := Lib.hid (HP.out.below HB1.out)
 have BW := Lib.hid bw
 clear b1 bw c0 hh HB hnb hbb HT g1 g2
 go_wp2_with fail
 try go_ret
 exact ⟨rfl, ⟨_, _, _, hh1.out, HB1.out⟩, BW.out⟩



theorem c_apply (w0 w : World) (p : PathS) (b pb mb fb sb : Nat) (vl0 vd vf vc : Value) (un : Un) (site : SiteM) (hpp : PPAt w0 pb mb fb sb vl0 vd vf vc site) (hs : Scan w0 w b p un) (f : Fits p) (comp : Str) (lo hi : Nat) (hlo : lo <= hi) (hhi : hi <= p.s.length) (pre : Str) (hpre : pre ∈ prefixList) :
  Calls Tryz.prog 165 #[.pointer (some ⟨pb, 0, none⟩), .string (B comp), .string (B pre), .pointer (some ⟨b, 0, none⟩), .agg #[.int .i64 lo, .int .i64 hi]] w
   fun e w' => e = .returned (.bool (PathS.applyPrefix site comp pre p (lo, hi)).isSome) /\ Scan w0 w' b ((PathS.applyPrefix site comp pre p (lo, hi)).getD p) un /\ (PathS.applyPrefix site comp pre p (lo, hi) = none -> Below w.heap.size w w') := by
 have fin : ∀ (x : Option PathS) (c : Bool) (q : PathS), PathS.applyPrefix site comp pre p (lo, hi) = x -> c = x.isSome -> q = x.getD p ->
   Calls Tryz.prog 165 #[.pointer (some ⟨pb, 0, none⟩), .string (B comp), .string (B pre), .pointer (some ⟨b, 0, none⟩), .agg #[.int .i64 lo, .int .i64 hi]] w (fun e w' => e = .returned (.bool c) /\ Scan w0 w' b q un /\ (x = none -> Below w.heap.size w w')) ->
   Calls Tryz.prog 165 #[.pointer (some ⟨pb, 0, none⟩), .string (B comp), .string (B pre), .pointer (some ⟨b, 0, none⟩), .agg #[.int .i64 lo, .int .i64 hi]] w
    fun e w' => e = .returned (.bool (PathS.applyPrefix site comp pre p (lo, hi)).isSome) /\ Scan w0 w' b ((PathS.applyPrefix site comp pre p (lo, hi)).getD p) un /\ (PathS.applyPrefix site comp pre p (lo, hi) = none -> Below w.heap.size w w') := by
  intro x c q e1 e2 e3 h
  rw [e1, <- e2, <- e3]
  exact h
 have hcomp : ∀ c : Bool, (comp == kLayouts) = c -> (comp = kLayouts ↔ c = true) := fun c hc => by rw [<- hc]; simp
 have n1 : pFormat ≠ pLanguage := by decide
 have n2 : pKind ≠ pLanguage := by decide
 have n3 : pKind ≠ pFormat := by decide
 have n4 : pLayout ≠ pLanguage := by decide
 have n5 : pLayout ≠ pFormat := by decide
 have n6 : pLayout ≠ pKind := by decide
 simp only [prefixList, List.mem_cons, List.not_mem_nil, or_false] at hpre
 rcases hpre with rfl | rfl | rfl | rfl | rfl | rfl
 ·cases hy : amongL site.languages (lowerL (sub p.s (lo, hi))) with
  | true => exact fin (some (p.addLang (lo, hi))) true (p.addLang (lo, hi)) (by unfold PathS.applyPrefix; rw [if_pos rfl]; dsimp only; rw [if_pos hy]; rfl) rfl rfl ((c_apply_lang w0 w p b pb mb fb sb vl0 vd vf vc un site hpp hs f comp lo hi hlo hhi hy).mono fun _ _ ⟨h1, h2⟩ => ⟨h1, h2, fun h => by cases h⟩)
  | false =>
   cases hd : amongL site.disabled (lowerL (sub p.s (lo, hi))) with
   | true => exact fin (some { p.addLang (lo, hi) with disabled := true }) true { p.addLang (lo, hi) with disabled := true } (by unfold PathS.applyPrefix; rw [if_pos rfl]; dsimp only; rw [if_neg (by rw [hy]; simp), if_pos hd]; rfl) rfl rfl ((c_apply_off w0 w p b pb mb fb sb vl0 vd vf vc un site hpp hs f comp lo hi hlo hhi hy hd).mono fun _ _ ⟨h1, h2⟩ => ⟨h1, h2, fun h => by cases h⟩)
   | false => exact fin none false p (by unfold PathS.applyPrefix; rw [if_pos rfl]; dsimp only; rw [if_neg (by rw [hy]; simp), if_neg (by rw [hd]; simp)]) rfl rfl ((c_apply_nolang w0 w p b pb mb fb sb vl0 vd vf vc un site hpp hs f comp lo hi hlo hhi hy hd).mono fun _ _ ⟨h1, h2, h3⟩ => ⟨h1, h2, fun _ => h3⟩)
 ·exact fin none false p (by unfold PathS.applyPrefix; rw [if_neg (by decide), if_neg (by decide), if_neg (by decide), if_neg (by decide)]) rfl rfl ((c_apply_version w0 w p b pb mb fb sb vl0 vd vf vc un site hpp hs f comp lo hi hlo hhi).mono fun _ _ ⟨h1, h2, h3⟩ => ⟨h1, h2, fun _ => h3⟩)
 ·exact fin none false p (by unfold PathS.applyPrefix; rw [if_neg (by decide), if_neg (by decide), if_neg (by decide), if_neg (by decide)]) rfl rfl ((c_apply_role w0 w p b pb mb fb sb vl0 vd vf vc un site hpp hs f comp lo hi hlo hhi).mono fun _ _ ⟨h1, h2, h3⟩ => ⟨h1, h2, fun _ => h3⟩)
 ·cases hc : (comp == kLayouts) with
  | false => exact fin none false p (by unfold PathS.applyPrefix; rw [if_neg n1, if_pos rfl, if_neg (by rw [hcomp _ hc]; simp)]) rfl rfl ((c_apply_fmtoff w0 w p b pb mb fb sb vl0 vd vf vc un site hpp hs f comp lo hi hlo hhi hc).mono fun _ _ ⟨h1, h2, h3⟩ => ⟨h1, h2, fun _ => h3⟩)
  | true =>
   cases hf : isFormat site (lowerL (sub p.s (lo, hi))) [] with
   | true => exact fin (some { p.addKnown (lo, hi) with pfmt := p.known.length }) true _ (by unfold PathS.applyPrefix; rw [if_neg n1, if_pos rfl, if_pos ⟨(hcomp _ hc).2 rfl, hf⟩]) rfl rfl ((c_apply_fmt w0 w p b pb mb fb sb vl0 vd vf vc un site hpp hs f comp lo hi hlo hhi hc hf).mono fun _ _ ⟨h1, h2⟩ => ⟨h1, h2, fun h => by cases h⟩)
   | false => exact fin none false p (by unfold PathS.applyPrefix; rw [if_neg n1, if_pos rfl, if_neg (by rw [hf]; simp)]) rfl rfl ((c_apply_nofmt w0 w p b pb mb fb sb vl0 vd vf vc un site hpp hs f comp lo hi hlo hhi hc hf).mono fun _ _ ⟨h1, h2, h3⟩ => ⟨h1, h2, fun _ => h3⟩)
 ·cases hc : (comp == kLayouts) with
  | false => exact fin none false p (by unfold PathS.applyPrefix; rw [if_neg n2, if_neg n3, if_pos rfl, if_neg (by rw [hcomp _ hc]; simp)]) rfl rfl ((c_apply_kindoff w0 w p b pb mb fb sb vl0 vd vf vc un site hpp hs f comp lo hi hlo hhi hc).mono fun _ _ ⟨h1, h2, h3⟩ => ⟨h1, h2, fun _ => h3⟩)
  | true =>
   cases hk : (kindOf (lowerL (sub p.s (lo, hi)))).isEmpty with
   | false => exact fin (some { p.addKnown (lo, hi) with pkind := p.known.length }) true _ (by unfold PathS.applyPrefix; rw [if_neg n2, if_neg n3, if_pos rfl, if_pos ⟨(hcomp _ hc).2 rfl, List.isEmpty_eq_false_iff.1 hk⟩]) rfl rfl ((c_apply_kind w0 w p b pb mb fb sb vl0 vd vf vc un site hpp hs f comp lo hi hlo hhi hc hk).mono fun _ _ ⟨h1, h2⟩ => ⟨h1, h2, fun h => by cases h⟩)
   | true => exact fin none false p (by unfold PathS.applyPrefix; rw [if_neg n2, if_neg n3, if_pos rfl, if_neg (by rw [List.isEmpty_iff.1 hk]; simp)]) rfl rfl ((c_apply_nokind w0 w p b pb mb fb sb vl0 vd vf vc un site hpp hs f comp lo hi hlo hhi hc hk).mono fun _ _ ⟨h1, h2, h3⟩ => ⟨h1, h2, fun _ => h3⟩)
 ·cases hc : (comp == kLayouts) with
  | false => exact fin none false p (by unfold PathS.applyPrefix; rw [if_neg n4, if_neg n5, if_neg n6, if_pos rfl, if_neg (by rw [hcomp _ hc]; simp)]) rfl rfl ((c_apply_layoff w0 w p b pb mb fb sb vl0 vd vf vc un site hpp hs f comp lo hi hlo hhi hc).mono fun _ _ ⟨h1, h2, h3⟩ => ⟨h1, h2, fun _ => h3⟩)
  | true => exact fin (some { p.addKnown (lo, hi) with play := p.known.length }) true _ (by unfold PathS.applyPrefix; rw [if_neg n4, if_neg n5, if_neg n6, if_pos rfl, if_pos ((hcomp _ hc).2 rfl)]) rfl rfl ((c_apply_lay w0 w p b pb mb fb sb vl0 vd vf vc un site hpp hs f comp lo hi hlo hhi hc).mono fun _ _ ⟨h1, h2⟩ => ⟨h1, h2, fun h => by cases h⟩)

end Go.Proofs.YtjkecadfakjanaaGreatDoor
