/- The reference's Parse and Unnormalized's words: what a path answers, walked. Conditions: a site in memory; a path of at most 100000 bytes. -/
import Derived.Test.YtjkecadfakjanaaGreatDoorAnswM
import Derived.Test.YtjkecadfakjanaaGreatDoorWordsM
import Derived.Test.YtjkecadfakjanaaGreatDoorParse
set_option maxRecDepth 100000
set_option linter.unusedVariables false
set_option linter.unusedSimpArgs false
namespace Go.Proofs.YtjkecadfakjanaaGreatDoor
open Go.RowKit
attribute [local go_sem] B_extract B_toList B_append

/-- The cells of a Told that is made anew. -/
abbrev zeroCells : Array Value := #[.string (B []), .string (B []), .string (B []), .string (B []), .string (B []), .string (B []), .string (B []), .string (B []), .string (B []), .string (B []), .string (B []), .string (B []), .string (B []), .string (B []), .string (B []), .string (B []), .string (B []), .string (B []), .string (B []), .string (B []), .string (B []), .slice none 0 0, .slice none 0 0, .slice none 0 0, .bool false, .bool false, .bool false, .bool false, .bool false, .bool false, .int .i64 0]

/-! ### What the words of a path are like -/
theorem readStep_extA (site : SiteM) (r : ReadM) (word : Str) (at_ : Int) : (readStep site r word at_).w.ext = r.w.ext := by
 unfold readStep
 split
 ·rw [wrapper_eq]
  repeat' split
  all_goals rfl
 ·rw [plain_eq]
  repeat' split
  all_goals rfl
theorem readWord_extA (site : SiteM) (name : Str) (C : List Nat) (r : ReadM) (i e : Nat) (h : i < C.length) : (readWord site name C r i e).1.w.ext = r.w.ext := by
 rw [readWord_at site name C r e (by omega)]
 exact readStep_extA site r _ _
theorem readDown_extA (site : SiteM) (name : Str) (C : List Nat) : ∀ (n : Nat) (r : ReadM) (e : Nat), n < C.length -> (readDown site name C n r e).w.ext = r.w.ext
 | 0, r, e, h => readWord_extA site name C r 0 e h
 | n + 1, r, e, h => (readDown_extA site name C n _ _ (by omega)).trans (readWord_extA site name C r (n + 1) e h)
theorem readAll_extA (site : SiteM) (comp path name : Str) : ((readAll site comp path name).w.ids ≠ [] -> (readAll site comp path name).w.ext.length + 1 <= name.length) /\ (readAll site comp path name).w.ext.length <= name.length := by
 unfold readAll
 split
 ·exact ⟨fun h => absurd rfl h, Nat.zero_le _⟩
 ·rename_i hC
  obtain ⟨m, hm⟩ : ∃ m, (cutPoints name).length = m + 1 := ⟨(cutPoints name).length - 1, by have := List.length_pos_iff.2 hC; omega⟩
  have hc : (cutPoints name).getD m 0 < name.length := by
   have h1 : m < (cutPoints name).length := by omega
   have := cut_lt h1
   rw [List.getD_eq_getElem?_getD, List.getElem?_eq_getElem h1]
   exact this
  have hx : (readDown site name (cutPoints name) (cutPoints name).length (read0 comp path name) name.length).w.ext.length = name.length - ((cutPoints name).getD m 0 + 1) := by
   rw [hm]
   show (readDown site name (cutPoints name) m _ _).w.ext.length = _
   rw [readDown_extA site name (cutPoints name) m _ _ (by omega), readWord_last site name (cutPoints name) (read0 comp path name) m name.length (by omega)]
   show ((name.drop _).take _).length = _
   rw [List.length_take, List.length_drop]; omega
  rw [hx]
  exact ⟨fun _ => by omega, by omega⟩
theorem pathOf_head (s : Str) (own : Bool) : (pathOf s own).head? = some 47 := by
 by_cases h : ownL s own = []
 ·rw [pathOf_empty h]; rfl
 ·rw [pathOf_some h]
  have h1 : (slashed (ownL s own)).head? = some 47 := by
   unfold slashed
   split
   ·assumption
   ·rfl
  unfold trimEnd
  split
  ·rename_i h2
   cases hs : slashed (ownL s own) with
   | nil => rw [hs] at h1; cases h1
   | cons x t =>
    rw [hs] at h1 h2
    cases t with
    | nil => simp at h2
    | cons y u => exact h1
  ·exact h1
structure WordsLike (s : Str) (own : Bool) (W : WordsM) : Prop where
 path : W.path = pathOf s own
 plen : W.path.length <= s.length + 1
 nlen : W.name.length <= W.path.length
 nend : W.nameEnd <= W.name.length
 ext : W.ids ≠ [] -> W.ext.length + 1 <= W.name.length
 xlen : W.ext.length <= W.name.length
 head : W.path.head? = some 47
theorem words_like (site : SiteM) (comp s : Str) (own : Bool) : WordsLike s own (wordsOf site comp s own) := by
 rw [wordsOf_eq]
 obtain ⟨h1, h2⟩ := readAll_keep site comp (pathOf s own) (lastPart (pathOf s own))
 obtain ⟨h3, h4⟩ := readAll_extA site comp (pathOf s own) (lastPart (pathOf s own))
 generalize readAll site comp (pathOf s own) (lastPart (pathOf s own)) = r at h1 h2 h3 h4
 have p1 : (wordsEnd site (lastPart (pathOf s own)) r).path = pathOf s own := h1
 have p2 : (wordsEnd site (lastPart (pathOf s own)) r).name = lastPart (pathOf s own) := h2
 have p3 : (wordsEnd site (lastPart (pathOf s own)) r).nameEnd = markEnd r.marks (lastPart (pathOf s own)).length := rfl
 have p4 : (wordsEnd site (lastPart (pathOf s own)) r).ids = r.w.ids := rfl
 have p5 : (wordsEnd site (lastPart (pathOf s own)) r).ext = r.w.ext := rfl
 exact ⟨p1, by rw [p1]; exact pathOf_len s own, by rw [p1, p2]; exact lastPart_len _, by rw [p3, p2]; exact markEnd_le _ _, by rw [p4, p5, p2]; exact h3, by rw [p5, p2]; exact h4, by rw [p1]; exact pathOf_head s own⟩

set_option maxHeartbeats 8000000 in
theorem c_specParse (site : SiteM) (comp s : Str) (vl vd vf vc : Value) (w : World) (hv : SiteAt w vl vd vf vc site) (hcl : comp.length <= 2147483647) (hsl : s.length <= 100000) :
  Calls Tryz.prog 45 #[.agg #[vl, vd, vf, vc], .string (B comp), .string (B s)] w fun e w' => ∃ v, e = .returned v /\ ToldAtN w.heap.size w' v (specParse site comp s) /\ Below w.heap.size w w' := by
 have HWO : Hid (∀ wx, SiteAt wx vl vd vf vc site -> Calls Tryz.prog 99 #[.agg #[vl, vd, vf, vc], .string (B comp), .string (B s), .bool false] wx fun e w' => ∃ v, e = .returned v /\ WordsAtN wx.heap.size w' v (wordsOf site comp s false) /\ Below wx.heap.size wx w') := fun wx h => c_WordsOf site comp s false vl vd vf vc wx h hcl hsl
 have HL := Lib.hid (words_like site comp s false)
 have HS0 : Hid (specParse site comp s = answers (wordsOf site comp s false)) := rfl
 generalize wordsOf site comp s false = W at HWO HL HS0
 generalize specParse site comp s = SP at HS0
 obtain ⟨obs, hobs⟩ : ∃ o : Obj, o = .cells #[vl, vd, vf, vc] 25 := ⟨_, rfl⟩
 obtain ⟨oz, hoz⟩ : ∃ o : Obj, o = .cells zeroCells 29 := ⟨_, rfl⟩
 have hB1 : Hid (Below w.heap.size w ((w.alloc obs).alloc oz)) := (Below_alloc w obs).trans ((Below_alloc (w.alloc obs) oz).mono (by simp))
 have hz1 : Hid (((w.alloc obs).alloc oz).heap.size = w.heap.size + 2) := by show _ = _; simp
 have HV1 : Hid (SiteAt ((w.alloc obs).alloc oz) vl vd vf vc site) := (hv.alloc obs).alloc oz
 have hrs : Hid (((w.alloc obs).alloc oz).heap[w.heap.size + 1]? = some (.cells zeroCells 29)) := by
  have := blk_new (w.alloc obs) oz
  rw [show (w.alloc obs).heap.size = w.heap.size + 1 by simp, hoz] at this
  rw [hoz]; exact this
 clear hv
 go_enter Tryz.func45, Tryz.ntmps45
 go_wp2_with fail
 rw [<- hobs, <- hoz]
 generalize (w.alloc obs).alloc oz = w1 at hB1 hz1 hrs HV1 |-
 refine (HWO.out _ HV1.out).mono ?_; rintro ex w2 ⟨v, rfl, ⟨vi, vu, vg, rfl, ⟨s1, n1⟩, ⟨s2, n2⟩, ⟨s3, n3⟩⟩, b2⟩
 obtain ⟨a1, c1, rfl⟩ : ∃ a c, vi = .slice a W.ids.length c := by obtain ⟨_, a, c, e, _⟩ := s1; exact ⟨a, c, e⟩
 obtain ⟨a2, c2, rfl⟩ : ∃ a c, vu = .slice a W.unknown.length c := by obtain ⟨_, a, c, e, _⟩ := s2; exact ⟨a, c, e⟩
 obtain ⟨a3, c3, rfl⟩ : ∃ a c, vg = .slice a W.langs.length c := by obtain ⟨_, a, c, e, _⟩ := s3; exact ⟨a, c, e⟩
 obtain ⟨VW, hVW⟩ : ∃ V, V = Value.agg (wcells W (.slice a1 W.ids.length c1) (.slice a2 W.unknown.length c2) (.slice a3 W.langs.length c3)).toArray := ⟨_, rfl⟩
 have HAN : Hid (∀ wx, Calls Tryz.prog 98 #[VW] wx fun e w' => e = .returned (toldVal (answers W) (.slice a3 W.langs.length c3) (.slice a1 W.ids.length c1) (.slice a2 W.unknown.length c2)) /\ Below wx.heap.size wx w') := fun wx => by
  rw [hVW]
  have := HL.out
  have h1 := this.plen
  have h2 := this.nlen
  have h3 := this.xlen
  exact c_Answers W a1 a2 a3 c1 c2 c3 wx (by omega) h2 this.nend this.ext (by omega) this.head
 rw [<- hVW]
 replace hVW := Lib.hid hVW
 have hB2 := Lib.hid (belowThen hB1.out b2 (Nat.le_refl _))
 have hrs2 := Lib.hid (blk_below hrs.out b2)
 have hz2 := hz1.out
 rw [hz2] at n1 n2 n3
 replace s1 := Lib.hid s1
 replace s2 := Lib.hid s2
 replace s3 := Lib.hid s3
 replace n1 := Lib.hid n1
 replace n2 := Lib.hid n2
 replace n3 := Lib.hid n3
 clear b2 hB1 hrs HV1 HWO hz1 hz2 HL hVW hobs hoz
 go_wp2_with fail
 refine (HAN.out _).mono ?_; rintro ex w3 ⟨rfl, b3⟩
 obtain ⟨cs, hcs, hsz, hone⟩ := told_cells (answers W) a3 a1 a2 W.langs.length W.ids.length W.unknown.length c3 c1 c2
 rw [hcs]
 replace hcs := Lib.hid hcs
 have hB3 := Lib.hid (belowThen hB2.out b3 (Nat.le_refl _))
 have hrs3 := Lib.hid (blk_below hrs2.out b3)
 have r1 := Lib.hid (s1.out.below b3)
 have r2 := Lib.hid (s2.out.below b3)
 have r3 := Lib.hid (s3.out.below b3)
 clear b3 hB2 hrs2 s1 s2 s3 HAN
 rename_i hK
 refine hK _ _ ?_
 refine wpList_store_row rfl 29 (.tmp 6) (.tmp 11) rfl (w.heap.size + 1) cs rfl rfl 29 _ hrs3.out (by rw [hsz]; kernel_rfl) (by rw [hsz]; rfl) hone ?_
 have hrow := Lib.hid (setRow_heap w3 (w.heap.size + 1) _ cs _ _ hrs3.out)
 have hbel : Hid (Below w.heap.size w (w3.setRow (w.heap.size + 1) cs)) := hB3.out.trans ⟨rfl, rfl, rfl, by simp, fun k hk => setRow_other _ _ _ _ (by omega)⟩
 have t1 := Lib.hid (r1.out.setRow (g := w.heap.size + 1) (cs := cs) n1.out (by omega))
 have t2 := Lib.hid (r2.out.setRow (g := w.heap.size + 1) (cs := cs) n2.out (by omega))
 have t3 := Lib.hid (r3.out.setRow (g := w.heap.size + 1) (cs := cs) n3.out (by omega))
 generalize w3.setRow _ _ = wf at hrow hbel t1 t2 t3 |-
 go_wp2_with fail
 refine bodyPost_ret (results_cell (w.heap.size + 1) rfl rfl (run_loadVar_row wf (w.heap.size + 1) _ 29 cs _ _ hrow.out Tryz.underlying29 rfl (by rw [hsz]; kernel_rfl))) rfl ?_
 rw [HS0.out]
 exact ⟨_, rfl, ⟨_, _, _, hcs.out.symm, ⟨t3.out, n3.out.mono (by omega)⟩, ⟨t1.out, n1.out.mono (by omega)⟩, ⟨t2.out, n2.out.mono (by omega)⟩⟩, hbel.out⟩

end Go.Proofs.YtjkecadfakjanaaGreatDoor
