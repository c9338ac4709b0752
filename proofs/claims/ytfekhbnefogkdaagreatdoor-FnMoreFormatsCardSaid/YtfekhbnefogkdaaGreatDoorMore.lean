/- The laws' strange and zzFits4 walked, and a list of formats appended to an empty one, a format behind it. Conditions: texts and lists that fit into the platform's addresses. -/
import Derived.Test.YtfekhbnefogkdaaGreatDoorTurn
import Derived.Test.YtfekhbnefogkdaaGreatDoorHelpA
import Derived.Test.YtfekhbnefogkdaaGreatDoorLow
import Derived.Test.YtfekhbnefogkdaaGreatDoorTwice
import Derived.Deep.RegionHeld3
import Derived.Deep.AppendLies
set_option maxRecDepth 100000
set_option linter.unusedVariables false
set_option linter.unusedSimpArgs false
namespace Go.Proofs.YtfekhbnefogkdaaGreatDoor
open Go.RowKit
attribute [local go_sem] B_extract B_toList B_append

theorem lower_norm (s : Str) : Lib.toLowerA (normL s) = normL s := by
 have hb : ∀ c : UInt8, Lib.lowerB (normB (Lib.lowerB c)) = normB (Lib.lowerB c) := fun c => by
  have h : ∀ n : Fin 256, Lib.lowerB (normB (Lib.lowerB (UInt8.ofNat n))) = normB (Lib.lowerB (UInt8.ofNat n)) := by decide +kernel
  have := h ⟨c.toNat, c.toNat_lt⟩
  simpa using this
 unfold normL Lib.toLowerA
 simp only [List.map_map]
 apply List.map_congr_left
 intro c _
 exact hb c
theorem norm_word {u : Str} (h : siteWord u = true) : normL u = u := by
 have hb : ∀ c : UInt8, siteWordB c = true -> normB (Lib.lowerB c) = c := fun c => by
  have h : ∀ n : Fin 256, siteWordB (UInt8.ofNat n) = true -> normB (Lib.lowerB (UInt8.ofNat n)) = UInt8.ofNat n := by decide +kernel
  have := h ⟨c.toNat, c.toNat_lt⟩
  simpa using this
 have hall : ∀ c ∈ u, siteWordB c = true := by
  unfold siteWord at h
  simp only [Bool.and_eq_true, List.all_eq_true] at h
  exact h.1.1
 unfold normL Lib.toLowerA
 rw [List.map_map]
 conv => rhs; rw [<- List.map_id u]
 apply List.map_congr_left
 intro c hc
 exact hb c (hall c hc)
def strangeL (s u : Str) : Bool := !u.isEmpty && !holdsL (normL s) (normL u)

set_option maxHeartbeats 2000000 in
theorem c_strange (s u : Str) (w : World) (hs : s.length <= 2147483647) (hu : u.length <= 2147483647) :
  Calls Tryz.prog 16 #[.string (B s), .string (B u)] w fun e w' => e = .returned (.bool (strangeL s u)) /\ Below w.heap.size w w' := by
 by_cases h0 : u = []
 ·subst h0
  go_enter Tryz.func16, Tryz.ntmps16
  go_wp2_with fail
  go_ret
  exact ⟨rfl, Below.refl _ _⟩
 have he : u.isEmpty = false := List.isEmpty_eq_false_iff.2 h0
 have HN : Hid (∀ x : Str, x.length <= 2147483647 -> ∀ wx, Calls Tryz.prog 43 #[.string (B x)] wx fun e w' => e = .returned (.string (B (normL x))) /\ Below wx.heap.size wx w') := fun x hx wx => c_Normalize x wx (by omega)
 have HS : Hid (∀ x : Str, x.length <= 2147483647 -> ∀ wx, Calls Tryz.prog 42 #[.string (B (normL x))] wx fun e w' => e = .returned (.string (B (normL x))) /\ Below wx.heap.size wx w') := fun x hx wx => by
  have h := c_small (normL x) wx (by rw [normL_len]; omega)
  rw [lower_norm] at h
  exact h
 have HH : Hid (∀ wx, Calls Tryz.prog 41 #[.string (B (normL s)), .string (B (normL u))] wx fun e w' => e = .returned (.bool (holdsL (normL s) (normL u))) /\ wx = w') := fun wx => c_lholds _ _ wx (by rw [normL_len]; omega) (by rw [normL_len]; omega)
 have HN1 := Lib.hid (HN.out s hs)
 have HN2 := Lib.hid (HN.out u hu)
 have HS1 := Lib.hid (HS.out s hs)
 have HS2 := Lib.hid (HS.out u hu)
 have HR : Hid (strangeL s u = !holdsL (normL s) (normL u)) := by show _ = _; unfold strangeL; rw [he]; rfl
 clear HN HS h0 hs hu
 generalize strangeL s u = R at HR |-
 generalize holdsL (normL s) (normL u) = Q at HH HR
 generalize normL s = ns at HN1 HS1 HH
 generalize normL u = nu at HN2 HS2 HH
 go_enter Tryz.func16, Tryz.ntmps16
 go_wp2_with fail
 refine (HN1.out _).mono ?_; rintro e w1 ⟨rfl, b1⟩
 have B1 := Lib.hid b1
 clear b1
 go_wp2_with fail
 refine (HS1.out _).mono ?_; rintro e w2 ⟨rfl, b2⟩
 have B2 := Lib.hid (belowThen B1.out b2 (Nat.le_refl _))
 clear b2 B1
 go_wp2_with fail
 refine (HN2.out _).mono ?_; rintro e w3 ⟨rfl, b3⟩
 have B3 := Lib.hid (belowThen B2.out b3 (Nat.le_refl _))
 clear b3 B2
 go_wp2_with fail
 refine (HS2.out _).mono ?_; rintro e w4 ⟨rfl, b4⟩
 have B4 := Lib.hid (belowThen B3.out b4 (Nat.le_refl _))
 clear b4 B3
 go_wp2_with fail
 refine (HH.out _).mono ?_; rintro e w5 ⟨rfl, rfl⟩
 go_wp2_with fail
 go_ret
 exact ⟨ret_bool (by rw [HR.out]), B4.out⟩

/-! ### append of append -/
theorem fmts_news {w : World} {b off : Nat} {F : List (Str × Str)} (h : ∀ i (h : i < F.length), w.cell? ⟨b, off + i * 2, none⟩ = some (.string (B F[i].1)) /\ w.cell? ⟨b, off + i * 2 + 1, none⟩ = some (.string (B F[i].2))) :
  ∀ j u, (fmtCells F)[j]? = some u -> w.cell? ((⟨b, off, none⟩ : Addr).add j) = some u := by
 intro j u hj
 have hjl : j < (fmtCells F).length := by
  rcases Nat.lt_or_ge j (fmtCells F).length with q | q
  ·exact q
  ·rw [List.getElem?_eq_none q] at hj; cases hj
 rw [fmtCells_len] at hjl
 have hi : j / 2 < F.length := by omega
 obtain ⟨c1, c2⟩ := h (j / 2) hi
 obtain ⟨g1, g2⟩ := fmtCells_get F (j / 2) hi
 have ha : ∀ k, (⟨b, off, none⟩ : Addr).add k = ⟨b, off + k, none⟩ := fun k => by unfold Addr.add; split <;> simp_all
 rw [ha]
 rcases Nat.mod_two_eq_zero_or_one j with q | q
 ·have e : j / 2 * 2 = j := by omega
  rw [e] at g1 c1
  rw [g1] at hj
  cases hj
  exact c1
 ·have e : j / 2 * 2 + 1 = j := by omega
  rw [e] at g2
  rw [g2] at hj
  cases hj
  rw [show off + j = off + j / 2 * 2 + 1 by omega]
  exact c2
theorem fmt_one (F : List (Str × Str)) : ∀ u ∈ fmtCells F, u.oneCell' = true := by
 intro u hu
 unfold fmtCells at hu
 obtain ⟨x, _, hx⟩ := List.mem_flatMap.1 hu
 simp at hx
 rcases hx with rfl | rfl <;> rfl
theorem app_fmts {w : World} {base g : Nat} (hown : w.ownsRow base 36 2 (.slice (some ⟨g, 0, none⟩) 0 0) 0 []) {vf : Value} {F : List (Str × Str)} (hF : FmtsAt w vf F) (hl : F.length <= 2147483647) (hb : base <= w.heap.size) :
  ∃ v' w', (Builtin.append_ #[23, 23] 23 #[.slice (some ⟨g, 0, none⟩) 0 0, vf]).run Tryz.prog w = .ok v' w' /\ w'.ownsRow base 36 2 v' F.length (fmtCells F) /\ w.grownBy w' (some g) /\ (v'.ownBlock = some g \/ v'.ownBlock = some w.heap.size) := by
 obtain ⟨iF, if0, fz0, fz1, fz2⟩ := info_split Tryz.infoFmt
 have hmx : F.length <= maxLen := by show F.length <= 9223372036854775807; omega
 obtain ⟨_, a, c, rfl, hc⟩ := hF
 rcases a with _ | ⟨b, off, sp⟩
 ·have h0 : F = [] := by
   rcases F with _ | ⟨x, t⟩
   ·rfl
   ·obtain ⟨b, off, e, _⟩ := hc 0 (by simp)
    cases e
  subst h0
  refine ⟨.slice (some ⟨g, 0, none⟩) 0 0, w, ?_, hown, ⟨rfl, rfl, rfl, Nat.le_refl _, fun _ _ _ => rfl⟩, .inl rfl⟩
  kernel_rfl
 ·have hsp : F = [] \/ sp = none := by
   rcases F with _ | ⟨x, t⟩
   ·exact .inl rfl
   ·obtain ⟨b', off', e, _⟩ := hc 0 (by simp)
    cases e
    exact .inr rfl
  obtain ⟨v', w', hr, h2, h3, _, h5⟩ := run_append_own_at (P := Tryz.prog) w base 23 23 36 iF _ 2 32 Tryz.underlying23 if0 fz0 fz1 fz2 rfl (by decide) (.slice (some ⟨g, 0, none⟩) 0 0) 0 [] hown ⟨b, off, sp⟩ F.length c (fmtCells F) (by rw [fmtCells_len]) (fun j u hj => by
   rcases hsp with rfl | rfl
   ·cases hj
   ·exact fmts_news (fun i hi => by obtain ⟨b', off', e, c1, c2⟩ := hc i hi; cases e; exact ⟨c1, c2⟩) j u hj) (fmt_one F) (by omega) (by omega) hb
  rw [Nat.zero_add, List.nil_append] at h2
  exact ⟨v', w', hr, h2, h3, h5⟩
theorem app_one {w : World} {base g5 : Nat} {v : Value} {F : List (Str × Str)} {x y : Str} (hown : w.ownsRow base 36 2 v F.length (fmtCells F)) (h5 : w.heap[g5]? = some (.cells #[.string (B x), .string (B y)] 36 (0, 0))) (hl : F.length <= 2147483647) (hb : base <= w.heap.size) :
  ∃ g cap w', (Builtin.append_ #[23, 23] 23 #[v, .slice (some ⟨g5, 0, none⟩) 1 1]).run Tryz.prog w = .ok (.slice (some ⟨g, 0, none⟩) (F.length + 1) cap) w' /\ w'.ownsRow base 36 2 (.slice (some ⟨g, 0, none⟩) (F.length + 1) cap) (F.length + 1) (fmtCells (F ++ [(x, y)])) /\ w.grownBy w' v.ownBlock := by
 obtain ⟨iF, if0, fz0, fz1, fz2⟩ := info_split Tryz.infoFmt
 have hmx : F.length + 1 <= maxLen := by show F.length + 1 <= 9223372036854775807; omega
 obtain ⟨g, cap, w', hr, h2, h3, _, _⟩ := run_append_lies (P := Tryz.prog) w 23 23 base 36 iF _ 2 32 Tryz.underlying23 if0 fz0 fz1 fz2 rfl (by decide) v F.length (fmtCells F) hown ⟨g5, 0, none⟩ 1 1 [.string (B x), .string (B y)] rfl (World.news_of_block h5) (by simp [Value.oneCell']) (by decide) hmx (by omega) hb _ rfl
 rw [fmtCells_add]
 exact ⟨g, cap, w', hr, h2, h3⟩

/-! ### The operations over whatever frame -/
theorem wpOp_run' {P : Program} {ops : Array Oper} {Q : Exit -> Act -> World -> Prop} {i : Nat} {o : Oper} {a : Act} {w : World} {K : Act -> World -> Prop} (ho : ops[i]? = some o) (hg : o.guard = none) (v : Value) (w' : World)
  (hrun : (execOp a.eval o).run P w = .ok (.value v) w') (h : K (a.put o.dst v) w') : wpOp P ops Q i K a w := by
 refine wpOp_step ho fun K' hK => ?_
 rw [if_pos (by simp only [Region.wanted, hg])]
 unfold Oper.wp
 rw [hrun, Oper.upon_value]
 exact hK _ _ h
theorem wpOp_app {P : Program} {ops : Array Oper} {Q : Exit -> Act -> World -> Prop} {i : Nat} {o : Oper} {a : Act} {w : World} {K : Act -> World -> Prop} (ho : ops[i]? = some o) (hg : o.guard = none) (s x : Operand) (t : TypeId)
  (hop : o.op = .call { callee := .builtin .append, args := #[s, x], argTypes := #[t, t] }) (v u : Value) (hs : a.eval s = v) (hx : a.eval x = u) {v' : Value} {w' : World}
  (hr : (Builtin.append_ #[t, t] o.type #[v, u]).run P w = .ok v' w') (h : K (a.put o.dst v') w') : wpOp P ops Q i K a w := by
 refine wpOp_step ho fun K' hK => ?_
 rw [if_pos (by simp only [Region.wanted, hg])]
 unfold Oper.wp execOp
 simp only [hop, resolve, invoke, builtin, Sem.run_bind, Sem.run_pure, Result.andThen_ok, List.map_toArray, List.map_cons, List.map_nil, hs, hx, hr]
 exact hK _ _ h
theorem run_none {ρ : Operand -> Value} {w : World} {dst : Option Tmp} {ty : TypeId} {pos : String} {after : Array Edge} {guard : Option (Nat × Bool)} :
  (execOp ρ { dst, op := .buildSlice 23 0 #[], type := ty, pos, after, guard }).run Tryz.prog w = .ok (.value (.slice (some ⟨w.heap.size, 0, none⟩) 0 0)) (w.alloc (.cells #[] 36)) := by
 kernel_rfl
theorem run_one {ρ : Operand -> Value} {w : World} {dst : Option Tmp} {ty : TypeId} {pos : String} {after : Array Edge} {guard : Option (Nat × Bool)} {x : Tmp} {p q : ByteArray} (hx : ρ (.tmp x) = .agg #[.string p, .string q]) :
  (execOp ρ { dst, op := .buildSlice 23 1 #[(0, .tmp x)], type := ty, pos, after, guard }).run Tryz.prog w = .ok (.value (.slice (some ⟨w.heap.size, 0, none⟩) 1 1)) (w.alloc (.cells #[.string p, .string q] 36)) := by
 have h : (Instr.buildSlice 23 1 #[(0, .agg #[.string p, .string q])]).run Tryz.prog w = .ok (.slice (some ⟨w.heap.size, 0, none⟩) 1 1) (w.alloc (.cells #[.string p, .string q] 36)) := by kernel_rfl
 unfold execOp
 simp only [List.map_toArray, List.map_cons, List.map_nil, hx, Sem.run_bind, h, Result.andThen_ok, Sem.run_pure]

/-- While the list is made: nothing older than w turns; the site's copy is the first new block. -/
structure Ap (w wx : World) (vs : Array Value) : Prop where
 bel : Below w.heap.size w wx
 blk : wx.heap[w.heap.size]? = some (.cells vs 25 (0, 0))
section
variable {w wx : World} {vs : Array Value}
theorem Ap.lt (h : Ap w wx vs) : w.heap.size + 1 <= wx.heap.size := (Array.getElem?_eq_some_iff.1 h.blk).1
theorem Ap.alloc (h : Ap w wx vs) (o : Obj) : Ap w (wx.alloc o) vs := ⟨belowThen h.bel (Below_alloc wx o) (Nat.le_refl _), blk_old wx o h.blk⟩
theorem Ap.grown (h : Ap w wx vs) {w' : World} {row : Option Nat} (hg : wx.grownBy w' row) (hr : ∀ k, row = some k -> w.heap.size + 1 <= k) : Ap w w' vs := by
 refine ⟨Below.grown h.bel hg (by have := h.bel.size; omega) (fun k hk => by have := hr k hk; omega), ?_⟩
 rw [hg.block _ (by have := h.lt; omega) (fun q => by have := hr _ q.symm; omega)]
 exact h.blk
theorem Ap.set (h : Ap w wx vs) (k : Nat) (v : Value) (vs' : Array Value) (he : vs.setIfInBounds k v = vs') : Ap w (wx.setCell ⟨w.heap.size, k, none⟩ v) vs' := ⟨h.bel.setCell (Nat.le_refl _) v, by rw [blk_set v h.blk, he]⟩
end
theorem fmts_set {w wx : World} {vs : Array Value} (hp : Ap w wx vs) {v : Value} {F : List (Str × Str)} (h : wx.ownsRow (w.heap.size + 1) 36 2 v F.length (fmtCells F)) (hl : F.length <= 140737488355328) (k : Nat) (x : Value) : FmtsAt (wx.setCell ⟨w.heap.size, k, none⟩ x) v F := by
 refine (own_fmtsT h hl (b := w.heap.size) (Nat.lt_succ_self _)).1 _ (Far.two ⟨by simp [World.setCell], fun g hg hn => heap_set_far _ hn⟩)

end Go.Proofs.YtfekhbnefogkdaaGreatDoor
