/- The parser of a site: the map of its languages, its three functions, and GetKindMain. Conditions: what a site in memory reads as; texts of ASCII for GetKindMain. -/
import Derived.Test.YtjkecadfakjanaaGreatDoorShort
import Derived.Test.YtjkecadfakjanaaGreatDoorLower
import Derived.MapKept
import Derived.Maps.Own
import Derived.Maps.OwnOps
import Derived.Carry
set_option maxRecDepth 100000
set_option linter.unusedVariables false
set_option linter.unusedSimpArgs false
namespace Go.Proofs.YtjkecadfakjanaaGreatDoor
open Go.RowKit Go.MapKept
attribute [local go_sem] B_extract B_toList B_append

/-! ### The map of languages -/
/-- Block r is a map of texts to numbers whose keys are those of L. -/
def MapAt (w : World) (r : Nat) (L : List Str) : Prop :=
 ∃ es clock, w.heap[r]? = some (.map es clock) /\ (∀ x ∈ es.toList, IsKey .string x.key) /\ (∀ x ∈ es.toList, ∃ n, x.val = .int .i64 n) /\ ∀ s : Str, (∃ x ∈ es.toList, x.key = .string (B s)) ↔ s ∈ L

theorem MapAt.below {w w' : World} {r : Nat} {L : List Str} (h : MapAt w r L) (hb : Below w.heap.size w w') : MapAt w' r L := by
 obtain ⟨es, clock, h1, h2⟩ := h
 exact ⟨es, clock, blk_below h1 hb, h2⟩
theorem MapAt.made (w : World) : MapAt (w.alloc (.map #[] 0)) w.heap.size [] := ⟨#[], 0, blk_new _ _, by simp, by simp, by simp⟩
theorem isKey_str (s : ByteArray) : IsKey .string (.string s) := by simp [IsKey]

theorem mem_among {l : List Str} {s : Str} : amongL l s = true ↔ s ∈ l := by
 unfold amongL
 rw [List.any_eq_true]
 constructor
 ·rintro ⟨x, hx, e⟩
  rw [beq_iff_eq] at e
  exact e ▸ hx
 ·intro h
  exact ⟨s, h, by simp⟩

theorem MapAt.lookup {w : World} {r : Nat} {L : List Str} (h : MapAt w r L) (s : Str) :
  ∃ n, (Instr.lookup 70 (.map (some r)) (.string (B s)) true).run Tryz.prog w = .ok (.tuple #[.int .i64 n, .bool (amongL L s)]) w := by
 obtain ⟨es, clock, hb, hk, hv, hL⟩ := h
 have hz : (zeroValue 3).run Tryz.prog w = .ok (.int .i64 0) w := by kernel_rfl
 have hm : Tryz.prog.underlying 70 = some (.map 9 3) := Tryz.underlying70
 rcases findNow_spec (isKey_str (B s)) es.toList 0 hk with ⟨h1, h2⟩ | ⟨j, e, h1, h2, h3⟩
 ·have hn : amongL L s = false := by
   cases ha : amongL L s with
   | false => rfl
   | true =>
    obtain ⟨x, hx, e⟩ := (hL s).2 (mem_among.1 ha)
    exact absurd e (h2 x hx)
  refine ⟨0, ?_⟩
  rw [hn]
  simp [Instr.lookup, run_underlying hm, Go.MapKept.run_getObj_map hb, run_checkKey Tryz.underlying9 (isKey_str (B s)), run_findKey Tryz.underlying9 h1, hz, Result.andThen]
 ·have he : e ∈ es.toList := List.mem_of_getElem? h2
  obtain ⟨n, hn⟩ := hv e he
  have hy : amongL L s = true := mem_among.2 ((hL s).1 ⟨e, he, h3⟩)
  refine ⟨n, ?_⟩
  rw [hy]
  simp [Instr.lookup, run_underlying hm, Go.MapKept.run_getObj_map hb, run_checkKey Tryz.underlying9 (isKey_str (B s)), run_findKey Tryz.underlying9 h1, hn, Result.andThen]

theorem MapAt.update {w : World} {r : Nat} {L : List Str} (h : MapAt w r L) (s : Str) (n : Int) (hs : amongL L s = false) :
  ∃ w', (Instr.mapUpdate 70 (.map (some r)) (.string (B s)) (.int .i64 n)).run Tryz.prog w = .ok () w' /\ MapAt w' r (L ++ [s]) /\ Below r w w' /\ ∀ b, b ≠ r -> w'.heap[b]? = w.heap[b]? := by
 obtain ⟨es, clock, hb, hk, hv, hL⟩ := h
 have hm : Tryz.prog.underlying 70 = some (.map 9 3) := Tryz.underlying70
 have hlt := lt_of_block hb
 have frame : ∀ o : Obj, Below r w { w with heap := w.heap.setIfInBounds r o } /\ ∀ b, b ≠ r -> ({ w with heap := w.heap.setIfInBounds r o } : World).heap[b]? = w.heap[b]? := fun o =>
  ⟨⟨rfl, rfl, rfl, by simp, fun k hk' => (heap_set hb).2 k (by omega)⟩, fun b hne => (heap_set hb).2 b hne⟩
 rcases findNow_spec (isKey_str (B s)) es.toList 0 hk with ⟨h1, h2⟩ | ⟨j, e, h1, h2, h3⟩
 ·refine ⟨_, by simp [Instr.mapUpdate, run_underlying hm, Go.MapKept.run_getObj_map hb, run_checkKey Tryz.underlying9 (isKey_str (B s)), run_findKey Tryz.underlying9 h1, Go.MapKept.run_setObj_map _ hb, Result.andThen]; rfl, ⟨_, _, (heap_set hb).1, ?_, ?_, ?_⟩, frame _⟩
  ·intro x hx
   simp only [Array.toList_push, List.mem_append, List.mem_singleton] at hx
   rcases hx with hx | rfl
   ·exact hk x hx
   ·exact isKey_str _
  ·intro x hx
   simp only [Array.toList_push, List.mem_append, List.mem_singleton] at hx
   rcases hx with hx | rfl
   ·exact hv x hx
   ·exact ⟨n, rfl⟩
  ·intro t
   simp only [Array.toList_push, List.mem_append, List.mem_singleton]
   constructor
   ·rintro ⟨x, hx | rfl, e⟩
    ·exact .inl ((hL t).1 ⟨x, hx, e⟩)
    ·exact .inr (B_inj (Value.string.inj e)).symm
   ·rintro (ht | rfl)
    ·obtain ⟨x, hx, e⟩ := (hL t).2 ht
     exact ⟨x, .inl hx, e⟩
    ·exact ⟨_, .inr rfl, rfl⟩
 ·have : amongL L s = true := mem_among.2 ((hL s).1 ⟨e, List.mem_of_getElem? h2, h3⟩)
  rw [this] at hs
  cases hs

/-! ### The parser's functions -/
set_option maxHeartbeats 1000000 in
theorem c_has (l : List Str) (s : Str) (v : Value) (w : World) (hv : StrsAt w v l) :
  Calls Tryz.prog 93 #[v, .string (B s)] w fun e w' => e = .returned (.bool (amongL l s)) /\ w = w' := by
 obtain ⟨h0, a, cap, rfl, hc⟩ := hv
 have HC := Lib.hid hc
 clear hc
 go_enter Tryz.func93, Tryz.ntmps93
 go_wp2
 go_loop [9] (fun i => ∃ k : Nat, k <= l.length /\ i = .int .i64 k /\ Hid (amongL l s = amongL (l.drop k) s)) (fun i => l.length - (intOf i).toNat)
 case atStart => exact ⟨0, Nat.zero_le _, rfl, rfl⟩
 case round =>
  obtain ⟨k, hk, rfl, hall⟩ := hrel
  by_cases hlt : k < l.length
  ·obtain ⟨b, off, rfl, hcell⟩ := HC.out k hlt
   cases he : (l[k] == s) with
   | true =>
    have HM := Lib.hid (among_hit hlt he)
    go_wp2
    go_ret
    exact ⟨ret_bool (by rw [hall.out, HM.out]), rfl⟩
   | false =>
    have HM := Lib.hid (among_miss hlt he)
    go_wp2
    go_round
    case rel => exact ⟨k + 1, by omega, by go_num, hall.out.trans HM.out⟩
    case measure => simp [intOf]; omega
  ·have HM : Hid (amongL (l.drop k) s = false) := by show _ = _; rw [List.drop_of_length_le (by omega)]; rfl
   go_wp2
   go_ret
   exact ⟨ret_bool (by rw [hall.out, HM.out]), rfl⟩

def fnHas : Value := .func (.func 93) #[] #[]

theorem c_isDisabled (site : SiteM) (s : Str) (vl vd vf vc : Value) (fb sb : Nat) (w : World) (hs : SiteAt w vl vd vf vc site)
  (hf : w.heap[fb]? = some (.cells #[.func (.func 93) #[] #[]] 35 (0, 0))) (hb : w.heap[sb]? = some (.cells #[vl, vd, vf, vc] 25 (0, 0))) :
  Calls Tryz.prog 94 #[.string (B s), .pointer (some ⟨fb, 0, none⟩), .pointer (some ⟨sb, 0, none⟩)] w fun e w' => e = .returned (.bool (amongL site.disabled s)) /\ w = w' := by
 have h1 : w.cell? ⟨fb, 0, none⟩ = some (.func (.func 93) #[] #[]) := by simp [World.cell?, hf]
 have h2 : w.cell? ⟨sb, 1, none⟩ = some vd := by simp [World.cell?, hb]
 have H := Lib.hid (c_has site.disabled s vd w hs.d)
 clear hf hb hs
 go_enter Tryz.func94, Tryz.ntmps94
 go_wp2_with fail
 refine H.out.mono ?_; rintro e w' ⟨rfl, rfl⟩
 go_wp2_with fail
 go_ret
 exact ⟨rfl, rfl⟩

theorem c_isContentExt (site : SiteM) (s : Str) (vl vd vf vc : Value) (fb sb : Nat) (w : World) (hs : SiteAt w vl vd vf vc site)
  (hf : w.heap[fb]? = some (.cells #[.func (.func 93) #[] #[]] 35 (0, 0))) (hb : w.heap[sb]? = some (.cells #[vl, vd, vf, vc] 25 (0, 0))) :
  Calls Tryz.prog 96 #[.string (B s), .pointer (some ⟨fb, 0, none⟩), .pointer (some ⟨sb, 0, none⟩)] w fun e w' => e = .returned (.bool (amongL site.content s)) /\ w = w' := by
 have h1 : w.cell? ⟨fb, 0, none⟩ = some (.func (.func 93) #[] #[]) := by simp [World.cell?, hf]
 have h2 : w.cell? ⟨sb, 3, none⟩ = some vc := by simp [World.cell?, hb]
 have H := Lib.hid (c_has site.content s vc w hs.c)
 clear hf hb hs
 go_enter Tryz.func96, Tryz.ntmps96
 go_wp2_with fail
 refine H.out.mono ?_; rintro e w' ⟨rfl, rfl⟩
 go_wp2_with fail
 go_ret
 exact ⟨rfl, rfl⟩

def isFmt (l : List (Str × Str)) (name ext : Str) : Bool := l.any fun f => f.1 == name && (ext == [] || f.2 == ext)
theorem isFmt_hit {l : List (Str × Str)} {n x : Str} {k : Nat} (h : k < l.length) (e : (l[k].1 == n && (x == [] || l[k].2 == x)) = true) : isFmt (l.drop k) n x = true := by
 rw [drop_cons h]; unfold isFmt; rw [List.any_cons, e]; rfl
theorem isFmt_miss {l : List (Str × Str)} {n x : Str} {k : Nat} (h : k < l.length) (e : (l[k].1 == n && (x == [] || l[k].2 == x)) = false) : isFmt (l.drop k) n x = isFmt (l.drop (k + 1)) n x := by
 rw [drop_cons h]; unfold isFmt; rw [List.any_cons, e]; rfl

set_option maxHeartbeats 1000000 in
theorem c_isFormat (site : SiteM) (n x : Str) (vl vd vf vc : Value) (sb : Nat) (w : World) (hs : SiteAt w vl vd vf vc site)
  (hb : w.heap[sb]? = some (.cells #[vl, vd, vf, vc] 25 (0, 0))) :
  Calls Tryz.prog 95 #[.string (B n), .string (B x), .pointer (some ⟨sb, 0, none⟩)] w fun e w' => e = .returned (.bool (isFormat site n x)) /\ Below w.heap.size w w' := by
 have h2 : w.cell? ⟨sb, 2, none⟩ = some vf := by simp [World.cell?, hb]
 have HS := Lib.hid hs.f
 have HR : Hid (isFormat site n x = isFmt site.formats n x) := rfl
 generalize isFormat site n x = R at HR |-
 obtain ⟨_, a, cap, rfl, _⟩ := hs.f
 generalize site.formats = l at HS HR h2
 clear hs hb
 go_enter Tryz.func95, Tryz.ntmps95
 go_wp2_with fail
 clear h2
 go_loopw [11] (fun i wr => ∃ k : Nat, k <= l.length /\ i = .int .i64 k /\ Hid (R = isFmt (l.drop k) n x) /\ Below w.heap.size w wr) (fun i _ => l.length - (intOf i).toNat)
 case atStart => exact ⟨0, Nat.zero_le _, rfl, HR.out, Below.refl _ _⟩
 case round =>
  obtain ⟨k, hk, rfl, hall, hb⟩ := hrel
  by_cases hlt : k < l.length
  ·obtain ⟨_, a', cap', ea, hc⟩ := HS.out.below hb
   obtain ⟨rfl, -, rfl⟩ := Value.slice.inj ea
   obtain ⟨b, off, rfl, hcell, hcell2⟩ := hc k hlt
   clear hc ea
   cases he : (l[k].1 == n) with
   | true =>
    cases hx : (x == []) with
    | true =>
     have HM := Lib.hid (isFmt_hit (n := n) (x := x) hlt (by rw [he, hx]; rfl))
     have hx' : x.isEmpty = true := by simpa using hx
     go_wp2_with fail
     go_ret
     exact ⟨ret_bool (by rw [hall.out, HM.out]), hb.alloc hb.size _⟩
    | false =>
     have hx' : x.isEmpty = false := by simpa using hx
     cases he2 : (l[k].2 == x) with
     | true =>
      have HM := Lib.hid (isFmt_hit (n := n) (x := x) hlt (by rw [he, hx, he2]; rfl))
      go_wp2_with fail
      go_ret
      exact ⟨ret_bool (by rw [hall.out, HM.out]), hb.alloc hb.size _⟩
     | false =>
      have HM := Lib.hid (isFmt_miss (n := n) (x := x) hlt (by rw [he, hx, he2]; rfl))
      go_wp2_with fail
      go_roundw
      case rel => exact ⟨k + 1, by omega, by go_num, hall.out.trans HM.out, hb.alloc hb.size _⟩
      case measure => simp [intOf]; omega
   | false =>
    have HM := Lib.hid (isFmt_miss (n := n) (x := x) hlt (by rw [he]; rfl))
    go_wp2_with fail
    go_roundw
    case rel => exact ⟨k + 1, by omega, by go_num, hall.out.trans HM.out, hb.alloc hb.size _⟩
    case measure => simp [intOf]; omega
  ·have HM : Hid (isFmt (l.drop k) n x = false) := by show _ = _; rw [List.drop_of_length_le (by omega)]; rfl
   go_wp2_with fail
   go_ret
   exact ⟨ret_bool (by rw [hall.out, HM.out]), hb⟩

/-! ### The kinds of pages -/
def MapS (w : World) (r : Nat) (kv : List (Str × Str)) : Prop :=
 ∃ es clock, w.heap[r]? = some (.map es clock) /\ (∀ x ∈ es.toList, IsKey .string x.key) /\ es.toList.map (fun x => (x.key, x.val)) = kv.map fun p => (Value.string (B p.1), Value.string (B p.2))
theorem MapS.made (w : World) : MapS (w.alloc (.map #[] 0)) w.heap.size [] := ⟨#[], 0, blk_new _ _, by simp, by simp⟩
theorem MapS.below {w w' : World} {r : Nat} {kv : List (Str × Str)} (h : MapS w r kv) (hb : Below w.heap.size w w') : MapS w' r kv := by
 obtain ⟨es, clock, h1, h2⟩ := h
 exact ⟨es, clock, blk_below h1 hb, h2⟩
theorem MapS.update {w : World} {r : Nat} {kv : List (Str × Str)} (h : MapS w r kv) (s v : Str) (hs : (kv.map (·.1)).contains s = false) :
  ∃ w', (Instr.mapUpdate 138 (.map (some r)) (.string (B s)) (.string (B v))).run Tryz.prog w = .ok () w' /\ MapS w' r (kv ++ [(s, v)]) /\ Below r w w' := by
 obtain ⟨es, clock, hb, hk, hkv⟩ := h
 have hm : Tryz.prog.underlying 138 = some (.map 9 9) := Tryz.underlying138
 have hlt := lt_of_block hb
 have frame : ∀ o : Obj, Below r w { w with heap := w.heap.setIfInBounds r o } := fun o => ⟨rfl, rfl, rfl, by simp, fun k hk' => (heap_set hb).2 k (by omega)⟩
 rcases findNow_spec (isKey_str (B s)) es.toList 0 hk with ⟨h1, h2⟩ | ⟨j, e, h1, h2, h3⟩
 ·refine ⟨_, by simp [Instr.mapUpdate, run_underlying hm, Go.MapKept.run_getObj_map hb, run_checkKey Tryz.underlying9 (isKey_str (B s)), run_findKey Tryz.underlying9 h1, Go.MapKept.run_setObj_map _ hb, Result.andThen]; rfl, ⟨_, _, (heap_set hb).1, ?_, ?_⟩, frame _⟩
  ·intro x hx
   simp only [Array.toList_push, List.mem_append, List.mem_singleton] at hx
   rcases hx with hx | rfl
   ·exact hk x hx
   ·exact isKey_str _
  ·simp [hkv]
 ·have he : e ∈ es.toList := List.mem_of_getElem? h2
  have : (e.key, e.val) ∈ kv.map fun p => (Value.string (B p.1), Value.string (B p.2)) := by rw [<- hkv]; exact List.mem_map.2 ⟨e, he, rfl⟩
  obtain ⟨p, hp, ep⟩ := List.mem_map.1 this
  have : p.1 = s := B_inj (Value.string.inj ((Prod.mk.inj ep).1.trans h3))
  have : (kv.map (·.1)).contains s = true := by rw [List.contains_iff_mem]; exact List.mem_map.2 ⟨p, hp, this⟩
  rw [this] at hs; cases hs

def lookKV : List (Str × Str) -> Str -> Str
 | [], _ => []
 | p :: r, s => if s = p.1 then p.2 else lookKV r s

theorem findNow_kv (s : Str) : ∀ (l : List MapEntry) (kv : List (Str × Str)) (i : Nat), l.map (fun x => (x.key, x.val)) = kv.map (fun p => (Value.string (B p.1), Value.string (B p.2))) ->
  (Instr.findNow .string (.string (B s)) l i = some none /\ lookKV kv s = []) \/ ∃ j, Instr.findNow .string (.string (B s)) l i = some (some (j, .string (B (lookKV kv s))))
 | [], kv, i, h => by
  cases kv with
  | nil => exact .inl ⟨rfl, rfl⟩
  | cons p r => simp at h
 | e :: es, kv, i, h => by
  cases kv with
  | nil => simp at h
  | cons p r =>
   simp only [List.map_cons, List.cons.injEq, Prod.mk.injEq] at h
   obtain ⟨⟨hk, hv⟩, hr⟩ := h
   by_cases e1 : s = p.1
   ·right
    subst e1
    refine ⟨i, ?_⟩
    have : (B p.1 == B p.1) = true := (bytes_beq _ _).2 rfl
    simp [Instr.findNow, Instr.sameNow, hk, hv, this, lookKV]
   ·have hb : (B s == B p.1) = false := by
     cases hx : (B s == B p.1) with
     | false => rfl
     | true => exact absurd (B_inj ((bytes_beq _ _).1 hx)) e1
    rcases findNow_kv s es r (i + 1) hr with ⟨h1, h2⟩ | ⟨j, h1⟩
    ·exact .inl ⟨by simp [Instr.findNow, Instr.sameNow, hk, hb, h1], by simp [lookKV, e1, h2]⟩
    ·exact .inr ⟨j, by simp [Instr.findNow, Instr.sameNow, hk, hb, h1, lookKV, e1]⟩

theorem MapS.lookup {w : World} {r : Nat} {kv : List (Str × Str)} (h : MapS w r kv) (s : Str) :
  (Instr.lookup 138 (.map (some r)) (.string (B s)) false).run Tryz.prog w = .ok (.string (B (lookKV kv s))) w := by
 obtain ⟨es, clock, hb, hk, hkv⟩ := h
 have hz : (zeroValue 9).run Tryz.prog w = .ok (.string (B [])) w := by kernel_rfl
 have hm : Tryz.prog.underlying 138 = some (.map 9 9) := Tryz.underlying138
 rcases findNow_kv s es.toList kv 0 hkv with ⟨h1, h2⟩ | ⟨j, h1⟩
 ·rw [h2]
  simp [Instr.lookup, run_underlying hm, Go.MapKept.run_getObj_map hb, run_checkKey Tryz.underlying9 (isKey_str (B s)), run_findKey Tryz.underlying9 h1, hz, Result.andThen]
 ·simp [Instr.lookup, run_underlying hm, Go.MapKept.run_getObj_map hb, run_checkKey Tryz.underlying9 (isKey_str (B s)), run_findKey Tryz.underlying9 h1, Result.andThen]

def kindKV : List (Str × Str) := [([112, 97, 103, 101], [112, 97, 103, 101]), ([104, 111, 109, 101], [104, 111, 109, 101]), ([115, 101, 99, 116, 105, 111, 110], [115, 101, 99, 116, 105, 111, 110]), ([116, 97, 120, 111, 110, 111, 109, 121], [116, 97, 120, 111, 110, 111, 109, 121]), ([116, 101, 114, 109], [116, 101, 114, 109]), ([116, 97, 120, 111, 110, 111, 109, 121, 116, 101, 114, 109], [116, 97, 120, 111, 110, 111, 109, 121])]
theorem kindKV_look (s : Str) : lookKV kindKV (lowerL s) = kindOf s := rfl

set_option maxHeartbeats 1000000 in
theorem c_kindMap (w : World) :
  Calls Tryz.prog 176 #[] w fun e w' => e = .returned (.map (some w.heap.size)) /\ Below w.heap.size w w' /\ MapS w' w.heap.size kindKV := by
 have hmm := @run_makeMap Tryz.prog
 have m0 := MapS.made w
 obtain ⟨w1, r1, m1, b1⟩ := m0.update [112, 97, 103, 101] [112, 97, 103, 101] (by decide)
 obtain ⟨w2, r2, m2, b2⟩ := m1.update [104, 111, 109, 101] [104, 111, 109, 101] (by decide)
 obtain ⟨w3, r3, m3, b3⟩ := m2.update [115, 101, 99, 116, 105, 111, 110] [115, 101, 99, 116, 105, 111, 110] (by decide)
 obtain ⟨w4, r4, m4, b4⟩ := m3.update [116, 97, 120, 111, 110, 111, 109, 121] [116, 97, 120, 111, 110, 111, 109, 121] (by decide)
 obtain ⟨w5, r5, m5, b5⟩ := m4.update [116, 101, 114, 109] [116, 101, 114, 109] (by decide)
 obtain ⟨w6, r6, m6, b6⟩ := m5.update [116, 97, 120, 111, 110, 111, 109, 121, 116, 101, 114, 109] [116, 97, 120, 111, 110, 111, 109, 121] (by decide)
 have M := Lib.hid m6
 have BB := Lib.hid ((((((Below_alloc w (.map #[] 0)).trans b1).trans b2).trans b3).trans b4).trans (b5.trans b6))
 clear m0 m1 m2 m3 m4 m5 m6 b1 b2 b3 b4 b5 b6
 go_enter Tryz.func176, Tryz.ntmps176
 go_wp2
 go_ret
 exact ⟨rfl, BB.out, M.out⟩

theorem toLower_calls (l : Str) (w : World) (hl : l.length <= 70368744177664) (ha : asciiL l = true) :
  Calls Tryz.prog 138 #[.string (B l)] w fun e w' => e = .returned (.string (B (lowerL l))) /\ Below w.heap.size w w' := by
 have := Tryz.strings_ToLower_ascii (B l) w (by rw [B_size]; omega) (fun j b hb => asciiL_get ha j b (by rw [B_data] at hb; exact hb))
 rw [B_data] at this
 exact this

theorem c_getKind (s : Str) (w : World) (hl : s.length <= 70368744177664) (ha : asciiL s = true) :
  Calls Tryz.prog 166 #[.string (B s)] w fun e w' => e = .returned (.string (B (kindOf s))) /\ Below w.heap.size w w' := by
 have H := Lib.hid (fun w => toLower_calls s w hl ha)
 have HR := Lib.hid (kindKV_look s)
 clear ha
 go_enter Tryz.func166, Tryz.ntmps166
 go_wp2_with fail
 refine (c_kindMap _).mono ?_; rintro e w1 ⟨rfl, b1, m1⟩
 go_wp2_with fail
 refine (H.out _).mono ?_; rintro e w2 ⟨rfl, b2⟩
 have hlook := (m1.below b2).lookup (lowerL s)
 rw [HR.out] at hlook
 go_wp2_with fail
 go_ret
 exact ⟨rfl, belowThen b1 b2 (Nat.le_refl _)⟩

end Go.Proofs.YtjkecadfakjanaaGreatDoor
