/- The parser of a site made, and a new path: what lies in memory behind the calls. Condition: the site's languages are each there once. -/
import Derived.Test.YtjkecadfakjanaaGreatDoorParser
import Derived.Laws.EntriesVeiled
set_option maxRecDepth 100000
set_option linter.unusedVariables false
set_option linter.unusedSimpArgs false
namespace Go.Proofs.YtjkecadfakjanaaGreatDoor
open Go.RowKit Go.MapKept
attribute [local go_sem] B_extract B_toList B_append

/-- A parser of paths at block pb that knows a site. -/
structure PPAt (w : World) (pb mb fb sb : Nat) (vl vd vf vc : Value) (site : SiteM) : Prop where
 pp : w.heap[pb]? = some (.cells #[.map (some mb), .func (.func 94) #[] #[.pointer (some ⟨fb, 0, none⟩), .pointer (some ⟨sb, 0, none⟩)], .func (.func 95) #[] #[.pointer (some ⟨sb, 0, none⟩)],
  .func (.func 96) #[] #[.pointer (some ⟨fb, 0, none⟩), .pointer (some ⟨sb, 0, none⟩)]] 72 (0, 0))
 fn : w.heap[fb]? = some (.cells #[.func (.func 93) #[] #[]] 35 (0, 0))
 st : w.heap[sb]? = some (.cells #[vl, vd, vf, vc] 25 (0, 0))
 read : SiteAt w vl vd vf vc site
 map : MapAt w mb site.languages

theorem PPAt.below {w w' : World} {pb mb fb sb : Nat} {vl vd vf vc : Value} {site : SiteM} (h : PPAt w pb mb fb sb vl vd vf vc site) (hb : Below w.heap.size w w') : PPAt w' pb mb fb sb vl vd vf vc site :=
 ⟨blk_below h.pp hb, blk_below h.fn hb, blk_below h.st hb, h.read.below hb, h.map.below hb⟩

def nodupL : List Str -> Bool
 | [] => true
 | x :: r => !amongL r x && nodupL r
/-- No language stands twice. -/
def Once (l : List Str) : Prop := ∀ k (h : k < l.length), amongL (l.take k) l[k] = false

set_option maxHeartbeats 1000000 in
theorem c_parser (site : SiteM) (vl vd vf vc : Value) (w : World) (hs : SiteAt w vl vd vf vc site) (hn : Once site.languages) :
  Calls Tryz.prog 42 #[.agg #[vl, vd, vf, vc]] w fun e w' => ∃ pb mb fb sb, e = .returned (.pointer (some ⟨pb, 0, none⟩)) /\ PPAt w' pb mb fb sb vl vd vf vc site /\ w.heap.size <= pb /\ Below w.heap.size w w' := by
 have hmm := @run_makeMap Tryz.prog
 have HS := Lib.hid hs
 have HN := Lib.hid hn
 obtain ⟨_, a, cap, rfl, _⟩ := hs.l
 clear hs hn
 go_enter Tryz.func42, Tryz.ntmps42
 go_wp2_with fail
 have hS0 : Hid (Below (w.heap.size + 1) (w.alloc (.cells #[.slice a site.languages.length cap, vd, vf, vc] 25)) ((w.alloc (.cells #[.slice a site.languages.length cap, vd, vf, vc] 25)).alloc (.map #[] 0))) :=
  (Below.refl _ _).alloc (by simp) _
 have hM0 : Hid (MapAt ((w.alloc (.cells #[.slice a site.languages.length cap, vd, vf, vc] 25)).alloc (.map #[] 0)) (w.heap.size + 1) []) := by
  have := MapAt.made (w.alloc (.cells #[.slice a site.languages.length cap, vd, vf, vc] 25))
  show MapAt _ _ _
  simpa using this
 have hsite := Lib.hid (blk_new w (.cells #[.slice a site.languages.length cap, vd, vf, vc] 25))
 have hba := Lib.hid (Below_alloc w (.cells #[.slice a site.languages.length cap, vd, vf, vc] 25))
 have hszw : Hid ((w.alloc (.cells #[.slice a site.languages.length cap, vd, vf, vc] 25)).heap.size = w.heap.size + 1) := by show _ = _; simp
 generalize hw0 : w.alloc (.cells #[.slice a site.languages.length cap, vd, vf, vc] 25) = w0 at *
 go_loopw [11] (fun i wr => ∃ k : Nat, k <= site.languages.length /\ i = .int .i64 k /\ Below (w.heap.size + 1) w0 wr /\ MapAt wr (w.heap.size + 1) (site.languages.take k)) (fun i _ => site.languages.length - (intOf i).toNat)
 case atStart => exact ⟨0, Nat.zero_le _, rfl, hS0.out, by simpa using hM0.out⟩
 case round =>
  obtain ⟨k, hk, rfl, hb, hm⟩ := hrel
  have hb0 : Below w.heap.size w wr := by
   have := hszw.out
   exact hba.out.trans (hb.mono (by omega))
  by_cases hlt : k < site.languages.length
  ·obtain ⟨_, a', cap', ea, hc⟩ := (HS.out.below hb0).l
   obtain ⟨rfl, -, rfl⟩ := Value.slice.inj ea
   obtain ⟨b, off, rfl, hcell⟩ := hc k hlt
   obtain ⟨w1, r1, m1, b1, _⟩ := hm.update site.languages[k] k (HN.out k hlt)
   have HM1 : Hid (MapAt w1 (w.heap.size + 1) (site.languages.take (k + 1))) := by
    show MapAt _ _ _
    rw [List.take_succ_eq_append_getElem hlt]; exact m1
   have HB1 := Lib.hid (hb.trans b1)
   clear hc ea m1 b1 hb0 hb hm
   go_wp2_with fail
   go_roundw
   case rel => exact ⟨k + 1, by omega, by go_num, HB1.out, HM1.out⟩
   case measure => simp [intOf]; omega
  ·have HM : Hid (MapAt wr (w.heap.size + 1) site.languages) := by
    have := hm
    rw [List.take_of_length_le (by omega)] at this
    exact this
   have hbsz := hb.size
   have hblk : Hid (wr.heap[w.heap.size]? = some (.cells #[.slice a site.languages.length cap, vd, vf, vc] 25 (0, 0))) := by
    show _ = _
    rw [hb.block _ (by omega)]; exact hsite.out
   have HB0 := Lib.hid hb0
   have HSZ := hszw.out
   clear hm hb hb0
   go_wp2_with fail
   go_ret
   refine ⟨wr.heap.size + 1, w.heap.size + 1, wr.heap.size, w.heap.size, rfl, ?_, by have := HB0.out.size; omega, ?_⟩
   ·have b1 := Below_alloc wr (.cells #[.func (.func 93) #[] #[]] 35)
    have z1 : (wr.alloc (.cells #[.func (.func 93) #[] #[]] 35)).heap.size = wr.heap.size + 1 := by simp
    have n1 := blk_new wr (.cells #[.func (.func 93) #[] #[]] 35)
    generalize wr.alloc (.cells #[.func (.func 93) #[] #[]] 35) = w1 at b1 z1 n1 |-
    have b2 := belowThen b1 (Below_alloc w1 (.cells #[.map (some (w.heap.size + 1)), .func (.func 94) #[] #[.pointer (some ⟨wr.heap.size, 0, none⟩), .pointer (some ⟨w.heap.size, 0, none⟩)], .func (.func 95) #[] #[.pointer (some ⟨w.heap.size, 0, none⟩)],
     .func (.func 96) #[] #[.pointer (some ⟨wr.heap.size, 0, none⟩), .pointer (some ⟨w.heap.size, 0, none⟩)]] 72)) (Nat.le_refl _)
    have n2 := blk_new w1 (.cells #[.map (some (w.heap.size + 1)), .func (.func 94) #[] #[.pointer (some ⟨wr.heap.size, 0, none⟩), .pointer (some ⟨w.heap.size, 0, none⟩)], .func (.func 95) #[] #[.pointer (some ⟨w.heap.size, 0, none⟩)],
     .func (.func 96) #[] #[.pointer (some ⟨wr.heap.size, 0, none⟩), .pointer (some ⟨w.heap.size, 0, none⟩)]] 72)
    rw [z1] at n2
    exact ⟨n2, blk_old _ _ n1, blk_below hblk.out b2, (HS.out.below HB0.out).below b2, HM.out.below b2⟩
   ·exact (HB0.out.alloc HB0.out.size _).alloc (by have := HB0.out.size; simp; omega) _

/-! ### A path in memory -/
def i64 (n : Int) : Value := .int .i64 n

/-- What stands beside a path: the path in its own letters, and a row of places that the path's own writes leave alone. -/
structure Un where
 val : Value
 row : Option (Nat × Array Value) := none
def Un.kept (u : Un) (w : World) (vl : Value) : Prop := ∀ g cur, u.row = some (g, cur) -> w.heap[g]? = some (.cells cur 3 (0, 0)) /\ vl.ownBlock ≠ some g

/-- The cells of a path's fields: its lists of identifiers (vk), of unknown words (vu), of languages (vl), and the path in its own letters (un). -/
def pcells (p : PathS) (vk vu vl : Value) (un : Un) : Array Value :=
 #[.string (B p.s), i64 p.cLow, i64 p.cHigh, i64 p.sHigh, .string (B p.comp), i64 p.typ, vk, vu, i64 p.lang, i64 p.fmt, i64 p.kind, i64 p.lay, i64 p.baseof, i64 p.custom, vl, .slice none 0 0, .slice none 0 0,
  i64 p.pfmt, i64 p.pkind, i64 p.play, i64 p.nLow, i64 p.nHigh, i64 p.nameHigh, .bool p.disabled, .bool p.trim, un.val]

def pairCells (l : List (Nat × Nat)) : List Value := l.flatMap fun x => [i64 x.1, i64 x.2]
def natCells (l : List Nat) : List Value := l.map fun (x : Nat) => i64 x

/-- The path p lies at block b; its lists lie in blocks of the call's own from 'base' on. -/
structure PathAt (w : World) (base b : Nat) (p : PathS) (vk vu vl : Value) (un : Un) : Prop where
 blk : w.heap[b]? = some (.cells (pcells p vk vu vl un) 82 (0, 0))
 kn : w.ownsRow base 80 2 vk p.known.length (pairCells p.known)
 uk : w.ownsRow base 80 2 vu p.unknown.length (pairCells p.unknown)
 lg : w.ownsRow base 3 1 vl p.langs.length (natCells p.langs)
 ne : vk.ownBlock = none \/ vk.ownBlock ≠ vu.ownBlock
 kp : un.kept w vl
 lb : base <= b

theorem ownsRow_below {w w' : World} {base : Nat} {e : TypeId} {size : Nat} {v : Value} {n : Nat} {xs : List Value} (h : w.ownsRow base e size v n xs) (hb : Below w.heap.size w w') : w'.ownsRow base e size v n xs := by
 obtain ⟨h1, h2⟩ := h
 refine ⟨h1, ?_⟩
 rcases h2 with h2 | ⟨g, cap, cur, hv, hg, hh, r⟩
 ·exact .inl h2
 ·exact .inr ⟨g, cap, cur, hv, hg, blk_below hh hb, r⟩

theorem PathAt.below {w w' : World} {base b : Nat} {p : PathS} {vk vu vl : Value} {un : Un} (h : PathAt w base b p vk vu vl un) (hb : Below w.heap.size w w') : PathAt w' base b p vk vu vl un :=
 ⟨blk_below h.blk hb, ownsRow_below h.kn hb, ownsRow_below h.uk hb, ownsRow_below h.lg hb, h.ne, fun g cur e => ⟨blk_below (h.kp g cur e).1 hb, (h.kp g cur e).2⟩, h.lb⟩

def emptyPath (comp : Str) : PathS := { comp := comp }

set_option maxHeartbeats 1000000 in
theorem c_newPath (comp : Str) (pv : Value) (w : World) :
  Calls Tryz.prog 120 #[pv, .string (B comp)] w fun e w' => ∃ b, e = .returned (.pointer (some ⟨b, 0, none⟩)) /\ PathAt w' w.heap.size b (emptyPath comp) (.slice none 0 0) (.slice none 0 0) (.slice none 0 0) ⟨.pointer none, none⟩ /\ Below w.heap.size w w' := by
 go_enter Tryz.func120, Tryz.ntmps120
 go_wp2_with (go_at_call 148; go_in)
 go_end0
 go_wp2_with fail
 go_ret
 refine ⟨w.heap.size, rfl, ⟨?_, World.ownsRow_nil _ _ _ _, World.ownsRow_nil _ _ _ _, World.ownsRow_nil _ _ _ _, .inl rfl, fun g cur e => by (cases e), Nat.le_refl _⟩, ?_⟩
 ·exact blk_new w _
 ·exact Below_alloc _ _

end Go.Proofs.YtjkecadfakjanaaGreatDoor
