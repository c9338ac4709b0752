/- The site among a law's arguments, opened: from its reading as data to its lists in memory. Conditions: a site whose every text and list takes at most the addresses of the platform. -/
import Derived.Test.YtjkecadfakjanaaGreatDoorSpecB
import Derived.Test.YtjkecadfakjanaaGreatDoorCards
import Derived.ProofKit
import Derived.OpenShut
import Derived.ShutString
import Derived.ChangeOld
import Derived.SizedLaws
import Derived.SliceStrings
import Derived.Deep.SlicePairs
set_option maxRecDepth 100000
set_option linter.unusedVariables false
set_option linter.unusedSimpArgs false
namespace Go.Proofs.YtjkecadfakjanaaGreatDoor
open Go.ChangeShapes Go.WideShapes Go.ChangeAt Go.RowKit

theorem cell_spot {w : World} {a : Addr} {v : Value} (h : w.cell? (a.add 0) = some v) : a = ⟨a.block, a.off, none⟩ := by
 obtain ⟨b, o, spot⟩ := a
 have hspot : spot = none := by simpa [Addr.add] using World.cell?_spot h
 subst hspot
 rfl
theorem B_list (s : ByteArray) : s = B s.data.toList := by
 cases s; simp [B]

section
variable {H : Type} {enc : TypeId × Value -> H} {W : World} {sp : Nat -> Bool} {held : Bool}

theorem open_strsA {v : Value} {fuel : Nat} {x : DataW H × List MemPlace} (h : DataW.trod enc Tryz.prog W 0 (fun _ => true) true fuel 22 [v] = some x) (hw : ∀ n ∈ x.1.weights Tryz.prog 22, n <= reachBytes) :
  ∃ l, StrsAt W v l /\ CapOK v := by
 rcases open_strings Tryz.underlying22 Tryz.underlying9 (by kernel_rfl) h with ⟨hcs, hx⟩ | ⟨a, len, cap, ss, hcs, _, hl, hm, hz, hx, hcell, hsz⟩
 ·have : v = .slice none 0 0 := by simpa using hcs
  subst this
  exact ⟨[], StrsAt.nil W, fun a n c e => by injection e; omega⟩
 ·have : v = .slice (some a) len cap := by simpa using hcs
  subst this
  subst hx
  have hz2 : ss.length = cap := by simpa using hz
  have hw2 := hw ((ss.take len).length * Tryz.prog.bytesOf 9 + (ss.drop len).length * Tryz.prog.bytesOf 9) (by simp [DataW.weights, Tryz.underlying22, strs, Nat.add_mul])
  have hby : Tryz.prog.bytesOf 9 = 16 := by kernel_rfl
  have hrb : reachBytes = 140737488351232 := by decide
  rw [hby, hrb, List.length_take, List.length_drop] at hw2
  have hlen : ((ss.take len).map fun s => s.data.toList).length = len := by rw [List.length_map, List.length_take]; omega
  refine ⟨(ss.take len).map fun s => s.data.toList, ⟨by rw [hlen]; omega, some a, cap, by rw [hlen], fun i hi => ?_⟩, fun a' n c e => by injection e; omega⟩
  rw [hlen] at hi
  have h0 := hcell 0 (by omega)
  have ha := cell_spot h0
  refine ⟨a.block, a.off, by rw [<- ha], ?_⟩
  have h1 := hcell i (by omega)
  rw [ha, add_plain] at h1
  rw [h1]
  congr 2
  have hi2 : i < ss.length := by omega
  simp only [List.getElem_map, List.getElem_take, List.getD_eq_getElem?_getD, List.getElem?_eq_getElem hi2, Option.getD_some]

theorem open_fmtsA {v : Value} {fuel : Nat} {x : DataW H × List MemPlace} (h : DataW.trod enc Tryz.prog W 0 (fun _ => true) true fuel 23 [v] = some x) (hw : ∀ n ∈ x.1.weights Tryz.prog 23, n <= reachBytes) :
  ∃ l, FmtsAt W v l := by
 rcases Deep.open_slice_pairs Tryz.underlying23 Tryz.underlying49 (by kernel_rfl) rfl rfl (by kernel_rfl) (by kernel_rfl) h with ⟨hcs, hx⟩ | ⟨a, len, cap, m, n, V0, V1, D0, D1, P0, P1, hcs, _, hl, hm, hmm, hx, hall⟩
 ·have : v = .slice none 0 0 := by simpa using hcs
  subst this
  exact ⟨[], by simp, none, 0, rfl, fun i hi => by simp at hi⟩
 ·have : v = .slice (some a) len cap := by simpa using hcs
  subst this
  subst hx
  have hm2 : m = cap := by simpa using hmm
  have hw2 := hw (len * Tryz.prog.bytesOf 49 + (m - len) * Tryz.prog.bytesOf 49) (by simp [DataW.weights, Tryz.underlying23, Nat.add_mul])
  have hby : Tryz.prog.bytesOf 49 = 32 := by kernel_rfl
  have hrb : reachBytes = 140737488351232 := by decide
  rw [hby, hrb] at hw2
  have each : ∀ i, i < len -> ∃ q : Str × Str, V0 i = .string (B q.1) /\ V1 i = .string (B q.2) := fun i hi => by
   obtain ⟨_, _, h3, h4⟩ := hall i (by omega)
   obtain ⟨s0, e0, _, _⟩ := DataW.trod_string Tryz.underlying9 h3
   obtain ⟨s1, e1, _, _⟩ := DataW.trod_string Tryz.underlying9 h4
   exact ⟨(s0.data.toList, s1.data.toList), by rw [<- B_list]; simpa using e0, by rw [<- B_list]; simpa using e1⟩
  obtain ⟨q, hq⟩ := Deep.choose_lt each
  have hlen : ((List.range len).map q).length = len := by simp
  refine ⟨(List.range len).map q, by rw [hlen]; omega, some a, cap, by rw [hlen], fun i hi => ?_⟩
  rw [hlen] at hi
  obtain ⟨h00, _, _, _⟩ := hall 0 (by omega)
  rw [Nat.zero_mul] at h00
  have ha := cell_spot h00
  obtain ⟨h1, h2, _, _⟩ := hall i (by omega)
  rw [ha, add_plain] at h1 h2
  refine ⟨a.block, a.off, by rw [<- ha], ?_, ?_⟩
  ·rw [h1, (hq i hi).1]; simp
  ·rw [show a.off + i * 2 + 1 = a.off + (i * 2 + 1) by omega, h2, (hq i hi).2]; simp

theorem open_site {v : Value} {d : DataW H} {p : List MemPlace} (h : DataW.Trod enc Tryz.prog W 0 (fun _ => true) true 25 v d p) (hv : Value.okWide Tryz.prog W .any 0 25 v) (hw : ∀ n ∈ d.weights Tryz.prog 25, n <= reachBytes) :
  ∃ vl vd vf vc site, v = .agg #[vl, vd, vf, vc] /\ SiteAt W vl vd vf vc site /\ CapOK vl /\ CapOK vd /\ CapOK vc := by
 obtain ⟨cs, rfl, hsz⟩ := okWide_struct Tryz.underlying25 hv
 rw [show Tryz.prog.cellsOf 25 = 4 by kernel_rfl] at hsz
 obtain ⟨cs⟩ := cs
 match cs, hsz with
 | [vl, vd, vf, vc], _ =>
 obtain ⟨fuel, hf⟩ := h
 obtain ⟨xs, n, _, hx, _, hlen, hall⟩ := DataW.trod_struct Tryz.underlying25 hf
 have hz : (Tryz.prog.cellsOf 22 = 1) /\ (Tryz.prog.cellsOf 23 = 1) := ⟨by kernel_rfl, by kernel_rfl⟩
 match xs, hlen with
 | [y0, y1, y2, y3], _ =>
 have g0 := hall 0 _ rfl
 have g1 := hall 1 _ rfl
 have g2 := hall 2 _ rfl
 have g3 := hall 3 _ rfl
 simp [hz.1, hz.2, Value.cells] at g0 g1 g2 g3
 have hd : d = .agg [y0.1, y1.1, y2.1, y3.1] := by simpa using congrArg Prod.fst hx
 subst hd
 have hw2 : ∀ n, n ∈ y0.1.weights Tryz.prog 22 \/ n ∈ y1.1.weights Tryz.prog 22 \/ n ∈ y2.1.weights Tryz.prog 23 \/ n ∈ y3.1.weights Tryz.prog 22 -> n <= reachBytes := fun n hn => hw n (by
  simp [DataW.weights, DataW.weightsEach, Tryz.underlying25]
  exact hn)
 obtain ⟨l, hl, cl⟩ := open_strsA g0 (fun n hn => hw2 n (.inl hn))
 obtain ⟨ld, hld, cd⟩ := open_strsA g1 (fun n hn => hw2 n (.inr (.inl hn)))
 obtain ⟨lf, hlf⟩ := open_fmtsA g2 (fun n hn => hw2 n (.inr (.inr (.inl hn))))
 obtain ⟨lc, hlc, cc⟩ := open_strsA g3 (fun n hn => hw2 n (.inr (.inr (.inr hn))))
 exact ⟨vl, vd, vf, vc, ⟨l, ld, lf, lc⟩, rfl, ⟨hl, hld, hlf, hlc⟩, cl, cd, cc⟩
end

end Go.Proofs.YtjkecadfakjanaaGreatDoor
