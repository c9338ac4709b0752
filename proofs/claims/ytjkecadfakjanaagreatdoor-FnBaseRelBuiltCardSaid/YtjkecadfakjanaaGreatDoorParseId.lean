/- What one identifier makes of a path: the six walks of parseIdentifier joined. Conditions: a path in memory that is being parsed (Scan), small enough (Fits), the identifier's bounds. -/
import Derived.Test.YtjkecadfakjanaaGreatDoorPidA
import Derived.Test.YtjkecadfakjanaaGreatDoorPidB
import Derived.Test.YtjkecadfakjanaaGreatDoorPidC
import Derived.Test.YtjkecadfakjanaaGreatDoorPidD
import Derived.Test.YtjkecadfakjanaaGreatDoorPidE
import Derived.Test.YtjkecadfakjanaaGreatDoorPidF
set_option linter.unusedVariables false
set_option linter.unusedSimpArgs false
namespace Go.Proofs.YtjkecadfakjanaaGreatDoor
open Go.RowKit

theorem c_parseId_open (w0 w : World) (p : PathS) (b pb mb fb sb : Nat) (vl0 vd vf vc : Value) (un : Un) (site : SiteM) (hpp : PPAt w0 pb mb fb sb vl0 vd vf vc site) (hs : Scan w0 w b p un) (f : Fits p) (comp s : Str) (i lastDot : Nat) (numDots : Int) (isLast : Bool) (hc : (p.cHigh == -1) = true)
  (id : Nat × Nat) (hid : id = (i + 1, if p.known = [] then p.s.length else lastDot)) (hlo : id.1 <= id.2) (hhi : id.2 <= p.s.length) (hkw : Within p.s p.known) (hly : p.lay = -1 \/ 1 <= p.lay /\ p.lay < (p.known.length : Int)) :
  Calls Tryz.prog 146 #[.pointer (some ⟨pb, 0, none⟩), .string (B comp), .string (B s), .pointer (some ⟨b, 0, none⟩), .int .i64 i, .int .i64 lastDot, .int .i64 numDots, .bool isLast] w
   fun e w' => e = .returned (.tuple #[]) /\ Scan w0 w' b (PathS.parseId site comp p i lastDot numDots isLast) un := by
 cases hw : (wrapStep site comp p id).2 with
 | true => exact c_parseId_A w0 w p b pb mb fb sb vl0 vd vf vc un site hpp hs f comp s i lastDot numDots isLast hc id hid hlo hhi hkw hly hw
 | false =>
  by_cases hk : p.known = []
  ·exact c_parseId_B w0 w p b pb mb fb sb vl0 vd vf vc un site hpp hs f comp s i lastDot numDots isLast hc id hid hlo hhi hkw hly hw (.inl hk)
  ·cases hl : (langStep site (mayL comp p numDots) (sub p.s id) id p).2 with
   | true => exact c_parseId_B w0 w p b pb mb fb sb vl0 vd vf vc un site hpp hs f comp s i lastDot numDots isLast hc id hid hlo hhi hkw hly hw (.inr hl)
   | false =>
    cases ht : (baseStep (sub p.s id) id (kindStep (mayK comp p) (sub p.s id) id (fmtStep site (comp == kLayouts) (sub p.s id) id (p, false)))).2 with
    | true => exact c_parseId_C w0 w p b pb mb fb sb vl0 vd vf vc un site hpp hs f comp s i lastDot numDots isLast hc id hid hlo hhi hkw hly hw hk hl ht
    | false =>
     cases hy : mayY comp p isLast with
     | false => exact c_parseId_D w0 w p b pb mb fb sb vl0 vd vf vc un site hpp hs f comp s i lastDot numDots isLast hc id hid hlo hhi hkw hly hw hk hl ht hy
     | true =>
      cases hz : (p.lay != -1) with
      | false => exact c_parseId_E w0 w p b pb mb fb sb vl0 vd vf vc un site hpp hs f comp s i lastDot numDots isLast hc id hid hlo hhi hkw hly hw hk hl ht hy hz
      | true => exact c_parseId_F w0 w p b pb mb fb sb vl0 vd vf vc un site hpp hs f comp s i lastDot numDots isLast hc id hid hlo hhi hkw hly hw hk hl ht hy hz

end Go.Proofs.YtjkecadfakjanaaGreatDoor
