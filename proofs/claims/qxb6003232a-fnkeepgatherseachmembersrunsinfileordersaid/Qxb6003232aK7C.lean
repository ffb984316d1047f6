/-
  zkSpanMatches (26), a run of either part.
-/
import Derived.Test.Qxb6003232aK7A
import Derived.Test.Qxb6003232aK7B
namespace Go.Proofs.Qxb6003232a.Kp
open Go.ChangeShapes Go.WideShapes Go.ChangeAt Go.RowKit Go.Maps
set_option linter.unusedVariables false

theorem match_calls {wb mb B : Nat} {T : List (ByteArray × Sp)} {s : ByteArray} {x : Sp} {m k t : Nat} {r : Rn} (w : World) (hro : RO wb mb w T) (hm : (mem T)[m]? = some s) (hk : (spl T s)[k]? = some x) (hmn : (mem T).length ≤ 65536)
    (a0 a1 a2 b0 b1 b2 : Option Addr) (c0 c1 c2 d0 d1 d2 : Nat) (RA : List R3) (tA : List Int) (xA : List Rn) (RB : List R3) (tB : List Int) (xB : List Rn) (rA sA rB sB : Option Addr)
    (hA : Side B w a0 RA a1 tA a2 xA rA sA) (hB : Side B w b0 RB b1 tB b2 xB rB sB) (hBw : B ≤ w.heap.size)
    (hx : (t < xA.length ∧ xA[t]? = some r ∧ x = spanAt rA sA (from_ xA t).toNat r.fin.toNat) ∨ (∃ d, t = xA.length + d ∧ xB[d]? = some r ∧ x = spanAt rB sB (from_ xB d).toNat r.fin.toNat)) :
    Calls Try.prog 26 #[.pointer (some ⟨wb, 0, none⟩), .int .i64 m, .int .i64 k, .int .i64 t, .slice a0 RA.length c0, .slice a1 tA.length c1, .slice a2 xA.length c2, .slice b0 RB.length d0, .slice b1 tB.length d1, .slice b2 xB.length d2] w fun e w' => e = .returned (.bool true) ∧ Below w.heap.size w w' := by
  rcases hx with ⟨-, hr, rfl⟩ | ⟨d, rfl, hr, rfl⟩
  · obtain ⟨l, n, hc⟩ := hA.chk hr
    exact matchA_calls w hro hm hk hmn a0 a1 a2 b0 b1 b2 c0 c1 c2 d0 d1 d2 t l n RA tA xA 0 RB.length tB.length xB.length hA.nx hA.nr hA.nt hc hBw
  · obtain ⟨l, n, hc⟩ := hB.chk hr
    exact matchB_calls w hro hm hk hmn b0 b1 b2 a0 a1 a2 d0 d1 d2 c0 c1 c2 d l n RB tB xB xA.length RA.length tA.length 0 hB.nx hA.nx hB.nr hB.nt hc hBw
end Go.Proofs.Qxb6003232a.Kp
