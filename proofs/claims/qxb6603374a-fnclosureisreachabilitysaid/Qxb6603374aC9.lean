/-
  The proof of Rows.FnClosureIsReachabilitySaid: the argument opened; the frame after the guide's template.
-/
import Derived.Test.Qxb6603374aC8
import Derived.Deep.Slices
import Derived.ShutString
import Derived.ChangeOld
import Derived.Below
namespace Go.Proofs.Qxb6603374a.G
open Go.ChangeShapes Go.WideShapes Go.ChangeAt Go.RowKit
set_option linter.unusedVariables false

theorem own : ownKnob Try.prog.godebug = none := by kernel_rfl
theorem laidOut : laidOutB Try.prog = true := by kernel_rfl
theorem cells24 : Try.prog.cellsOf 24 = 1 := by kernel_rfl
theorem cells3 : Try.prog.cellsOf 3 = 1 := by kernel_rfl

theorem gather {α : Type} {p : Nat → α → Prop} : ∀ n : Nat, (∀ i, i < n → ∃ r, p i r) → ∃ xs : List α, xs.length = n ∧ ∀ i r, xs[i]? = some r → p i r
  | 0, _ => ⟨[], rfl, fun i r h => by simp at h⟩
  | n + 1, h => by
    obtain ⟨xs, hl, hx⟩ := gather n (fun i hi => h i (by omega))
    obtain ⟨r, hr⟩ := h n (by omega)
    refine ⟨xs ++ [r], by simp [hl], fun i q hq => ?_⟩
    by_cases hi : i < n
    · rw [List.getElem?_append_left (by omega)] at hq; exact hx i q hq
    · have hlt := (List.getElem?_eq_some_iff.1 hq).1
      simp at hlt
      obtain rfl : i = n := by omega
      rw [List.getElem?_append_right (by omega)] at hq
      simp [hl] at hq
      subst hq; exact hr
theorem cell_lt {w : World} {a : Addr} {v : Value} (h : w.cell? a = some v) : a.block < w.heap.size := by
  rcases Nat.lt_or_ge a.block w.heap.size with h' | h'
  · exact h'
  · simp [World.cell?, Array.getElem?_eq_none h'] at h

section
variable {H : Type} {enc : TypeId × Value → H} {w : World} {base : Nat} {spare : Nat → Bool} {held : Bool}
theorem open_row {fuel : Nat} {cs : List Value} {x : DataW H × List MemPlace} (h : DataW.trod enc Try.prog w base spare held fuel 24 cs = some x) :
    ∃ ai ci l, cs = [.slice ai (l : List Int).length ci] ∧ Ints w.heap.size w ai l := by
  rcases open_ints Try.underlying24 Try.underlying3 cells3 h with ⟨hcs, _⟩ | ⟨a, len, cap, zs, hcs, hb, hl, hm, hz, hx, hcell, hwz⟩
  · exact ⟨none, 0, [], hcs, Or.inl rfl⟩
  · have hlz : len ≤ zs.length := by rw [hz]; split <;> omega
    refine ⟨some a, cap, zs.take len, by rw [List.length_take, Nat.min_eq_left hlz]; exact hcs, ?_⟩
    by_cases h0 : len = 0
    · left; rw [h0]; simp
    · right
      obtain ⟨b, off, spot⟩ := a
      have hc0 := hcell 0 (by omega)
      have hspot : spot = none := by simpa [Addr.add] using World.cell?_spot hc0
      subst hspot
      refine ⟨b, off, rfl, by simpa [Addr.add] using cell_lt hc0, fun j x hj => ?_⟩
      have hjl := (List.getElem?_eq_some_iff.1 hj).1
      rw [List.length_take] at hjl
      rw [List.getElem?_take_of_lt (by omega)] at hj
      have := hcell j (by omega)
      rw [Go.WideShapes.add_plain] at this
      rw [this, List.getD_eq_getElem?_getD, hj]
      rfl
theorem open_rows {fuel : Nat} {cs : List Value} {x : DataW H × List MemPlace} (h : DataW.trod enc Try.prog w base spare held fuel 22 cs = some x) :
    ∃ a cap Z, cs = [.slice a (Z : List (List Int)).length cap] ∧ Z.length ≤ 9223372036854775807 ∧ Gr w.heap.size w a Z := by
  rcases Go.Deep.open_slice Try.underlying22 h with ⟨hcs, _⟩ | ⟨a, len, cap, m, n, D, Pl, hcs, hb, hlc, hm, hme, hx, hel⟩
  · exact ⟨none, 0, [], hcs, by simp, Or.inl rfl⟩
  · have hlm : len ≤ m := by rw [hme]; split <;> omega
    rw [cells24] at hel
    have key : ∀ i, i < len → ∃ l : List Int, ∃ ai ci, w.cell? (a.add i) = some (.slice ai l.length ci) ∧ Ints w.heap.size w ai l := by
      intro i hi
      obtain ⟨cs', hc, ht⟩ := hel i (by omega)
      obtain ⟨ai, ci, l, rfl, hI⟩ := open_row ht
      obtain ⟨-, -, hg⟩ := World.cells?_some hc
      refine ⟨l, ai, ci, ?_, hI⟩
      have := hg 0 (by omega)
      rw [Go.Deep.add_add] at this
      simpa using this
    obtain ⟨Z, hl, hZ⟩ := gather len key
    refine ⟨some a, cap, Z, by rw [hl]; exact hcs, by unfold maxLen at hm; omega, ?_⟩
    match Z, hl, hZ with
    | [], _, _ => exact Or.inl rfl
    | r :: Z, hl, hZ =>
      right
      obtain ⟨b, off, spot⟩ := a
      obtain ⟨ai, ci, h0, -⟩ := hZ 0 r rfl
      have hspot : spot = none := by simpa [Addr.add] using World.cell?_spot h0
      subst hspot
      refine ⟨b, off, rfl, by simpa [Addr.add] using cell_lt h0, fun i l hi => ?_⟩
      obtain ⟨ai', ci', h1, h2⟩ := hZ i l hi
      rw [Go.WideShapes.add_plain] at h1
      exact ⟨ai', ci', h1, h2⟩
end
theorem arg_of {H : Type} {enc : TypeId × Value → H} {w : World} {base : Nat} {spare : Nat → Bool} {held : Bool} {a : Option Addr} {n cap : Nat} {d : DataW H} {p : List MemPlace}
    (h : DataW.Trod enc Try.prog w base spare held 22 (.slice a n cap) d p) : ∃ Z : List (List Int), Z.length = n ∧ n ≤ 9223372036854775807 ∧ Gr w.heap.size w a Z := by
  obtain ⟨fuel, hf⟩ := h
  obtain ⟨a', cap', Z, hcs, hl, hg⟩ := open_rows hf
  simp [Value.cells] at hcs
  obtain ⟨rfl, rfl, rfl⟩ := hcs
  exact ⟨Z, rfl, hl, hg⟩
end Go.Proofs.Qxb6603374a.G

namespace Go.Proofs.Qxb6603374a.fnClosureIsReachability
open Go.ChangeShapes Go.WideShapes Go.ChangeAt Go.RowKit
open Go.Proofs.Qxb6603374a.G
set_option linter.unusedVariables false

set_option maxRecDepth 100000 in
theorem lifted (os : Os) (started : os.Started) (H : Type) (enc : TypeId × Value → H) :
    ReturnsInHanded {} Try.checked os 3 .any (Rows.fnClosureIsReachabilitySpec.pre6 enc Try.prog Try.f3 Rows.fnClosureIsReachabilityRow.domain false) (Rows.fnClosureIsReachabilitySpec.post enc Try.prog Try.f3 false true false false) := by
  refine returnsInHanded_of_change (C := Try.checked) own started (by kernel_rfl) Try.func3
    (ChangeSpec.witness6 (enc := enc) (C := Try.checked) false ⟨#[], #[.slice none 0 0], []⟩ 8 (by kernel_rfl) (by kernel_rfl) (by kernel_rfl) (by kernel_rfl)) ?_
  intro W base args ds gs before hval0 hW hcnd _
  have hval : ∀ (j : Nat) t v, Try.f3.params[j]? = some t → args[j]? = some v → Value.okWide Try.prog W .any base t v := hval0
  have hW' := hW
  obtain ⟨p, q, hA0, hV, rfl, hfz, hnd⟩ := hW
  have hA : DataW.TrodAll enc Try.prog W 0 (fun _ => true) true Try.f3.params.toList args.toList ds p := hA0
  rw [Try.params3] at hA hval
  obtain ⟨v0, vs0, d0, ds0, p0, q0, hargs, rfl, rfl, h0, r0⟩ := trodAll_cons hA
  obtain ⟨rfl, rfl, rfl⟩ := trodAll_nil r0
  obtain rfl : args = #[v0] := by cases args; simp_all
  obtain ⟨rfl, rfl⟩ := trodVars_none hV
  obtain ⟨a0, len0, cap0, rfl⟩ := okWide_slice Try.underlying22 (hval 0 22 v0 rfl rfl)
  have k0 := h0
  have lt0 : ∀ x ∈ p0, x.block < W.heap.size := by obtain ⟨m, hm⟩ := k0; exact DataW.trod_lt m _ _ _ hm
  obtain ⟨Z, hZ, hb, w0⟩ := arg_of h0
  clear hA0 hval0
  subst hZ
  refine (law_walk a0 cap0 Z W w0 hb).mono fun e W' ⟨he, bel⟩ => ?_
  subst he
  exact ⟨_, rfl, _, _, _, [], _, [], hW', trodAll_mk1 (shut_bool Try.underlying4 _), (trodAll_cons_mk (Below.trod laidOut (by kernel_rfl) (of_decide_eq_true (by kernel_rfl)) k0 bel lt0) trodAll_mk0), rfl, bel.frame _, fun h => by cases h⟩

theorem over : Rows.fnClosureIsReachabilityRow.holds Try.pinned (OpenSpec.ofChange Rows.fnClosureIsReachabilitySpec) :=
  OpenClaim.holds_of_wide 3 Try.f3 rfl rfl rfl rfl rfl rfl rfl ⟨rfl, rfl, rfl, rfl, rfl⟩ rfl rfl rfl rfl rfl (by kernel_rfl) Try.func3 (by kernel_rfl)
    (of_decide_eq_true (by kernel_rfl)) (by unfold Func.isWrapper; first | (rw [if_pos (by decide +kernel)]; kernel_rfl) | (rw [if_neg (by decide +kernel)]; exact ⟨rfl, rfl⟩))
    (fun os started H enc _ => lifted os started H enc)
end Go.Proofs.Qxb6603374a.fnClosureIsReachability

namespace Go.Proofs.Qxb6603374a
theorem fnClosureIsReachability_proved : Rows.FnClosureIsReachabilitySaid := fnClosureIsReachability.over
end Go.Proofs.Qxb6603374a
