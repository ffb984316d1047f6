/-
  The proof of Rows.FnKeepGathersEachMembersRunsInFileOrderSaid: the walk in K9, the frame after the guide's template.
-/
import Derived.Test.Qxb6003232aK9
import Derived.Deep.Slices
import Derived.Deep.Strs
import Derived.Lib.SmallJoins
import Derived.ShutString
import Derived.ChangeOld
import Derived.Below
namespace Go.Proofs.Qxb6003232a.Kp
open Go.ChangeShapes Go.WideShapes Go.ChangeAt Go.RowKit
set_option linter.unusedVariables false

theorem own : ownKnob Try.prog.godebug = none := by kernel_rfl
theorem laidOut : laidOutB Try.prog = true := by kernel_rfl

theorem gather {α : Type} {p : Nat → α → Prop} : ∀ n : Nat, (∀ i, i < n → ∃ r, p i r) → ∃ xs : List α, xs.length = n ∧ ∀ i r, xs[i]? = some r → p i r
  | 0, _ => ⟨[], rfl, fun i r h => by simp at h⟩
  | n + 1, h => by
    obtain ⟨xs, hl, hx⟩ := gather n (fun i hi => h i (by omega))
    obtain ⟨r, hr⟩ := h n (by omega)
    refine ⟨xs ++ [r], by simp [hl], fun i q hq => ?_⟩
    by_cases hi : i < n
    · rw [List.getElem?_append_left (by omega)] at hq; exact hx i q hq
    · have hlt := (List.getElem?_eq_some_iff.1 hq).1
      simp at hlt
      obtain rfl : i = n := by omega
      rw [List.getElem?_append_right (by omega)] at hq
      simp [hl] at hq
      subst hq; exact hr
theorem cell_lt {w : World} {a : Addr} {v : Value} (h : w.cell? a = some v) : a.block < w.heap.size := by
  rcases Nat.lt_or_ge a.block w.heap.size with h' | h'
  · exact h'
  · simp [World.cell?, Array.getElem?_eq_none h'] at h

section
variable {H : Type} {enc : TypeId × Value → H} {w : World} {base : Nat} {spare : Nat → Bool} {held : Bool}
/-- a slice whose elements open as f r with P r -/
theorem sl_of {α : Type} (f : α → List Value) (P : α → Prop) (sz : Nat) (t e : TypeId) (hu : Try.prog.underlying t = some (.slice e)) (hc : Try.prog.cellsOf e = sz) (hf : ∀ r, (f r).length = sz) (hsz : 0 < sz)
    (hel : ∀ (n : Nat) (cs : List Value) (x : DataW H × List MemPlace), DataW.trod enc Try.prog w base spare held n e cs = some x → ∃ r, cs = f r ∧ P r)
    {a : Option Addr} {n cap : Nat} {d : DataW H} {p : List MemPlace} (h : DataW.Trod enc Try.prog w base spare held t (.slice a n cap) d p) :
    ∃ xs : List α, xs.length = n ∧ Arr f sz w.heap.size w a xs ∧ (a = none → xs = [] ∧ cap = 0) ∧ n ≤ 9223372036854775807 ∧ ∀ r ∈ xs, P r := by
  obtain ⟨fuel, hf'⟩ := h
  rcases Go.Deep.open_slice hu hf' with ⟨hcs, _⟩ | ⟨ad, len, cap', m, k, D, Pl, hcs, hb, hlc, hm, hme, hx, hels⟩
  · simp [Value.cells] at hcs
    obtain ⟨rfl, rfl, rfl⟩ := hcs
    exact ⟨[], rfl, Or.inl rfl, fun _ => ⟨rfl, rfl⟩, by omega, by simp⟩
  · simp [Value.cells] at hcs
    obtain ⟨rfl, rfl, rfl⟩ := hcs
    have hlm : n ≤ m := by rw [hme]; split <;> omega
    rw [hc] at hels
    have key : ∀ i, i < n → ∃ r : α, P r ∧ ∀ j v, (f r)[j]? = some v → w.cell? (ad.add (i * sz + j)) = some v := by
      intro i hi
      obtain ⟨cs', hcc, ht⟩ := hels i (by omega)
      obtain ⟨r, rfl, hp⟩ := hel _ _ _ ht
      obtain ⟨-, -, hg⟩ := World.cells?_some hcc
      refine ⟨r, hp, fun j v hj => ?_⟩
      have hjl := (List.getElem?_eq_some_iff.1 hj).1
      have := hg j (by rw [hf] at hjl; exact hjl)
      rw [Go.Deep.add_add] at this
      rw [this]; exact hj
    obtain ⟨xs, hl, hxs⟩ := gather n key
    refine ⟨xs, hl, ?_, (fun q => by cases q), by unfold maxLen at hm; omega, ?_⟩
    · match xs, hl, hxs with
      | [], _, _ => exact Or.inl rfl
      | r :: xs, hl, hxs =>
        right
        obtain ⟨b, off, spot⟩ := ad
        obtain ⟨v0, hv0⟩ := getlt (l := f r) (k := 0) (by rw [hf]; exact hsz)
        have h0 := (hxs 0 r rfl).2 0 v0 hv0
        have hspot : spot = none := by simpa [Addr.add] using World.cell?_spot h0
        subst hspot
        refine ⟨b, off, rfl, by simpa [Addr.add] using cell_lt h0, fun i q hq j v hj => ?_⟩
        have := (hxs i q hq).2 j v hj
        simp only [Go.WideShapes.add_plain] at this
        simpa [Nat.add_assoc] using this
    · intro r hr
      obtain ⟨i, hi, e⟩ := List.getElem_of_mem hr
      exact (hxs i r (by rw [List.getElem?_eq_getElem hi, e])).1
theorem cells78 : Try.prog.cellsOf 78 = 3 := by kernel_rfl
theorem cells63 : Try.prog.cellsOf 63 = 4 := by kernel_rfl
theorem cells21 : Try.prog.cellsOf 21 = 1 := by kernel_rfl
theorem cells73 : Try.prog.cellsOf 73 = 1 := by kernel_rfl
theorem cells2 : Try.prog.cellsOf 2 = 1 := by kernel_rfl
theorem cells9 : Try.prog.cellsOf 9 = 1 := by kernel_rfl
theorem cells3 : Try.prog.cellsOf 3 = 1 := by kernel_rfl
theorem cells4 : Try.prog.cellsOf 4 = 1 := by kernel_rfl
set_option maxRecDepth 100000 in
theorem open78 (n : Nat) (cs : List Value) (x : DataW H × List MemPlace) (h : DataW.trod enc Try.prog w base spare held n 78 cs = some x) : ∃ r : R3, cs = f3 r ∧ True := by
  obtain ⟨y0, y1, y2, n', -, hl, h0, h1, h2⟩ := Go.Deep.trod_struct3 Try.underlying78 h
  rw [cells78] at hl
  match cs, hl with
  | [v0, v1, v2], _ =>
    simp only [cells21, cells73, cells2, List.drop_zero, List.drop_succ_cons, List.take_succ_cons, List.take_zero] at h0 h1 h2
    obtain ⟨a0, e0, -, -⟩ := DataW.trod_int Try.underlying21 h0
    obtain ⟨a1, e1, -, -⟩ := DataW.trod_int Try.underlying73 h1
    obtain ⟨a2, e2, -, -⟩ := DataW.trod_int Try.underlying2 h2
    simp only [List.cons.injEq, and_true] at e0 e1 e2
    subst e0 e1 e2
    exact ⟨⟨a0, a1, a2⟩, rfl, trivial⟩
theorem open2 (n : Nat) (cs : List Value) (x : DataW H × List MemPlace) (h : DataW.trod enc Try.prog w base spare held n 2 cs = some x) : ∃ r : Int, cs = f1 r ∧ True := by
  obtain ⟨a, e, -, -⟩ := DataW.trod_int Try.underlying2 h
  exact ⟨a, e, trivial⟩
set_option maxRecDepth 100000 in
theorem open63 (n : Nat) (cs : List Value) (x : DataW H × List MemPlace) (h : DataW.trod enc Try.prog w base spare held n 63 cs = some x) : ∃ r : Rn, cs = f4 r ∧ r.s.size ≤ maxLen := by
  obtain ⟨y0, y1, y2, y3, n', -, hl, h0, h1, h2, h3⟩ := Go.Joins.trod_struct4 Try.underlying63 h
  rw [cells63] at hl
  match cs, hl with
  | [v0, v1, v2, v3], _ =>
    simp only [cells9, cells3, cells4, List.drop_zero, List.drop_succ_cons, List.take_succ_cons, List.take_zero] at h0 h1 h2 h3
    obtain ⟨a0, e0, -, hs⟩ := DataW.trod_string Try.underlying9 h0
    obtain ⟨a1, e1, -, -⟩ := DataW.trod_int Try.underlying3 h1
    obtain ⟨a2, e2, -⟩ := DataW.trod_bool Try.underlying4 h2
    obtain ⟨a3, e3, -, -⟩ := DataW.trod_int Try.underlying3 h3
    simp only [List.cons.injEq, and_true] at e0 e1 e2 e3
    subst e0 e1 e2 e3
    exact ⟨⟨a0, a1, a2, a3⟩, rfl, hs⟩
end
theorem inp_of {H : Type} {enc : TypeId × Value → H} {w : World} {base : Nat} {spare : Nat → Bool} {held : Bool} {a0 a1 a2 : Option Addr} {n0 c0 n1 c1 n2 c2 : Nat} {d0 d1 d2 : DataW H} {p0 p1 p2 : List MemPlace}
    (h0 : DataW.Trod enc Try.prog w base spare held 35 (.slice a0 n0 c0) d0 p0) (h1 : DataW.Trod enc Try.prog w base spare held 36 (.slice a1 n1 c1) d1 p1) (h2 : DataW.Trod enc Try.prog w base spare held 37 (.slice a2 n2 c2) d2 p2) :
    ∃ R Rt X, R.length = n0 ∧ Rt.length = n1 ∧ X.length = n2 ∧ Inp w a0 R c0 a1 Rt c1 a2 X c2 := by
  obtain ⟨R, r1, r2, r3, r4, -⟩ := sl_of f3 (fun _ => True) 3 35 78 Try.underlying35 cells78 (fun _ => rfl) (by omega) (fun n cs x h => open78 n cs x h) h0
  obtain ⟨Rt, t1, t2, t3, t4, -⟩ := sl_of f1 (fun _ => True) 1 36 2 Try.underlying36 cells2 (fun _ => rfl) (by omega) (fun n cs x h => open2 n cs x h) h1
  obtain ⟨X, x1, x2, x3, x4, x5⟩ := sl_of f4 (fun r => r.s.size ≤ maxLen) 4 37 63 Try.underlying37 cells63 (fun _ => rfl) (by omega) (fun n cs x h => open63 n cs x h) h2
  exact ⟨R, Rt, X, r1, t1, x1, r2, t2, x2, r3, t3, x3, by omega, by omega, by omega, x5⟩
end Go.Proofs.Qxb6003232a.Kp

namespace Go.Proofs.Qxb6003232a.fnKeepGathersEachMembersRunsInFileOrder
open Go.ChangeShapes Go.WideShapes Go.ChangeAt Go.RowKit
open Go.Proofs.Qxb6003232a.Kp
set_option linter.unusedVariables false

set_option maxRecDepth 100000 in
theorem lifted (os : Os) (started : os.Started) (H : Type) (enc : TypeId × Value → H) :
    ReturnsInHanded {} Try.checked os 5 .any (Rows.fnKeepGathersEachMembersRunsInFileOrderSpec.pre6 enc Try.prog Try.f5 Rows.fnKeepGathersEachMembersRunsInFileOrderRow.domain false) (Rows.fnKeepGathersEachMembersRunsInFileOrderSpec.post enc Try.prog Try.f5 false true false false) := by
  refine returnsInHanded_of_change (C := Try.checked) own started (by kernel_rfl) Try.func5
    (ChangeSpec.witness6 (enc := enc) (C := Try.checked) false ⟨#[], #[.slice none 0 0, .slice none 0 0, .slice none 0 0, .slice none 0 0, .slice none 0 0, .slice none 0 0], []⟩ 8 (by kernel_rfl) (by kernel_rfl) (by kernel_rfl) (by kernel_rfl)) ?_
  intro W base args ds gs before hval0 hW hcnd _
  have hval : ∀ (j : Nat) t v, Try.f5.params[j]? = some t → args[j]? = some v → Value.okWide Try.prog W .any base t v := hval0
  have hW' := hW
  obtain ⟨p, q, hA0, hV, rfl, hfz, hnd⟩ := hW
  have hA : DataW.TrodAll enc Try.prog W 0 (fun _ => true) true Try.f5.params.toList args.toList ds p := hA0
  rw [Try.params5] at hA hval
  obtain ⟨v0, vs0, d0, ds0, p0, q0, hargs, rfl, rfl, h0, r0⟩ := trodAll_cons hA
  obtain ⟨v1, vs1, d1, ds1, p1, q1, rfl, rfl, rfl, h1, r1⟩ := trodAll_cons r0
  obtain ⟨v2, vs2, d2, ds2, p2, q2, rfl, rfl, rfl, h2, r2⟩ := trodAll_cons r1
  obtain ⟨v3, vs3, d3, ds3, p3, q3, rfl, rfl, rfl, h3, r3⟩ := trodAll_cons r2
  obtain ⟨v4, vs4, d4, ds4, p4, q4, rfl, rfl, rfl, h4, r4⟩ := trodAll_cons r3
  obtain ⟨v5, vs5, d5, ds5, p5, q5, rfl, rfl, rfl, h5, r5⟩ := trodAll_cons r4
  obtain ⟨rfl, rfl, rfl⟩ := trodAll_nil r5
  obtain rfl : args = #[v0, v1, v2, v3, v4, v5] := by cases args; simp_all
  obtain ⟨rfl, rfl⟩ := trodVars_none hV
  obtain ⟨a0, len0, cap0, rfl⟩ := okWide_slice Try.underlying35 (hval 0 35 v0 rfl rfl)
  obtain ⟨a1, len1, cap1, rfl⟩ := okWide_slice Try.underlying36 (hval 1 36 v1 rfl rfl)
  obtain ⟨a2, len2, cap2, rfl⟩ := okWide_slice Try.underlying37 (hval 2 37 v2 rfl rfl)
  obtain ⟨a3, len3, cap3, rfl⟩ := okWide_slice Try.underlying35 (hval 3 35 v3 rfl rfl)
  obtain ⟨a4, len4, cap4, rfl⟩ := okWide_slice Try.underlying36 (hval 4 36 v4 rfl rfl)
  obtain ⟨a5, len5, cap5, rfl⟩ := okWide_slice Try.underlying37 (hval 5 37 v5 rfl rfl)
  have lt0 : ∀ x ∈ p0, x.block < W.heap.size := by obtain ⟨m, hm⟩ := h0; exact DataW.trod_lt m _ _ _ hm
  have lt1 : ∀ x ∈ p1, x.block < W.heap.size := by obtain ⟨m, hm⟩ := h1; exact DataW.trod_lt m _ _ _ hm
  have lt2 : ∀ x ∈ p2, x.block < W.heap.size := by obtain ⟨m, hm⟩ := h2; exact DataW.trod_lt m _ _ _ hm
  have lt3 : ∀ x ∈ p3, x.block < W.heap.size := by obtain ⟨m, hm⟩ := h3; exact DataW.trod_lt m _ _ _ hm
  have lt4 : ∀ x ∈ p4, x.block < W.heap.size := by obtain ⟨m, hm⟩ := h4; exact DataW.trod_lt m _ _ _ hm
  have lt5 : ∀ x ∈ p5, x.block < W.heap.size := by obtain ⟨m, hm⟩ := h5; exact DataW.trod_lt m _ _ _ hm
  obtain ⟨RA, tA, xA, rfl, rfl, rfl, iA⟩ := inp_of h0 h1 h2
  obtain ⟨RB, tB, xB, rfl, rfl, rfl, iB⟩ := inp_of h3 h4 h5
  clear hA0 hval0
  refine (law_walk a0 a1 a2 a3 a4 a5 cap0 cap1 cap2 cap3 cap4 cap5 RA tA xA RB tB xB W iA iB).mono fun e W' ⟨he, bel⟩ => ?_
  subst he
  exact ⟨_, rfl, _, _, _, [], _, [], hW', trodAll_mk1 (shut_bool Try.underlying4 _), (trodAll_cons_mk (Below.trod laidOut (by kernel_rfl) (of_decide_eq_true (by kernel_rfl)) h0 bel lt0) (trodAll_cons_mk (Below.trod laidOut (by kernel_rfl) (of_decide_eq_true (by kernel_rfl)) h1 bel lt1) (trodAll_cons_mk (Below.trod laidOut (by kernel_rfl) (of_decide_eq_true (by kernel_rfl)) h2 bel lt2) (trodAll_cons_mk (Below.trod laidOut (by kernel_rfl) (of_decide_eq_true (by kernel_rfl)) h3 bel lt3) (trodAll_cons_mk (Below.trod laidOut (by kernel_rfl) (of_decide_eq_true (by kernel_rfl)) h4 bel lt4) (trodAll_cons_mk (Below.trod laidOut (by kernel_rfl) (of_decide_eq_true (by kernel_rfl)) h5 bel lt5) trodAll_mk0)))))), rfl, bel.frame _, fun h => by cases h⟩

theorem over : Rows.fnKeepGathersEachMembersRunsInFileOrderRow.holds Try.pinned (OpenSpec.ofChange Rows.fnKeepGathersEachMembersRunsInFileOrderSpec) :=
  OpenClaim.holds_of_wide 5 Try.f5 rfl rfl rfl rfl rfl rfl rfl ⟨rfl, rfl, rfl, rfl, rfl⟩ rfl rfl rfl rfl rfl (by kernel_rfl) Try.func5 (by kernel_rfl)
    (of_decide_eq_true (by kernel_rfl)) (by unfold Func.isWrapper; first | (rw [if_pos (by decide +kernel)]; kernel_rfl) | (rw [if_neg (by decide +kernel)]; exact ⟨rfl, rfl⟩))
    (fun os started H enc _ => lifted os started H enc)
end Go.Proofs.Qxb6003232a.fnKeepGathersEachMembersRunsInFileOrder

namespace Go.Proofs.Qxb6003232a
theorem fnKeepGathersEachMembersRunsInFileOrder_proved : Rows.FnKeepGathersEachMembersRunsInFileOrderSaid := fnKeepGathersEachMembersRunsInFileOrder.over
end Go.Proofs.Qxb6003232a
