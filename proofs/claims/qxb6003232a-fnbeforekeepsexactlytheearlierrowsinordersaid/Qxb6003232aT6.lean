import Derived.Test.Qxb6003232aT5
import Derived.Deep.Slices
import Derived.Lib.SmallJoins
import Derived.ShutString
import Derived.ChangeOld
import Derived.Below
namespace Go.Proofs.Qxb6003232a.Bef
open Go.ChangeShapes Go.WideShapes Go.ChangeAt Go.RowKit
set_option linter.unusedVariables false

theorem own : ownKnob Try.prog.godebug = none := by kernel_rfl
theorem laidOut : laidOutB Try.prog = true := by kernel_rfl

theorem gather {α : Type} {p : Nat → α → Prop} : ∀ n : Nat, (∀ i, i < n → ∃ r, p i r) → ∃ xs : List α, xs.length = n ∧ ∀ i r, xs[i]? = some r → p i r
  | 0, _ => ⟨[], rfl, fun i r h => by simp at h⟩
  | n + 1, h => by
    obtain ⟨xs, hl, hx⟩ := gather n (fun i hi => h i (by omega))
    obtain ⟨r, hr⟩ := h n (by omega)
    refine ⟨xs ++ [r], by simp [hl], fun i q hq => ?_⟩
    by_cases hi : i < n
    · rw [List.getElem?_append_left (by omega)] at hq; exact hx i q hq
    · have hlt := (List.getElem?_eq_some_iff.1 hq).1
      simp at hlt
      obtain rfl : i = n := by omega
      rw [List.getElem?_append_right (by omega)] at hq
      simp [hl] at hq
      subst hq; exact hr

theorem cell_lt {w : World} {a : Addr} {v : Value} (h : w.cell? a = some v) : a.block < w.heap.size := by
  rcases Nat.lt_or_ge a.block w.heap.size with h' | h'
  · exact h'
  · simp [World.cell?, Array.getElem?_eq_none h'] at h

theorem cells61 : Try.prog.cellsOf 61 = 4 := by kernel_rfl
theorem cells3 : Try.prog.cellsOf 3 = 1 := by kernel_rfl
theorem cells2 : Try.prog.cellsOf 2 = 1 := by kernel_rfl

section
variable {H : Type} {enc : TypeId × Value → H} {w : World} {base : Nat} {spare : Nat → Bool} {held : Bool}
set_option maxRecDepth 100000 in
theorem open_row {n : Nat} {cs : List Value} {x : DataW H × List MemPlace} (h : DataW.trod enc Try.prog w base spare held n 61 cs = some x) :
    ∃ r : R, cs = [.int .i64 r.m, .int .i64 r.h, .int .i64 r.c, .int .i64 r.l] := by
  obtain ⟨y0, y1, y2, y3, n', -, hl, h0, h1, h2, h3⟩ := Go.Joins.trod_struct4 Try.underlying61 h
  rw [cells61] at hl
  match cs, hl with
  | [c0, c1, c2, c3], _ =>
    simp only [cells3, cells2, List.drop_zero, List.drop_succ_cons, List.take_succ_cons, List.take_zero] at h0 h1 h2 h3
    obtain ⟨a0, e0, -, -⟩ := DataW.trod_int Try.underlying3 h0
    obtain ⟨a1, e1, -, -⟩ := DataW.trod_int Try.underlying2 h1
    obtain ⟨a2, e2, -, -⟩ := DataW.trod_int Try.underlying2 h2
    obtain ⟨a3, e3, -, -⟩ := DataW.trod_int Try.underlying3 h3
    simp only [List.cons.injEq, and_true] at e0 e1 e2 e3
    subst e0 e1 e2 e3
    exact ⟨⟨a0, a1, a2, a3⟩, rfl⟩

theorem open_rows {fuel : Nat} {cs : List Value} {x : DataW H × List MemPlace} (h : DataW.trod enc Try.prog w base spare held fuel 22 cs = some x) :
    cs = [.slice none 0 0] ∨ ∃ ad len cap xs, cs = [.slice (some ad) len cap] ∧ Sl w (some ad) len xs := by
  rcases Go.Deep.open_slice Try.underlying22 h with ⟨hcs, _⟩ | ⟨a, len, cap, m, n, D, Pl, hcs, hb, hlc, hm, hme, hx, hel⟩
  · exact Or.inl hcs
  · right
    refine ⟨a, len, cap, ?_⟩
    have hlm : len ≤ m := by rw [hme]; split <;> omega
    rw [cells61] at hel
    have key : ∀ i, i < len → ∃ r : R, w.cell? (a.add (i * 4)) = some (.int .i64 r.m) ∧ w.cell? (a.add (i * 4 + 1)) = some (.int .i64 r.h) ∧ w.cell? (a.add (i * 4 + 2)) = some (.int .i64 r.c) ∧ w.cell? (a.add (i * 4 + 3)) = some (.int .i64 r.l) := by
      intro i hi
      obtain ⟨cs', hc, ht⟩ := hel i (by omega)
      obtain ⟨r, rfl⟩ := open_row ht
      obtain ⟨-, -, hg⟩ := World.cells?_some hc
      refine ⟨r, ?_, ?_, ?_, ?_⟩
      · have := hg 0 (by omega); rw [Go.Deep.add_add] at this; simpa using this
      · have := hg 1 (by omega); rw [Go.Deep.add_add] at this; simpa using this
      · have := hg 2 (by omega); rw [Go.Deep.add_add] at this; simpa using this
      · have := hg 3 (by omega); rw [Go.Deep.add_add] at this; simpa using this
    obtain ⟨xs, hl, hxs⟩ := gather len key
    refine ⟨xs, hcs, hl, ?_⟩
    match xs, hl, hxs with
    | [], _, _ => exact Or.inl rfl
    | r :: xs, hl, hxs =>
      right
      obtain ⟨b, off, spot⟩ := a
      have h0 := (hxs 0 r rfl).1
      have hspot : spot = none := by simpa [Addr.add] using World.cell?_spot h0
      subst hspot
      refine ⟨b, off, rfl, by simpa [Addr.add] using cell_lt h0, fun i q hq => ?_⟩
      have := hxs i q hq
      simp only [Go.WideShapes.add_plain] at this
      simpa [Nat.add_assoc] using this
end

theorem arg_of {H : Type} {enc : TypeId × Value → H} {w : World} {base : Nat} {spare : Nat → Bool} {held : Bool} {a : Option Addr} {n cap : Nat} {d : DataW H} {p : List MemPlace}
    (h : DataW.Trod enc Try.prog w base spare held 22 (.slice a n cap) d p) : ∃ xs, Arg w a n cap xs := by
  obtain ⟨fuel, hf⟩ := h
  rcases open_rows hf with hcs | ⟨ad, len, cap', xs, hcs, hs⟩
  · simp [Value.cells] at hcs
    obtain ⟨rfl, rfl, rfl⟩ := hcs
    exact ⟨[], ⟨rfl, Or.inl rfl⟩, fun _ => ⟨rfl, rfl⟩⟩
  · simp [Value.cells] at hcs
    obtain ⟨rfl, rfl, rfl⟩ := hcs
    exact ⟨xs, hs, fun h => by cases h⟩
end Go.Proofs.Qxb6003232a.Bef
