import Derived.Test.Qxb6003232aRows
import Derived.WalkKit
import Derived.ProofKit
import Derived.OpenShut
import Derived.WalkSpells
import Derived.Laws.StructEq
import Derived.WalkLawsBesides
namespace Go.Proofs.Qxb6003232a.Bef
open Go.ChangeShapes Go.WideShapes Go.ChangeAt Go.RowKit
set_option linter.unusedVariables false

theorem hide {p : Prop} (h : p) : Hid p := h
theorem unhide {p : Prop} (h : Hid p) : p := h
theorem ret_bool {a b : Bool} (h : a = b) : Ending.returned (.bool a) = .returned (.bool b) := by rw [h]

/-- a row of the work file: month, hours, rate, line -/
structure R where
  m : Int
  h : Int
  c : Int
  l : Int

/-- the rows xs lie in block b from offset off on -/
def RowsAt (w : World) (b off : Nat) (xs : List R) : Prop :=
  ∀ i r, xs[i]? = some r → w.cell? ⟨b, off + i * 4, none⟩ = some (.int .i64 r.m) ∧ w.cell? ⟨b, off + i * 4 + 1, none⟩ = some (.int .i64 r.h) ∧ w.cell? ⟨b, off + i * 4 + 2, none⟩ = some (.int .i64 r.c) ∧ w.cell? ⟨b, off + i * 4 + 3, none⟩ = some (.int .i64 r.l)

/-- the slice at a, of n elements, holds the rows xs -/
def Sl (w : World) (a : Option Addr) (n : Nat) (xs : List R) : Prop :=
  xs.length = n ∧ (xs = [] ∨ ∃ b off, a = some ⟨b, off, none⟩ ∧ b < w.heap.size ∧ RowsAt w b off xs)

theorem Sl.at {w : World} {a : Option Addr} {n : Nat} {xs : List R} (h : Sl w a n xs) {k : Nat} (hk : k < n) :
    ∃ b off r, a = some ⟨b, off, none⟩ ∧ b < w.heap.size ∧ xs[k]? = some r ∧ w.cell? ⟨b, off + k * 4, none⟩ = some (.int .i64 r.m) ∧ w.cell? ⟨b, off + k * 4 + 1, none⟩ = some (.int .i64 r.h) ∧ w.cell? ⟨b, off + k * 4 + 2, none⟩ = some (.int .i64 r.c) ∧ w.cell? ⟨b, off + k * 4 + 3, none⟩ = some (.int .i64 r.l) := by
  obtain ⟨hl, rfl | ⟨b, off, rfl, hb, hr⟩⟩ := h
  · simp at hl; omega
  · have : xs[k]? = some (xs[k]'(by omega)) := List.getElem?_eq_getElem _
    obtain ⟨c0, c1, c2, c3⟩ := hr k _ this
    exact ⟨b, off, _, rfl, hb, this, c0, c1, c2, c3⟩

def early (m : Int) (r : R) : Bool := decide (r.m < m)

theorem take_snoc {xs : List R} {k : Nat} {r : R} (h : xs[k]? = some r) : xs.take (k + 1) = xs.take k ++ [r] := by
  rw [List.take_add_one, h]; rfl

theorem all_calls (a : Option Addr) (n cap : Nat) (xs : List R) (m : Int) (w : World) (hs : Sl w a n xs) (hn : n ≤ 1000000) :
    Calls Try.prog 12 #[.slice a n cap, .int .i64 m] w fun e w' => e = .returned (.bool (xs.all (early m))) ∧ w' = w := by
  have HS := hide hs
  have hln := hs.1
  clear hs
  have HL := hide hln
  clear hln
  go_enter Try.func12, Try.ntmps12
  go_wp2
  go_loop [5] (fun i => ∃ k : Nat, k ≤ n ∧ i = .int .i64 k ∧ (xs.take k).all (early m) = true) (fun i => n - (intOf i).toNat)
  case atStart => exact ⟨0, by omega, rfl, by simp⟩
  case round =>
    obtain ⟨k, hk, rfl, hall⟩ := hrel
    have HA := hide hall
    clear hall
    by_cases hlt : k < n
    · obtain ⟨b, off, r, rfl, hb, hr, c0, c1, c2, c3⟩ := (unhide HS).at hlt
      have HR := hide hr
      clear hr hb c1 c2 c3
      by_cases hm : r.m < m
      · have hx := hide (show (xs.take (k + 1)).all (early m) = true by rw [take_snoc (unhide HR), List.all_append, unhide HA]; simp [early, hm])
        go_wp2
        go_round
        case rel => exact ⟨k + 1, by omega, by go_num, unhide hx⟩
        case measure => simp [intOf]; omega
      · have hx := hide (show xs.all (early m) = false by rw [List.all_eq_false]; exact ⟨r, List.mem_of_getElem? (unhide HR), by simp [early, hm]⟩)
        go_wp2
        go_ret
        exact ⟨ret_bool (unhide hx).symm, rfl⟩
    · go_wp2
      go_ret
      refine ⟨ret_bool ?_, rfl⟩
      have h8 := unhide HA
      rw [List.take_of_length_le (by have := unhide HL; omega)] at h8
      exact h8.symm
theorem guard33 : Try.prog.eqGuardType Try.prog.depth 33 = false := by kernel_rfl
theorem eq33 (a b c d a' b' c' d' : Int) (w : World) : (Op.equalIn 10000 33 (.agg #[.int .i64 a, .int .i64 b, .int .i64 c, .int .i64 d]) (.agg #[.int .i64 a', .int .i64 b', .int .i64 c', .int .i64 d'])).run Try.prog w = .ok (a == a' && b == b' && c == c' && d == d') w := by
  have hS : Try.prog.underlying 33 = some (.struct (Try.prog.fieldsOf 33)) := by kernel_rfl
  have hp : Try.prog.stoodInHeld 33 = false := by kernel_rfl
  rw [show (10000 : Nat) = 9999 + 1 from rfl, run_equalIn_agg w 9999 33 _ _ hS hp]
  simp only [Program.fieldsOf, Try.underlying33]
  go_simp
  by_cases h1 : a = a' <;> by_cases h2 : b = b' <;> by_cases h3 : c = c' <;> by_cases h4 : d = d' <;> simp [h1, h2, h3, h4]
theorem eq33_same (r : R) (w : World) : (Op.equalIn 10000 33 (.agg #[.int .i64 r.m, .int .i64 r.h, .int .i64 r.c, .int .i64 r.l]) (.agg #[.int .i64 r.m, .int .i64 r.h, .int .i64 r.c, .int .i64 r.l])).run Try.prog w = .ok true w := by
  rw [eq33]; simp
theorem eq33_diff (r s : R) (h : r ≠ s) (w : World) : (Op.equalIn 10000 33 (.agg #[.int .i64 r.m, .int .i64 r.h, .int .i64 r.c, .int .i64 r.l]) (.agg #[.int .i64 s.m, .int .i64 s.h, .int .i64 s.c, .int .i64 s.l])).run Try.prog w = .ok false w := by
  rw [eq33]
  cases hb : (r.m == s.m && r.h == s.h && r.c == s.c && r.l == s.l)
  · rfl
  · exfalso
    simp only [Bool.and_eq_true, beq_iff_eq] at hb
    obtain ⟨⟨⟨h1, h2⟩, h3⟩, h4⟩ := hb
    cases r; cases s; simp_all
end Go.Proofs.Qxb6003232a.Bef
