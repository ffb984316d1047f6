/-
  zzB1Bit (13): words of 64 bits.
-/
import Derived.Test.Qxb6603374aC5
import Derived.Laws.BitsAllLaws
namespace Go.Proofs.Qxb6603374a.G
open Go.ChangeShapes Go.WideShapes Go.ChangeAt Go.RowKit
set_option linter.unusedVariables false
def fW (x : Nat) : Value := .int .u64 (x : Int)

theorem bit_test (x b : Nat) (hx : x < 18446744073709551616) : (bits BinOp.and IntKind.u64 ((x : Int) / 2 ^ b) 1 == 1) = x.testBit b := by
  have e1 : ((x : Int) / 2 ^ b) = ((x / 2 ^ b : Nat) : Int) := by simp
  have e2 : (1 : Int) = ((1 : Nat) : Int) := rfl
  have hlt : x / 2 ^ b < 18446744073709551616 := Nat.lt_of_le_of_lt (Nat.div_le_self _ _) hx
  rw [e1]
  conv => lhs; arg 1; rw [e2, u64_and_nat _ 1 hlt (by omega)]
  rw [Nat.and_one_is_mod, Nat.testBit_eq_decide_div_mod_eq, Bool.eq_iff_iff, beq_iff_eq, decide_eq_true_iff]
  omega

theorem bit_calls (g W u x : Nat) (ws : List Nat) (wr : World) (hA : Ar fW wr g ws 52) (hW : ws.length = W) (hWb : W ≤ 1048576) (hu : u < W * 64) (hx : ws[u / 64]? = some x) (hxb : x < 18446744073709551616) :
    Calls Try.prog 13 #[.slice (some ⟨g, 0, none⟩) W W, .int .i64 (u : Int)] wr fun e w' => e = .returned (.bool (x.testBit (u % 64))) ∧ w' = wr := by
  have hc : wr.cell? ⟨g, u / 64, none⟩ = some (.int .u64 (x : Int)) := hA.at hx
  have hd : u / 64 < W := by omega
  have hd1 : (u : Int) / 64 < (W : Int) := by omega
  have hd2 : (0 : Int) ≤ (u : Int) / 64 := by omega
  have hd3 : ((u : Int) / 64).toNat = u / 64 := by omega
  have HB := hide (bit_test x (u % 64) hxb)
  clear hA hx hW hxb
  go_enter Try.func13, Try.ntmps13
  go_wp2
  go_ret
  exact ⟨ret_bool (unhide HB), rfl⟩

/-- the words ws are the set P -/
def RowP (P : Nat → Prop) (ws : List Nat) : Prop := ∀ i y, ws[i]? = some y → y < 18446744073709551616 ∧ ∀ b, b < 64 → (y.testBit b = true ↔ P (64 * i + b))
theorem RowP.zero (n : Nat) : RowP (fun _ => False) (List.replicate n 0) := by
  intro i y hy
  rw [List.getElem?_replicate] at hy
  split at hy
  · obtain rfl := Option.some.inj hy
    exact ⟨by omega, by intro b _; simp⟩
  · cases hy
theorem RowP.congr {P Q : Nat → Prop} {ws : List Nat} (h : RowP P ws) (he : ∀ u, P u ↔ Q u) : RowP Q ws := fun i y hy => ⟨(h i y hy).1, fun b hb => ((h i y hy).2 b hb).trans (he _)⟩
theorem one_shl (b : Nat) (hb : b < 64) : 2 ^ b < 18446744073709551616 := by
  have := Nat.pow_lt_pow_right (a := 2) (by omega) hb
  simpa using this
/-- one bit more -/
theorem RowP.bit {P : Nat → Prop} {ws : List Nat} (h : RowP P ws) {v x : Nat} (hx : ws[v / 64]? = some x) : RowP (fun u => u = v ∨ P u) (ws.set (v / 64) (x ||| 2 ^ (v % 64))) := by
  intro i y hy
  have hb : v % 64 < 64 := Nat.mod_lt _ (by omega)
  rw [List.getElem?_set] at hy
  by_cases e : v / 64 = i
  · subst e
    rw [if_pos rfl, if_pos (List.getElem?_eq_some_iff.1 hx).1] at hy
    obtain rfl := Option.some.inj hy
    obtain ⟨h1, h2⟩ := h _ _ hx
    refine ⟨Nat.or_lt_two_pow (n := 64) h1 (one_shl _ hb), fun b hb' => ?_⟩
    rw [Nat.testBit_or, Nat.testBit_two_pow, Bool.or_eq_true, h2 b hb', decide_eq_true_iff]
    constructor
    · rintro (q | q)
      · exact Or.inr q
      · exact Or.inl (by omega)
    · rintro (q | q)
      · exact Or.inr (by omega)
      · exact Or.inl q
  · rw [if_neg e] at hy
    obtain ⟨h1, h2⟩ := h _ _ hy
    refine ⟨h1, fun b hb' => ?_⟩
    rw [h2 b hb']
    constructor
    · exact Or.inr
    · rintro (q | q)
      · exfalso; omega
      · exact q
/-- words below k joined with Q, the others as before -/
def RowJ (P Q : Nat → Prop) (k : Nat) (ws : List Nat) : Prop := ∀ i y, ws[i]? = some y → y < 18446744073709551616 ∧ ∀ b, b < 64 → (y.testBit b = true ↔ P (64 * i + b) ∨ (i < k ∧ Q (64 * i + b)))
theorem RowJ.start {P Q : Nat → Prop} {ws : List Nat} (h : RowP P ws) : RowJ P Q 0 ws := fun i y hy => ⟨(h i y hy).1, fun b hb => by rw [(h i y hy).2 b hb]; simp⟩
theorem RowJ.done {P Q : Nat → Prop} {k : Nat} {ws : List Nat} (h : RowJ P Q k ws) (hk : ws.length ≤ k) : RowP (fun u => P u ∨ Q u) ws := fun i y hy => ⟨(h i y hy).1, fun b hb => by
  have hi := (List.getElem?_eq_some_iff.1 hy).1
  rw [(h i y hy).2 b hb]
  constructor
  · rintro (q | q)
    · exact Or.inl q
    · exact Or.inr q.2
  · rintro (q | q)
    · exact Or.inl q
    · exact Or.inr ⟨by omega, q⟩⟩
theorem RowJ.step {P Q : Nat → Prop} {k x z : Nat} {ws qs : List Nat} (h : RowJ P Q k ws) (hq : RowP Q qs) (hx : ws[k]? = some x) (hz : qs[k]? = some z) : RowJ P Q (k + 1) (ws.set k (x ||| z)) := by
  intro i y hy
  rw [List.getElem?_set] at hy
  by_cases e : k = i
  · subst e
    rw [if_pos rfl, if_pos (List.getElem?_eq_some_iff.1 hx).1] at hy
    obtain rfl := Option.some.inj hy
    obtain ⟨h1, h2⟩ := h _ _ hx
    obtain ⟨g1, g2⟩ := hq _ _ hz
    refine ⟨Nat.or_lt_two_pow (n := 64) h1 g1, fun b hb' => ?_⟩
    rw [Nat.testBit_or, Bool.or_eq_true, h2 b hb', g2 b hb']
    constructor
    · rintro ((q | q) | q)
      · exact Or.inl q
      · exact Or.inr ⟨by omega, q.2⟩
      · exact Or.inr ⟨by omega, q⟩
    · rintro (q | q)
      · exact Or.inl (Or.inl q)
      · exact Or.inr q.2
  · rw [if_neg e] at hy
    obtain ⟨h1, h2⟩ := h _ _ hy
    refine ⟨h1, fun b hb' => ?_⟩
    rw [h2 b hb']
    constructor
    · rintro (q | q)
      · exact Or.inl q
      · exact Or.inr ⟨by omega, q.2⟩
    · rintro (q | q)
      · exact Or.inl q
      · exact Or.inr ⟨by omega, q.2⟩
end Go.Proofs.Qxb6603374a.G
