/-
  Contracts of the barbell's functions: b1BarbellDegree (11), barbell.Neighbour (22), ZZBarbellNeighbour (12), b1BarbellAdjacent (13), b1BarbellRankBelow (14).
-/
import Derived.Test.Qxb6602687aRows
import Derived.WalkKit
import Derived.ProofKit
import Derived.OpenShut
import Derived.WalkSpells
namespace Go.Proofs.Qxb6602687a.Bar
open Go.ChangeShapes Go.WideShapes Go.ChangeAt Go.RowKit

set_option linter.unusedVariables false
theorem ret_int {k : IntKind} {a b : Int} (h : a = b) : Ending.returned (.int k a) = .returned (.int k b) := by rw [h]
theorem hide {p : Prop} (h : p) : Hid p := h
theorem unhide {p : Prop} (h : Hid p) : p := h

/-- v's degree, h the half. -/
def deg (h v : Int) : Int := if v = h - 1 ∨ v = h then h else h - 1

/-- v's i-th neighbour, h the half. -/
def nb (h v i : Int) : Int :=
  if v < h then (if i = h - 1 then h else if i < v then i else i + 1)
  else if v = h then (if i = 0 then h - 1 else h + i)
  else h + (if i < v - h then i else i + 1)

theorem deg_calls (h v : Int) (w : World) (h1 : 1 ≤ h) (h2 : h ≤ 4611686018427387904) :
    Calls Try.prog 11 #[.int .i64 h, .int .i64 v] w fun e w' => e = .returned (.int .i64 (deg h v)) ∧ w' = w := by
  by_cases c1 : v = h - 1
  · have hd : deg h v = h := by unfold deg; rw [if_pos (Or.inl c1)]
    rw [hd]; clear hd
    have c1' : (v == h - 1) = true := beq_iff_eq.2 c1
    clear c1
    go_enter Try.func11, Try.ntmps11
    go_wp2
    go_ret
    exact ⟨rfl, rfl⟩
  · by_cases c2 : v = h
    · have hd : deg h v = h := by unfold deg; rw [if_pos (Or.inr c2)]
      rw [hd]; clear hd
      have c1' : (v == h - 1) = false := beq_eq_false_iff_ne.2 c1
      have c2' : (v == h) = true := beq_iff_eq.2 c2
      clear c1 c2
      go_enter Try.func11, Try.ntmps11
      go_wp2
      go_ret
      exact ⟨rfl, rfl⟩
    · have hd : deg h v = h - 1 := by unfold deg; rw [if_neg (by omega)]
      rw [hd]; clear hd
      have c1' : (v == h - 1) = false := beq_eq_false_iff_ne.2 c1
      have c2' : (v == h) = false := beq_eq_false_iff_ne.2 c2
      clear c1 c2
      go_enter Try.func11, Try.ntmps11
      go_wp2
      go_ret
      exact ⟨rfl, rfl⟩

theorem com_lt (h v i : Int) (w : World) (c : i < v) :
    Calls Try.prog 24 #[.int .i64 h, .int .i64 v, .int .i64 i] w fun e w' => e = .returned (.int .i64 i) ∧ w' = w := by
  go_enter Try.func24, Try.ntmps24
  go_wp2
  go_ret
  exact ⟨rfl, rfl⟩

theorem com_ge (h v i : Int) (w : World) (i0 : -2 ≤ i) (i1 : i ≤ 4611686018427387904) (c : ¬ i < v) :
    Calls Try.prog 24 #[.int .i64 h, .int .i64 v, .int .i64 i] w fun e w' => e = .returned (.int .i64 (i + 1)) ∧ w' = w := by
  go_enter Try.func24, Try.ntmps24
  go_wp2
  go_ret
  exact ⟨rfl, rfl⟩

theorem bar_calls (h v i : Int) (w : World) (h1 : 1 ≤ h) (h2 : h ≤ 4611686018427387903) (v0 : 0 ≤ v) (v1 : v < 2 * h) (i0 : 0 ≤ i) (i1 : i ≤ h) :
    Calls Try.prog 22 #[.int .i64 (2 * h), .int .i64 v, .int .i64 i] w fun e w' => e = .returned (.int .i64 (nb h v i)) ∧ w' = w := by
  have hh : 2 * h / 2 = h := by omega
  by_cases c1 : v < h
  · by_cases c2 : i = h - 1
    · have hd : nb h v i = h := by unfold nb; rw [if_pos c1, if_pos c2]
      rw [hd]; clear hd
      have c2' : (i == h - 1) = true := beq_iff_eq.2 c2
      clear c2
      go_enter Try.func22, Try.ntmps22
      go_wp2
      go_ret
      exact ⟨rfl, rfl⟩
    · have hd : nb h v i = if i < v then i else i + 1 := by unfold nb; rw [if_pos c1, if_neg c2]
      rw [hd]; clear hd
      have c2' : (i == h - 1) = false := beq_eq_false_iff_ne.2 c2
      clear c2
      by_cases k1 : i < v
      · rw [if_pos k1]
        go_enter Try.func22, Try.ntmps22
        go_wp2_with (go_at_call 24; refine (com_lt _ _ _ _ (by omega)).mono ?_; rintro e w' ⟨rfl, rfl⟩)
        go_ret
        exact ⟨rfl, rfl⟩
      · rw [if_neg k1]
        go_enter Try.func22, Try.ntmps22
        go_wp2_with (go_at_call 24; refine (com_ge _ _ _ _ (by omega) (by omega) (by omega)).mono ?_; rintro e w' ⟨rfl, rfl⟩)
        go_ret
        exact ⟨rfl, rfl⟩
  · by_cases c2 : v = h
    · by_cases c3 : i = 0
      · have hd : nb h v i = h - 1 := by unfold nb; rw [if_neg c1, if_pos c2, if_pos c3]
        rw [hd]; clear hd
        have c2' : (v == h) = true := beq_iff_eq.2 c2
        have c3' : (i == 0) = true := beq_iff_eq.2 c3
        clear c2 c3
        go_enter Try.func22, Try.ntmps22
        go_wp2
        go_ret
        exact ⟨rfl, rfl⟩
      · have hd : nb h v i = h + (if i - 1 < v - h then i - 1 else i - 1 + 1) := by unfold nb; rw [if_neg c1, if_pos c2, if_neg c3, if_neg (by omega)]; omega
        rw [hd]; clear hd
        have c2' : (v == h) = true := beq_iff_eq.2 c2
        have c3' : (i == 0) = false := beq_eq_false_iff_ne.2 c3
        have k1 : ¬ (i - 1 < v - h) := by omega
        rw [if_neg k1]
        clear c2 c3
        go_enter Try.func22, Try.ntmps22
        go_wp2_with (go_at_call 24; refine (com_ge _ _ _ _ (by omega) (by omega) (by omega)).mono ?_; rintro e w' ⟨rfl, rfl⟩)
        go_ret
        exact ⟨ret_int (by omega), rfl⟩
    · have hd : nb h v i = h + (if i < v - h then i else i + 1) := by unfold nb; rw [if_neg c1, if_neg c2]
      rw [hd]; clear hd
      have c2' : (v == h) = false := beq_eq_false_iff_ne.2 c2
      clear c2
      by_cases k1 : i < v - h
      · rw [if_pos k1]
        go_enter Try.func22, Try.ntmps22
        go_wp2_with (go_at_call 24; refine (com_lt _ _ _ _ (by omega)).mono ?_; rintro e w' ⟨rfl, rfl⟩)
        go_ret
        exact ⟨by go_num, rfl⟩
      · rw [if_neg k1]
        go_enter Try.func22, Try.ntmps22
        go_wp2_with (go_at_call 24; refine (com_ge _ _ _ _ (by omega) (by omega) (by omega)).mono ?_; rintro e w' ⟨rfl, rfl⟩)
        go_ret
        exact ⟨by go_num, rfl⟩

theorem zz_calls (h v i : Int) (w : World) (h1 : 1 ≤ h) (h2 : h ≤ 4611686018427387903) (v0 : 0 ≤ v) (v1 : v < 2 * h) (i0 : 0 ≤ i) (i1 : i ≤ h) :
    Calls Try.prog 12 #[.int .i64 (2 * h), .int .i64 v, .int .i64 i] w fun e w' => e = .returned (.int .i64 (nb h v i)) ∧ w' = w := by
  go_enter Try.func12, Try.ntmps12
  go_wp2_with (go_at_call 22; refine (bar_calls h v i _ h1 h2 v0 v1 i0 i1).mono ?_; rintro e w' ⟨rfl, rfl⟩)
  go_ret
  exact ⟨rfl, rfl⟩


/-- u and x are joined, h the half. -/
def Adj (h u x : Int) : Prop := u ≠ x ∧ ((u < h ∧ x < h) ∨ (¬ u < h ∧ ¬ x < h) ∨ (u = h - 1 ∧ x = h) ∨ (u = h ∧ x = h - 1))

theorem adj_calls (h u x : Int) (w : World) (h1 : 1 ≤ h) (h2 : h ≤ 4611686018427387903) (ha : Adj h u x) :
    Calls Try.prog 13 #[.int .i64 h, .int .i64 u, .int .i64 x] w fun e w' => e = .returned (.bool true) ∧ w' = w := by
  obtain ⟨hne, hc⟩ := ha
  have e1 : (u == x) = false := beq_eq_false_iff_ne.2 hne
  clear hne
  rcases hc with ⟨c1, c2⟩ | ⟨c1, c2⟩ | ⟨c1, c2⟩ | ⟨c1, c2⟩
  · go_enter Try.func13, Try.ntmps13
    go_wp2
    go_ret
    exact ⟨rfl, rfl⟩
  · go_enter Try.func13, Try.ntmps13
    go_wp2
    go_ret
    exact ⟨rfl, rfl⟩
  · have d1 : u < h := by omega
    have d2 : ¬ x < h := by omega
    have e3 : (u == h - 1) = true := beq_iff_eq.2 c1
    have e4 : (x == h) = true := beq_iff_eq.2 c2
    clear c1 c2
    go_enter Try.func13, Try.ntmps13
    go_wp2
    go_ret
    exact ⟨rfl, rfl⟩
  · have d1 : ¬ u < h := by omega
    have d2 : x < h := by omega
    have e2 : (u == h - 1) = false := beq_eq_false_iff_ne.2 (by omega)
    have e3 : (u == h) = true := beq_iff_eq.2 c1
    have e4 : (x == h - 1) = true := beq_iff_eq.2 c2
    clear c1 c2
    go_enter Try.func13, Try.ntmps13
    go_wp2
    go_ret
    exact ⟨rfl, rfl⟩

/-- How many neighbours of v are below x, h the half. -/
def rank (h v x : Int) : Int :=
  if v < h then min x h - (if v < min x h then 1 else 0) + (if v = h - 1 ∧ h < x then 1 else 0)
  else (if h < x then x - h else 0) - (if v < x then 1 else 0) + (if v = h ∧ h - 1 < x then 1 else 0)

theorem rank_calls (h v x : Int) (w : World) (h1 : 1 ≤ h) (h2 : h ≤ 4611686018427387903) (v0 : 0 ≤ v) (v1 : v < 2 * h) (x0 : 0 ≤ x) (x1 : x < 2 * h) :
    Calls Try.prog 14 #[.int .i64 h, .int .i64 v, .int .i64 x] w fun e w' => e = .returned (.int .i64 (rank h v x)) ∧ w' = w := by
  generalize hr : rank h v x = r
  have HR : Hid (rank h v x = r) := hr
  clear hr
  go_enter Try.func14, Try.ntmps14
  go_wp2
  all_goals
    go_ret
    refine ⟨ret_int ?_, rfl⟩
    have h9 := HR.out
    unfold rank at h9
    omega

/-! The plain laws -/
theorem nb_ok (h v i : Int) (h1 : 1 ≤ h) (v0 : 0 ≤ v) (v1 : v < 2 * h) (i0 : 0 ≤ i) (i1 : i < deg h v) :
    0 ≤ nb h v i ∧ nb h v i < 2 * h ∧ Adj h v (nb h v i) ∧ rank h v (nb h v i) = i := by
  unfold deg at i1
  unfold Adj rank nb
  omega

/-- v is among the neighbours of whatever x it is joined to. -/
theorem nb_back (h v x : Int) (h1 : 1 ≤ h) (v0 : 0 ≤ v) (v1 : v < 2 * h) (x0 : 0 ≤ x) (x1 : x < 2 * h) (ha : Adj h v x) :
    ∃ J : Int, 0 ≤ J ∧ J < deg h x ∧ nb h x J = v := by
  refine ⟨rank h x v, ?_⟩
  unfold Adj at ha
  unfold rank deg nb
  omega
end Go.Proofs.Qxb6602687a.Bar
