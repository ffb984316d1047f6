import Derived.Test.Qxb6003232aT4
import Derived.Deep.RegionWith
import Derived.LaidEqlPtr
namespace Go.Proofs.Qxb6003232a.Bef
open Go.ChangeShapes Go.WideShapes Go.ChangeAt Go.RowKit
set_option linter.unusedVariables false

/-- what is known of the argument: nil, or rows that can be read -/
def Arg (w : World) (a : Option Addr) (n cap : Nat) (xs : List R) : Prop := Sl w a n xs ∧ (a = none → n = 0 ∧ cap = 0)

theorem zrows_calls (a : Option Addr) (n cap : Nat) (xs : List R) (w : World) (hs : Arg w a n cap xs) (hn : n ≤ 1000000) :
    Calls Try.prog 9 #[.slice a n cap] w fun e w' => ∃ a', e = .returned (.slice a' n n) ∧ Sl w' a' n xs ∧ Below w.heap.size w w' := by
  obtain ⟨hs, ha⟩ := hs
  cases a with
  | none =>
    obtain ⟨rfl, rfl⟩ := ha rfl
    have hx : xs = [] := List.eq_nil_of_length_eq_zero hs.1
    have HX := hide hx
    clear hx hs ha
    have hnl := fun (w : World) (a : Option Addr) (l c : Nat) => Lib.run_eql_slice_nil (P := Try.prog) w 22 61 a l c 0 0 Try.underlying22
    go_enter Try.func9, Try.ntmps9
    go_wp2
    go_ret
    exact ⟨none, rfl, ⟨by rw [unhide HX]; rfl, Or.inl (unhide HX)⟩, Below.refl _ _⟩
  | some ad =>
    refine (rows_calls ad n cap xs w hs hn).mono ?_
    rintro e w' ⟨rfl, hb, hr, hlt⟩
    exact ⟨_, rfl, ⟨hs.1, Or.inr ⟨_, 0, rfl, hlt, hr⟩⟩, hb⟩

theorem bytes8_yes (a : Option Addr) (n cap : Nat) (m : Int) (w : World) (hn : n ≤ 1048576) :
    Calls Try.prog 8 #[.slice a n cap, .int .i64 m] w fun e w' => e = .returned (.bool true) ∧ w' = w := by
  go_enter Try.func8, Try.ntmps8
  go_wp2
  go_ret
  exact ⟨rfl, rfl⟩
theorem bytes8_no (a : Option Addr) (n cap : Nat) (m : Int) (w : World) (hn : ¬ n ≤ 1048576) :
    Calls Try.prog 8 #[.slice a n cap, .int .i64 m] w fun e w' => e = .returned (.bool false) ∧ w' = w := by
  go_enter Try.func8, Try.ntmps8
  go_wp2
  go_ret
  exact ⟨rfl, rfl⟩
theorem bytes13_yes (a : Option Addr) (n cap : Nat) (m m' : Int) (w : World) (hn : n ≤ 1048576) :
    Calls Try.prog 13 #[.slice a n cap, .int .i64 m, .int .i64 m'] w fun e w' => e = .returned (.bool true) ∧ w' = w := by
  go_enter Try.func13, Try.ntmps13
  go_wp2
  go_ret
  exact ⟨rfl, rfl⟩
theorem bytes13_no (a : Option Addr) (n cap : Nat) (m m' : Int) (w : World) (hn : ¬ n ≤ 1048576) :
    Calls Try.prog 13 #[.slice a n cap, .int .i64 m, .int .i64 m'] w fun e w' => e = .returned (.bool false) ∧ w' = w := by
  go_enter Try.func13, Try.ntmps13
  go_wp2
  go_ret
  exact ⟨rfl, rfl⟩

theorem twice_eq (xs : List R) (a b : Int) : (xs.filter (early a)).filter (early b) = xs.filter (early (if b < a then b else a)) := by
  rw [List.filter_filter]
  congr 1
  funext r
  unfold early
  by_cases h : b < a
  · rw [if_pos h, ← Bool.decide_and]; congr 1; apply propext; omega
  · rw [if_neg h, ← Bool.decide_and]; congr 1; apply propext; omega

theorem cnt_twice (xs : List R) (a b : Int) : cnt b (xs.filter (early a)) = cnt (if b < a then b else a) xs := by
  unfold cnt; rw [twice_eq]

theorem neq_ptr_same (a : Addr) (w : World) : (binOp .neq 30 (.pointer (some a)) (.pointer (some a))).run Try.prog w = .ok (.bool false) w := by
  obtain ⟨i0, hi, hz0, hz1, hz2⟩ := info_parts info33
  have h : ∀ d : Nat, (Op.equalIn (d + 1) 30 (.pointer (some a)) (.pointer (some a))).run Try.prog w = .ok true w := fun d => by
    simp [Op.equalIn, run_underlying Try.underlying30, sizeOf, typeInfo, hi, run_sameAddr_same]
  simp only [binOp]
  simp [Op.equal, Op.maxDepth, h 9999]
set_option maxRecDepth 100000 in
theorem keeps_walk (a : Option Addr) (n cap : Nat) (xs : List R) (m : Int) (w : World) (hs : Arg w a n cap xs) :
    Calls Try.prog 3 #[.slice a n cap, .int .i64 m] w fun e w' => e = .returned (.bool true) ∧ Below w.heap.size w w' := by
  have HA := hide hs
  clear hs
  by_cases h1 : n ≤ 1048576
  rotate_left
  · go_enter Try.func3, Try.ntmps3
    go_wp2_with (go_at_call 8; refine (bytes8_no _ _ _ _ _ h1).mono ?_; rintro e w' ⟨rfl, rfl⟩)
    go_ret
    exact ⟨rfl, Below.refl _ _⟩
  by_cases h2 : n ≤ 32768
  rotate_left
  · go_enter Try.func3, Try.ntmps3
    go_wp2_with (go_at_call 8; refine (bytes8_yes _ _ _ _ _ h1).mono ?_; rintro e w' ⟨rfl, rfl⟩)
    go_ret
    exact ⟨rfl, Below.refl _ _⟩
  have hnl := fun (w : World) (a : Option Addr) (l c : Nat) => Lib.run_eql_slice_nil (P := Try.prog) w 24 33 a l c 0 0 Try.underlying24
  have hcn := cnt_le m xs
  have hln := (unhide HA).1.1
  have hcn' : cnt m xs ≤ 32768 := by omega
  have HL := hide hln
  clear hln hcn
  go_enter Try.func3, Try.ntmps3
  go_wp2_with (go_at_call 8; refine (bytes8_yes _ _ _ _ _ h1).mono ?_; rintro e w' ⟨rfl, rfl⟩)
  refine (zrows_calls a n cap xs _ (unhide HA) (by omega)).mono ?_
  rintro e w1 ⟨a1, rfl, hs1, hb1⟩
  have HS1 := hide hs1
  have HB1 := hide hb1
  clear hs1 hb1
  go_wp2_with fail
  refine (before_calls a1 n n xs m _ (unhide HS1) (by omega)).mono ?_
  rintro e w2 ⟨a2, cap2, rfl, hs2, hb2, he2⟩
  have HS2 := hide hs2
  have HB2 := hide ((unhide HB1).trans (hb2.mono (unhide HB1).size))
  have HS1' := hide ((unhide HS1).below hb2)
  have HE := hide he2
  clear hs2 hb2 he2 HS1 HB1
  go_wp2_with fail
  refine (spec_calls a2 a1 _ cap2 n n (xs.filter (early m)) xs m _ (unhide HS2) (unhide HS1') (by omega) (by omega) rfl).mono ?_
  rintro e w3 ⟨rfl, hb3⟩
  have HS1 := hide ((unhide HS1').below hb3)
  have HB3 := hide ((unhide HB2).trans (hb3.mono (unhide HB2).size))
  clear hb3 HB2 HS1' HS2
  go_wp2_with fail
  refine (all_calls a1 n n xs m _ (unhide HS1) (by omega)).mono ?_
  rintro e w4 ⟨rfl, rfl⟩
  cases hall : xs.all (early m)
  · go_wp2
    go_ret
    exact ⟨rfl, unhide HB3⟩
  · obtain ⟨rfl, rfl⟩ := unhide HE hall
    have hc : cnt m xs = cap2 := (cnt_all' hall).trans (unhide HL)
    rw [hc]
    by_cases hn0 : 0 < cap2
    · obtain ⟨b, off, r, rfl, -⟩ := (unhide HS1).at hn0
      have hd : decide ((0 : Int) < (cap2 : Int)) = true := by simpa using hn0
      have hd2 : (0 : Int) < (cap2 : Int) := by omega
      have hpp := fun w => neq_ptr_same ⟨b, off, none⟩ w
      clear hc hall HE
      go_wp2
      go_quiet (fail)
      go_wp2
      go_ret
      exact ⟨rfl, below_drewN (unhide HB3) _⟩
    · have hd : decide ((0 : Int) < (cap2 : Int)) = false := by simp; omega
      clear hc hall HE
      go_wp2
      go_quiet (fail)
      go_wp2
      go_ret
      exact ⟨rfl, below_drewN (unhide HB3) _⟩

set_option maxRecDepth 100000 in
theorem twice_core (a : Option Addr) (n cap : Nat) (xs : List R) (p q lo : Int) (w : World) (hs : Arg w a n cap xs) (h2 : n ≤ 32768) (hcl : cnt lo xs ≤ 32768) (hcp : cnt p xs ≤ 32768)
    (ht : (xs.filter (early p)).filter (early q) = xs.filter (early lo)) (hc : cnt q (xs.filter (early p)) = cnt lo xs) (hlo : (q < p ∧ q = lo) ∨ (¬ q < p ∧ p = lo)) :
    Calls Try.prog 4 #[.slice a n cap, .int .i64 p, .int .i64 q] w fun e w' => e = .returned (.bool true) ∧ Below w.heap.size w w' := by
  have h1 : n ≤ 1048576 := by omega
  have HA := hide hs
  have HTW := hide ht
  have HCT := hide hc
  clear hs ht hc
  rcases hlo with ⟨hqp, hlo⟩ | ⟨hqp, hlo⟩
  all_goals
    obtain ⟨N, hN⟩ : ∃ N, N = cnt lo xs := ⟨_, rfl⟩
    subst hlo
    have HN := hide hN
    clear hN
    go_enter Try.func4, Try.ntmps4
    go_wp2_with (go_at_call 13; refine (bytes13_yes _ _ _ _ _ _ h1).mono ?_; rintro e w' ⟨rfl, rfl⟩)
    refine (zrows_calls a n cap xs _ (unhide HA) (by omega)).mono ?_
    rintro e w1 ⟨a1, rfl, hs1, hb1⟩
    have HS1 := hide hs1
    have HB1 := hide hb1
    clear hs1 hb1
    go_wp2_with fail
    refine (before_calls a1 n n xs _ _ (unhide HS1) (by omega)).mono ?_
    rintro e w2 ⟨a2, cap2, rfl, hs2, hb2, -⟩
    have HS2 := hide hs2
    have HB2 := hide ((unhide HB1).trans (hb2.mono (unhide HB1).size))
    have HS1' := hide ((unhide HS1).below hb2)
    clear hs2 hb2 HS1 HB1
    go_wp2_with fail
    refine (spec_calls a2 a1 _ cap2 n n _ xs _ _ (unhide HS2) (unhide HS1') (by omega) (by omega) rfl).mono ?_
    rintro e w3 ⟨rfl, hb3⟩
    have HS1 := hide ((unhide HS1').below hb3)
    have HS3 := hide ((unhide HS2).below hb3)
    have HB3 := hide ((unhide HB2).trans (hb3.mono (unhide HB2).size))
    clear hb3 HB2 HS1' HS2
    go_wp2_with fail
    refine (before_calls a1 n n xs p _ (unhide HS1) (by omega)).mono ?_
    rintro e w4 ⟨a4, cap4, rfl, hs4, hb4, -⟩
    have HS4 := hide hs4
    have HB4 := hide ((unhide HB3).trans (hb4.mono (unhide HB3).size))
    have HS2 := hide ((unhide HS3).below hb4)
    clear hs4 hb4 HS1 HB3 HS3
    go_wp2_with fail
    refine (before_calls a4 _ cap4 (xs.filter (early p)) q _ (unhide HS4) (by omega)).mono ?_
    rintro e w5 ⟨a5, cap5, rfl, hs5, hb5, -⟩
    rw [unhide HTW, unhide HCT] at hs5
    rw [unhide HCT]
    have HS5 := hide hs5
    have HB5 := hide ((unhide HB4).trans (hb5.mono (unhide HB4).size))
    have HS6 := hide ((unhide HS2).below hb5)
    clear hs5 hb5 HS4 HB4 HS2 HTW HCT
    have hN := unhide HN
    rw [← hN] at HS5 HS6 hcl ⊢
    clear hN HN
    go_wp2_with fail
    go_loopw [13] (fun i wr => ∃ k : Nat, k ≤ N ∧ i = .int .i64 k ∧ Below w5.heap.size w5 wr) (fun i _ => N - (intOf i).toNat)
    case atStart => exact ⟨0, by omega, rfl, Below.refl _ _⟩
    case round =>
      obtain ⟨k, hk, rfl, hbel⟩ := hrel
      by_cases hlt : k < N
      · obtain ⟨b, off, r, rfl, hb, hr, c0, c1, c2, c3⟩ := ((unhide HS5).below hbel).at hlt
        obtain ⟨b', off', r', rfl, hb', hr', d0, d1, d2, d3⟩ := ((unhide HS6).below hbel).at hlt
        obtain rfl : r = r' := Option.some.inj (hr.symm.trans hr')
        have hg := guard33
        have hq := eq33_same r
        have hk1 : (0 : Int) ≤ (k : Int) := by omega
        have hk2 : (k : Int) < (N : Int) := by omega
        clear hr hr' hb hb'
        go_wp2_with fail
        go_quiet (fail)
        go_wp2
        go_roundw
        case rel => exact ⟨k + 1, by omega, by go_num, below_drewN hbel _⟩
        case measure => simp [intOf]; omega
      · go_wp2
        go_ret
        exact ⟨rfl, (unhide HB5).trans (hbel.mono (unhide HB5).size)⟩

set_option maxRecDepth 100000 in
theorem twice_walk (a : Option Addr) (n cap : Nat) (xs : List R) (p q : Int) (w : World) (hs : Arg w a n cap xs) :
    Calls Try.prog 4 #[.slice a n cap, .int .i64 p, .int .i64 q] w fun e w' => e = .returned (.bool true) ∧ Below w.heap.size w w' := by
  have HA := hide hs
  clear hs
  by_cases h1 : n ≤ 1048576
  rotate_left
  · go_enter Try.func4, Try.ntmps4
    go_wp2_with (go_at_call 13; refine (bytes13_no _ _ _ _ _ _ h1).mono ?_; rintro e w' ⟨rfl, rfl⟩)
    go_ret
    exact ⟨rfl, Below.refl _ _⟩
  by_cases h2 : n ≤ 32768
  rotate_left
  · go_enter Try.func4, Try.ntmps4
    go_wp2_with (go_at_call 13; refine (bytes13_yes _ _ _ _ _ _ h1).mono ?_; rintro e w' ⟨rfl, rfl⟩)
    go_ret
    exact ⟨rfl, Below.refl _ _⟩
  have hcq := cnt_le q xs
  have hcp := cnt_le p xs
  have hln := (unhide HA).1.1
  have hcq' : cnt q xs ≤ 32768 := by omega
  have hcp' : cnt p xs ≤ 32768 := by omega
  have ht := twice_eq xs p q
  have hc := cnt_twice xs p q
  clear hcq hcp hln
  by_cases hqp : q < p
  · rw [if_pos hqp] at ht hc
    exact twice_core a n cap xs p q q w (unhide HA) h2 hcq' hcp' ht hc (Or.inl ⟨hqp, rfl⟩)
  · rw [if_neg hqp] at ht hc
    exact twice_core a n cap xs p q p w (unhide HA) h2 hcp' hcp' ht hc (Or.inr ⟨hqp, rfl⟩)
end Go.Proofs.Qxb6003232a.Bef
