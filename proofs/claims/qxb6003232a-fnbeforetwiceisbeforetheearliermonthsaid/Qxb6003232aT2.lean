import Derived.Test.Qxb6003232aT1
import Derived.Deep.QuietTactic
import Derived.BigQuiet
import Derived.WalkSmall
import Derived.WalkLawsBesides
namespace Go.Proofs.Qxb6003232a.Bef
open Go.ChangeShapes Go.WideShapes Go.ChangeAt Go.RowKit
set_option linter.unusedVariables false

theorem Sl.below {w w' : World} {a : Option Addr} {n : Nat} {xs : List R} (h : Sl w a n xs) (hb : Below w.heap.size w w') : Sl w' a n xs := by
  obtain ⟨hl, hx⟩ := h
  refine ⟨hl, ?_⟩
  rcases hx with hx | ⟨b, off, ha, hlt, hr⟩
  · exact Or.inl hx
  · refine Or.inr ⟨b, off, ha, Nat.lt_of_lt_of_le hlt hb.size, fun i r hi => ?_⟩
    obtain ⟨c0, c1, c2, c3⟩ := hr i r hi
    exact ⟨(hb.cell hlt).trans c0, (hb.cell hlt).trans c1, (hb.cell hlt).trans c2, (hb.cell hlt).trans c3⟩

theorem drop_at {xs : List R} {k : Nat} {r : R} (h : xs[k]? = some r) : xs.drop k = r :: xs.drop (k + 1) := by
  obtain ⟨hk, rfl⟩ := List.getElem?_eq_some_iff.1 h
  exact List.drop_eq_getElem_cons hk
theorem sub_skip {r r' : R} {l l' : List R} (he : ¬ r = r') (h : (r' :: l').Sublist (r :: l)) : (r' :: l').Sublist l := by
  cases h with
  | cons _ h => exact h
  | cons_cons _ h => exact absurd rfl he
def cnt (m : Int) (xs : List R) : Nat := (xs.filter (early m)).length
theorem cnt_snoc (m : Int) (xs : List R) (r : R) : cnt m (xs ++ [r]) = cnt m xs + if early m r then 1 else 0 := by
  unfold cnt; rw [List.filter_append, List.length_append]; cases h : early m r <;> simp [h]
theorem cnt_le (m : Int) (xs : List R) : cnt m xs ≤ xs.length := List.length_filter_le _ _

set_option maxRecDepth 100000 in
theorem spec_calls (a a' : Option Addr) (n cap n' cap' : Nat) (ys xs : List R) (m : Int) (w : World) (hs : Sl w a n ys) (hs' : Sl w a' n' xs) (hn : n ≤ 1000000) (hn' : n' ≤ 1000000) (hy : ys = xs.filter (early m)) :
    Calls Try.prog 11 #[.slice a n cap, .slice a' n' cap', .int .i64 m] w fun e w' => e = .returned (.bool true) ∧ Below w.heap.size w w' := by
  have HY := hide hs
  have HX := hide hs'
  have LY := hide hs.1
  have LX := hide hs'.1
  have HF := hide hy
  clear hs hs' hy
  go_enter Try.func11, Try.ntmps11
  go_wp2
  go_loop [7, 8] (fun c i => ∃ k : Nat, k ≤ n' ∧ i = .int .i64 k ∧ c = .int .i64 (cnt m (xs.take k) : Nat)) (fun _ i => n' - (intOf i).toNat)
  case atStart => exact ⟨0, by omega, rfl, rfl⟩
  case round =>
    obtain ⟨k, hk, rfl, rfl⟩ := hrel
    have hc := cnt_le m (xs.take k)
    have hc' := List.length_take_le k xs
    by_cases hlt : k < n'
    · obtain ⟨b, off, r, rfl, hb, hr, c0, c1, c2, c3⟩ := (unhide HX).at hlt
      have hx := hide (show cnt m (xs.take (k + 1)) = _ by rw [take_snoc hr, cnt_snoc])
      clear hr hb c1 c2 c3
      by_cases hm : r.m < m
      · have hx' := hide (show cnt m (xs.take (k + 1)) = cnt m (xs.take k) + 1 by rw [unhide hx]; simp [early, hm])
        go_wp2
        go_round
        case rel => exact ⟨k + 1, by omega, by go_num, by rw [unhide hx']; go_num⟩
        case measure => simp [intOf]; omega
      · have hx' := hide (show cnt m (xs.take (k + 1)) = cnt m (xs.take k) by rw [unhide hx]; simp [early, hm])
        go_wp2
        go_round
        case rel => exact ⟨k + 1, by omega, by go_num, by rw [unhide hx']⟩
        case measure => simp [intOf]; omega
    · have hcl : cnt m (xs.take k) = n := by
        rw [List.take_of_length_le (by have := unhide LX; omega)]
        have h1 := unhide LY
        rw [unhide HF] at h1
        exact h1
      rw [hcl]
      clear hcl hc hc'
      go_wp2
      go_loop [9] (fun i => ∃ k : Nat, k ≤ n ∧ i = .int .i64 k) (fun i => n - (intOf i).toNat)
      case atStart => exact ⟨0, by omega, rfl⟩
      case round =>
        clear hk hlt
        obtain ⟨k, hk, rfl⟩ := hrel
        by_cases hlt : k < n
        · obtain ⟨b, off, r, rfl, hb, hr, c0, c1, c2, c3⟩ := (unhide HY).at hlt
          have hm : r.m < m := by
            have h1 := List.mem_of_getElem? hr
            rw [unhide HF, List.mem_filter] at h1
            simpa [early] using h1.2
          clear hr hb c1 c2 c3
          go_wp2
          go_round
          case rel => exact ⟨k + 1, by omega, by go_num⟩
          case measure => simp [intOf]; omega
        · go_wp2
          clear hk hlt
          go_loopw [10, 11] (fun i j wr => ∃ p q : Nat, p ≤ n' ∧ q ≤ n ∧ i = .int .i64 p ∧ j = .int .i64 q ∧ (ys.drop q).Sublist (xs.drop p) ∧ Below w.heap.size w wr) (fun _ j _ => n - (intOf j).toNat)
          case atStart => exact ⟨0, 0, by omega, by omega, rfl, rfl, by simp [unhide HF], Below.refl _ _⟩
          case round =>
            obtain ⟨p, q, hp, hq, rfl, rfl, hsub, hbel⟩ := hrel
            have HS := hide hsub
            clear hsub
            by_cases hlt : q < n
            · go_wp2
              go_loopw [10] (fun i wr => ∃ p : Nat, p ≤ n' ∧ i = .int .i64 p ∧ (ys.drop q).Sublist (xs.drop p) ∧ Below w.heap.size w wr) (fun i _ => n' - (intOf i).toNat)
              case atStart => exact ⟨p, hp, rfl, unhide HS, hbel⟩
              case round =>
                clear hp HS hbel
                obtain ⟨p, hp, rfl, hsub, hbel⟩ := hrel
                by_cases hlp : p < n'
                rotate_left
                · exfalso
                  rw [List.drop_of_length_le (show xs.length ≤ p by have := unhide LX; omega)] at hsub
                  have h1 := hsub.length_le
                  have h2 := unhide LY
                  simp at h1
                  omega
                obtain ⟨b, off, r, rfl, hb, hr, c0, c1, c2, c3⟩ := ((unhide HX).below hbel).at hlp
                obtain ⟨b', off', r', rfl, hb', hr', d0, d1, d2, d3⟩ := ((unhide HY).below hbel).at hlt
                rw [drop_at hr, drop_at hr'] at hsub
                have HR := hide hr'
                clear hb hb' hr hr'
                have HS := hide hsub
                clear hsub
                have hg := guard33
                by_cases he : r = r'
                · subst he
                  have hq := eq33_same r
                  have HS' := hide (List.Sublist.of_cons_cons (unhide HS))
                  clear HS
                  go_wp2_with fail
                  go_quiet (fail)
                  go_wp2
                  go_roundw
                  case rel => exact ⟨p + 1, q + 1, by omega, by omega, by go_num, by go_num, unhide HS', below_drewN hbel _⟩
                  case measure => simp [intOf]; omega
                · have hq := eq33_diff r r' he
                  have HS' := hide (sub_skip he (unhide HS))
                  clear HS he
                  go_wp2_with fail
                  go_quiet (fail)
                  go_wp2
                  go_roundw
                  case rel => exact ⟨p + 1, by omega, by go_num, by rw [drop_at (unhide HR)]; exact unhide HS', below_drewN hbel _⟩
                  case measure => simp [intOf]; omega
            · go_wp2
              go_ret
              exact ⟨rfl, hbel⟩
end Go.Proofs.Qxb6003232a.Bef
