import Derived.Test.Qxb6003232aT3
import Derived.Laws.OwnMore
namespace Go.Proofs.Qxb6003232a.Bef
open Go.ChangeShapes Go.WideShapes Go.ChangeAt Go.RowKit
set_option linter.unusedVariables false

def rowCells (xs : List R) : List Value := xs.flatMap fun r => [.int .i64 r.m, .int .i64 r.h, .int .i64 r.c, .int .i64 r.l]
theorem rowCells_len (xs : List R) : (rowCells xs).length = xs.length * 4 := by
  induction xs with
  | nil => rfl
  | cons r xs ih => simp only [rowCells, List.flatMap_cons, List.length_append, List.length_cons, List.length_nil] at *; omega
theorem rowCells_snoc (xs : List R) (r : R) : rowCells (xs ++ [r]) = rowCells xs ++ [.int .i64 r.m, .int .i64 r.h, .int .i64 r.c, .int .i64 r.l] := by
  simp [rowCells]
theorem rowCells_get : ∀ (xs : List R) (i : Nat) (r : R), xs[i]? = some r → (rowCells xs)[i * 4]? = some (.int .i64 r.m) ∧ (rowCells xs)[i * 4 + 1]? = some (.int .i64 r.h) ∧ (rowCells xs)[i * 4 + 2]? = some (.int .i64 r.c) ∧ (rowCells xs)[i * 4 + 3]? = some (.int .i64 r.l)
  | [], i, r, h => by simp at h
  | x :: xs, 0, r, h => by
    simp at h; subst h; simp [rowCells]
  | x :: xs, i + 1, r, h => by
    have ih := rowCells_get xs i r (by simpa using h)
    have e : rowCells (x :: xs) = [.int .i64 x.m, .int .i64 x.h, .int .i64 x.c, .int .i64 x.l] ++ rowCells xs := rfl
    have h4 : ∀ j, (rowCells (x :: xs))[(i + 1) * 4 + j]? = (rowCells xs)[i * 4 + j]? := fun j => by
      rw [e, List.getElem?_append_right (by simp; omega)]
      congr 1; simp; omega
    exact ⟨(h4 0).trans ih.1, (h4 1).trans ih.2.1, (h4 2).trans ih.2.2.1, (h4 3).trans ih.2.2.2⟩
theorem rows_of_own {w : World} {base g n cap : Nat} {xs : List R} (h : w.ownsRow base 33 4 (.slice (some ⟨g, 0, none⟩) n cap) n (rowCells xs)) : RowsAt w g 0 xs ∧ xs.length = n ∧ g < w.heap.size := by
  have hl := h.1
  rw [rowCells_len] at hl
  refine ⟨fun i r hi => ?_, by omega, ?_⟩
  · have hlt := (List.getElem?_eq_some_iff.1 hi).1
    obtain ⟨r0, r1, r2, r3⟩ := rowCells_get xs i r hi
    rw [Nat.zero_add]
    exact ⟨(h.cellAt _ (by omega)).trans r0, (h.cellAt _ (by omega)).trans r1, (h.cellAt _ (by omega)).trans r2, (h.cellAt _ (by omega)).trans r3⟩
  · rcases h.2 with ⟨h', _⟩ | ⟨g', cap', cur, h', _, hg, _⟩
    · simp at h'
    · simp only [Value.slice.injEq, Option.some.injEq, Addr.mk.injEq, and_true, true_and] at h'
      obtain ⟨rfl, rfl⟩ := h'
      exact lt_of_block hg

theorem cnt_all {m : Int} {xs : List R} (h : cnt m xs = xs.length) : xs.filter (early m) = xs := by
  exact List.filter_eq_self.2 (fun a ha => (List.length_filter_eq_length_iff.1 h) a ha)
theorem cnt_all' {m : Int} {xs : List R} (h : xs.all (early m) = true) : cnt m xs = xs.length := by
  exact List.length_filter_eq_length_iff.2 (fun a ha => List.all_eq_true.1 h a ha)

theorem cnt_take (m : Int) (xs : List R) (k : Nat) : cnt m (xs.take k) ≤ cnt m xs :=
  ((List.take_sublist k xs).filter _).length_le
theorem news4 (w : World) (o : Obj) (v0 v1 v2 v3 : Value) : ∀ j u, [v0, v1, v2, v3][j]? = some u → ((w.alloc o).alloc (.cells #[v0, v1, v2, v3] 33)).cell? (Addr.add ⟨w.heap.size + 1, 0, none⟩ j) = some u := by
  intro j u hj
  have hB : Blk ((w.alloc o).alloc (.cells #[v0, v1, v2, v3] 33)) (w.heap.size + 1) #[v0, v1, v2, v3] 33 := by
    have := Blk.new (w.alloc o) #[v0, v1, v2, v3] 33
    simpa using this
  rw [Go.WideShapes.add_plain, Nat.zero_add, hB.cell]
  simpa using hj
theorem own_new (w : World) (base N : Nat) (hb : base ≤ w.heap.size) (hm : N ≤ maxLen) :
    (w.alloc (.cells (madeCells (Value.agg #[.int .i64 0, .int .i64 0, .int .i64 0, .int .i64 0]).cells (N * 4)) 33)).ownsRow base 33 4 (.slice (some ⟨w.heap.size, 0, none⟩) 0 N) 0 [] :=
  ⟨by simp, Or.inr ⟨w.heap.size, N, _, rfl, hb, Blk.new _ _ _, Nat.zero_le _, hm, size_madeCells _ _, by simp⟩⟩
set_option maxRecDepth 100000 in
theorem before_calls (a : Option Addr) (n cap : Nat) (xs : List R) (m : Int) (w : World) (hs : Sl w a n xs) (hn : n ≤ 1000000) :
    Calls Try.prog 10 #[.slice a n cap, .int .i64 m] w fun e w' => ∃ a' cap', e = .returned (.slice a' (cnt m xs) cap') ∧ Sl w' a' (cnt m xs) (xs.filter (early m)) ∧ Below w.heap.size w w' ∧ (xs.all (early m) = true → a' = a ∧ cap' = cap) := by
  obtain ⟨i0, hi, hz0, hz1, hz2⟩ := info_parts info33
  have HS := hide hs
  have HL := hide hs.1
  have HI := hide hi
  have HZ0 := hide hz0
  have HZ1 := hide hz1
  have HZ2 := hide hz2
  clear hs hi hz0 hz1 hz2
  go_enter Try.func10, Try.ntmps10
  go_wp2
  go_loopw [5, 13] (fun c i wr => ∃ k : Nat, k ≤ n ∧ i = .int .i64 k ∧ c = .int .i64 (cnt m (xs.take k) : Nat) ∧ Below w.heap.size w wr) (fun _ i _ => n - (intOf i).toNat)
  case atStart => exact ⟨0, by omega, rfl, rfl, Below.refl _ _⟩
  case round =>
    obtain ⟨k, hk, rfl, rfl, hbel⟩ := hrel
    have hc := cnt_le m (xs.take k)
    have hc' := List.length_take_le k xs
    by_cases hlt : k < n
    · obtain ⟨b, off, r, rfl, hb, hr, c0, c1, c2, c3⟩ := ((unhide HS).below hbel).at hlt
      have hx := hide (show cnt m (xs.take (k + 1)) = _ by rw [take_snoc hr, cnt_snoc])
      have hsz := hbel.size
      clear hr hb
      by_cases hm : r.m < m
      · have hx' := hide (show cnt m (xs.take (k + 1)) = cnt m (xs.take k) + 1 by rw [unhide hx]; simp [early, hm])
        go_wp2
        go_roundw
        case rel => exact ⟨k + 1, by omega, by go_num, by rw [unhide hx']; go_num, hbel.alloc hsz _⟩
        case measure => simp [intOf]; omega
      · have hx' := hide (show cnt m (xs.take (k + 1)) = cnt m (xs.take k) by rw [unhide hx]; simp [early, hm])
        go_wp2
        go_roundw
        case rel => exact ⟨k + 1, by omega, by go_num, by rw [unhide hx'], hbel.alloc hsz _⟩
        case measure => simp [intOf]; omega
    · have hcl : cnt m (xs.take k) = cnt m xs := by
        rw [List.take_of_length_le (by have := unhide HL; omega)]
      rw [hcl]
      rw [hcl] at hc
      clear hcl
      have hc2 : cnt m xs ≤ n := by omega
      by_cases heq : cnt m xs = n
      · have heq' : ((cnt m xs : Int) == (n : Int)) = true := by simp [heq]
        have hfl := hide (cnt_all (heq.trans (unhide HL).symm))
        have HE := hide heq
        clear heq
        go_wp2
        go_ret
        refine ⟨a, cap, by rw [unhide HE]; rfl, ?_, hbel, fun _ => ⟨rfl, rfl⟩⟩
        rw [unhide hfl, unhide HE]
        exact (unhide HS).below hbel
      · have heq' : ((cnt m xs : Int) == (n : Int)) = false := beq_eq_false_iff_ne.2 (by omega)
        have hna := hide (show ¬ xs.all (early m) = true from fun h => heq ((cnt_all' h).trans (unhide HL)))
        clear heq
        have hmk := run_make (P := Try.prog) wr 24 33 i0 _ Try.underlying24 (unhide HI) (unhide HZ0) .i64 .i64 0 (cnt m xs) (by omega) (by omega) (by rw [unhide HZ2]; omega) (by omega)
        rw [unhide HZ1] at hmk
        simp only [Int.toNat_natCast, Int.toNat_zero] at hmk
        have hown0 := own_new wr w.heap.size (cnt m xs) hbel.size (by unfold maxLen; omega)
        have hbel1 := (hbel.alloc hbel.size (.cells (madeCells (Value.agg #[.int .i64 0, .int .i64 0, .int .i64 0, .int .i64 0]).cells (cnt m xs * 4)) 33))
        have hg : w.heap.size ≤ wr.heap.size := hbel.size
        have hcm : ∀ k, cnt m (xs.take k) ≤ cnt m xs := fun k => cnt_take m xs k
        have HCM := hide hcm
        clear hc hc' hcm
        have HN : Hid (cnt m xs = cnt m xs) := rfl
        generalize hN : cnt m xs = N at *
        have HNN := hide hN
        clear hN HN
        go_wp2
        generalize wr.heap.size = g at *
        go_loopw [8, 33] (fun v i wr => ∃ k : Nat, k ≤ n ∧ i = .int .i64 k ∧ v = .slice (some ⟨g, 0, none⟩) (cnt m (xs.take k)) N ∧ wr.ownsRow w.heap.size 33 4 (.slice (some ⟨g, 0, none⟩) (cnt m (xs.take k)) N) (cnt m (xs.take k)) (rowCells ((xs.take k).filter (early m))) ∧ Below w.heap.size w wr) (fun _ i _ => n - (intOf i).toNat)
        case atStart => exact ⟨0, by omega, rfl, rfl, hown0, hbel1⟩
        case round =>
          clear hown0 hbel1 hbel hmk
          obtain ⟨k, hk, rfl, rfl, hown, hbel⟩ := hrel
          have hcl := unhide HCM k
          by_cases hlt2 : k < n
          · obtain ⟨b, off, r, rfl, hb, hr, c0, c1, c2, c3⟩ := ((unhide HS).below hbel).at hlt2
            have hx := hide (show cnt m (xs.take (k + 1)) = _ by rw [take_snoc hr, cnt_snoc])
            have hx2 := hide (show (xs.take (k + 1)).filter (early m) = _ by rw [take_snoc hr, List.filter_append])
            have hcl2 := unhide HCM (k + 1)
            have hsz := hbel.size
            clear hr hb
            by_cases hm : r.m < m
            · have hx' := hide (show cnt m (xs.take (k + 1)) = cnt m (xs.take k) + 1 by rw [unhide hx]; simp [early, hm])
              have hx2' := hide (show rowCells ((xs.take (k + 1)).filter (early m)) = rowCells ((xs.take k).filter (early m)) ++ [.int .i64 r.m, .int .i64 r.h, .int .i64 r.c, .int .i64 r.l] by rw [unhide hx2, ← rowCells_snoc]; simp [early, hm])
              have hcl3 : cnt m (xs.take k) + 1 ≤ N := by rw [← unhide hx']; exact hcl2
              go_wp2_with (at_builtin; refine wpList_append_fits _ (by rfl) (.tmp 41) (.tmp 43) 24 (by rfl) w.heap.size 33 i0 4 Try.underlying24 (unhide HI) (unhide HZ1) g (cnt m (xs.take k)) N _ (by rfl) ((hown.alloc _).alloc _) ⟨wr.heap.size + 1, 0, none⟩ 1 1 [.int .i64 r.m, .int .i64 r.h, .int .i64 r.c, .int .i64 r.l] (by rfl) (by rfl) (news4 wr _ _ _ _ _) (by simp [Value.oneCell']) hcl3 ?_; intro w1 hown1 hgrow1)
              have hbel1 : Below w.heap.size w w1 := ((hbel.alloc hsz _).alloc (by simp; omega) _).grown hgrow1 (by simp; omega) (by simp; omega)
              go_wp2
              go_roundw
              case rel => exact ⟨k + 1, by omega, by go_num, by rw [unhide hx'], by rw [unhide hx', unhide hx2']; exact hown1, hbel1⟩
              case measure => simp [intOf]; omega
            · have hx' := hide (show cnt m (xs.take (k + 1)) = cnt m (xs.take k) by rw [unhide hx]; simp [early, hm])
              have hx2' := hide (show (xs.take (k + 1)).filter (early m) = (xs.take k).filter (early m) by rw [unhide hx2]; simp [early, hm])
              go_wp2
              go_roundw
              case rel => exact ⟨k + 1, by omega, by go_num, by rw [unhide hx'], by rw [unhide hx', unhide hx2']; exact hown.alloc _, hbel.alloc hsz _⟩
              case measure => simp [intOf]; omega
          · go_wp2
            go_ret
            have hks : xs.take k = xs := List.take_of_length_le (by have := unhide HL; omega)
            rw [hks, unhide HNN] at hown
            obtain ⟨q1, q2, q3⟩ := rows_of_own hown
            refine ⟨_, N, by rw [hks]; rfl, ⟨q2.trans (unhide HNN).symm, Or.inr ⟨g, 0, rfl, q3, q1⟩⟩, hbel, fun h => absurd h (unhide hna)⟩
end Go.Proofs.Qxb6003232a.Bef
