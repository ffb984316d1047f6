/-
  What the check reads of the Work: ZZMakeWork (17), the accessors (23, 24, 25, 27, 36, 40, 37, 38, 39), zkMember (22).
-/
import Derived.Test.Qxb6003232aK5
namespace Go.Proofs.Qxb6003232a.Kp
open Go.ChangeShapes Go.WideShapes Go.ChangeAt Go.RowKit Go.Maps
set_option linter.unusedVariables false

/-- the Work holds the runs T -/
structure RO (wb mb : Nat) (w : World) (T : List (ByteArray × Sp)) : Prop where
  mp : MapIs w mb (mem T)
  sp : ∃ Ok vo vs, Ar fV w wb [.string ⟨#[]⟩, .bool false, .map (some mb), vo] 67 ∧ SpOk Ok w vo vs (mem T) (spl T)
section
variable {wb mb : Nat} {w w' : World} {T : List (ByteArray × Sp)}
theorem WSt.ro {Ok : Nat → Prop} {w0 : World} (h : WSt Ok wb mb w0 w T) : RO wb mb w T := ⟨h.mp, Ok, h.sp⟩
theorem RO.below (h : RO wb mb w T) (hb : Below w.heap.size w w') : RO wb mb w' T := by
  obtain ⟨h1, Ok, vo, vs, h2, h3⟩ := h
  exact ⟨h1.of_block (hb.block _ h1.lt), Ok, vo, vs, h2.below hb h2.lt, h3.kept (fun g hg => hb.block g (h3.lt hg))⟩
theorem RO.outer (h : RO wb mb w T) : ∃ a c, w.cell? ⟨wb, 2, none⟩ = some (.map (some mb)) ∧ w.cell? ⟨wb, 3, none⟩ = some (.slice a (mem T).length c) := by
  obtain ⟨h1, Ok, vo, vs, h2, h3⟩ := h
  obtain ⟨a, c, e, _⟩ := own_slice h3.out
  subst e
  refine ⟨a, c, h2.at rfl, ?_⟩
  rw [← h3.len]; exact h2.at rfl
theorem RO.inner (h : RO wb mb w T) {m : Nat} {s : ByteArray} (hm : (mem T)[m]? = some s) : ∃ G c a c', w.cell? ⟨wb, 3, none⟩ = some (.slice (some ⟨G, 0, none⟩) (mem T).length c) ∧ w.cell? ⟨G, m, none⟩ = some (.slice a (spl T s).length c') ∧ m < (mem T).length ∧
    ∀ k x, (spl T s)[k]? = some x → ∃ g, a = some ⟨g, 0, none⟩ ∧ w.cell? ⟨g, k * 2, none⟩ = some (.slice x.ra x.n x.n) ∧ w.cell? ⟨g, k * 2 + 1, none⟩ = some (.slice x.ta x.tn x.tn) := by
  obtain ⟨h1, Ok, vo, vs, h2, h3⟩ := h
  have hlt := (List.getElem?_eq_some_iff.1 hm).1
  obtain ⟨v, hv⟩ := getlt (show m < vs.length by rw [h3.len]; exact hlt)
  have hin := h3.inn m v s hv hm
  obtain ⟨a, c', e', hp'⟩ := own_slice hin
  subst e'
  obtain ⟨a0, c, e, hp⟩ := own_slice h3.out
  subst e
  obtain ⟨G, rfl⟩ := hp (by rw [h3.len]; omega)
  refine ⟨G, c, a, c', ?_, ?_, hlt, fun k x hx => ?_⟩
  · rw [← h3.len]; exact h2.at rfl
  · rw [h3.out.cellAt m (by rw [h3.len]; omega)]; exact hv
  · have hk := (List.getElem?_eq_some_iff.1 hx).1
    obtain ⟨g, rfl⟩ := hp' (by omega)
    obtain ⟨q1, q2⟩ := spCells_get _ _ _ hx
    refine ⟨g, rfl, ?_, ?_⟩
    · rw [hin.cellAt (k * 2) (by omega)]; exact q1
    · rw [hin.cellAt (k * 2 + 1) (by omega)]; exact q2
end

section
variable {wb mb : Nat} {w : World} {T : List (ByteArray × Sp)}
theorem index_calls (h : RO wb mb w T) {m : Nat} {s : ByteArray} (hm : (mem T)[m]? = some s) (hs : s.size ≤ maxLen) :
    Calls Try.prog 23 #[.pointer (some ⟨wb, 0, none⟩), .string s] w fun e w' => e = .returned (.tuple #[.int .i64 m, .bool true]) ∧ w' = w := by
  obtain ⟨a, c, hc, -⟩ := h.outer
  have hl := h.mp.yes hm hs
  clear h hm
  go_enter Try.func23, Try.ntmps23
  go_wp2
  exact bodyPost_ret (v := .tuple #[.int .i64 m, .bool true]) (by simp [results, Try.results23, go_sem]) rfl ⟨rfl, rfl⟩
theorem count_calls (h : RO wb mb w T) (hn : (mem T).length ≤ 65536) :
    Calls Try.prog 24 #[.pointer (some ⟨wb, 0, none⟩)] w fun e w' => e = .returned (.int .i64 ((mem T).length : Nat)) ∧ w' = w := by
  obtain ⟨a, c, -, hc⟩ := h.outer
  clear h
  go_enter Try.func24, Try.ntmps24
  go_wp2
  go_ret
  exact ⟨rfl, rfl⟩
theorem members_calls (h : RO wb mb w T) :
    Calls Try.prog 27 #[.pointer (some ⟨wb, 0, none⟩)] w fun e w' => e = .returned (.int .i64 ((mem T).length : Nat)) ∧ w' = w := by
  obtain ⟨a, c, hc, -⟩ := h.outer
  have hl := fun ty => h.mp.len ty
  clear h
  go_enter Try.func27, Try.ntmps27
  go_wp2
  go_ret
  exact ⟨rfl, rfl⟩
theorem spanlen_calls (h : RO wb mb w T) {m : Nat} {s : ByteArray} (hm : (mem T)[m]? = some s) (hn : (mem T).length ≤ 65536) :
    Calls Try.prog 25 #[.pointer (some ⟨wb, 0, none⟩), .int .i64 m] w fun e w' => e = .returned (.int .i64 ((spl T s).length : Nat)) ∧ w' = w := by
  obtain ⟨G, c, a, c', h1, h2, h3, -⟩ := h.inner hm
  clear h hm
  generalize (mem T).length = n at *
  generalize (spl T s).length = l at *
  go_enter Try.func25, Try.ntmps25
  go_wp2
  go_ret
  exact ⟨rfl, rfl⟩
theorem spanrows_calls (h : RO wb mb w T) {m k : Nat} {s : ByteArray} {x : Sp} (hm : (mem T)[m]? = some s) (hk : (spl T s)[k]? = some x) (hn : (mem T).length ≤ 65536) :
    Calls Try.prog 36 #[.pointer (some ⟨wb, 0, none⟩), .int .i64 m, .int .i64 k] w fun e w' => e = .returned (.slice x.ra x.n x.n) ∧ w' = w := by
  obtain ⟨G, c, a, c', h1, h2, h3, h4⟩ := h.inner hm
  obtain ⟨g, rfl, q1, q2⟩ := h4 k x hk
  have hkl := (List.getElem?_eq_some_iff.1 hk).1
  clear h hm hk h4
  generalize (mem T).length = n at *
  generalize (spl T s).length = l at *
  go_enter Try.func36, Try.ntmps36
  go_wp2
  go_ret
  exact ⟨rfl, rfl⟩
theorem spanrates_calls (h : RO wb mb w T) {m k : Nat} {s : ByteArray} {x : Sp} (hm : (mem T)[m]? = some s) (hk : (spl T s)[k]? = some x) (hn : (mem T).length ≤ 65536) :
    Calls Try.prog 40 #[.pointer (some ⟨wb, 0, none⟩), .int .i64 m, .int .i64 k] w fun e w' => e = .returned (.slice x.ta x.tn x.tn) ∧ w' = w := by
  obtain ⟨G, c, a, c', h1, h2, h3, h4⟩ := h.inner hm
  obtain ⟨g, rfl, q1, q2⟩ := h4 k x hk
  have hkl := (List.getElem?_eq_some_iff.1 hk).1
  clear h hm hk h4
  generalize (mem T).length = n at *
  generalize (spl T s).length = l at *
  go_enter Try.func40, Try.ntmps40
  go_wp2
  go_ret
  exact ⟨rfl, rfl⟩
end
theorem month_calls (m l h : Int) (w : World) : Calls Try.prog 37 #[.agg #[.int .i32 m, .int .u32 l, .int .i64 h]] w fun e w' => e = .returned (.int .i32 m) ∧ w' = w.alloc (.cells #[.int .i32 m, .int .u32 l, .int .i64 h] 75) := by
  go_enter Try.func37, Try.ntmps37
  go_wp2
  go_ret
  exact ⟨rfl, rfl⟩
theorem line_calls (m l h : Int) (w : World) : Calls Try.prog 38 #[.agg #[.int .i32 m, .int .u32 l, .int .i64 h]] w fun e w' => e = .returned (.int .u32 l) ∧ w' = w.alloc (.cells #[.int .i32 m, .int .u32 l, .int .i64 h] 75) := by
  go_enter Try.func38, Try.ntmps38
  go_wp2
  go_ret
  exact ⟨rfl, rfl⟩
theorem hours_calls (m l h : Int) (w : World) : Calls Try.prog 39 #[.agg #[.int .i32 m, .int .u32 l, .int .i64 h]] w fun e w' => e = .returned (.int .i64 h) ∧ w' = w.alloc (.cells #[.int .i32 m, .int .u32 l, .int .i64 h] 75) := by
  go_enter Try.func39, Try.ntmps39
  go_wp2
  go_ret
  exact ⟨rfl, rfl⟩

theorem zkMember_calls (aA aB : Option Addr) (cA cB B : Nat) (xA xB : List Rn) (w : World) (hA : Arr f4 4 B w aA xA) (hB : Arr f4 4 B w aB xB) (hnA : xA.length ≤ 4096) (hnB : xB.length ≤ 4096) {t : Nat} {r : Rn} (ht : (xA ++ xB)[t]? = some r) :
    Calls Try.prog 22 #[.slice aA xA.length cA, .slice aB xB.length cB, .int .i64 t] w fun e w' => e = .returned (.string r.s) ∧ w' = w := by
  by_cases hlt : t < xA.length
  · rw [List.getElem?_append_left hlt] at ht
    obtain ⟨b, off, rfl, -, hc⟩ := hA.rn ht
    obtain ⟨q0, -, -, -⟩ := hc w (Below.refl _ _)
    clear hA hB ht hc
    generalize xA.length = nA at *
    generalize xB.length = nB at *
    go_enter Try.func22, Try.ntmps22
    go_wp2
    go_ret
    exact ⟨rfl, rfl⟩
  · rw [List.getElem?_append_right (by omega)] at ht
    have hl := (List.getElem?_eq_some_iff.1 ht).1
    obtain ⟨b, off, rfl, -, hc⟩ := hB.rn ht
    obtain ⟨q0, -, -, -⟩ := hc w (Below.refl _ _)
    clear hA hB ht hc
    generalize xA.length = nA at *
    generalize xB.length = nB at *
    obtain ⟨d, rfl⟩ : ∃ d, t = nA + d := ⟨t - nA, by omega⟩
    have e1 : nA + d - nA = d := by omega
    rw [e1] at q0
    have e2 : (((nA + d : Nat) : Int) - (nA : Int)) = (d : Int) := by omega
    go_enter Try.func22, Try.ntmps22
    go_wp2
    go_ret
    exact ⟨rfl, rfl⟩

theorem make_calls (w : World) : Calls Try.prog 17 #[] w fun e w' => e = .returned (.pointer (some ⟨w.heap.size + 1, 0, none⟩)) ∧ w' = (w.alloc (.map #[] 0)).alloc (.cells #[.string ⟨#[]⟩, .bool false, .map (some w.heap.size), .slice none 0 0] 67) := by
  have hmm := @run_makeMap Try.prog
  go_enter Try.func17, Try.ntmps17
  go_wp2
  go_ret
  exact ⟨rfl, rfl⟩
end Go.Proofs.Qxb6003232a.Kp
