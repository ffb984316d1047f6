/-
  zkSpanMatches (26), a run of part A.
-/
import Derived.Test.Qxb6003232aK7
namespace Go.Proofs.Qxb6003232a.Kp
open Go.ChangeShapes Go.WideShapes Go.ChangeAt Go.RowKit Go.Maps
set_option linter.unusedVariables false
attribute [local go_sem ↓] Go.wp_at_zero Go.wp_at_succ

set_option maxRecDepth 100000 in
set_option maxHeartbeats 4000000 in
theorem matchA_calls {wb mb : Nat} {T : List (ByteArray × Sp)} {s : ByteArray} {x : Sp} {m k B : Nat} (w : World) (hro : RO wb mb w T) (hm : (mem T)[m]? = some s) (hk : (spl T s)[k]? = some x) (hmn : (mem T).length ≤ 65536)
    (a0 a1 a2 b0 b1 b2 : Option Addr) (c0 c1 c2 d0 d1 d2 t l n : Nat) (R : List R3) (Rt : List Int) (X : List Rn) (nY e0 e1 e2 : Nat) (hx : X.length ≤ 4096)
    (hR : R.length ≤ 65536) (hRt : Rt.length ≤ 65536) (h : Chk B w a0 R a1 Rt a2 X t l n x) (hB : B ≤ w.heap.size) :
    Calls Try.prog 26 #[.pointer (some ⟨wb, 0, none⟩), .int .i64 m, .int .i64 k, .int .i64 t, .slice a0 R.length c0, .slice a1 Rt.length c1, .slice a2 X.length c2, .slice b0 e0 d0, .slice b1 e1 d1, .slice b2 e2 d2] w fun e w' => e = .returned (.bool true) ∧ Below w.heap.size w w' := by
  obtain ⟨ra, xn0, ta, tn⟩ := x
  have HRO := hide hro
  have HM := hide hm
  have HK := hide hk
  have H := hide h
  obtain rfl : n = xn0 := h.xn.symm
  have hlr := h.lr
  have htx := h.tx
  obtain ⟨b, off, ha2, hbB, hend, hz, hbeg⟩ := h.cf
  subst ha2
  have hnl36 := fun (w : World) (a : Option Addr) (l c : Nat) => Lib.run_eql_slice_nil (P := Try.prog) w 36 2 a l c 0 0 Try.underlying36
  have hnl45 := fun (w : World) (a : Option Addr) (l c : Nat) => Lib.run_eql_slice_nil (P := Try.prog) w 45 31 a l c 0 0 Try.underlying45
  clear hro hm hk h
  have key : (t = 0 ∧ l = 0) ∨ ∃ t0, t = t0 + 1 ∧ w.cell? ⟨b, off + t0 * 4 + 3, none⟩ = some (.int .i64 (l : Int)) := by
    cases t with
    | zero => exact Or.inl ⟨rfl, hz rfl⟩
    | succ t0 => exact Or.inr ⟨t0, rfl, by simpa using hbeg (by omega)⟩
  clear hz hbeg
  have HNN := hide (Nat.le_refl n)
  generalize hE : l + n = E at *
  have hsub : (E : Int) - (l : Int) = (n : Int) := by omega
  have HE := hide hE
  clear hE
  have hnR : n ≤ 65536 := by omega
  have hlR : l ≤ 65536 := by omega
  generalize hXl : X.length = nX at *
  clear hXl
  skip
  rcases key with ⟨rfl, rfl⟩ | ⟨t0, rfl, hbeg⟩
  case' inl =>
    obtain rfl : n = E := by have := unhide HE; omega
    clear hsub
  all_goals
    go_enter Try.func26, Try.ntmps26
    go_wp2_with (go_at_call 36; refine (spanrows_calls (unhide HRO) (unhide HM) (unhide HK) hmn).mono ?_; rintro e w' ⟨rfl, hw'⟩; obtain rfl := hw'.symm)
    clear hend
    go_loopw [28] (fun i wr => ∃ j : Nat, j ≤ n ∧ i = .int .i64 j ∧ Below w.heap.size w wr) (fun i _ => n - (intOf i).toNat)
    case atStart => exact ⟨0, by omega, rfl, Below.refl _ _⟩
    case round =>
      obtain ⟨i, hi, rfl, hbel⟩ := hrel
      have HBE := hide hbel
      by_cases hlt : i < n
      · obtain ⟨y, b1, o1, b2, o2, he1, hb1, he2, hb2, hc⟩ := (unhide H).row hlt
        obtain ⟨⟨q0, q1, q2⟩, p0, p1, p2⟩ := hc wr (hbel.mono hB)
        try simp only [Nat.zero_add] at p0 p1 p2
        replace he1 : ra = some ⟨b1, o1, none⟩ := he1
        subst he1 he2
        have hws := hbel.size
        have hb1' : b1 < wr.heap.size := by omega
        have hb2' : b2 < wr.heap.size := by omega
        have hj0 : (0 : Int) ≤ (i : Int) := by omega
        have hj1 : (i : Int) < (n : Int) := by omega
        clear hc hbel
        go_wp2_with fail
        as_aux_lemma =>
          have HB2 := hide ((unhide HBE).alloc hws (.cells #[.int .i32 y.m, .int .u32 y.l, .int .i64 y.h] 78))
          have HL := hide (Ar.new wr fV [.int .i32 y.m, .int .u32 y.l, .int .i64 y.h] 78)
          have r0 : (wr.alloc (.cells #[.int .i32 y.m, .int .u32 y.l, .int .i64 y.h] 78)).cell? ⟨b1, o1 + i * 3, none⟩ = some (.int .i32 y.m) := (World.cell?_of_block (Below.heap_alloc _ _ _ hb1')).trans q0
          have r1 : (wr.alloc (.cells #[.int .i32 y.m, .int .u32 y.l, .int .i64 y.h] 78)).cell? ⟨b1, o1 + i * 3 + 1, none⟩ = some (.int .u32 y.l) := (World.cell?_of_block (Below.heap_alloc _ _ _ hb1')).trans q1
          have r2 : (wr.alloc (.cells #[.int .i32 y.m, .int .u32 y.l, .int .i64 y.h] 78)).cell? ⟨b1, o1 + i * 3 + 2, none⟩ = some (.int .i64 y.h) := (World.cell?_of_block (Below.heap_alloc _ _ _ hb1')).trans q2
          have s0 : (wr.alloc (.cells #[.int .i32 y.m, .int .u32 y.l, .int .i64 y.h] 78)).cell? ⟨wr.heap.size, 0, none⟩ = some (.int .i32 y.m) := (unhide HL).at rfl
          have s1 : (wr.alloc (.cells #[.int .i32 y.m, .int .u32 y.l, .int .i64 y.h] 78)).cell? ⟨wr.heap.size, 1, none⟩ = some (.int .u32 y.l) := (unhide HL).at (i := 1) rfl
          have s2 : (wr.alloc (.cells #[.int .i32 y.m, .int .u32 y.l, .int .i64 y.h] 78)).cell? ⟨wr.heap.size, 2, none⟩ = some (.int .i64 y.h) := (unhide HL).at (i := 2) rfl
          have hw2 := (unhide HB2).size
          clear q0 q1 q2 p0 p1 p2 HL
          generalize hW : wr.alloc (.cells #[.int .i32 y.m, .int .u32 y.l, .int .i64 y.h] 78) = w2 at *
          have hLs : wr.heap.size < w2.heap.size := by rw [← hW]; simp
          have hb1s : b1 < w2.heap.size := by omega
          clear hW
          generalize wr.heap.size = L at *
          have HR := hide (And.intro r0 (And.intro r1 (And.intro r2 (And.intro s0 (And.intro s1 s2)))))
          go_region_held3 (fun w' => w'.cell? ⟨b1, o1 + i * 3, none⟩ = some (.int .i32 y.m) ∧ w'.cell? ⟨b1, o1 + i * 3 + 1, none⟩ = some (.int .u32 y.l) ∧ w'.cell? ⟨b1, o1 + i * 3 + 2, none⟩ = some (.int .i64 y.h) ∧ w'.cell? ⟨L, 0, none⟩ = some (.int .i32 y.m) ∧ w'.cell? ⟨L, 1, none⟩ = some (.int .u32 y.l) ∧ w'.cell? ⟨L, 2, none⟩ = some (.int .i64 y.h)) (first | exact ⟨(alloc3 hb1s).trans (unhide HR).1, (alloc3 hb1s).trans (unhide HR).2.1, (alloc3 hb1s).trans (unhide HR).2.2.1, (alloc3 hLs).trans (unhide HR).2.2.2.1, (alloc3 hLs).trans (unhide HR).2.2.2.2.1, (alloc3 hLs).trans (unhide HR).2.2.2.2.2⟩ | exact ⟨(alloc3a hb1s).trans (unhide HR).1, (alloc3a hb1s).trans (unhide HR).2.1, (alloc3a hb1s).trans (unhide HR).2.2.1, (alloc3a hLs).trans (unhide HR).2.2.2.1, (alloc3a hLs).trans (unhide HR).2.2.2.2.1, (alloc3a hLs).trans (unhide HR).2.2.2.2.2⟩ | go_keep)
            ((first | (go_at_call 37; refine (month_calls _ _ _ _).mono ?_; rintro e w' ⟨rfl, rfl⟩) | (go_at_call 38; refine (line_calls _ _ _ _).mono ?_; rintro e w' ⟨rfl, rfl⟩) | (go_at_call 39; refine (hours_calls _ _ _ _).mono ?_; rintro e w' ⟨rfl, rfl⟩)))
          as_aux_lemma =>
            go_wp2_with fail
            go_roundw
            case rel => exact ⟨i + 1, by omega, by go_num, (((((unhide HB2).alloc hw2 _).alloc (by simp; omega) _).alloc (by simp; omega) _)).drew⟩
            case measure => simp [intOf]; omega
      · as_aux_lemma =>
          have HRO2 := hide ((unhide HRO).below hbel)
          have hws := hbel.size
          clear hbel
          cases hA1 : a1
          case none =>
            obtain rfl : ta = none := (unhide H).tt.2 hA1
            go_wp2_with (go_at_call 40; refine (spanrates_calls (unhide HRO2) (unhide HM) (unhide HK) hmn).mono ?_; rintro e w' ⟨rfl, hw'⟩; obtain rfl := hw'.symm)
            go_ret
            exact ⟨rfl, unhide HBE⟩
          case some ad =>
            have hne : a1 ≠ none := by rw [hA1]; exact Option.some_ne_none _
            obtain ⟨htn, hlt2⟩ := (unhide H).tn hne
            obtain rfl : n = tn := htn.symm
            obtain ⟨adt, hta⟩ : ∃ adt, ta = some adt := by
              cases hq : ta with
              | none => exact absurd ((unhide H).tt.1 hq) hne
              | some adt => exact ⟨adt, rfl⟩
            subst hta
            have HNE := hide hne
            clear hne
            go_wp2_with (go_at_call 40; refine (spanrates_calls (unhide HRO2) (unhide HM) (unhide HK) hmn).mono ?_; rintro e w' ⟨rfl, hw'⟩; obtain rfl := hw'.symm)
            go_loopw [31] (fun i wr => ∃ j : Nat, j ≤ n ∧ i = .int .i64 j ∧ Below w.heap.size w wr) (fun i _ => n - (intOf i).toNat)
            case atStart => exact ⟨0, by omega, rfl, unhide HBE⟩
            case round =>
              obtain ⟨j, hj, rfl, hbel3⟩ := hrel
              have HBE3 := hide hbel3
              by_cases hlt3 : j < n
              · obtain ⟨y, b1, o1, b2, o2, he1, hb1, he2, hb2, hc⟩ := (unhide H).rate (unhide HNE) hlt3
                obtain ⟨q0, p0⟩ := hc wr (hbel3.mono hB)
                try simp only [Nat.zero_add] at p0
                obtain rfl : adt = ⟨b1, o1, none⟩ := Option.some.inj he1
                obtain rfl : ad = ⟨b2, o2, none⟩ := Option.some.inj (hA1.symm.trans he2)
                have hj0 : (0 : Int) ≤ (j : Int) := by omega
                have hj1 : (j : Int) < (n : Int) := by omega
                clear hc hbel3
                go_wp2_with fail
                go_region
                go_wp2_with fail
                go_roundw
                case rel => exact ⟨j + 1, by omega, by go_num, (unhide HBE3).drew⟩
                case measure => simp [intOf]; omega
              · go_wp2_with fail
                go_ret
                exact ⟨rfl, hbel3⟩
end Go.Proofs.Qxb6003232a.Kp
