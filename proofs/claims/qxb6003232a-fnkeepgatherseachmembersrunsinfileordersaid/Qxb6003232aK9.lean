/-
  The law (5): up to the two keeps.
-/
import Derived.Test.Qxb6003232aK7C
import Derived.Test.Qxb6003232aK8
namespace Go.Proofs.Qxb6003232a.Kp
open Go.ChangeShapes Go.WideShapes Go.ChangeAt Go.RowKit Go.Maps
set_option linter.unusedVariables false

/-- one part's three arguments -/
structure Inp (w : World) (a0 : Option Addr) (R : List R3) (c0 : Nat) (a1 : Option Addr) (Rt : List Int) (c1 : Nat) (a2 : Option Addr) (X : List Rn) (c2 : Nat) : Prop where
  r : Arr f3 3 w.heap.size w a0 R
  t : Arr f1 1 w.heap.size w a1 Rt
  x : Arr f4 4 w.heap.size w a2 X
  zr : a0 = none → R = [] ∧ c0 = 0
  zt : a1 = none → Rt = [] ∧ c1 = 0
  zx : a2 = none → X = [] ∧ c2 = 0
  nr : R.length ≤ 9223372036854775807
  nt : Rt.length ≤ 9223372036854775807
  nx : X.length ≤ 9223372036854775807
  s : ∀ r ∈ X, r.s.size ≤ maxLen

theorem Arr.frd {α : Type} {f : α → List Value} {sz B lo : Nat} {p : Nat → Prop} {w w' : World} {a : Option Addr} {xs : List α} (h : Arr f sz B w a xs) (hf : Fr p w w') (hl : ∀ ad, a = some ad → lo ≤ ad.block) (hp : ∀ k, lo ≤ k → k < B → ¬ p k) (hB : B ≤ w.heap.size) : Arr f sz B w' a xs := by
  rcases h with h | ⟨b, off, rfl, hb, hc⟩
  · exact Or.inl h
  · refine Or.inr ⟨b, off, rfl, hb, fun i x hi j v hj => ?_⟩
    rw [World.cell?_of_block (hf.block b (by omega) (hp b (hl _ rfl) hb))]
    exact hc i x hi j v hj

/-- what the two keeps leave -/
structure Kept (w w9 : World) (wb mb : Nat) (a0 : Option Addr) (RA : List R3) (a1 : Option Addr) (tA : List Int) (a2 : Option Addr) (xA : List Rn) (b0 : Option Addr) (RB : List R3) (b1 : Option Addr) (tB : List Int) (b2 : Option Addr) (xB : List Rn) (rA sA rB sB : Option Addr) : Prop where
  bel : Below w.heap.size w w9
  ro : RO wb mb w9 (partT rA sA xA xA.length ++ partT rB sB xB xB.length)
  A : Side w9.heap.size w9 a0 RA a1 tA a2 xA rA sA
  B : Side w9.heap.size w9 b0 RB b1 tB b2 xB rB sB

theorem bytes_ne {a b : ByteArray} (h : a ≠ b) : (a.toList == b.toList) = false := by
  rw [beq_eq_false_iff_ne, ByteArray.toList_eq, ByteArray.toList_eq]
  intro e
  exact h (by
    cases a; cases b
    simp at e
    first
      | (congr; done)
      | (congr; exact Array.toList_inj.1 e))

/-- the t-th run of the two parts, and its span -/
theorem T_get {rA sA rB sB : Option Addr} {xA xB : List Rn} {t : Nat} {r : Rn} (h : (xA ++ xB)[t]? = some r) :
    ∃ x, (partT rA sA xA xA.length ++ partT rB sB xB xB.length)[t]? = some (r.s, x) ∧
      ((t < xA.length ∧ xA[t]? = some r ∧ x = spanAt rA sA (from_ xA t).toNat r.fin.toNat) ∨ (∃ d, t = xA.length + d ∧ xB[d]? = some r ∧ x = spanAt rB sB (from_ xB d).toNat r.fin.toNat)) := by
  obtain ⟨l1, g1⟩ := partT_get (aR := rA) (aT := sA) (xs := xA) xA.length (Nat.le_refl _)
  obtain ⟨l2, g2⟩ := partT_get (aR := rB) (aT := sB) (xs := xB) xB.length (Nat.le_refl _)
  by_cases ht : t < xA.length
  · rw [List.getElem?_append_left ht] at h
    exact ⟨_, by rw [List.getElem?_append_left (by omega)]; exact g1 t r ht h, Or.inl ⟨ht, h, rfl⟩⟩
  · rw [List.getElem?_append_right (by omega)] at h
    have hl := (List.getElem?_eq_some_iff.1 h).1
    exact ⟨_, by rw [List.getElem?_append_right (by omega), l1]; exact g2 _ r hl h, Or.inr ⟨t - xA.length, by omega, h, rfl⟩⟩
theorem T_len (rA sA rB sB : Option Addr) (xA xB : List Rn) : (partT rA sA xA xA.length ++ partT rB sB xB xB.length).length = xA.length + xB.length := by
  rw [List.length_append, (partT_get (aR := rA) (aT := sA) (xs := xA) xA.length (Nat.le_refl _)).1, (partT_get (aR := rB) (aT := sB) (xs := xB) xB.length (Nat.le_refl _)).1]

set_option maxRecDepth 100000 in
set_option maxHeartbeats 4000000 in
theorem law_walk (a0 a1 a2 b0 b1 b2 : Option Addr) (c0 c1 c2 d0 d1 d2 : Nat) (RA : List R3) (tA : List Int) (xA : List Rn) (RB : List R3) (tB : List Int) (xB : List Rn) (w : World)
    (hA : Inp w a0 RA c0 a1 tA c1 a2 xA c2) (hB : Inp w b0 RB d0 b1 tB d1 b2 xB d2) :
    Calls Try.prog 5 #[.slice a0 RA.length c0, .slice a1 tA.length c1, .slice a2 xA.length c2, .slice b0 RB.length d0, .slice b1 tB.length d1, .slice b2 xB.length d2] w fun e w' => e = .returned (.bool true) ∧ Below w.heap.size w w' := by
  have HA := hide hA
  have HB := hide hB
  have HBY := hide (bytes_calls w.heap.size a0 a1 a2 b0 b1 b2 RA.length c0 tA.length c1 c2 RB.length d0 tB.length d1 d2 xA xB w hA.x hB.x hA.nr hA.nt hA.nx hB.nr hB.nt hB.nx)
  have HSM := hide (small_calls w.heap.size a0 a1 a2 b0 b1 b2 RA.length c0 tA.length c1 c2 RB.length d0 tB.length d1 d2 xA xB w hA.x hB.x hA.nr hA.nt hA.nx hB.nr hB.nt hB.nx)
  clear hA hB
  go_enter Try.func5, Try.ntmps5
  go_wp2_with fail
  refine (unhide HBY).mono ?_
  rintro e w' ⟨⟨r, rfl, -⟩, hww⟩
  have hw2 := hww.symm; clear hww; subst hw2
  cases r
  · go_wp2_with fail
    go_ret
    exact ⟨rfl, Below.refl _ _⟩
  go_wp2_with fail
  refine (unhide HSM).mono ?_
  rintro e w' ⟨⟨r, rfl, hr⟩, hww⟩
  have hw2 := hww.symm; clear hww; subst hw2
  cases r
  · clear hr
    go_wp2_with fail
    go_ret
    exact ⟨rfl, Below.refl _ _⟩
  obtain ⟨m0, m1, m2, m3, m4, m5⟩ := hr rfl
  have HFA := hide (fits_calls w.heap.size a0 a1 a2 RA.length c0 tA.length c1 c2 xA w (unhide HA).x m0 m1 m2)
  have HFB := hide (fits_calls w.heap.size b0 b1 b2 RB.length d0 tB.length d1 d2 xB w (unhide HB).x m3 m4 m5)
  clear hr HBY HSM
  go_wp2_with fail
  refine (unhide HFA).mono ?_
  rintro e w' ⟨⟨r, rfl, hr⟩, hww⟩
  have hw2 := hww.symm; clear hww; subst hw2
  cases r
  · clear hr
    go_wp2_with fail
    go_ret
    exact ⟨rfl, Below.refl _ _⟩
  have HPA := hide (hr rfl)
  clear hr HFA
  go_wp2_with fail
  refine (unhide HFB).mono ?_
  rintro e w' ⟨⟨r, rfl, hr⟩, hww⟩
  have hw2 := hww.symm; clear hww; subst hw2
  cases r
  · clear hr
    go_wp2_with fail
    go_ret
    exact ⟨rfl, Below.refl _ _⟩
  have HPB := hide (hr rfl)
  clear hr HFB
  go_wp2_with fail
  refine (make_calls w).mono ?_
  rintro e w1 ⟨rfl, hw1⟩
  have HW0 := hide (WSt.made (fun k => False) w)
  have hs1 : w1.heap.size = w.heap.size + 2 := by rw [hw1]; simp
  have HBL1 : Hid (Below w.heap.size w w1) := by
    rw [hw1]; exact ((Below.refl _ _).alloc (Nat.le_refl _) _).alloc (by simp) _
  rw [← hw1] at HW0
  clear hw1
  have HZ := hide (zrows_calls a0 c0 RA w1 (((unhide HA).r.below (unhide HBL1)).mono (by omega)) (unhide HA).zr m0)
  go_wp2_with fail
  refine (unhide HZ).mono ?_
  rintro e w2 ⟨rA, rfl, hrA, hrAn, hrAl, hb2⟩
  have HBL2 := hide ((unhide HBL1).trans (hb2.mono (unhide HBL1).size))
  have s2 := hb2.size
  have HZ2 := hide (rates_calls a1 c1 tA w2 (((unhide HA).t.below (unhide HBL2)).mono (unhide HBL2).size) (unhide HA).zt m1)
  have HrA := hide hrA
  have HrAl := hide hrAl
  have Hb2 := hide hb2
  clear hrA hrAn hrAl hb2 HZ
  go_wp2_with fail
  refine (unhide HZ2).mono ?_
  rintro e w3 ⟨sA, rfl, hsA, hsAn, hsAl, hb3⟩
  have HBL3 := hide ((unhide HBL2).trans (hb3.mono (unhide HBL2).size))
  have s3 := hb3.size
  have HZ3 := hide (zruns_calls a2 c2 xA w3 (((unhide HA).x.below (unhide HBL3)).mono (unhide HBL3).size) (unhide HA).zx (by omega))
  have HsA := hide hsA
  have HsAn := hide hsAn
  have HsAl := hide hsAl
  have Hb3 := hide hb3
  clear hsA hsAn hsAl hb3 HZ2
  go_wp2_with fail
  refine (unhide HZ3).mono ?_
  rintro e w4 ⟨nA, rfl, hnA, hnAn, hnAl, hb4⟩
  have HBL4 := hide ((unhide HBL3).trans (hb4.mono (unhide HBL3).size))
  have s4 := hb4.size
  have hB14 : Below w1.heap.size w1 w4 := ((unhide Hb2).trans ((unhide Hb3).mono s2)).trans (hb4.mono (by omega))
  have HK1 := hide (zzkeep_calls (fun k => w4.heap.size + 1 ≤ k) (w.heap.size + 1) w.heap.size w1.heap.size rA sA nA RA.length tA.length xA [] w4 ((unhide HW0).on hB14 (fun g _ q => q.elim)) (fun k hk => hk) (by show ¬ (w4.heap.size + 1 ≤ w4.heap.size); omega) (by show ¬ (w4.heap.size + 1 ≤ w.heap.size + 1); omega) (by show ¬ (w4.heap.size + 1 ≤ w.heap.size); omega) (by omega)
    (fun k h1 h2 => by show ¬ (k = w.heap.size + 1 ∨ k = w.heap.size ∨ w4.heap.size + 1 ≤ k); omega) (by omega) hnA (fun ad e => by have := hnAl ad e; omega) (unhide HA).s (by simp) m2 m0 (fun q => (unhide HPA).1 (fun e => q ((unhide HsAn).2 e))) (unhide HPA).2)
  have HCA : Hid (Arr f3 3 w4.heap.size w4 rA RA ∧ Arr f1 1 w4.heap.size w4 sA tA) := ⟨((unhide HrA).below (((unhide Hb3).trans (hb4.mono s3)))).mono (by omega), ((unhide HsA).below hb4).mono s4⟩
  clear hnA hnAn hnAl hb4 hB14 HZ3 HrA HsA Hb2 Hb3
  go_wp2_with fail
  refine (unhide HK1).mono ?_
  rintro e w5 ⟨rfl, hst5⟩
  have HST5 := hide hst5
  have s5 := hst5.fr.size
  have HBL5 := hide ((unhide HBL4).trans (hst5.fr.below (unhide HBL4).size (fun k hk => by have : k = w.heap.size + 1 ∨ k = w.heap.size ∨ w4.heap.size + 1 ≤ k := hk; have := (unhide HBL4).size; omega)))
  have HCA5 : Hid (Arr f3 3 w4.heap.size w5 rA RA ∧ Arr f1 1 w4.heap.size w5 sA tA) := by
    have q : ∀ k, w1.heap.size ≤ k → k < w4.heap.size → ¬ (k = w.heap.size + 1 ∨ k = w.heap.size ∨ w4.heap.size + 1 ≤ k) := fun k h1 h2 => by omega
    exact ⟨(unhide HCA).1.frd hst5.fr (unhide HrAl) q (Nat.le_refl _), (unhide HCA).2.frd hst5.fr (fun ad e => by have := unhide HsAl ad e; omega) q (Nat.le_refl _)⟩
  clear hst5 HK1 HCA
  have HZ4 := hide (zrows_calls b0 d0 RB w5 (((unhide HB).r.below (unhide HBL5)).mono (unhide HBL5).size) (unhide HB).zr m3)
  go_wp2_with fail
  refine (unhide HZ4).mono ?_
  rintro e w6 ⟨rB, rfl, hrB, hrBn, hrBl, hb6⟩
  have HBL6 := hide ((unhide HBL5).trans (hb6.mono (unhide HBL5).size))
  have s6 := hb6.size
  have HZ5 := hide (rates_calls b1 d1 tB w6 (((unhide HB).t.below (unhide HBL6)).mono (unhide HBL6).size) (unhide HB).zt m4)
  have HrB := hide hrB
  have HrBl := hide hrBl
  have Hb6 := hide hb6
  clear hrB hrBn hrBl hb6 HZ4
  go_wp2_with fail
  refine (unhide HZ5).mono ?_
  rintro e w7 ⟨sB, rfl, hsB, hsBn, hsBl, hb7⟩
  have HBL7 := hide ((unhide HBL6).trans (hb7.mono (unhide HBL6).size))
  have s7 := hb7.size
  have HZ6 := hide (zruns_calls b2 d2 xB w7 (((unhide HB).x.below (unhide HBL7)).mono (unhide HBL7).size) (unhide HB).zx (by omega))
  have HsB := hide hsB
  have HsBn := hide hsBn
  have HsBl := hide hsBl
  have Hb7 := hide hb7
  clear hsB hsBn hsBl hb7 HZ5
  go_wp2_with fail
  refine (unhide HZ6).mono ?_
  rintro e w8 ⟨nB, rfl, hnB, hnBn, hnBl, hb8⟩
  have HBL8 := hide ((unhide HBL7).trans (hb8.mono (unhide HBL7).size))
  have s8 := hb8.size
  have hB58 : Below w5.heap.size w5 w8 := ((unhide Hb6).trans ((unhide Hb7).mono s6)).trans (hb8.mono (by omega))
  have hTl : (partT rA sA xA xA.length).length ≤ 4096 := by have := partT_len rA sA xA xA.length; omega
  have HK2 := hide (zzkeep_calls (fun k => (w4.heap.size + 1 ≤ k ∧ k < w5.heap.size) ∨ w8.heap.size + 1 ≤ k) (w.heap.size + 1) w.heap.size w5.heap.size rB sB nB RB.length tB.length xB (partT rA sA xA xA.length) w8
    ((unhide HST5).on hB58 (fun g h1 h2 => Or.inl ⟨h2, h1⟩)) (fun k hk => Or.inr hk) (by show ¬ ((w4.heap.size + 1 ≤ w8.heap.size ∧ w8.heap.size < w5.heap.size) ∨ w8.heap.size + 1 ≤ w8.heap.size); omega) (by show ¬ ((w4.heap.size + 1 ≤ w.heap.size + 1 ∧ w.heap.size + 1 < w5.heap.size) ∨ w8.heap.size + 1 ≤ w.heap.size + 1); omega) (by show ¬ ((w4.heap.size + 1 ≤ w.heap.size ∧ w.heap.size < w5.heap.size) ∨ w8.heap.size + 1 ≤ w.heap.size); omega) (by omega)
    (fun k h1 h2 => by show ¬ (k = w.heap.size + 1 ∨ k = w.heap.size ∨ ((w4.heap.size + 1 ≤ k ∧ k < w5.heap.size) ∨ w8.heap.size + 1 ≤ k)); omega) (by omega) hnB (fun ad e => by have := hnBl ad e; omega) (unhide HB).s hTl m5 m3 (fun q => (unhide HPB).1 (fun e => q ((unhide HsBn).2 e))) (unhide HPB).2)
  have HCB : Hid (Arr f3 3 w8.heap.size w8 rB RB ∧ Arr f1 1 w8.heap.size w8 sB tB) := ⟨((unhide HrB).below (((unhide Hb7).trans (hb8.mono s7)))).mono (by omega), ((unhide HsB).below hb8).mono s8⟩
  have HCA8 : Hid (Arr f3 3 w4.heap.size w8 rA RA ∧ Arr f1 1 w4.heap.size w8 sA tA) := ⟨(unhide HCA5).1.below (hB58.mono s5), (unhide HCA5).2.below (hB58.mono s5)⟩
  clear hnB hnBn hnBl hb8 hB58 HZ6 HrB HsB Hb6 Hb7 HCA5
  go_wp2_with fail
  refine (unhide HK2).mono ?_
  rintro e w9 ⟨rfl, hst9⟩
  have s9 := hst9.fr.size
  have HKP : Hid (Kept w w9 (w.heap.size + 1) w.heap.size a0 RA a1 tA a2 xA b0 RB b1 tB b2 xB rA sA rB sB) := by
    have hbl9 : Below w.heap.size w w9 := (unhide HBL8).trans (hst9.fr.below (unhide HBL8).size (fun k hk => by
      have : k = w.heap.size + 1 ∨ k = w.heap.size ∨ ((w4.heap.size + 1 ≤ k ∧ k < w5.heap.size) ∨ w8.heap.size + 1 ≤ k) := hk
      have := (unhide HBL8).size
      omega))
    have hws := hbl9.size
    have qA : ∀ k, w1.heap.size ≤ k → k < w4.heap.size → ¬ (k = w.heap.size + 1 ∨ k = w.heap.size ∨ ((w4.heap.size + 1 ≤ k ∧ k < w5.heap.size) ∨ w8.heap.size + 1 ≤ k)) := fun k h1 h2 => by omega
    have qB : ∀ k, w5.heap.size ≤ k → k < w8.heap.size → ¬ (k = w.heap.size + 1 ∨ k = w.heap.size ∨ ((w4.heap.size + 1 ≤ k ∧ k < w5.heap.size) ∨ w8.heap.size + 1 ≤ k)) := fun k h1 h2 => by omega
    refine ⟨hbl9, hst9.ro, ⟨((unhide HA).r.below hbl9).mono hws, ((unhide HA).t.below hbl9).mono hws, ((unhide HA).x.below hbl9).mono hws,
      ((unhide HCA8).1.frd hst9.fr (unhide HrAl) qA (by omega)).mono (by omega), ((unhide HCA8).2.frd hst9.fr (fun ad e => by have := unhide HsAl ad e; omega) qA (by omega)).mono (by omega), unhide HsAn, (unhide HPA).1, (unhide HPA).2, m0, m1, m2⟩,
      ⟨((unhide HB).r.below hbl9).mono hws, ((unhide HB).t.below hbl9).mono hws, ((unhide HB).x.below hbl9).mono hws,
      ((unhide HCB).1.frd hst9.fr (unhide HrBl) qB (by omega)).mono (by omega), ((unhide HCB).2.frd hst9.fr (fun ad e => by have := unhide HsBl ad e; omega) qB (by omega)).mono (by omega), unhide HsBn, (unhide HPB).1, (unhide HPB).2, m3, m4, m5⟩⟩
  have HSA := hide (unhide HA).s
  have HSB := hide (unhide HB).s
  generalize hwb : w.heap.size + 1 = wb at *
  clear hst9 HK2 HCB HCA8 HST5 HBL1 HBL2 HBL3 HBL4 HBL5 HBL6 HBL7 HBL8 HrAl HsAl HsAn HrBl HsBl HsBn HPA HPB HA HB HW0 hs1 s2 s3 s4 s5 s6 s7 s8 s9 hTl hwb
  clear w1 w2 w3 w4 w5 w6 w7 w8
  as_aux_lemma =>
    have HTG := hide (fun (t : Nat) (r : Rn) (h : (xA ++ xB)[t]? = some r) => T_get (rA := rA) (sA := sA) (rB := rB) (sB := sB) h)
    have HTL := hide (T_len rA sA rB sB xA xB)
    have hXl : (xA ++ xB).length = xA.length + xB.length := by simp
    generalize hT : partT rA sA xA xA.length ++ partT rB sB xB xB.length = T at *
    have HRO := hide (show RO wb w.heap.size w9 T by rw [← hT]; exact (unhide HKP).ro)
    have HBL := hide (unhide HKP).bel
    clear hT
    generalize hmb : w.heap.size = mb at *
    go_wp2_with fail
    go_loopw [15, 16] (fun mm jj wr => ∃ j : Nat, j ≤ xA.length + xB.length ∧ jj = .int .i64 j ∧ mm = .int .i64 ((mem (T.take j)).length : Nat) ∧ Below w9.heap.size w9 wr) (fun _ jj _ => xA.length + xB.length - (intOf jj).toNat)
    case atStart => exact ⟨0, by omega, rfl, rfl, Below.refl _ _⟩
    case round =>
      obtain ⟨j, hj, rfl, rfl, hbel⟩ := hrel
      have HBE := hide hbel
      clear hbel
      by_cases hlt : j < xA.length + xB.length
      · obtain ⟨r, hr⟩ := getlt (l := xA ++ xB) (k := j) (by omega)
        obtain ⟨x, hTj, -⟩ := unhide HTG j r hr
        have HTJ := hide hTj
        have HM := fun (wr : World) (hb : Below w9.heap.size w9 wr) (t : Nat) (r : Rn) (h : (xA ++ xB)[t]? = some r) => zkMember_calls a2 b2 c2 d2 w9.heap.size xA xB wr ((unhide HKP).A.x.below hb) ((unhide HKP).B.x.below hb) m2 m5 h
        have HMM := hide HM
        have HR := hide hr
        clear hTj HM hr
        go_wp2_with fail
        refine (unhide HMM _ (unhide HBE) j r (unhide HR)).mono ?_
        rintro e w' ⟨rfl, hww⟩
        have hw2 := hww.symm; clear hww; subst hw2
        go_wp2_with fail
        go_loop [18, 19] (fun se tt => ∃ t : Nat, t ≤ j ∧ tt = .int .i64 t ∧ se = .bool false ∧ ∀ (u : Nat) (y : Sp), u < t → T[u]? ≠ some (r.s, y)) (fun _ tt => j - (intOf tt).toNat)
        case atStart => exact ⟨0, by omega, rfl, rfl, fun u y hu => by omega⟩
        case round =>
          obtain ⟨t, ht, rfl, rfl, hnot⟩ := hrel
          have HNOT := hide hnot
          clear hnot
          by_cases hlt2 : t < j
          · obtain ⟨r2, hr2⟩ := getlt (l := xA ++ xB) (k := t) (by omega)
            obtain ⟨x2, hT2, -⟩ := unhide HTG t r2 hr2
            have HT2 := hide hT2
            have HR2 := hide hr2
            clear hT2 hr2
            go_wp2_with fail
            refine (unhide HMM _ (unhide HBE) t r2 (unhide HR2)).mono ?_
            rintro e w' ⟨rfl, hww⟩
            have hw2 := hww.symm; clear hww; subst hw2
            by_cases hs : r2.s = r.s
            · have hin : r.s ∈ mem (T.take j) := (mem_take_iff T j r.s).2 ⟨t, x2, hlt2, by rw [unhide HT2, hs]⟩
              have hsame := mem_take_old (unhide HTJ) hin
              have HSAME := hide hsame
              clear hin hsame
              go_wp2_with fail
              go_roundw
              case rel => exact ⟨j + 1, by omega, by go_num, by rw [unhide HSAME], unhide HBE⟩
              case measure => simp [intOf]; omega
            · have hne := bytes_ne hs
              go_wp2_with fail
              go_round
              case rel =>
                refine ⟨t + 1, by omega, by go_num, rfl, fun u y hu e => ?_⟩
                by_cases q : u = t
                · subst q
                  rw [unhide HT2] at e
                  simp at e
                  exact hs e.1
                · exact unhide HNOT u y (by omega) e
              case measure => simp [intOf]; omega
          · as_aux_lemma =>
              have hni : r.s ∉ mem (T.take j) := fun q => by
                obtain ⟨u, y, hu, e⟩ := (mem_take_iff T j r.s).1 q
                exact unhide HNOT u y (by omega) e
              have HNI := hide hni
              clear hni
              have hmi := mem_index (unhide HTJ) (unhide HNI)
              have HMI := hide hmi
              have hml : (mem T).length ≤ 8192 := by have h1 := mem_len T; have h2 := unhide HTL; omega
              have hmt : (mem (T.take j)).length < (mem T).length := (List.getElem?_eq_some_iff.1 hmi).1
              have hrs : r.s.size ≤ maxLen := by
                rcases List.mem_append.1 (List.mem_of_getElem? (unhide HR)) with q | q
                · exact unhide HSA r q
                · exact unhide HSB r q
              have HIX := hide (index_calls ((unhide HRO).below (unhide HBE)) hmi hrs)
              have HCO := hide (count_calls ((unhide HRO).below (unhide HBE)) (by omega))
              have HNW := hide (mem_take_new (unhide HTJ) (unhide HNI))
              have HS0 := hide (spl_new (T.take j) r.s (unhide HNI))
              clear hmi hrs
              generalize hMv : (mem (T.take j)).length = M at *
              generalize hMT : (mem T).length = MT at *
              have HMV := hide hMv
              have HMT := hide hMT
              clear hMv hMT
              go_wp2_with fail
              refine (unhide HIX).mono ?_
              rintro e w' ⟨rfl, hww⟩
              have hw2 := hww.symm; clear hww; subst hw2
              go_wp2_with fail
              refine (unhide HCO).mono ?_
              rintro e w' ⟨rfl, hww⟩
              have hw2 := hww.symm; clear hww; subst hw2
              have hge : ¬ ((MT : Int) ≤ (M : Int)) := by omega
              have hgeN : ¬ (MT ≤ M) := by omega
              have hM0 : ¬ ((M : Int) < 0) := by omega
              go_wp2_with fail
              go_loopw [22, 23] (fun kk tt wr => ∃ t : Nat, j ≤ t ∧ t ≤ xA.length + xB.length ∧ tt = .int .i64 t ∧ kk = .int .i64 ((spl (T.take t) r.s).length : Nat) ∧ Below w9.heap.size w9 wr) (fun _ tt _ => xA.length + xB.length - (intOf tt).toNat)
              case atStart => exact ⟨j, by omega, by omega, rfl, by rw [unhide HS0]; rfl, unhide HBE⟩
              case round =>
                obtain ⟨t3, ht3, ht3n, rfl, rfl, hbel3⟩ := hrel
                have HB3 := hide hbel3
                clear hbel3
                have HSL := hide (spanlen_calls ((unhide HRO).below (unhide HB3)) (unhide HMI) (by rw [unhide HMT]; omega))
                by_cases hlt3 : t3 < xA.length + xB.length
                · obtain ⟨r3, hr3⟩ := getlt (l := xA ++ xB) (k := t3) (by omega)
                  obtain ⟨x3, hT3, hd3⟩ := unhide HTG t3 r3 hr3
                  have HT3 := hide hT3
                  have HD3 := hide hd3
                  have HR3 := hide hr3
                  clear hT3 hr3 hd3
                  go_wp2_with fail
                  refine (unhide HMM _ (unhide HB3) t3 r3 (unhide HR3)).mono ?_
                  rintro e w' ⟨rfl, hww⟩
                  have hw2 := hww.symm; clear hww; subst hw2
                  by_cases hs : r3.s = r.s
                  · as_aux_lemma =>
                      have HT3' : Hid (T[t3]? = some (r.s, x3)) := by rw [← hs]; exact unhide HT3
                      have hat := spl_at (unhide HT3')
                      have hkl := (List.getElem?_eq_some_iff.1 hat).1
                      have hsk := spl_take_same (unhide HT3')
                      have hslm := spl_len T r.s
                      have hTl2 := unhide HTL
                      have hsn : (spl T r.s).length ≤ 8192 := by omega
                      have HMA := hide (match_calls wr ((unhide HRO).below (unhide HB3)) (unhide HMI) hat (by rw [unhide HMT]; omega) a0 a1 a2 b0 b1 b2 c0 c1 c2 d0 d1 d2 RA tA xA RB tB xB rA sA rB sB ((unhide HKP).A.below (unhide HB3)) ((unhide HKP).B.below (unhide HB3)) (unhide HB3).size (unhide HD3))
                      have HSK : Hid ((spl (T.take (t3 + 1)) r.s).length = (spl (T.take t3) r.s).length + 1) := by
                        show (spl (T.take (t3 + 1)) r.s).length = _
                        rw [hsk]; simp
                      clear hat hsk hslm hTl2
                      generalize hK3 : (spl (T.take t3) r.s).length = K3 at *
                      generalize hL3 : (spl T r.s).length = L3 at *
                      clear hK3 hL3
                      rw [hs]
                      go_wp2_with fail
                      refine (unhide HSL).mono ?_
                      rintro e w' ⟨rfl, hww⟩
                      have hw2 := hww.symm; clear hww; subst hw2
                      have hge3 : ¬ ((L3 : Int) ≤ (K3 : Int)) := by omega
                      have hge3N : ¬ (L3 ≤ K3) := by omega
                      go_wp2_with fail
                      refine (unhide HMA).mono ?_
                      rintro e w4 ⟨rfl, hb4⟩
                      have HB4 := hide ((unhide HB3).trans (hb4.mono (unhide HB3).size))
                      clear hb4
                      go_wp2_with fail
                      go_roundw
                      case rel => exact ⟨t3 + 1, by omega, by omega, by go_num, by rw [unhide HSK]; go_num, unhide HB4⟩
                      case measure => simp [intOf]; omega
                  · have hne := bytes_ne hs
                    have hso := spl_take_other (unhide HT3) hs
                    have HSO := hide hso
                    clear hso
                    go_wp2_with fail
                    go_roundw
                    case rel => exact ⟨t3 + 1, by omega, by omega, by go_num, by rw [unhide HSO], unhide HB3⟩
                    case measure => simp [intOf]; omega
                · have hall : T.take t3 = T := List.take_of_length_le (by have := unhide HTL; omega)
                  rw [hall]
                  have hslm := spl_len T r.s
                  have hTl2 := unhide HTL
                  have hsn : (spl T r.s).length ≤ 8192 := by omega
                  clear hall hslm hTl2
                  generalize hL3 : (spl T r.s).length = L3 at *
                  clear hL3
                  go_wp2_with fail
                  refine (unhide HSL).mono ?_
                  rintro e w' ⟨rfl, hww⟩
                  have hw2 := hww.symm; clear hww; subst hw2
                  go_wp2_with fail
                  go_roundw
                  case rel => exact ⟨j + 1, by omega, by go_num, by rw [unhide HNW, List.length_append, unhide HMV]; go_num, unhide HB3⟩
                  case measure => simp [intOf]; omega
      · have hall : T.take j = T := List.take_of_length_le (by have := unhide HTL; omega)
        rw [hall]
        have hml : (mem T).length ≤ 8192 := by have h1 := mem_len T; have h2 := unhide HTL; omega
        have HCO := hide (count_calls ((unhide HRO).below (unhide HBE)) (by omega))
        have HME := hide (members_calls ((unhide HRO).below (unhide HBE)))
        have HEND := hide ((unhide HBL).trans ((unhide HBE).mono (by rw [← hmb]; exact (unhide HBL).size)))
        clear hall
        generalize (mem T).length = MT at *
        go_wp2_with fail
        refine (unhide HCO).mono ?_
        rintro e w' ⟨rfl, hww⟩
        have hw2 := hww.symm; clear hww; subst hw2
        go_wp2_with fail
        refine (unhide HME).mono ?_
        rintro e w' ⟨rfl, hww⟩
        have hw2 := hww.symm; clear hww; subst hw2
        go_wp2_with fail
        go_ret
        exact ⟨rfl, by rw [hmb]; exact unhide HEND⟩
end Go.Proofs.Qxb6003232a.Kp
