/-
  The law's walk (3).
-/
import Derived.Test.Qxb6603374aC7
namespace Go.Proofs.Qxb6603374a.G
open Go.ChangeShapes Go.WideShapes Go.ChangeAt Go.RowKit
set_option linter.unusedVariables false

theorem zz_calls (B : Nat) (a : Option Addr) (cap : Nat) (S : List (List Nat)) (w : World) (hs : GN B w a S) (hS : InR S) (hn : S.length ≤ 4096) (hm : ∀ l ∈ S, l.length ≤ 1048576) (hB : B ≤ w.heap.size) :
    Calls Try.prog 10 #[.slice a S.length cap] w (CPost S w) := by
  have HC : Hid (Calls Try.prog 32 #[.slice a S.length cap] w (CPost S w)) := closure_calls B a cap S w hs hS hn hm hB
  clear hs hS hm
  go_enter Try.func10, Try.ntmps10
  go_wp2_with fail
  refine (unhide HC).mono ?_
  rintro e w1 ⟨hb, ⟨rfl, hcy⟩ | ⟨gc, o, cv, rfl, h1, h2, h3, h4, h5, h6⟩⟩
  · have H1 := hide hb
    have H2 := hide hcy
    clear hb hcy
    go_wp2_with fail
    go_ret2
    exact ⟨unhide H1, Or.inl ⟨rfl, unhide H2⟩⟩
  · have H := hide (And.intro hb (And.intro h1 (And.intro h2 (And.intro h3 (And.intro h4 (And.intro h5 h6))))))
    clear hb h1 h2 h3 h4 h5 h6
    go_wp2_with fail
    go_ret2
    obtain ⟨hb, h1, h2, h3, h4, h5, h6⟩ := unhide H
    exact ⟨hb, Or.inr ⟨gc, o, cv, rfl, h1, h2, h3, h4, h5, h6⟩⟩

theorem Ar.below {α : Type} {f : α → Value} {w w' : World} {g B : Nat} {l : List α} {e : TypeId} (h : Ar f w g l e) (hb : Below B w w') (hg : g < B) : Ar f w' g l e := h.fr (Fr.of_below hb) (by omega)
def sumL (Z : List (List Int)) : Nat := (Z.map List.length).sum
theorem sumL_snoc (Z : List (List Int)) (l : List Int) : sumL (Z ++ [l]) = sumL Z + l.length := by unfold sumL; simp

/-- the rows as natural numbers -/
def natRows (Z : List (List Int)) : List (List Nat) := Z.map (fun l => l.map Int.toNat)
theorem natRows_back {Z : List (List Int)} (h : ∀ l ∈ Z, ∀ x ∈ l, 0 ≤ x ∧ x < (Z.length : Int)) : (natRows Z).map (fun l => l.map (fun x : Nat => (x : Int))) = Z := by
  unfold natRows
  rw [List.map_map]
  conv => rhs; rw [← List.map_id Z]
  refine List.map_congr_left fun l hl => ?_
  show (l.map Int.toNat).map _ = l
  rw [List.map_map]
  conv => rhs; rw [← List.map_id l]
  refine List.map_congr_left fun x hx => ?_
  show ((x.toNat : Nat) : Int) = x
  have := (h l hl x hx).1
  omega
theorem natRows_inR {Z : List (List Int)} (h : ∀ l ∈ Z, ∀ x ∈ l, 0 ≤ x ∧ x < (Z.length : Int)) : InR (natRows Z) := by
  rintro v x ⟨l, hl, hx⟩
  unfold natRows at hl ⊢
  rw [List.getElem?_map] at hl
  obtain ⟨l', hl', rfl⟩ := Option.map_eq_some_iff.1 hl
  obtain ⟨y, hy, rfl⟩ := List.mem_map.1 hx
  have := h l' (List.mem_of_getElem? hl') y hy
  simp
  omega
theorem natRows_len {Z : List (List Int)} {m : Nat} (h : ∀ l ∈ Z, l.length ≤ m) : ∀ l ∈ natRows Z, l.length ≤ m := by
  intro l hl
  obtain ⟨l', hl', rfl⟩ := List.mem_map.1 hl
  simpa using h l' hl'
theorem sumTo_rows (S : List (List Nat)) : ∀ k, k ≤ S.length → sumTo (fun v => (row S v).length) k = ((S.take k).map List.length).sum
  | 0, _ => by simp [sumTo]
  | k + 1, h => by
    obtain ⟨l, hl⟩ := getlt (show k < S.length by omega)
    rw [List.take_add_one, hl]
    show sumTo _ k + (row S k).length = _
    rw [sumTo_rows S k (by omega), row_of hl]
    simp
theorem tot_natRows (Z : List (List Int)) : tot (natRows Z) = sumL Z := by
  unfold tot
  rw [sumTo_rows _ _ (Nat.le_refl _), List.take_length]
  unfold natRows sumL
  rw [List.map_map]
  congr 1
  refine List.map_congr_left fun l _ => ?_
  simp

theorem info4 : (Try.prog.info? 4).map (fun i => (i.zero, i.size, i.bytes)) = some (some (.bool false), 1, 1) := by kernel_rfl
theorem make_bools (w : World) (n : Nat) (hn : n ≤ 1048576) : (Instr.makeSlice 28 (.int .i64 (n : Int)) (.int .i64 (n : Int))).run Try.prog w = .ok (.slice (some ⟨w.heap.size, 0, none⟩) n n) (w.alloc (.cells (madeCells #[fB false] n) 4)) := by
  obtain ⟨i0, hi, hz0, hz1, hz2⟩ := info_parts info4
  have hmk := run_make (P := Try.prog) w 28 4 i0 _ Try.underlying28 hi hz0 .i64 .i64 n n (by omega) (by omega) (by rw [hz2]; omega) (by omega)
  rw [hz1] at hmk
  simp only [Int.toNat_natCast, Nat.mul_one] at hmk
  exact hmk

set_option maxRecDepth 100000 in
set_option maxHeartbeats 2000000 in
theorem law_walk (a : Option Addr) (cap : Nat) (Z : List (List Int)) (w : World) (hs : Gr w.heap.size w a Z) (hn : Z.length ≤ 9223372036854775807) :
    Calls Try.prog 3 #[.slice a Z.length cap] w fun e w' => e = .returned (.bool true) ∧ Below w.heap.size w w' := by
  have HS := hide hs
  have HBY := hide (bytes_calls w.heap.size a cap Z w hs hn)
  clear hs
  by_cases h1 : Z.length ≤ 4096
  rotate_left
  · go_enter Try.func3, Try.ntmps3
    go_wp2_with fail
    refine (unhide HBY).mono ?_
    rintro e w' ⟨⟨r, rfl, -⟩, rfl⟩
    cases r
    all_goals
      go_wp2_with fail
      go_ret
      exact ⟨rfl, Below.refl _ _⟩
  go_enter Try.func3, Try.ntmps3
  go_wp2_with fail
  refine (unhide HBY).mono ?_
  rintro e w' ⟨⟨r, rfl, -⟩, hww⟩
  have hw2 := hww.symm; clear hww; subst hw2
  cases r
  · go_wp2_with fail
    go_ret
    exact ⟨rfl, Below.refl _ _⟩
  go_wp2_with fail
  go_loop [3, 4] (fun b i => ∃ k : Nat, k ≤ Z.length ∧ i = .int .i64 k ∧ b = .int .i64 ((8 * Z.length + 8 * sumL (Z.take k) : Nat) : Int) ∧ 8 * Z.length + 8 * sumL (Z.take k) ≤ 1048576 ∧ ∀ l ∈ Z.take k, l.length ≤ 1048576) (fun _ i => Z.length - (intOf i).toNat)
  case atStart => exact ⟨0, by omega, rfl, by simp [sumL], by simp [sumL]; omega, by simp⟩
  case round =>
    obtain ⟨k, hk, rfl, rfl, hbd, hrl⟩ := hrel
    by_cases hlt : k < Z.length
    · obtain ⟨l, hl⟩ := getlt hlt
      obtain ⟨b, off, ai, ci, hea, hb, hc, hi⟩ := (unhide HS).at hl
      subst hea
      have htk : Z.take (k + 1) = Z.take k ++ [l] := by rw [List.take_add_one, hl]; rfl
      have hsm := sumL_snoc (Z.take k) l
      rw [← htk] at hsm
      have HSM := hide hsm
      have HTK := hide htk
      have HRL := hide hrl
      clear hl hi hb htk hsm hrl
      by_cases h2 : l.length ≤ 1048576
      · by_cases h3 : 8 * Z.length + 8 * sumL (Z.take k) + 8 * l.length ≤ 1048576
        · go_wp2_with fail
          go_round
          case rel =>
            refine ⟨k + 1, by omega, by go_num, by rw [unhide HSM]; go_num, by rw [unhide HSM]; omega, ?_⟩
            rw [unhide HTK]
            intro l' hl'
            rcases List.mem_append.1 hl' with h | h
            · exact unhide HRL l' h
            · simp at h; subst h; exact h2
          case measure => simp [intOf]; omega
        · go_wp2_with fail
          go_ret
          exact ⟨rfl, Below.refl _ _⟩
      · go_wp2_with fail
        go_ret
        exact ⟨rfl, Below.refl _ _⟩
    · rw [List.take_of_length_le (by omega)] at hbd hrl ⊢
      have HED := hide (edges_calls w.heap.size a cap Z w (unhide HS) (by omega) hrl)
      have HRL := hide hrl
      have HBD := hide hbd
      clear hrl
      go_wp2_with fail
      refine (unhide HED).mono ?_
      rintro e w' ⟨⟨r, rfl, hr⟩, hww⟩
      have hw2 := hww.symm; clear hww; subst hw2
      cases r
      · clear hr
        go_wp2_with fail
        go_ret
        exact ⟨rfl, Below.refl _ _⟩
      have hin := hr rfl
      obtain ⟨S, hSdef⟩ : ∃ S, S = natRows Z := ⟨_, rfl⟩
      have hback := natRows_back hin
      have hSl : S.length = Z.length := by rw [hSdef]; simp [natRows]
      have hgn : GN w.heap.size w a S := by unfold GN; rw [hSdef, hback]; exact unhide HS
      have hS : InR S := by rw [hSdef]; exact natRows_inR hin
      have hm : ∀ l ∈ S, l.length ≤ 1048576 := by rw [hSdef]; exact natRows_len (unhide HRL)
      have ht : tot S ≤ 1048576 := by rw [hSdef, tot_natRows]; omega
      have hzz := zz_calls w.heap.size a cap S w hgn hS (by omega) hm (Nat.le_refl _)
      have hka := fun (w' : World) (hb : Below w.heap.size w w') => kahn_calls w.heap.size a cap S w' (hgn.below hb) hS (by omega) hm ht hb.size
      rw [hSl] at hzz hka
      have HZZ := hide hzz
      have HKA := hide hka
      have HGN := hide hgn
      have HSS := hide hS
      have HMM := hide hm
      have HSL := hide hSl
      clear hr hin hback hSdef hzz hka hgn hS hm hSl ht HED HBY
      generalize hN : Z.length = N at *
      clear hN
      go_wp2_with fail
      refine (unhide HZZ).mono ?_
      rintro e w1 ⟨hb, ⟨rfl, hcy⟩ | ⟨gc, o, cv, rfl, ht1, ht2, hgc, hAc, hcl, hdo⟩⟩
      · have HB := hide hb
        have HCY := hide hcy
        clear hb hcy
        go_wp2_with fail
        refine (unhide HKA _ (unhide HB)).mono ?_
        rintro e w2 ⟨⟨r, rfl, d, hK, hr⟩, hb2⟩
        have hrf : r = false := by
          cases r
          · rfl
          · exact absurd (unhide HCY) (kahn_yes (unhide HSS) hK (hr.1 rfl))
        subst hrf
        have HB2 := hide ((unhide HB).trans (hb2.mono (unhide HB).size))
        have hnl := fun (w : World) (a : Option Addr) (l c : Nat) => Lib.run_eql_slice_nil (P := Try.prog) w 25 29 a l c 0 0 Try.underlying25
        clear hK hr hb2
        go_wp2_with fail
        go_ret
        exact ⟨rfl, unhide HB2⟩
      · have HB := hide hb
        have HT1 := hide ht1
        have HT2 := hide ht2
        have HAC := hide hAc
        have HCL := hide hcl
        have HDO := hide hdo
        rw [unhide HSL]
        clear hb ht1 ht2 hAc hcl hdo
        go_wp2_with fail
        refine (unhide HKA _ (unhide HB)).mono ?_
        rintro e w2 ⟨⟨r, rfl, d, hK, hr⟩, hb2⟩
        have hrt : r = true := hr.2 (kahn_all hK (unhide HT1) (unhide HT2))
        subst hrt
        have HB2 := hide ((unhide HB).trans (hb2.mono (unhide HB).size))
        have HBE2 := hide hb2
        have hnl := fun (w : World) (a : Option Addr) (l c : Nat) => Lib.run_eql_slice_nil (P := Try.prog) w 25 29 a l c 0 0 Try.underlying25
        have hm1 := fun w => make_bools w N (by omega)
        have hm2 := fun w => make_ints w N (by omega)
        have hbb := unhide HBE2
        have hsz2 := hbb.size
        have hsl := unhide HSL
        have q1 : Ar fV ((w2.alloc (.cells (madeCells #[fB false] N) 4)).alloc (.cells (madeCells #[fI 0] N) 3)) gc cv 29 := (((unhide HAC).below hbb (unhide HAC).lt).alloc _).alloc _
        have q2 : ∀ x, x < N → ∃ g ws, cv[x]? = some (.slice (some ⟨g, 0, none⟩) ((N + 63) / 64) ((N + 63) / 64)) ∧ g < w2.heap.size ∧ Ar fW ((w2.alloc (.cells (madeCells #[fB false] N) 4)).alloc (.cells (madeCells #[fI 0] N) 3)) g ws 52 ∧ ws.length = (N + 63) / 64 ∧ RowP (Re S x) ws := by
          intro x hx
          obtain ⟨g, ws, d1, d2, d3, d4, d5⟩ := unhide HDO x (by omega)
          rw [hsl] at d1 d4
          exact ⟨g, ws, d1, Nat.lt_of_lt_of_le d3.lt hsz2, ((d3.below hbb d3.lt).alloc _).alloc _, d4, d5⟩
        have q3 : Ar fB ((w2.alloc (.cells (madeCells #[fB false] N) 4)).alloc (.cells (madeCells #[fI 0] N) 3)) w2.heap.size (List.replicate N false) 4 := (Ar.made w2 fB false N 4).alloc _
        have q4 : Ar fI ((w2.alloc (.cells (madeCells #[fB false] N) 4)).alloc (.cells (madeCells #[fI 0] N) 3)) (w2.heap.size + 1) (List.replicate N 0) 3 := by
          have q := Ar.made (w2.alloc (.cells (madeCells #[fB false] N) 4)) fI 0 N 3
          rw [show (w2.alloc (.cells (madeCells #[fB false] N) 4)).heap.size = w2.heap.size + 1 by simp] at q
          exact q
        have q5 : Below w.heap.size w ((w2.alloc (.cells (madeCells #[fB false] N) 4)).alloc (.cells (madeCells #[fI 0] N) 3)) := ((unhide HB2).alloc (unhide HB2).size _).alloc (by have := (unhide HB2).size; simp; omega) _
        have hgcl : gc < w2.heap.size := Nat.lt_of_lt_of_le (unhide HAC).lt hsz2
        have hwl : w.heap.size ≤ w2.heap.size := (unhide HB2).size
        have Q1 := hide q1
        have Q2 := hide q2
        have Q3 := hide q3
        have Q4 := hide q4
        have Q5 := hide q5
        have hcvl : cv.length = N := (unhide HCL).trans hsl
        have HCV := hide hcvl
        clear hK hr hb2 hbb hsz2 hsl q1 q2 q3 q4 q5 hcvl
        go_wp2_with fail
        generalize hw0 : (w2.alloc (.cells (madeCells #[fB false] N) 4)).alloc (.cells (madeCells #[fI 0] N) 3) = w0 at *
        clear hw0 hm1 hm2 HKA HZZ
        generalize hgr : w2.heap.size = gr at *
        clear hgr
        generalize hW : (N + 63) / 64 = W at *
        have hW1 : N ≤ W * 64 := by omega
        have hW2 : W * 64 < N + 64 := by omega
        clear hW
        go_loopw [10] (fun i wr => ∃ k : Nat, k ≤ N ∧ i = .int .i64 k ∧ Fr (fun k => k = gr ∨ k = gr + 1) w0 wr ∧ (∃ bs, Ar fB wr gr bs 4 ∧ bs.length = N) ∧ ∃ qs, Ar fI wr (gr + 1) qs 3 ∧ qs.length = N) (fun i _ => N - (intOf i).toNat)
        case atStart => exact ⟨0, by omega, rfl, Fr.refl _ _, ⟨_, unhide Q3, by simp⟩, ⟨_, unhide Q4, by simp⟩⟩
        case round =>
          obtain ⟨v, hv, rfl, hfr, ⟨bs, hbs, hbl⟩, ⟨qs, hqs, hql⟩⟩ := hrel
          by_cases hlt2 : v < N
          · obtain ⟨g, ws, d1, d2, d3, d4, d5⟩ := unhide Q2 v hlt2
            have hcc : wr.cell? ⟨gc, v, none⟩ = some (.slice (some ⟨g, 0, none⟩) W W) := ((unhide Q1).fr hfr (by omega)).at d1
            have hsl := unhide HSL
            have hbw : Below w.heap.size w wr := (unhide Q5).trans (hfr.below (unhide Q5).size (by intro k hk; omega))
            have hre := reach_calls w.heap.size a cap S v gr (gr + 1) bs qs wr ((unhide HGN).below hbw) (unhide HSS) (by omega) (unhide HMM) (by omega) hbs (by omega) hqs (by omega) (by omega) hbw.size (by omega) (by omega)
            rw [hsl] at hre
            have HRE := hide hre
            have HFR := hide hfr
            have D1 := hide d1
            have D3 := hide d3
            have D4 := hide d4
            have D5 := hide d5
            clear hre hfr d1 d3 d4 d5 hsl hbw hbs hqs hbl hql
            go_wp2_with fail
            refine (unhide HRE).mono ?_
            rintro e w3 ⟨rfl, hf3, ⟨bs3, hbs3, hbl3, hbr3⟩, qs3, hqs3, hql3⟩
            have hsl := unhide HSL
            rw [hsl] at hbl3 hql3
            have hAw : Ar fW w3 g ws 52 := (((unhide D3).fr (unhide HFR) (by omega)).fr hf3 (by omega))
            have HF3 := hide ((unhide HFR).trans hf3)
            have HBS := hide hbs3
            have HBL := hide hbl3
            have HBR := hide hbr3
            have HQS := hide hqs3
            have HQL := hide hql3
            have HAW := hide hAw
            clear hf3 hbs3 hbl3 hbr3 hqs3 hql3 hAw hsl HRE
            go_wp2_with fail
            go_loop [12] (fun i => ∃ u : Nat, u ≤ W * 64 ∧ i = .int .i64 u) (fun i => W * 64 - (intOf i).toNat)
            case atStart => exact ⟨0, by omega, rfl⟩
            case round =>
              obtain ⟨u, hu, rfl⟩ := hrel
              by_cases hlu : u < W * 64
              · have hwsl := unhide D4
                obtain ⟨x, hx⟩ := getlt (show u / 64 < ws.length by omega)
                obtain ⟨hx1, hx2⟩ := unhide D5 _ _ hx
                have hx3 := hx2 (u % 64) (Nat.mod_lt _ (by omega))
                rw [show 64 * (u / 64) + u % 64 = u by omega] at hx3
                have hbit := bit_calls g W u x ws w3 (unhide HAW) hwsl (by omega) hlu hx hx1
                by_cases hun : u < N
                · obtain ⟨b, hb⟩ := getlt (show u < bs3.length by rw [unhide HBL]; exact hun)
                  have hcb : w3.cell? ⟨gr, u, none⟩ = some (.bool b) := (unhide HBS).at hb
                  have hbe : x.testBit (u % 64) = b := by
                    rw [Bool.eq_iff_iff, hx3, unhide HBR u b hb]
                  rw [hbe] at hbit
                  have HBIT := hide hbit
                  clear hbit hbe hx hx1 hx2 hx3 hb hwsl
                  go_wp2_with (go_at_call 13; refine (unhide HBIT).mono ?_; rintro e w' ⟨rfl, rfl⟩)
                  go_round
                  case rel => exact ⟨u + 1, by omega, by go_num⟩
                  case measure => simp [intOf]; omega
                · have hbe : x.testBit (u % 64) = false := by
                    cases hh : x.testBit (u % 64)
                    · rfl
                    · exfalso
                      have hr := hx3.1 hh
                      have := hr.lt (unhide HSS) (by rw [unhide HSL]; exact hlt2)
                      rw [unhide HSL] at this
                      omega
                  rw [hbe] at hbit
                  have HBIT := hide hbit
                  clear hbit hbe hx hx1 hx2 hx3 hwsl
                  go_wp2_with (go_at_call 13; refine (unhide HBIT).mono ?_; rintro e w' ⟨rfl, rfl⟩)
                  go_round
                  case rel => exact ⟨u + 1, by omega, by go_num⟩
                  case measure => simp [intOf]; omega
              · go_wp2_with fail
                go_roundw
                case rel => exact ⟨v + 1, by omega, by go_num, unhide HF3, ⟨bs3, unhide HBS, unhide HBL⟩, ⟨qs3, unhide HQS, unhide HQL⟩⟩
                case measure => simp [intOf]; omega
          · go_wp2_with fail
            go_ret
            exact ⟨rfl, (unhide Q5).trans (hfr.below (unhide Q5).size (by intro k hk; omega))⟩
end Go.Proofs.Qxb6603374a.G
