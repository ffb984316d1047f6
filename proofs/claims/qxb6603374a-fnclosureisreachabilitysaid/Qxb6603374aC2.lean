/-
  zzB1Reach (12): a breadth-first search finds just what can be reached.
-/
import Derived.Test.Qxb6603374aC1
namespace Go.Proofs.Qxb6603374a.G
open Go.ChangeShapes Go.WideShapes Go.ChangeAt Go.RowKit
set_option linter.unusedVariables false

def fI (x : Nat) : Value := .int .i64 (x : Int)
def fB (b : Bool) : Value := .bool b

/-- the argument, its entries natural numbers -/
def GN (B : Nat) (w : World) (a : Option Addr) (S : List (List Nat)) : Prop := Gr B w a (S.map (fun l => l.map (fun x : Nat => (x : Int))))
def IN (B : Nat) (w : World) (a : Option Addr) (l : List Nat) : Prop := Ints B w a (l.map (fun x : Nat => (x : Int)))
theorem GN.below {B : Nat} {w w' : World} {a : Option Addr} {S : List (List Nat)} (h : GN B w a S) (hb : Below B w w') : GN B w' a S := Gr.below h hb
theorem IN.below {B : Nat} {w w' : World} {a : Option Addr} {l : List Nat} (h : IN B w a l) (hb : Below B w w') : IN B w' a l := Ints.below h hb
theorem GN.at {B : Nat} {w : World} {a : Option Addr} {S : List (List Nat)} (h : GN B w a S) {i : Nat} {l : List Nat} (hi : S[i]? = some l) :
    ∃ b off ai ci, a = some ⟨b, off, none⟩ ∧ b < B ∧ w.cell? ⟨b, off + i, none⟩ = some (.slice ai l.length ci) ∧ IN B w ai l := by
  obtain ⟨b, off, ai, ci, h1, h2, h3, h4⟩ := Gr.at h (i := i) (l := l.map (fun x : Nat => (x : Int))) (by rw [List.getElem?_map, hi]; rfl)
  exact ⟨b, off, ai, ci, h1, h2, by simpa using h3, h4⟩
theorem IN.at {B : Nat} {w : World} {a : Option Addr} {l : List Nat} (h : IN B w a l) {j : Nat} {x : Nat} (hj : l[j]? = some x) :
    ∃ b off, a = some ⟨b, off, none⟩ ∧ b < B ∧ w.cell? ⟨b, off + j, none⟩ = some (.int .i64 (x : Int)) :=
  Ints.at h (by rw [List.getElem?_map, hj]; rfl)

/-! ### the plain part -/
structure BInv (S : List (List Nat)) (v : Nat) (q : List Nat) (h : Nat) : Prop where
  nd : q.Nodup
  re : ∀ u ∈ q, u < S.length ∧ Re S v u
  me : v ∈ q
  cl : ∀ i x, i < h → q[i]? = some x → ∀ y, Ed S x y → y ∈ q
theorem BInv.start {S : List (List Nat)} {v : Nat} (hv : v < S.length) : BInv S v [v] 0 :=
  ⟨by simp, by intro u hu; simp at hu; subst hu; exact ⟨hv, Re.refl _⟩, by simp, by intro i x hi; omega⟩
theorem BInv.push {S : List (List Nat)} {v h x y : Nat} {q : List Nat} (hb : BInv S v q h) (hx : q[h]? = some x) (hS : InR S) (e : Ed S x y) (hy : y ∉ q) : BInv S v (q ++ [y]) h := by
  refine ⟨List.nodup_append.2 ⟨hb.nd, by simp, by intro a ha b hb' e'; simp at hb'; subst hb'; subst e'; exact hy ha⟩, ?_, by simp [hb.me], ?_⟩
  · intro u hu
    rcases List.mem_append.1 hu with hu | hu
    · exact hb.re u hu
    · simp at hu; subst hu
      exact ⟨hS x u e, (hb.re x (List.mem_of_getElem? hx)).2.step e⟩
  · intro i z hi hz y' e'
    have hlt := (List.getElem?_eq_some_iff.1 hx).1
    rw [List.getElem?_append_left (by omega)] at hz
    exact List.mem_append.2 (Or.inl (hb.cl i z hi hz y' e'))
theorem BInv.next {S : List (List Nat)} {v h x : Nat} {q l : List Nat} (hb : BInv S v q h) (hx : q[h]? = some x) (hl : S[x]? = some l) (hd : ∀ y ∈ l, y ∈ q) : BInv S v q (h + 1) := by
  refine ⟨hb.nd, hb.re, hb.me, ?_⟩
  intro i z hi hz y e
  by_cases he : i = h
  · subst he
    rw [hx] at hz
    obtain rfl := Option.some.inj hz
    obtain ⟨l', hl', hy⟩ := e
    rw [hl] at hl'
    obtain rfl := Option.some.inj hl'
    exact hd y hy
  · exact hb.cl i z (by omega) hz y e
theorem BInv.done {S : List (List Nat)} {v : Nat} {q : List Nat} {h : Nat} (hb : BInv S v q h) (hh : q.length ≤ h) (u : Nat) : u ∈ q ↔ Re S v u := by
  refine ⟨fun hu => (hb.re u hu).2, fun hr => hr (fun u => u ∈ q) hb.me ?_⟩
  intro x y hx e
  obtain ⟨i, hi, he⟩ := List.getElem_of_mem hx
  exact hb.cl i x (by omega) (by rw [List.getElem?_eq_getElem hi, he]) y e
theorem BInv.len {S : List (List Nat)} {v : Nat} {q : List Nat} {h : Nat} (hb : BInv S v q h) : q.length ≤ S.length := pig _ _ hb.nd (fun x hx => (hb.re x hx).1)

/-! ### the two arrays -/
def BArr (gr gq n : Nat) (wr : World) (q : List Nat) : Prop :=
  ∃ (bs : List Bool) (qs : List Nat), Ar fB wr gr bs 4 ∧ bs.length = n ∧ (∀ u b, bs[u]? = some b → (b = true ↔ u ∈ q)) ∧ Ar fI wr gq qs 3 ∧ qs.length = n ∧ (∀ (i x : Nat), q[i]? = some x → qs[i]? = some x)
section
variable {gr gq n : Nat} {wr : World} {q : List Nat}
theorem BArr.get (h : BArr gr gq n wr q) {u : Nat} (hu : u < n) : ∃ b, wr.cell? ⟨gr, u, none⟩ = some (.bool b) ∧ wr.frozen? ⟨gr, u, none⟩ = false ∧ (b = true ↔ u ∈ q) := by
  obtain ⟨bs, qs, h1, h2, h3, h4, h5, h6⟩ := h
  obtain ⟨b, hb⟩ := getlt (show u < bs.length by omega)
  exact ⟨b, h1.at hb, h1.free _, h3 u b hb⟩
theorem BArr.qget (h : BArr gr gq n wr q) {i x : Nat} (hx : q[i]? = some x) : wr.cell? ⟨gq, i, none⟩ = some (.int .i64 (x : Int)) := by
  obtain ⟨bs, qs, h1, h2, h3, h4, h5, h6⟩ := h
  exact h4.at (h6 i x hx)
theorem BArr.qany (h : BArr gr gq n wr q) {i : Nat} (hi : i < n) : (∃ v, wr.cell? ⟨gq, i, none⟩ = some v) ∧ wr.frozen? ⟨gq, i, none⟩ = false := by
  obtain ⟨bs, qs, h1, h2, h3, h4, h5, h6⟩ := h
  obtain ⟨b, hb⟩ := getlt (show i < qs.length by omega)
  exact ⟨⟨_, h4.at hb⟩, h4.free _⟩
theorem BArr.lt (h : BArr gr gq n wr q) : gr < wr.heap.size ∧ gq < wr.heap.size := by
  obtain ⟨bs, qs, h1, h2, h3, h4, h5, h6⟩ := h
  exact ⟨h1.lt, h4.lt⟩
theorem BArr.push (h : BArr gr gq n wr q) (hne : gr ≠ gq) {y : Nat} (hy : y < n) (hq : q.length < n) :
    BArr gr gq n ((wr.setCell ⟨gr, y, none⟩ (.bool true)).setCell ⟨gq, q.length, none⟩ (.int .i64 (y : Int))) (q ++ [y]) := by
  obtain ⟨bs, qs, h1, h2, h3, h4, h5, h6⟩ := h
  refine ⟨bs.set y true, qs.set q.length y, (h1.set y true).set_other (by simpa using hne) _, by simpa using h2, ?_, (h4.set_other (by simpa using hne.symm) _).set q.length y, by simpa using h5, ?_⟩
  · intro u b hb
    rw [List.getElem?_set] at hb
    by_cases e : y = u
    · subst e
      rw [if_pos rfl, if_pos (by omega)] at hb
      obtain rfl := Option.some.inj hb
      simp
    · rw [if_neg e] at hb
      rw [h3 u b hb]
      simp
      intro e'; exact absurd e'.symm e
  · intro i x hx
    rw [List.getElem?_set]
    by_cases e : q.length = i
    · subst e
      rw [if_pos rfl, if_pos (by omega)]
      simp at hx
      rw [hx]
    · rw [if_neg e]
      have hlt := (List.getElem?_eq_some_iff.1 hx).1
      simp at hlt
      rw [List.getElem?_append_left (by omega)] at hx
      exact h6 i x hx
end

/-- what is left of the arrays behind the call -/
def RPost (S : List (List Nat)) (v gr gq : Nat) (w w' : World) : Prop :=
  Fr (fun k => k = gr ∨ k = gq) w w' ∧ (∃ bs, Ar fB w' gr bs 4 ∧ bs.length = S.length ∧ ∀ u b, bs[u]? = some b → (b = true ↔ Re S v u)) ∧ ∃ qs, Ar fI w' gq qs 3 ∧ qs.length = S.length

set_option maxRecDepth 100000 in
theorem reach_calls (B : Nat) (a : Option Addr) (cap : Nat) (S : List (List Nat)) (v gr gq : Nat) (bs0 : List Bool) (qs0 : List Nat) (w : World) (hs : GN B w a S) (hS : InR S) (hn : S.length ≤ 1048576) (hm : ∀ l ∈ S, l.length ≤ 1048576) (hv : v < S.length)
    (h1 : Ar fB w gr bs0 4) (h2 : bs0.length = S.length) (h3 : Ar fI w gq qs0 3) (h4 : qs0.length = S.length) (hne : gr ≠ gq) (hB : B ≤ w.heap.size) (hgr : B ≤ gr) (hgq : B ≤ gq) :
    Calls Try.prog 12 #[.slice a S.length cap, .int .i64 (v : Int), .slice (some ⟨gr, 0, none⟩) S.length S.length, .slice (some ⟨gq, 0, none⟩) S.length S.length] w fun e w' => e = .returned (.tuple #[]) ∧ RPost S v gr gq w w' := by
  have HS := hide hs
  have HI := hide hS
  have HM := hide hm
  have H1 := hide h1
  have H2 := hide h2
  have H3 := hide h3
  have H4 := hide h4
  clear hs hS hm h1 h2 h3 h4
  generalize hN : S.length = N at *
  have HN := hide hN
  clear hN
  have hbp : ∀ wr, Fr (fun k => k = gr ∨ k = gq) w wr → Below B w wr := fun wr hf => hf.below hB (by intro k hk; rcases hk with rfl | rfl <;> assumption)
  have HBP := hide hbp
  clear hbp
  go_enter Try.func12, Try.ntmps12
  go_wp2
  go_loopw [8] (fun i wr => ∃ k : Nat, k ≤ N ∧ i = .int .i64 k ∧ Fr (fun k => k = gr ∨ k = gq) w wr ∧ (∃ bs, Ar fB wr gr bs 4 ∧ bs.length = N ∧ ∀ u, u < k → bs[u]? = some false) ∧ Ar fI wr gq qs0 3) (fun i _ => N - (intOf i).toNat)
  case atStart => exact ⟨0, by omega, rfl, Fr.refl _ _, ⟨bs0, unhide H1, unhide H2, by intro u hu; omega⟩, unhide H3⟩
  case round =>
    obtain ⟨k, hk, rfl, hfr, ⟨bs, hA, hbl, hfal⟩, hQ⟩ := hrel
    by_cases hlt : k < N
    · obtain ⟨x, hx⟩ := getlt (show k < bs.length by omega)
      have hc := hA.at hx
      have hf := hA.free k
      have HA := hide hA
      have HQ := hide hQ
      have HF := hide hfal
      have HL := hide hbl
      clear hA hx hQ hfal hbl
      go_wp2
      go_roundw
      case rel =>
        refine ⟨k + 1, by omega, by go_num, hfr.setCell (Or.inl (Or.inl rfl)) _, ⟨bs.set k false, (unhide HA).set k false, by have := unhide HL; simpa using this, ?_⟩, (unhide HQ).set_other (by simpa using hne.symm) _⟩
        intro u hu
        rw [List.getElem?_set]
        by_cases e : k = u
        · rw [if_pos e, if_pos (by have := unhide HL; omega)]
        · rw [if_neg e]; exact unhide HF u (by omega)
      case measure => simp [intOf]; omega
    · have hba : BArr gr gq N wr [] := ⟨bs, qs0, hA, hbl, fun u b hb => by
        have hlt' := (List.getElem?_eq_some_iff.1 hb).1
        rw [hfal u (by omega)] at hb
        obtain rfl := Option.some.inj hb
        simp, hQ, unhide H4, fun i x hx => by simp at hx⟩
      obtain ⟨b0, c0, f0, -⟩ := hba.get hv
      obtain ⟨⟨v0, c1⟩, f1⟩ := hba.qany (show 0 < N by omega)
      have hpu := hba.push hne hv (by simp; omega)
      have hfr2 := (hfr.setCell (x := ⟨gr, v, none⟩) (Or.inl (Or.inl rfl)) (.bool true)).setCell (x := ⟨gq, 0, none⟩) (Or.inl (Or.inr rfl)) (.int .i64 (v : Int))
      have HPU := hide hpu
      have HFR := hide hfr2
      have hst := hide (BInv.start (S := S) (v := v) (by rw [unhide HN]; exact hv))
      have hne2 : gq ≠ gr := hne.symm
      clear hpu hfr2 hba hA hQ hbl hfal hfr
      go_wp2
      go_loopw [9, 10] (fun hd tl wr => ∃ (q : List Nat) (h : Nat), h ≤ q.length ∧ hd = .int .i64 h ∧ tl = .int .i64 (q.length : Nat) ∧ BInv S v q h ∧ BArr gr gq N wr q ∧ Fr (fun k => k = gr ∨ k = gq) w wr) (fun hd _ _ => N - (intOf hd).toNat)
      case atStart => exact ⟨[v], 0, by simp, rfl, rfl, unhide hst, unhide HPU, unhide HFR⟩
      case round =>
        clear HPU HFR hst c0 f0 c1 f1
        obtain ⟨q, h, hh, rfl, rfl, hinv, harr, hfr⟩ := hrel
        have hql := hinv.len
        rw [unhide HN] at hql
        by_cases hlq : h < q.length
        · obtain ⟨x, hx⟩ := getlt hlq
          have hxn := (hinv.re x (List.mem_of_getElem? hx)).1
          obtain ⟨l, hl⟩ := getlt hxn
          rw [unhide HN] at hxn
          obtain ⟨b, off, ai, ci, rfl, hb, hc, hi⟩ := ((unhide HS).below (unhide HBP _ hfr)).at hl
          have hcq := harr.qget hx
          have hlm := unhide HM l (List.mem_of_getElem? hl)
          have HIN := hide (show IN B w ai l from (((unhide HS).at hl).elim fun b1 h1 => by
            obtain ⟨off1, ai1, ci1, e1, _, e3, e4⟩ := h1
            have e5 := ((unhide HBP _ hfr).cell (p := ⟨b, off + x, none⟩) hb)
            rw [hc] at e5
            simp only [Option.some.injEq, Addr.mk.injEq, and_true] at e1
            obtain ⟨rfl, rfl⟩ := e1
            rw [e3] at e5
            simp at e5
            obtain ⟨rfl, -⟩ := e5
            exact e4))
          have HX := hide hx
          have HL := hide hl
          have HINV := hide hinv
          have HARR := hide harr
          have HFR := hide hfr
          clear hi hx hl hinv harr hfr
          generalize hM : l.length = M at *
          have HMM := hide hM
          clear hM
          go_wp2
          go_loopw [10, 43] (fun tl i wr => ∃ (q : List Nat) (j : Nat), j ≤ M ∧ h < q.length ∧ q[h]? = some x ∧ i = .int .i64 j ∧ tl = .int .i64 (q.length : Nat) ∧ BInv S v q h ∧ (∀ y ∈ l.take j, y ∈ q) ∧ BArr gr gq N wr q ∧ Fr (fun k => k = gr ∨ k = gq) w wr) (fun _ i _ => M - (intOf i).toNat)
          case atStart => exact ⟨q, 0, by omega, hlq, unhide HX, rfl, rfl, unhide HINV, by simp, unhide HARR, unhide HFR⟩
          case round =>
            clear HX HINV HARR HFR hc hcq
            obtain ⟨q, j, hj, hlq, hx, rfl, rfl, hinv, hdn, harr, hfr⟩ := hrel
            have hql := hinv.len
            rw [unhide HN] at hql
            have HX := hide hx
            have HINV := hide hinv
            have HDN := hide hdn
            have HARR := hide harr
            have HFR := hide hfr
            clear hx hinv hdn harr
            by_cases hlj : j < M
            · obtain ⟨y, hy⟩ := getlt (show j < l.length by rw [unhide HMM]; exact hlj)
              have hed : Ed S x y := ⟨l, unhide HL, List.mem_of_getElem? hy⟩
              have hyn : y < N := by rw [← unhide HN]; exact unhide HI x y hed
              obtain ⟨b', off', rfl, hb', hcy⟩ := ((unhide HIN).below (unhide HBP _ hfr)).at hy
              obtain ⟨bb, cb, fb, hbb⟩ := (unhide HARR).get hyn
              have HED := hide hed
              have HY := hide hy
              have HBB := hide hbb
              clear hed hy hb' hfr hbb
              cases bb
              · have hyq : y ∉ q := fun h => by have := (unhide HBB).2 h; cases this
                have hlt3 : q.length < N := by
                  have := ((unhide HINV).push (unhide HX) (unhide HI) (unhide HED) hyq).len
                  rw [unhide HN] at this
                  simp at this; omega
                obtain ⟨⟨v1, cq⟩, fq⟩ := (unhide HARR).qany hlt3
                have HYQ := hide hyq
                clear hyq
                go_wp2
                go_roundw
                case rel =>
                  refine ⟨q ++ [y], j + 1, by omega, by simp; omega, by rw [List.getElem?_append_left hlq]; exact unhide HX, by go_num, by simp, (unhide HINV).push (unhide HX) (unhide HI) (unhide HED) (unhide HYQ), ?_, (unhide HARR).push hne hyn hlt3, ((unhide HFR).setCell (Or.inl (Or.inl rfl)) _).setCell (Or.inl (Or.inr rfl)) _⟩
                  intro z hz
                  rw [List.take_add_one, unhide HY] at hz
                  rcases List.mem_append.1 hz with hz | hz
                  · exact List.mem_append.2 (Or.inl (unhide HDN z hz))
                  · exact List.mem_append.2 (Or.inr hz)
                case measure => simp [intOf]; omega
              · go_wp2
                go_roundw
                case rel =>
                  refine ⟨q, j + 1, by omega, hlq, unhide HX, by go_num, rfl, unhide HINV, ?_, unhide HARR, unhide HFR⟩
                  intro z hz
                  rw [List.take_add_one, unhide HY] at hz
                  rcases List.mem_append.1 hz with hz | hz
                  · exact unhide HDN z hz
                  · simp at hz; subst hz; exact (unhide HBB).1 rfl
                case measure => simp [intOf]; omega
            · go_wp2
              go_roundw
              case rel =>
                refine ⟨q, h + 1, by omega, by go_num, rfl, (unhide HINV).next (unhide HX) (unhide HL) ?_, unhide HARR, hfr⟩
                have h8 := unhide HDN
                rw [List.take_of_length_le (by have := unhide HMM; omega)] at h8
                exact h8
              case measure => simp [intOf]; omega
        · go_wp2
          go_end0
          refine ⟨rfl, hfr, ?_, ?_⟩
          · obtain ⟨bs, qs, e1, e2, e3, e4, e5, e6⟩ := harr
            exact ⟨bs, e1, by rw [unhide HN]; exact e2, fun u b hb => (e3 u b hb).trans (hinv.done (by omega) u)⟩
          · obtain ⟨bs, qs, e1, e2, e3, e4, e5, e6⟩ := harr
            exact ⟨qs, e4, by rw [unhide HN]; exact e5⟩
end Go.Proofs.Qxb6603374a.G
