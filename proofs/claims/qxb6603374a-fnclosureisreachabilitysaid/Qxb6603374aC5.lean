/-
  newClosure's inner function visit (36): a depth-first search.
-/
import Derived.Test.Qxb6603374aC4
namespace Go.Proofs.Qxb6603374a.G
open Go.ChangeShapes Go.WideShapes Go.ChangeAt Go.RowKit
set_option linter.unusedVariables false

def fU (x : Nat) : Value := .int .u8 (x : Int)
def fV (v : Value) : Value := v

/-! ### the plain part -/
structure DInv (S : List (List Nat)) (t o : List Nat) : Prop where
  len : t.length = S.length
  topo : Topo S o
  done : ∀ x : Nat, x ∈ o ↔ t[x]? = some 2
  small : ∀ x c : Nat, t[x]? = some c → c ≤ 2

theorem count_set : ∀ (t : List Nat) (i a b : Nat), t[i]? = some a → (t.set i b).count 0 + (if a = 0 then 1 else 0) = t.count 0 + (if b = 0 then 1 else 0)
  | [], i, a, b, h => by simp at h
  | x :: t, 0, a, b, h => by
    simp at h; subst h
    simp [List.count_cons]
    omega
  | x :: t, i + 1, a, b, h => by
    have ih := count_set t i a b (by simpa using h)
    simp only [List.set_cons_succ, List.count_cons]
    omega

variable {S : List (List Nat)}
/-- behind the mark 'on the path' at v -/
theorem DInv.mark {t o : List Nat} {v : Nat} (h : DInv S t o) (hv : t[v]? = some 0) : DInv S (t.set v 1) o := by
  refine ⟨by simpa using h.len, h.topo, ?_, ?_⟩
  · intro x
    rw [h.done x, List.getElem?_set]
    by_cases e : v = x
    · subst e; rw [hv]; simp
    · rw [if_neg e]
  · intro x c hc
    rw [List.getElem?_set] at hc
    by_cases e : v = x
    · rw [if_pos e] at hc
      split at hc
      · have := Option.some.inj hc; omega
      · cases hc
    · rw [if_neg e] at hc; exact h.small x c hc
theorem DInv.finish {t o l : List Nat} {v : Nat} (h : DInv S t o) (hv : t[v]? = some 1) (hl : S[v]? = some l) (hd : ∀ y ∈ l, t[y]? = some 2) : DInv S (t.set v 2) (o ++ [v]) := by
  have hvl : v < t.length := (List.getElem?_eq_some_iff.1 hv).1
  have hvo : v ∉ o := fun hm => by
    have := (h.done v).1 hm
    rw [hv] at this; simp at this
  refine ⟨by simpa using h.len, ⟨?_, ?_⟩, ?_, ?_⟩
  · refine List.nodup_append.2 ⟨h.topo.1, by simp, ?_⟩
    intro a ha b hb e
    simp at hb
    subst hb; subst e
    exact hvo ha
  · intro i x hx
    by_cases hi : i < o.length
    · rw [List.getElem?_append_left hi] at hx
      have := h.topo.2 i x hx
      refine ⟨this.1, fun y e => ?_⟩
      rw [List.take_append_of_le_length (by omega)]
      exact this.2 y e
    · have hlt := (List.getElem?_eq_some_iff.1 hx).1
      simp at hlt
      obtain rfl : i = o.length := by omega
      simp at hx
      subst hx
      refine ⟨by rw [← h.len]; exact hvl, fun y e => ?_⟩
      rw [List.take_left]
      obtain ⟨l', hl', hy⟩ := e
      rw [hl] at hl'
      obtain rfl := Option.some.inj hl'
      exact (h.done y).2 (hd y hy)
  · intro x
    rw [List.getElem?_set, List.mem_append, List.mem_singleton]
    by_cases e : v = x
    · subst e; simp [hvl]
    · rw [if_neg e, h.done x]
      constructor
      · rintro (q | q)
        · exact q
        · exact absurd q.symm e
      · exact Or.inl
  · intro x c hc
    rw [List.getElem?_set] at hc
    by_cases e : v = x
    · rw [if_pos e] at hc
      split at hc
      · have := Option.some.inj hc; omega
      · omega
    · rw [if_neg e] at hc; exact h.small x c hc

/-! ### the memory -/
/-- the search's own memory: the array of marks (gs), the variable order (bo) and the row that it leads to -/
structure VSt (gs bo base : Nat) (w wr : World) (t o : List Nat) : Prop where
  fr : Fr (fun k => k = gs ∨ k = bo ∨ base ≤ k) w wr
  st : Ar fU wr gs t 5
  ord : ∃ vo, Ar fV wr bo [vo] 24 ∧ wr.ownsRow base 3 1 vo o.length (o.map fI)

def VPost (S : List (List Nat)) (gs bo base : Nat) (w : World) (t : List Nat) (v : Nat) (r : Bool) (w' : World) : Prop :=
  (r = true → ∃ t' o' : List Nat, VSt gs bo base w w' t' o' ∧ DInv S t' o' ∧ (∀ x : Nat, t'[x]? = some 1 ↔ t[x]? = some 1) ∧ t'[v]? = some 2 ∧ (∀ x : Nat, t[x]? = some 2 → t'[x]? = some 2) ∧ t'.count 0 ≤ t.count 0) ∧
  (r = false → Cyc S ∧ Fr (fun k => k = gs ∨ k = bo ∨ base ≤ k) w w')
def VEnd (S : List (List Nat)) (gs bo base : Nat) (w : World) (t : List Nat) (v : Nat) (e : Ending) (w' : World) : Prop :=
  ∃ r, e = .returned (.bool r) ∧ VPost S gs bo base w t v r w'

theorem VSt.mark {gs bo base : Nat} {w wr : World} {t o : List Nat} (h : VSt gs bo base w wr t o) (hne : bo ≠ gs) (hlt : gs < base) (i c : Nat) : VSt gs bo base w (wr.setCell ⟨gs, i, none⟩ (.int .u8 (c : Int))) (t.set i c) o := by
  obtain ⟨h1, h2, vo, h3, h4⟩ := h
  exact ⟨h1.setCell (Or.inl (Or.inl rfl)) _, h2.set i c, vo, h3.set_other hne _, ownsRow_setCell_below h4 hlt _⟩
theorem VSt.row {gs bo base : Nat} {w wr : World} {t o : List Nat} {vo : Value} (h : wr.ownsRow base 3 1 vo o.length (o.map fI)) : ∀ k, vo.ownBlock = some k → base ≤ k := by
  intro k hk
  rcases h.2 with ⟨h', _⟩ | ⟨g, cap, cur, h', hg, _⟩
  · subst h'; simp [Value.ownBlock] at hk
  · subst h'; simp [Value.ownBlock] at hk; omega

theorem own_shape {w : World} {base e size n : Nat} {v : Value} {xs : List Value} (h : w.ownsRow base e size v (n + 1) xs) : ∃ g cap, v = .slice (some ⟨g, 0, none⟩) (n + 1) cap := by
  rcases h.2 with ⟨_, h'⟩ | ⟨g, cap, cur, h', _⟩
  · omega
  · exact ⟨g, cap, h'⟩
theorem bo_kept {w3 w4 : World} {bo base : Nat} {vo : Value} (hA : Ar fV w3 bo [vo] 24) (hg : w3.grownBy w4 vo.ownBlock) (hrow : ∀ k, vo.ownBlock = some k → base ≤ k) (hb : bo < base) : Ar fV w4 bo [vo] 24 := by
  have hlt := hA.lt
  unfold Ar at hA ⊢
  rw [hg.block bo hlt (fun e => by have := hrow bo e.symm; omega)]
  exact hA
theorem bo_cell {w4 : World} {bo : Nat} {vo : Value} (hA : Ar fV w4 bo [vo] 24) : w4.cell? ⟨bo, 0, none⟩ = some vo := hA.at rfl
theorem gs_kept {w3 w4 : World} {gs base : Nat} {vo : Value} {t : List Nat} (hA : Ar fU w3 gs t 5) (hg : w3.grownBy w4 vo.ownBlock) (hrow : ∀ k, vo.ownBlock = some k → base ≤ k) (hb : gs < base) : Ar fU w4 gs t 5 := by
  have hlt := hA.lt
  unfold Ar at hA ⊢
  rw [hg.block gs hlt (fun e => by have := hrow gs e.symm; omega)]
  exact hA
theorem news1 (w : World) (a : Addr) (u v : Value) : ∀ j x, [v][j]? = some x → ((w.setCell a u).alloc (.cells #[v] 3)).cell? (Addr.add ⟨w.heap.size, 0, none⟩ j) = some x := by
  intro j x hj
  match j, hj with
  | 0, hj =>
    simp at hj
    subst hj
    have := Ar.new (w.setCell a u) fV [v] 3
    have e : (w.setCell a u).heap.size = w.heap.size := by simp [World.setCell]
    rw [e] at this
    exact this.at rfl
set_option maxRecDepth 100000 in
set_option maxHeartbeats 1000000 in
theorem visit_calls (B : Nat) (a : Option Addr) (cap : Nat) (S : List (List Nat)) (w : World) (gs bs bt bo bv base : Nat) (hs : GN B w a S) (hS : InR S) (hn : S.length ≤ 1048576) (hm : ∀ l ∈ S, l.length ≤ 1048576)
    (hB : B ≤ bs) (o1 : bs < gs) (o2 : gs < bt) (o3 : bt < bo) (o4 : bo < bv) (o5 : bv < base) (o6 : base ≤ w.heap.size)
    (cs : w.cell? ⟨bs, 0, none⟩ = some (.slice a S.length cap)) (ct : w.cell? ⟨bt, 0, none⟩ = some (.slice (some ⟨gs, 0, none⟩) S.length S.length))
    (cv : w.cell? ⟨bv, 0, none⟩ = some (.func (.func 36) #[] #[.pointer (some ⟨bt, 0, none⟩), .pointer (some ⟨bs, 0, none⟩), .pointer (some ⟨bv, 0, none⟩), .pointer (some ⟨bo, 0, none⟩)])) :
    ∀ (f : Nat) (t o : List Nat) (v : Nat) (wr : World), VSt gs bo base w wr t o → DInv S t o → t[v]? = some 0 → (∀ x : Nat, t[x]? = some 1 → Re S x v) → t.count 0 ≤ f →
      Calls Try.prog 36 #[.int .i64 (v : Int), .pointer (some ⟨bt, 0, none⟩), .pointer (some ⟨bs, 0, none⟩), .pointer (some ⟨bv, 0, none⟩), .pointer (some ⟨bo, 0, none⟩)] wr (VEnd S gs bo base w t v) := by
  have HS := hide hs
  have HI := hide hS
  have HM := hide hm
  have CS := hide cs
  have CT := hide ct
  have CV := hide cv
  clear hs hS hm cs ct cv
  generalize hN : S.length = N at *
  have HN := hide hN
  clear hN
  have hbe : Hid (∀ wr, Fr (fun k => k = gs ∨ k = bo ∨ base ≤ k) w wr → Below B w wr) := fun wr hf => hf.below (by omega) (by intro k hk; omega)
  have hcl : Hid (∀ wr, Fr (fun k => k = gs ∨ k = bo ∨ base ≤ k) w wr → wr.cell? ⟨bs, 0, none⟩ = some (.slice a N cap) ∧ wr.cell? ⟨bt, 0, none⟩ = some (.slice (some ⟨gs, 0, none⟩) N N) ∧ wr.cell? ⟨bv, 0, none⟩ = some (.func (.func 36) #[] #[.pointer (some ⟨bt, 0, none⟩), .pointer (some ⟨bs, 0, none⟩), .pointer (some ⟨bv, 0, none⟩), .pointer (some ⟨bo, 0, none⟩)])) := by
    intro wr hf
    exact ⟨(World.cell?_of_block (hf.block bs (by omega) (by omega))).trans (unhide CS), (World.cell?_of_block (hf.block bt (by omega) (by omega))).trans (unhide CT), (World.cell?_of_block (hf.block bv (by omega) (by omega))).trans (unhide CV)⟩
  have n1 : gs ≠ bt := by omega
  have n2 : gs ≠ bs := by omega
  have n3 : gs ≠ bv := by omega
  have n4 : gs ≠ bo := by omega
  have n5 : bo ≠ gs := by omega
  intro f
  induction f with
  | zero =>
    intro t o v wr _ _ hv _ hf
    have := List.count_pos_iff.2 (List.mem_of_getElem? hv)
    omega
  | succ f ih =>
    intro t o v wr hst hinv hv hpath hf
    have IH := hide ih
    clear ih
    have hvl : v < N := by rw [← unhide HN, ← hinv.len]; exact (List.getElem?_eq_some_iff.1 hv).1
    obtain ⟨l, hl⟩ := getlt (show v < S.length by rw [unhide HN]; exact hvl)
    obtain ⟨c1, c2, c3⟩ := unhide hcl wr hst.fr
    have hcg := hst.st.at hv
    have hfg := hst.st.free v
    have hst1 := hst.mark n5 (by omega) v 1
    have hinv1 := hinv.mark hv
    have hcnt : (t.set v 1).count 0 ≤ f := by
      have := count_set t v 0 1 hv
      simp at this; omega
    have hlt1 : (t.set v 1)[v]? = some 1 := by
      rw [List.getElem?_set_self (by rw [hinv.len, unhide HN]; exact hvl)]
    have hp1 : ∀ x : Nat, (t.set v 1)[x]? = some 1 → Re S x v := by
      intro x hx
      rw [List.getElem?_set] at hx
      by_cases e : v = x
      · subst e; exact Re.refl _
      · rw [if_neg e] at hx; exact hpath x hx
    obtain ⟨b, off, ai, ci, hea, hb, hcc, hi⟩ := (unhide HS).later hl
    subst hea
    have hlm := unhide HM l (List.mem_of_getElem? hl)
    have hrow := hcc _ (unhide hbe _ hst.fr)
    have nb1 : gs ≠ b := by omega
    have nb2 : b ≠ gs := by omega
    have HIN := hide hi
    have HL := hide hl
    have HST := hide hst
    have HST1 := hide hst1
    have HINV := hide hinv
    have HINV1 := hide hinv1
    have HV := hide hv
    have HP1 := hide hp1
    have HT1 := hide hlt1
    have HCNT := hide hcnt
    have HFF := hide hf
    clear hi hl hst hst1 hinv hinv1 hv hp1 hlt1 hcnt hcc hpath hb hf
    generalize hM : l.length = M at *
    have HMM := hide hM
    clear hM
    go_enter Try.func36, Try.ntmps36
    go_wp2_with fail
    go_loopw [17] (fun i wr' => ∃ (j : Nat) (t1 o1 : List Nat), j ≤ M ∧ i = .int .i64 j ∧ VSt gs bo base w wr' t1 o1 ∧ DInv S t1 o1 ∧ (∀ x : Nat, t1[x]? = some 1 ↔ (t.set v 1)[x]? = some 1) ∧ (∀ y ∈ l.take j, t1[y]? = some 2) ∧ (∀ x : Nat, t[x]? = some 2 → t1[x]? = some 2) ∧ t1.count 0 ≤ (t.set v 1).count 0) (fun i _ => M - (intOf i).toNat)
    case atStart =>
      refine ⟨0, t.set v 1, o, by omega, rfl, unhide HST1, unhide HINV1, fun x => Iff.rfl, by simp, ?_, Nat.le_refl _⟩
      intro x hx
      rw [List.getElem?_set]
      by_cases e : v = x
      · subst e
        have := unhide HV
        rw [hx] at this
        simp at this
      · rw [if_neg e]; exact hx
    case round =>
      clear c1 c2 c3 hcg hfg hrow HST1 HINV1
      obtain ⟨j, t1, o1, hj, rfl, hst, hinv, hone, hdn, htwo, hct⟩ := hrel
      obtain ⟨c1, c2, c3⟩ := unhide hcl _ hst.fr
      have HONE := hide hone
      have HDN := hide hdn
      have HTWO := hide htwo
      have HCT := hide hct
      clear hone hdn htwo hct
      by_cases hlj : j < M
      · obtain ⟨y, hy⟩ := getlt (show j < l.length by rw [unhide HMM]; exact hlj)
        have hed : Ed S v y := ⟨l, unhide HL, List.mem_of_getElem? hy⟩
        have hyn : y < N := by rw [← unhide HN]; exact unhide HI v y hed
        obtain ⟨c, hc⟩ := getlt (show y < t1.length by rw [hinv.len, unhide HN]; exact hyn)
        have hc2 := hinv.small y c hc
        have hcy := hst.st.at hc
        obtain ⟨b', off', heb, hb', hcc⟩ := (unhide HIN).later hy
        subst heb
        have hce := hcc _ (unhide hbe _ hst.fr)
        have hpath : ∀ x : Nat, t1[x]? = some 1 → Re S x y := fun x hx => (unhide HP1 x ((unhide HONE x).1 hx)).step hed
        have hfr := hst.fr
        have HPA := hide hpath
        have HED := hide hed
        have HY := hide hy
        have HC := hide hc
        have HST2 := hide hst
        have HINV2 := hide hinv
        have HFR := hide hfr
        clear hed hy hc hb' hcc hpath hst hinv hfr
        rcases (show c = 0 ∨ c = 1 ∨ c = 2 by omega) with rfl | rfl | rfl
        · have hcy0 : wr.cell? ⟨gs, y, none⟩ = some (.int .u8 0) := hcy
          clear hcy
          go_wp2_with fail
          refine (unhide IH t1 o1 y _ (unhide HST2) (unhide HINV2) (unhide HC) (unhide HPA) (Nat.le_trans (unhide HCT) (unhide HCNT))).mono ?_
          rintro e w1 ⟨r, rfl, hpt, hpf⟩
          cases r
          · have hpf' := hide (hpf rfl)
            clear hpt hpf
            go_wp2_with fail
            go_ret
            exact ⟨false, rfl, fun h => (by cases h), fun _ => unhide hpf'⟩
          · obtain ⟨t2, o2, hst2, hinv2, hone2, hy2, htwo2, hct2⟩ := hpt rfl
            have R1 := hide hst2
            have R2 := hide hinv2
            have R3 := hide hone2
            have R4 := hide hy2
            have R5 := hide htwo2
            have R6 := hide hct2
            clear hpt hpf hst2 hinv2 hone2 hy2 htwo2 hct2
            go_wp2_with fail
            go_roundw
            case rel =>
              refine ⟨j + 1, t2, o2, by omega, by go_num, unhide R1, unhide R2, fun x => (unhide R3 x).trans (unhide HONE x), ?_, fun x hx => unhide R5 x (unhide HTWO x hx), Nat.le_trans (unhide R6) (unhide HCT)⟩
              intro z hz
              rw [List.take_add_one, unhide HY] at hz
              rcases List.mem_append.1 hz with hz | hz
              · exact unhide R5 z (unhide HDN z hz)
              · simp at hz; subst hz; exact unhide R4
            case measure => simp [intOf]; omega
        · have hcy0 : wr.cell? ⟨gs, y, none⟩ = some (.int .u8 1) := hcy
          clear hcy
          go_wp2_with fail
          go_ret
          refine ⟨false, rfl, fun h => (by cases h), fun _ => ⟨⟨v, y, unhide HED, ?_⟩, unhide HFR⟩⟩
          exact unhide HP1 y ((unhide HONE y).1 (unhide HC))
        · have hcy0 : wr.cell? ⟨gs, y, none⟩ = some (.int .u8 2) := hcy
          clear hcy
          go_wp2_with fail
          go_roundw
          case rel =>
            refine ⟨j + 1, t1, o1, by omega, by go_num, unhide HST2, unhide HINV2, unhide HONE, ?_, unhide HTWO, unhide HCT⟩
            intro z hz
            rw [List.take_add_one, unhide HY] at hz
            rcases List.mem_append.1 hz with hz | hz
            · exact unhide HDN z hz
            · simp at hz; subst hz; exact unhide HC
          case measure => simp [intOf]; omega
      · have hv1 : t1[v]? = some 1 := (unhide HONE v).2 (unhide HT1)
        have hdall : ∀ y ∈ l, t1[y]? = some 2 := by
          have h8 := unhide HDN
          rw [List.take_of_length_le (by have := unhide HMM; omega)] at h8
          exact h8
        have hfin := hinv.finish hv1 (unhide HL) hdall
        have hol : o1.length ≤ N := by
          rw [← unhide HN]
          exact pig _ _ hinv.topo.1 (fun x hx => by
            obtain ⟨i, hi, he⟩ := List.getElem_of_mem hx
            exact (hinv.topo.2 i x (by rw [List.getElem?_eq_getElem hi, he])).1)
        obtain ⟨hfr, har, vo, hbo, hown⟩ := hst
        have hcg : wr.cell? ⟨gs, v, none⟩ = some (.int .u8 1) := har.at hv1
        have hfg := har.free v
        have hcb : wr.cell? ⟨bo, 0, none⟩ = some vo := hbo.at rfl
        have hrow := VSt.row (gs := gs) (bo := bo) (w := w) (t := t1) hown
        have hown2 : (wr.setCell ⟨gs, v, none⟩ (.int .u8 2)).ownsRow base 3 1 vo o1.length (o1.map fI) := ownsRow_setCell_below hown (by show gs < base; omega) _
        have hbo3 : Ar fV ((wr.setCell ⟨gs, v, none⟩ (.int .u8 2)).alloc (.cells #[.int .i64 (v : Int)] 3)) bo [vo] 24 := (hbo.set_other n5 _).alloc _
        have har3 : Ar fU ((wr.setCell ⟨gs, v, none⟩ (.int .u8 2)).alloc (.cells #[.int .i64 (v : Int)] 3)) gs (t1.set v 2) 5 := (har.set v 2).alloc _
        have hfr3 : Fr (fun k => k = gs ∨ k = bo ∨ base ≤ k) w ((wr.setCell ⟨gs, v, none⟩ (.int .u8 2)).alloc (.cells #[.int .i64 (v : Int)] 3)) := (hfr.setCell (Or.inl (Or.inl rfl)) _).alloc _
        have hbase : base ≤ ((wr.setCell ⟨gs, v, none⟩ (.int .u8 2)).alloc (.cells #[.int .i64 (v : Int)] 3)).heap.size := Nat.le_trans o6 hfr3.size
        obtain ⟨i0, hi, hz0, hz1, hz2⟩ := info_parts info3
        have T1 := hide hi
        have T2 := hide hz0
        have T3 := hide hz1
        have T4 := hide hz2
        have T5 := hide hown2
        have T6 := hide hbo3
        have T7 := hide har3
        have T8 := hide hfr3
        have T9 := hide hbase
        have T10 := hide hfin
        have T11 := hide hrow
        have T12 := hide hv1
        clear hi hz0 hz1 hz2 hown2 hbo3 har3 hfr3 hbase hfin hrow hv1 hown hbo hfr har hdall hinv
        go_wp2_with (at_builtin; refine wpList_append_own _ (by rfl) (.tmp 43) (.tmp 45) 24 (by rfl) base 3 i0 (.int .i64 0) 1 8 Try.underlying24 (unhide T1) (unhide T2) (unhide T3) (unhide T4) (by rfl) (by decide) vo o1.length (o1.map fI) (by rfl) ((unhide T5).alloc _) ⟨wr.heap.size, 0, none⟩ 1 1 [.int .i64 (v : Int)] (by rfl) (by rfl) (news1 _ _ _ _) (by simp [Value.oneCell']) (by unfold maxLen; omega) (by omega) (unhide T9) ?_; intro v' w4 hown4 hgrow4 _; obtain ⟨g4, cap4, rfl⟩ := own_shape hown4; have hA4 := hide (bo_kept (unhide T6) hgrow4 (unhide T11) (by omega)); have hc4 := bo_cell (unhide hA4); have hf4 := (unhide hA4).free 0)
        go_ret
        refine ⟨true, rfl, fun _ => ⟨t1.set v 2, o1 ++ [v], ⟨?_, ?_, ?_⟩, unhide T10, ?_, ?_, ?_, ?_⟩, fun h => (by cases h)⟩
        · exact ((unhide T8).grown hgrow4 (fun k hk => Or.inl (Or.inr (Or.inr (unhide T11 k hk))))).setCell (Or.inl (Or.inr (Or.inl rfl))) _
        · exact (gs_kept (unhide T7) hgrow4 (unhide T11) (by omega)).set_other n4 _
        · refine ⟨_, (unhide hA4).set 0 _, ?_⟩
          rw [List.map_append, List.length_append]
          exact ownsRow_setCell_below hown4 (by show bo < base; omega) _
        · intro x
          rw [List.getElem?_set]
          by_cases e : v = x
          · subst e
            have h1 := unhide HV
            rw [h1, if_pos rfl]
            split <;> simp
          · rw [if_neg e, unhide HONE x, List.getElem?_set, if_neg e]
        · rw [List.getElem?_set_self (List.getElem?_eq_some_iff.1 (unhide T12)).1]
        · intro x hx
          rw [List.getElem?_set]
          by_cases e : v = x
          · subst e
            have h1 := unhide HV
            rw [hx] at h1
            simp at h1
          · rw [if_neg e]; exact unhide HTWO x hx
        · have q1 := count_set t1 v 1 2 (unhide T12)
          have q2 := count_set t v 0 1 (unhide HV)
          have q3 := unhide HCT
          simp at q1 q2
          omega
end Go.Proofs.Qxb6603374a.G
