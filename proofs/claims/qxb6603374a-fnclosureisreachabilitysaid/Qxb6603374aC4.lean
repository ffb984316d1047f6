/-
  zzB1KahnAcyclic (11).
-/
import Derived.Test.Qxb6603374aC2
import Derived.Test.Qxb6603374aC3
namespace Go.Proofs.Qxb6603374a.G
open Go.ChangeShapes Go.WideShapes Go.ChangeAt Go.RowKit
set_option linter.unusedVariables false

theorem GN.later {B : Nat} {w : World} {a : Option Addr} {S : List (List Nat)} (h : GN B w a S) {i : Nat} {l : List Nat} (hi : S[i]? = some l) :
    ∃ b off ai ci, a = some ⟨b, off, none⟩ ∧ b < B ∧ (∀ w', Below B w w' → w'.cell? ⟨b, off + i, none⟩ = some (.slice ai l.length ci)) ∧ IN B w ai l := by
  obtain ⟨b, off, ai, ci, h1, h2, h3, h4⟩ := h.at hi
  exact ⟨b, off, ai, ci, h1, h2, fun w' hb => (hb.cell h2).trans h3, h4⟩
theorem IN.later {B : Nat} {w : World} {a : Option Addr} {l : List Nat} (h : IN B w a l) {j : Nat} {x : Nat} (hj : l[j]? = some x) :
    ∃ b off, a = some ⟨b, off, none⟩ ∧ b < B ∧ ∀ w', Below B w w' → w'.cell? ⟨b, off + j, none⟩ = some (.int .i64 (x : Int)) := by
  obtain ⟨b, off, h1, h2, h3⟩ := h.at hj
  exact ⟨b, off, h1, h2, fun w' hb => (hb.cell h2).trans h3⟩

/-- the array of block g holds the numbers val -/
def DArr (g n : Nat) (wr : World) (val : Nat → Nat) : Prop := ∃ ds : List Nat, Ar fI wr g ds 3 ∧ ds.length = n ∧ ∀ u x, ds[u]? = some x → x = val u
/-- the array of block g begins with the list st -/
def SArr (g n : Nat) (wr : World) (st : List Nat) : Prop := ∃ ss : List Nat, Ar fI wr g ss 3 ∧ ss.length = n ∧ ∀ (i x : Nat), st[i]? = some x → ss[i]? = some x
section
variable {g n : Nat} {wr : World}
theorem DArr.get {val : Nat → Nat} (h : DArr g n wr val) {u : Nat} (hu : u < n) : wr.cell? ⟨g, u, none⟩ = some (.int .i64 (val u : Nat)) ∧ wr.frozen? ⟨g, u, none⟩ = false := by
  obtain ⟨ds, h1, h2, h3⟩ := h
  obtain ⟨x, hx⟩ := getlt (show u < ds.length by omega)
  have := h3 u x hx
  subst this
  exact ⟨h1.at hx, h1.free _⟩
theorem DArr.set {val val' : Nat → Nat} (h : DArr g n wr val) {u : Nat} (hv : ∀ x, x ≠ u → val' x = val x) : DArr g n (wr.setCell ⟨g, u, none⟩ (.int .i64 (val' u : Nat))) val' := by
  obtain ⟨ds, h1, h2, h3⟩ := h
  refine ⟨ds.set u (val' u), h1.set u (val' u), by simpa using h2, ?_⟩
  intro x y hy
  rw [List.getElem?_set] at hy
  by_cases e : u = x
  · subst e
    rw [if_pos rfl] at hy
    split at hy
    · exact (Option.some.inj hy).symm
    · cases hy
  · rw [if_neg e] at hy
    rw [h3 x y hy, hv x (fun q => e q.symm)]
theorem DArr.other {val : Nat → Nat} (h : DArr g n wr val) {a : Addr} (ha : g ≠ a.block) (v : Value) : DArr g n (wr.setCell a v) val := by
  obtain ⟨ds, h1, h2, h3⟩ := h
  exact ⟨ds, h1.set_other ha v, h2, h3⟩
theorem DArr.congr {val val' : Nat → Nat} (h : DArr g n wr val) (he : ∀ u, u < n → val u = val' u) : DArr g n wr val' := by
  obtain ⟨ds, h1, h2, h3⟩ := h
  exact ⟨ds, h1, h2, fun u x hx => (h3 u x hx).trans (he u (by have := (List.getElem?_eq_some_iff.1 hx).1; omega))⟩
theorem SArr.get {st : List Nat} (h : SArr g n wr st) {i x : Nat} (hx : st[i]? = some x) : wr.cell? ⟨g, i, none⟩ = some (.int .i64 (x : Int)) := by
  obtain ⟨ss, h1, h2, h3⟩ := h
  exact h1.at (h3 i x hx)
theorem SArr.any {st : List Nat} (h : SArr g n wr st) {i : Nat} (hi : i < n) : (∃ v, wr.cell? ⟨g, i, none⟩ = some v) ∧ wr.frozen? ⟨g, i, none⟩ = false := by
  obtain ⟨ss, h1, h2, h3⟩ := h
  obtain ⟨b, hb⟩ := getlt (show i < ss.length by omega)
  exact ⟨⟨_, h1.at hb⟩, h1.free _⟩
theorem SArr.push {st : List Nat} (h : SArr g n wr st) (hl : st.length < n) (y : Nat) : SArr g n (wr.setCell ⟨g, st.length, none⟩ (.int .i64 (y : Int))) (st ++ [y]) := by
  obtain ⟨ss, h1, h2, h3⟩ := h
  refine ⟨ss.set st.length y, h1.set _ y, by simpa using h2, ?_⟩
  intro i x hx
  rw [List.getElem?_set]
  by_cases e : st.length = i
  · subst e
    rw [if_pos rfl, if_pos (by omega)]
    simp at hx
    rw [hx]
  · rw [if_neg e]
    have hlt := (List.getElem?_eq_some_iff.1 hx).1
    simp at hlt
    rw [List.getElem?_append_left (by omega)] at hx
    exact h3 i x hx
theorem SArr.other {st : List Nat} (h : SArr g n wr st) {a : Addr} (ha : g ≠ a.block) (v : Value) : SArr g n (wr.setCell a v) st := by
  obtain ⟨ss, h1, h2, h3⟩ := h
  exact ⟨ss, h1.set_other ha v, h2, h3⟩
theorem SArr.pop {st : List Nat} {x : Nat} (h : SArr g n wr (st ++ [x])) : SArr g n wr st := by
  obtain ⟨ss, h1, h2, h3⟩ := h
  exact ⟨ss, h1, h2, fun i y hy => h3 i y (by rw [List.getElem?_append_left (List.getElem?_eq_some_iff.1 hy).1]; exact hy)⟩
end
theorem info3 : (Try.prog.info? 3).map (fun i => (i.zero, i.size, i.bytes)) = some (some (.int .i64 0), 1, 8) := by kernel_rfl

theorem make_ints (w : World) (n : Nat) (hn : n ≤ 1048576) : (Instr.makeSlice 24 (.int .i64 (n : Int)) (.int .i64 (n : Int))).run Try.prog w = .ok (.slice (some ⟨w.heap.size, 0, none⟩) n n) (w.alloc (.cells (madeCells #[fI 0] n) 3)) := by
  obtain ⟨i0, hi, hz0, hz1, hz2⟩ := info_parts info3
  have hmk := run_make (P := Try.prog) w 24 3 i0 _ Try.underlying24 hi hz0 .i64 .i64 n n (by omega) (by omega) (by rw [hz2]; omega) (by omega)
  rw [hz1] at hmk
  simp only [Int.toNat_natCast, Nat.mul_one] at hmk
  exact hmk

/-- what Kahn's peeling says: it has removed a list d, all that can be removed -/
def KPost (S : List (List Nat)) (r : Bool) : Prop := ∃ d, KInv S d [] (inE S d) ∧ (r = true ↔ d.length = S.length)

theorem part_step {S : List (List Nat)} {k j y : Nat} {l : List Nat} (hl : S[k]? = some l) (hy : l[j]? = some y) (x : Nat) :
    sumTo (fun v => (row S v).count x) k + (l.take (j + 1)).count x = sumTo (fun v => (row S v).count x) k + (l.take j).count x + if y = x then 1 else 0 := by
  rw [List.take_add_one, hy, List.count_append]
  by_cases e : y = x
  · subst e; simp; omega
  · simp [e]

set_option maxRecDepth 100000 in
set_option maxHeartbeats 1000000 in
theorem kahn_calls (B : Nat) (a : Option Addr) (cap : Nat) (S : List (List Nat)) (w : World) (hs : GN B w a S) (hS : InR S) (hn : S.length ≤ 1048576) (hm : ∀ l ∈ S, l.length ≤ 1048576) (ht : tot S ≤ 1048576) (hB : B ≤ w.heap.size) :
    Calls Try.prog 11 #[.slice a S.length cap] w fun e w' => BPost (KPost S) e ∧ Below w.heap.size w w' := by
  have HS := hide hs
  have HI := hide hS
  have HM := hide hm
  clear hs hS hm
  generalize hN : S.length = N at *
  have HN := hide hN
  clear hN
  have hmk := fun w => make_ints w N hn
  have hpl := hide (fun k (hk : k < N) (x j : Nat) => part_le (S := S) k (by rw [unhide HN]; exact hk) x j)
  have hA0 := Ar.made w fI 0 N 3
  have hb0 := (Below.refl w.heap.size w).alloc (Nat.le_refl _) (.cells (madeCells #[fI 0] N) 3)
  have HA0 := hide hA0
  have HB0 := hide hb0
  clear hA0 hb0
  have hszw : w.heap.size ≤ w.heap.size := Nat.le_refl _
  go_enter Try.func11, Try.ntmps11
  go_wp2
  generalize hg : w.heap.size = g at *
  have HG := hide hg
  clear hg
  go_loopw [5] (fun i wr => ∃ k : Nat, k ≤ N ∧ i = .int .i64 k ∧ DArr g N wr (fun x => sumTo (fun v => (row S v).count x) k) ∧ Below g w wr) (fun i _ => N - (intOf i).toNat)
  case atStart =>
    refine ⟨0, by omega, rfl, ⟨List.replicate N 0, unhide HA0, by simp, ?_⟩, unhide HB0⟩
    intro u x hx
    rw [List.getElem?_replicate] at hx
    split at hx
    · exact (Option.some.inj hx).symm
    · cases hx
  case round =>
    clear HA0 HB0
    obtain ⟨k, hk, rfl, hD, hbel⟩ := hrel
    by_cases hlt : k < N
    · obtain ⟨l, hl⟩ := getlt (show k < S.length by rw [unhide HN]; exact hlt)
      obtain ⟨b, off, ai, ci, hea, hb, hcc, hi⟩ := (unhide HS).later hl
      subst hea
      have hc := hcc _ (hbel.mono hB)
      have hlm := unhide HM l (List.mem_of_getElem? hl)
      have HIN := hide hi
      have HL := hide hl
      have HD := hide hD
      have HBE := hide hbel
      clear hi hl hD hbel hcc
      generalize hM : l.length = M at *
      have HMM := hide hM
      clear hM
      go_wp2
      go_loopw [29] (fun i wr' => ∃ j : Nat, j ≤ M ∧ i = .int .i64 j ∧ DArr g N wr' (fun x => sumTo (fun v => (row S v).count x) k + (l.take j).count x) ∧ Below g w wr') (fun i _ => M - (intOf i).toNat)
      case atStart => exact ⟨0, by omega, rfl, (unhide HD).congr (fun u _ => by simp), unhide HBE⟩
      case round =>
        clear HD hc
        obtain ⟨j, hj, rfl, hD, hbel⟩ := hrel
        by_cases hlj : j < M
        · obtain ⟨y, hy⟩ := getlt (show j < l.length by rw [unhide HMM]; exact hlj)
          have hyn : y < N := by rw [← unhide HN]; exact unhide HI k y ⟨l, unhide HL, List.mem_of_getElem? hy⟩
          obtain ⟨b', off', heb, hb', hcc⟩ := (unhide HIN).later hy
          subst heb
          have hcy := hcc _ (hbel.mono hB)
          obtain ⟨hdc, hdf⟩ := hD.get hyn
          have hzb := unhide hpl k hlt y j
          rw [row_of (unhide HL)] at hzb
          have hnew := hD.set (val' := fun x => sumTo (fun v => (row S v).count x) k + (l.take (j + 1)).count x) (u := y) (fun x hx => by
            show sumTo (fun v => (row S v).count x) k + (l.take (j + 1)).count x = _
            rw [part_step (unhide HL) hy, if_neg (fun e => hx e.symm)]; rfl)
          have hst := part_step (unhide HL) hy y
          rw [if_pos rfl] at hst
          simp only [hst] at hnew
          generalize hz : sumTo (fun v => (row S v).count y) k + (l.take j).count y = z at hdc hzb hnew
          rw [show ((z + 1 : Nat) : Int) = (z : Int) + 1 by omega] at hnew
          have HNEW := hide hnew
          have HB2 := hide (hbel.setCell (p := ⟨g, y, none⟩) (Nat.le_refl _) (.int .i64 ((z : Int) + 1)))
          have hzb' : z ≤ 1048576 := by omega
          clear hnew hst hy hcc hb' hD hbel hz hzb
          go_wp2
          go_roundw
          case rel => exact ⟨j + 1, by omega, by go_num, unhide HNEW, unhide HB2⟩
          case measure => simp [intOf]; omega
        · go_wp2
          go_roundw
          case rel =>
            refine ⟨k + 1, by omega, by go_num, hD.congr (fun u _ => ?_), hbel⟩
            show sumTo (fun v => (row S v).count u) k + (l.take j).count u = sumTo (fun v => (row S v).count u) k + (row S k).count u
            rw [List.take_of_length_le (by have := unhide HMM; omega), row_of (unhide HL)]
          case measure => simp [intOf]; omega
    · have hkN : k = N := by omega
      have hD1 := hD.congr (val' := inE S []) (fun u _ => by rw [inE_nil, unhide HN, hkN])
      have hglt : g < wr.heap.size := by
        obtain ⟨ds, h1, -, -⟩ := hD
        exact h1.lt
      have HD1 := hide (show DArr g N (wr.alloc (.cells (madeCells #[fI 0] N) 3)) (inE S []) by
        obtain ⟨ds, h1, h2, h3⟩ := hD1
        exact ⟨ds, h1.alloc _, h2, h3⟩)
      have HS1 := hide (show SArr wr.heap.size N (wr.alloc (.cells (madeCells #[fI 0] N) 3)) [] from ⟨List.replicate N 0, Ar.made wr fI 0 N 3, by simp, by intro i x hx; simp at hx⟩)
      have HB1 := hide (hbel.alloc (Nat.le_of_lt hglt) (.cells (madeCells #[fI 0] N) 3))
      clear hD hbel hD1 hkN
      go_wp2
      generalize hgs : wr.heap.size = gs at *
      have hne : g ≠ gs := by omega
      have hne2 : gs ≠ g := by omega
      have hgle : g ≤ gs := by omega
      clear hgs hglt
      go_loopw [9, 10] (fun tp i wr => ∃ (k : Nat) (st : List Nat), k ≤ N ∧ i = .int .i64 k ∧ tp = .int .i64 (st.length : Nat) ∧ st.length ≤ k ∧ st = (List.range k).filter (fun v => decide (inE S [] v = 0)) ∧ DArr g N wr (inE S []) ∧ SArr gs N wr st ∧ Below g w wr) (fun _ i _ => N - (intOf i).toNat)
      case atStart => exact ⟨0, [], by omega, rfl, rfl, by simp, by simp, unhide HD1, unhide HS1, unhide HB1⟩
      case round =>
        clear HD1 HS1 HB1
        obtain ⟨k2, st, hk2, rfl, rfl, hstl, hst, hD, hSt, hbel⟩ := hrel
        by_cases hlt2 : k2 < N
        · obtain ⟨hdc, hdf⟩ := hD.get hlt2
          obtain ⟨⟨v0, hsc⟩, hsf⟩ := hSt.any (show st.length < N by omega)
          have hrs := List.range_succ (n := k2)
          have HST := hide hst
          have HRS := hide hrs
          have HD := hide hD
          have HSt := hide hSt
          have HBE := hide hbel
          clear hst hrs hD hSt hbel
          by_cases hz : inE S [] k2 = 0
          · have hz' : ((inE S [] k2 : Int) == 0) = true := by simp [hz]
            have HZ := hide hz
            clear hz
            go_wp2
            go_roundw
            case rel =>
              refine ⟨k2 + 1, st ++ [k2], by omega, by go_num, by simp, by simp; omega, ?_, (unhide HD).other hne _, (unhide HSt).push (by omega) k2, (unhide HBE).setCell hgle _⟩
              rw [unhide HRS, List.filter_append, ← unhide HST]
              simp [unhide HZ]
            case measure => simp [intOf]; omega
          · have hz' : ((inE S [] k2 : Int) == 0) = false := beq_eq_false_iff_ne.2 (by omega)
            have HZ := hide hz
            clear hz
            go_wp2
            go_roundw
            case rel =>
              refine ⟨k2 + 1, st, by omega, by go_num, rfl, by omega, ?_, unhide HD, unhide HSt, unhide HBE⟩
              rw [unhide HRS, List.filter_append, ← unhide HST]
              simp [unhide HZ]
            case measure => simp [intOf]; omega
        · have hK := KInv.start (S := S) st (by rw [hst, unhide HN, show k2 = N by omega])
          have HK := hide hK
          have HD := hide hD
          have HSt := hide hSt
          have HBE := hide hbel
          have HST := hide hst
          clear hK hD hSt hbel hst
          go_wp2
          go_loopw [9, 11] (fun tp rm wr => ∃ (d st : List Nat), tp = .int .i64 (st.length : Nat) ∧ rm = .int .i64 (d.length : Nat) ∧ KInv S d st (inE S d) ∧ DArr g N wr (inE S d) ∧ SArr gs N wr st ∧ Below g w wr) (fun _ rm _ => N - (intOf rm).toNat)
          case atStart => exact ⟨[], st, rfl, rfl, unhide HK, unhide HD, unhide HSt, unhide HBE⟩
          case round =>
            clear HK HD HSt HBE HST
            obtain ⟨d, st, rfl, rfl, hK, hD, hSt, hbel⟩ := hrel
            have hkl := hK.len
            rw [unhide HN] at hkl
            rcases List.eq_nil_or_concat st with rfl | ⟨st', x, rfl⟩
            · go_wp2
              go_ret
              refine ⟨⟨_, rfl, d, hK, ?_⟩, by have hh := unhide HG; rw [hh]; exact hbel⟩
              rw [unhide HN]
              simp
              omega
            · rw [List.concat_eq_append] at hK hSt hkl ⊢
              simp only [List.length_append, List.length_singleton] at hkl ⊢
              have hx := hSt.get (i := st'.length) (x := x) (by simp)
              have hxn : x < S.length := hK.lt x (by simp)
              obtain ⟨l, hl⟩ := getlt hxn
              rw [unhide HN] at hxn
              have hrl := row_of hl
              have hKp := hK.pop
              rw [hrl] at hKp
              have hxd : x ∉ d := by
                intro hm
                have hnd := hK.nd
                rw [List.nodup_append] at hnd
                exact hnd.2.2 x hm x (by simp) rfl
              have hDp := hD.congr (val' := fun w => inE S (d ++ [x]) w + (l.drop 0).count w) (fun u _ => by rw [List.drop_zero, ← hrl, inE_snoc (by rw [unhide HN]; exact hxn) hxd])
              have hSp := hSt.pop
              obtain ⟨b, off, ai, ci, hea, hb, hcc, hi⟩ := (unhide HS).later hl
              subst hea
              have hc := hcc _ (hbel.mono hB)
              have hlm := unhide HM l (List.mem_of_getElem? hl)
              have HIN := hide hi
              have HL := hide hl
              have HKP := hide hKp
              have HDP := hide hDp
              have HSP := hide hSp
              have HBE := hide hbel
              clear hi hl hKp hDp hSp hbel hcc hK hD hSt hrl hxd hb
              generalize hM : l.length = M at *
              have HMM := hide hM
              clear hM
              generalize hdl : d.length = dl at *
              have HDL := hide hdl
              clear hdl
              go_wp2
              go_loopw [9, 73] (fun tp i wr => ∃ (st : List Nat) (j : Nat), j ≤ M ∧ i = .int .i64 j ∧ tp = .int .i64 (st.length : Nat) ∧ KInv S (d ++ [x]) st (fun w => inE S (d ++ [x]) w + (l.drop j).count w) ∧ DArr g N wr (fun w => inE S (d ++ [x]) w + (l.drop j).count w) ∧ SArr gs N wr st ∧ Below g w wr) (fun _ i _ => M - (intOf i).toNat)
              case atStart => exact ⟨st', 0, by omega, rfl, rfl, unhide HKP, unhide HDP, unhide HSP, unhide HBE⟩
              case round =>
                clear HKP HDP HSP HBE hc hx
                obtain ⟨st, j, hj, rfl, rfl, hK, hD, hSt, hbel⟩ := hrel
                by_cases hlj : j < M
                · obtain ⟨y, hy⟩ := getlt (show j < l.length by rw [unhide HMM]; exact hlj)
                  have hyn0 : y < S.length := unhide HI x y ⟨l, unhide HL, List.mem_of_getElem? hy⟩
                  have hyn : y < N := by rw [← unhide HN]; exact hyn0
                  obtain ⟨b', off', heb, hb', hcc⟩ := (unhide HIN).later hy
                  subst heb
                  have hcy := hcc _ (hbel.mono hB)
                  obtain ⟨hdc, hdf⟩ := hD.get hyn
                  have hdr : l.drop j = y :: l.drop (j + 1) := by
                    obtain ⟨hk', he'⟩ := List.getElem?_eq_some_iff.1 hy
                    rw [List.drop_eq_getElem_cons hk', he']
                  have hzb := inE_le (S := S) (d ++ [x]) y
                  have hlc : (l.drop (j + 1)).count y ≤ 1048576 := by
                    have q1 := List.count_le_length (a := y) (l := l.drop (j + 1))
                    rw [List.length_drop] at q1
                    have := unhide HMM
                    omega
                  have hnew := hD.set (val' := fun w => inE S (d ++ [x]) w + (l.drop (j + 1)).count w) (u := y) (fun u hu => by
                    show inE S (d ++ [x]) u + (l.drop (j + 1)).count u = inE S (d ++ [x]) u + (l.drop j).count u
                    rw [hdr, List.count_cons_of_ne (fun e => hu e.symm)])
                  have hkk := fun h0 => hK.push (y := y) hyn0 hy h0
                  have hkn := fun h0 => hK.keep (x := x) (y := y) hy h0
                  rw [hdr, List.count_cons_self, ← Nat.add_assoc] at hdc
                  have hkl2 := hK.len
                  generalize hz : inE S (d ++ [x]) y + (l.drop (j + 1)).count y = z at hdc hnew hkk hkn
                  have hzz : z ≤ 2097152 := by omega
                  rw [show ((z + 1 : Nat) : Int) = (z : Int) + 1 by omega] at hdc
                  have HNEW := hide hnew
                  have HB2 := hide (hbel.setCell (p := ⟨g, y, none⟩) (Nat.le_refl _) (.int .i64 (z : Int)))
                  have HKK := hide hkk
                  have HKN := hide hkn
                  have HSt := hide hSt
                  clear hnew hkk hkn hD hbel hcc hb' hK hSt hz hdr hy
                  by_cases hz0 : z = 0
                  · subst hz0
                    have hK2 := unhide HKK rfl
                    have hl2 := hK2.len
                    rw [unhide HN] at hl2
                    simp only [List.length_append, List.length_singleton] at hl2
                    have hstN : st.length < N := by omega
                    obtain ⟨⟨v0, hsc⟩, hsf⟩ := (unhide HSt).any hstN
                    have HK2 := hide hK2
                    clear hK2 HKK HKN hl2
                    go_wp2
                    go_roundw
                    case rel =>
                      refine ⟨st ++ [y], j + 1, by omega, by go_num, by simp, unhide HK2, (unhide HNEW).other hne _, ?_, (unhide HB2).setCell hgle _⟩
                      exact SArr.push ((unhide HSt).other hne2 _) (by omega) y
                    case measure => simp [intOf]; omega
                  · have hK2 := unhide HKN hz0
                    have HK2 := hide hK2
                    have hz' : ((z : Int) == 0) = false := beq_eq_false_iff_ne.2 (by omega)
                    clear hK2 HKK HKN hz0
                    go_wp2
                    go_roundw
                    case rel => exact ⟨st, j + 1, by omega, by go_num, rfl, unhide HK2, unhide HNEW, (unhide HSt).other hne2 _, unhide HB2⟩
                    case measure => simp [intOf]; omega
                · have hdr : l.drop j = [] := List.drop_of_length_le (by have := unhide HMM; omega)
                  rw [hdr] at hK hD
                  simp only [List.count_nil, Nat.add_zero] at hK hD
                  have hkl2 := hK.len
                  rw [unhide HN] at hkl2
                  simp only [List.length_append, List.length_singleton] at hkl2
                  have hd3 := unhide HDL
                  clear hdr
                  go_wp2
                  go_roundw
                  case rel => exact ⟨d ++ [x], st, rfl, by simp [hd3], hK, hD, hSt, hbel⟩
                  case measure => simp [intOf]; omega
end Go.Proofs.Qxb6603374a.G
