/-
  newClosure (32).
-/
import Derived.Test.Qxb6603374aC6
import Derived.BigRegion
import Derived.Laws.EntriesVeiled
namespace Go.Proofs.Qxb6603374a.G
open Go.ChangeShapes Go.WideShapes Go.ChangeAt Go.RowKit
set_option linter.unusedVariables false

theorem info5 : (Try.prog.info? 5).map (fun i => (i.zero, i.size, i.bytes)) = some (some (.int .u8 0), 1, 1) := by kernel_rfl
theorem info52 : (Try.prog.info? 52).map (fun i => (i.zero, i.size, i.bytes)) = some (some (.int .u64 0), 1, 8) := by kernel_rfl
theorem info29 : (Try.prog.info? 29).map (fun i => (i.zero, i.size, i.bytes)) = some (some (.slice none 0 0), 1, 24) := by kernel_rfl

theorem make_u8 (w : World) (n : Nat) (hn : n ≤ 1048576) : (Instr.makeSlice 95 (.int .i64 (n : Int)) (.int .i64 (n : Int))).run Try.prog w = .ok (.slice (some ⟨w.heap.size, 0, none⟩) n n) (w.alloc (.cells (madeCells #[fU 0] n) 5)) := by
  obtain ⟨i0, hi, hz0, hz1, hz2⟩ := info_parts info5
  have hmk := run_make (P := Try.prog) w 95 5 i0 _ Try.underlying95 hi hz0 .i64 .i64 n n (by omega) (by omega) (by rw [hz2]; omega) (by omega)
  rw [hz1] at hmk
  simp only [Int.toNat_natCast, Nat.mul_one] at hmk
  exact hmk
theorem make_u64 (w : World) (n : Nat) (hn : n ≤ 1048576) : (Instr.makeSlice 29 (.int .i64 (n : Int)) (.int .i64 (n : Int))).run Try.prog w = .ok (.slice (some ⟨w.heap.size, 0, none⟩) n n) (w.alloc (.cells (madeCells #[fW 0] n) 52)) := by
  obtain ⟨i0, hi, hz0, hz1, hz2⟩ := info_parts info52
  have hmk := run_make (P := Try.prog) w 29 52 i0 _ Try.underlying29 hi hz0 .i64 .i64 n n (by omega) (by omega) (by rw [hz2]; omega) (by omega)
  rw [hz1] at hmk
  simp only [Int.toNat_natCast, Nat.mul_one] at hmk
  exact hmk
theorem make_rows (w : World) (n : Nat) (hn : n ≤ 1048576) : (Instr.makeSlice 49 (.int .i64 (n : Int)) (.int .i64 (n : Int))).run Try.prog w = .ok (.slice (some ⟨w.heap.size, 0, none⟩) n n) (w.alloc (.cells (madeCells #[fV (.slice none 0 0)] n) 29)) := by
  obtain ⟨i0, hi, hz0, hz1, hz2⟩ := info_parts info29
  have hmk := run_make (P := Try.prog) w 49 29 i0 _ Try.underlying49 hi hz0 .i64 .i64 n n (by omega) (by omega) (by rw [hz2]; omega) (by omega)
  rw [hz1] at hmk
  simp only [Int.toNat_natCast, Nat.mul_one] at hmk
  exact hmk

/-- vertex x's row: the words of what x reaches -/
def Done (gc W : Nat) (S : List (List Nat)) (wr : World) (cv : List Value) (x : Nat) : Prop :=
  ∃ g ws, cv[x]? = some (.slice (some ⟨g, 0, none⟩) W W) ∧ g ≠ gc ∧ Ar fW wr g ws 52 ∧ ws.length = W ∧ RowP (Re S x) ws

def CPost (S : List (List Nat)) (w : World) (e : Ending) (w' : World) : Prop :=
  Below w.heap.size w w' ∧
  ((e = .returned (.tuple #[.slice none 0 0, .bool false]) ∧ Cyc S) ∨
   ∃ gc o cv, e = .returned (.tuple #[.slice (some ⟨gc, 0, none⟩) S.length S.length, .bool true]) ∧ Topo S o ∧ (∀ v, v < S.length → v ∈ o) ∧ w.heap.size ≤ gc ∧ Ar fV w' gc cv 29 ∧ cv.length = S.length ∧ ∀ x, x < S.length → Done gc ((S.length + 63) / 64) S w' cv x)

def fnV (X : Nat) : Value := .func (.func 36) #[] #[.pointer (some ⟨X + 1 + 1, 0, none⟩), .pointer (some ⟨X, 0, none⟩), .pointer (some ⟨X + 1 + 1 + 1 + 1, 0, none⟩), .pointer (some ⟨X + 1 + 1 + 1, 0, none⟩)]
/-- the world in which the search begins -/
def startW (w : World) (a : Option Addr) (N cap : Nat) : World :=
  ((((w.alloc (.cells #[.slice a N cap] 22)).alloc (.cells (madeCells #[fU 0] N) 5)).alloc (.cells #[.slice (some ⟨w.heap.size + 1, 0, none⟩) N N] 95)).alloc (.cells #[.slice none 0 0] 24)).alloc (.cells #[fnV w.heap.size] 96)

theorem startW_size (w : World) (a : Option Addr) (N cap : Nat) : (startW w a N cap).heap.size = w.heap.size + 5 := by
  show ((((((w.heap.push _).push _).push _).push _).push _)).size = _
  simp
theorem startW_facts (w : World) (a : Option Addr) (S : List (List Nat)) (cap : Nat) :
    Below w.heap.size w (startW w a S.length cap) ∧ (startW w a S.length cap).cell? ⟨w.heap.size, 0, none⟩ = some (.slice a S.length cap) ∧
    (startW w a S.length cap).cell? ⟨w.heap.size + 1 + 1, 0, none⟩ = some (.slice (some ⟨w.heap.size + 1, 0, none⟩) S.length S.length) ∧
    (startW w a S.length cap).cell? ⟨w.heap.size + 1 + 1 + 1 + 1, 0, none⟩ = some (fnV w.heap.size) ∧
    VSt (w.heap.size + 1) (w.heap.size + 1 + 1 + 1) (w.heap.size + 5) (startW w a S.length cap) (startW w a S.length cap) (List.replicate S.length 0) [] := by
  have s1 : (w.alloc (.cells #[.slice a S.length cap] 22)).heap.size = w.heap.size + 1 := by show (w.heap.push _).size = _; simp
  have s2 : ((w.alloc (.cells #[.slice a S.length cap] 22)).alloc (.cells (madeCells #[fU 0] S.length) 5)).heap.size = w.heap.size + 1 + 1 := by show ((w.heap.push _).push _).size = _; simp
  have s3 : (((w.alloc (.cells #[.slice a S.length cap] 22)).alloc (.cells (madeCells #[fU 0] S.length) 5)).alloc (.cells #[.slice (some ⟨w.heap.size + 1, 0, none⟩) S.length S.length] 95)).heap.size = w.heap.size + 1 + 1 + 1 := by show (((w.heap.push _).push _).push _).size = _; simp
  have s4 : ((((w.alloc (.cells #[.slice a S.length cap] 22)).alloc (.cells (madeCells #[fU 0] S.length) 5)).alloc (.cells #[.slice (some ⟨w.heap.size + 1, 0, none⟩) S.length S.length] 95)).alloc (.cells #[.slice none 0 0] 24)).heap.size = w.heap.size + 1 + 1 + 1 + 1 := by show ((((w.heap.push _).push _).push _).push _).size = _; simp
  have a1 := ((((Ar.new w fV [.slice a S.length cap] 22).alloc (.cells (madeCells #[fU 0] S.length) 5)).alloc (.cells #[.slice (some ⟨w.heap.size + 1, 0, none⟩) S.length S.length] 95)).alloc (.cells #[.slice none 0 0] 24)).alloc (.cells #[fnV w.heap.size] 96)
  have a2 := (((Ar.made (w.alloc (.cells #[.slice a S.length cap] 22)) fU 0 S.length 5).alloc (.cells #[.slice (some ⟨w.heap.size + 1, 0, none⟩) S.length S.length] 95)).alloc (.cells #[.slice none 0 0] 24)).alloc (.cells #[fnV w.heap.size] 96)
  have a3 := ((Ar.new ((w.alloc (.cells #[.slice a S.length cap] 22)).alloc (.cells (madeCells #[fU 0] S.length) 5)) fV [.slice (some ⟨w.heap.size + 1, 0, none⟩) S.length S.length] 95).alloc (.cells #[.slice none 0 0] 24)).alloc (.cells #[fnV w.heap.size] 96)
  have a4 := (Ar.new (((w.alloc (.cells #[.slice a S.length cap] 22)).alloc (.cells (madeCells #[fU 0] S.length) 5)).alloc (.cells #[.slice (some ⟨w.heap.size + 1, 0, none⟩) S.length S.length] 95)) fV [.slice none 0 0] 24).alloc (.cells #[fnV w.heap.size] 96)
  have a5 := Ar.new ((((w.alloc (.cells #[.slice a S.length cap] 22)).alloc (.cells (madeCells #[fU 0] S.length) 5)).alloc (.cells #[.slice (some ⟨w.heap.size + 1, 0, none⟩) S.length S.length] 95)).alloc (.cells #[.slice none 0 0] 24)) fV [fnV w.heap.size] 96
  rw [s1] at a2
  rw [s2] at a3
  rw [s3] at a4
  rw [s4] at a5
  refine ⟨?_, a1.at rfl, a3.at rfl, a5.at rfl, ⟨Fr.refl _ _, a2, _, a4, World.ownsRow_nil _ _ _ _⟩⟩
  refine (((((Below.refl _ w).alloc (Nat.le_refl _) _).alloc (by omega) _).alloc (by omega) _).alloc (by omega) _).alloc (by omega) _

theorem own_slice {wr : World} {base : Nat} {vo : Value} {o : List Nat} (h : wr.ownsRow base 3 1 vo o.length (o.map fI)) :
    ∃ ao capo, vo = .slice ao o.length capo ∧ ∀ i x : Nat, o[i]? = some x → ∃ go, ao = some ⟨go, 0, none⟩ ∧ go < wr.heap.size ∧ wr.cell? ⟨go, i, none⟩ = some (.int .i64 (x : Int)) := by
  rcases h.2 with ⟨h', h0⟩ | ⟨g, cap, cur, h', hg, hh, _⟩
  · refine ⟨none, 0, by rw [h0]; exact h', fun i x hx => ?_⟩
    have := (List.getElem?_eq_some_iff.1 hx).1
    omega
  · refine ⟨some ⟨g, 0, none⟩, cap, h', fun i x hx => ⟨g, rfl, lt_of_block hh, ?_⟩⟩
    have hlt := (List.getElem?_eq_some_iff.1 hx).1
    subst h'
    rw [h.cellAt i (by omega), List.getElem?_map, hx]
    rfl
/-- as Done, the row in a block below gv -/
def DoneB (gc gv W : Nat) (S : List (List Nat)) (wr : World) (cv : List Value) (x : Nat) : Prop :=
  ∃ g ws, cv[x]? = some (.slice (some ⟨g, 0, none⟩) W W) ∧ g ≠ gc ∧ g < gv ∧ Ar fW wr g ws 52 ∧ ws.length = W ∧ RowP (Re S x) ws
theorem DoneB.of {gc W : Nat} {S : List (List Nat)} {wr : World} {cv : List Value} {x : Nat} (h : Done gc W S wr cv x) : DoneB gc wr.heap.size W S wr cv x := by
  obtain ⟨g, ws, h1, h2, h3, h4, h5⟩ := h
  exact ⟨g, ws, h1, h2, h3.lt, h3, h4, h5⟩
theorem DoneB.to {gc gv W : Nat} {S : List (List Nat)} {wr : World} {cv : List Value} {x : Nat} (h : DoneB gc gv W S wr cv x) : Done gc W S wr cv x := by
  obtain ⟨g, ws, h1, h2, _, h3, h4, h5⟩ := h
  exact ⟨g, ws, h1, h2, h3, h4, h5⟩
theorem DoneB.set {gc gv W : Nat} {S : List (List Nat)} {wr : World} {cv : List Value} {x : Nat} (h : DoneB gc gv W S wr cv x) (i : Nat) (u : Value) : DoneB gc gv W S (wr.setCell ⟨gv, i, none⟩ u) cv x := by
  obtain ⟨g, ws, h1, h2, h3, h4, h5, h6⟩ := h
  exact ⟨g, ws, h1, h2, h3, h4.set_other (by show g ≠ gv; omega) _, h5, h6⟩
theorem DoneB.drew {gc gv W : Nat} {S : List (List Nat)} {wr : World} {cv : List Value} {x : Nat} (h : DoneB gc gv W S wr cv x) : DoneB gc gv W S wr.drew cv x := h
/-- the vertex v begins: its row is made and laid into the outer slice -/
theorem DoneB.begin {gc W v x : Nat} {S : List (List Nat)} {wr : World} {cv : List Value} (h : Done gc W S wr cv x) (hne : x ≠ v) (o : Obj) (u : Value) : DoneB gc wr.heap.size W S ((wr.setCell ⟨gc, v, none⟩ u).alloc o) (cv.set v u) x := by
  obtain ⟨g, ws, h1, h2, h3, h4, h5⟩ := h
  exact ⟨g, ws, by rw [List.getElem?_set_ne (fun e => hne e.symm)]; exact h1, h2, h3.lt, (h3.set_other h2 _).alloc o, h4, h5⟩

theorem or_one (b : Nat) (hb : b < 64) : bits BinOp.or IntKind.u64 0 (IntKind.u64.wrap (2 ^ b)) = ((0 ||| 2 ^ b : Nat) : Int) := by
  have h := one_shl b hb
  have e : IntKind.u64.wrap (2 ^ b) = ((2 ^ b : Nat) : Int) := by
    rw [IntKind.wrap_u64]
    have e2 : (2 ^ b : Int) = ((2 ^ b : Nat) : Int) := by simp
    rw [e2]
    generalize 2 ^ b = y at h
    omega
  rw [e]
  exact u64_or_nat 0 (2 ^ b) (by omega) h

set_option maxRecDepth 100000 in
set_option maxHeartbeats 2000000 in
theorem closure_calls (B : Nat) (a : Option Addr) (cap : Nat) (S : List (List Nat)) (w : World) (hs : GN B w a S) (hS : InR S) (hn : S.length ≤ 4096) (hm : ∀ l ∈ S, l.length ≤ 1048576) (hB : B ≤ w.heap.size) :
    Calls Try.prog 32 #[.slice a S.length cap] w (CPost S w) := by
  obtain ⟨f1, f2, f3, f4, f5⟩ := startW_facts w a S cap
  have hsz := startW_size w a S.length cap
  have hgn := hs.below (f1.mono hB)
  have hvis := hide (visit_calls B a cap S (startW w a S.length cap) (w.heap.size + 1) w.heap.size (w.heap.size + 1 + 1) (w.heap.size + 1 + 1 + 1) (w.heap.size + 1 + 1 + 1 + 1) (w.heap.size + 5) hgn hS (by omega) hm hB (by omega) (by omega) (by omega) (by omega) (by omega) (by omega) f2 f3 f4)
  have HI := hide hS
  have HM := hide hm
  have hm1 := fun w => make_u8 w S.length (by omega)
  have HF1 := hide f1
  have HF2 := hide f2
  have HF3 := hide f3
  have HF4 := hide f4
  have HF5 := hide f5
  have HSZ := hide hsz
  have HGN := hide hgn
  have hcl : Hid (∀ wr, Fr (fun k => k = w.heap.size + 1 ∨ k = w.heap.size + 1 + 1 + 1 ∨ w.heap.size + 5 ≤ k) (startW w a S.length cap) wr → wr.cell? ⟨w.heap.size, 0, none⟩ = some (.slice a S.length cap) ∧ wr.cell? ⟨w.heap.size + 1 + 1, 0, none⟩ = some (.slice (some ⟨w.heap.size + 1, 0, none⟩) S.length S.length) ∧ wr.cell? ⟨w.heap.size + 1 + 1 + 1 + 1, 0, none⟩ = some (.func (.func 36) #[] #[.pointer (some ⟨w.heap.size + 1 + 1, 0, none⟩), .pointer (some ⟨w.heap.size, 0, none⟩), .pointer (some ⟨w.heap.size + 1 + 1 + 1 + 1, 0, none⟩), .pointer (some ⟨w.heap.size + 1 + 1 + 1, 0, none⟩)])) := by
    intro wr hf
    have hz := unhide HSZ
    exact ⟨(World.cell?_of_block (hf.block w.heap.size (by omega) (by omega))).trans (unhide HF2), (World.cell?_of_block (hf.block (w.heap.size + 1 + 1) (by omega) (by omega))).trans (unhide HF3), (World.cell?_of_block (hf.block (w.heap.size + 1 + 1 + 1 + 1) (by omega) (by omega))).trans (unhide HF4)⟩
  have hbw : Hid (∀ wr, Fr (fun k => k = w.heap.size + 1 ∨ k = w.heap.size + 1 + 1 + 1 ∨ w.heap.size + 5 ≤ k) (startW w a S.length cap) wr → Below w.heap.size w wr) := fun wr hf =>
    (unhide HF1).trans (hf.below (by have := unhide HSZ; omega) (by intro k hk; omega))
  clear hs hS hm f1 f2 f3 f4 f5 hsz hgn
  go_enter Try.func32, Try.ntmps32
  go_wp2_with fail
  go_loopw [21] (fun i wr => ∃ (k : Nat) (t o : List Nat), k ≤ S.length ∧ i = .int .i64 k ∧ VSt (w.heap.size + 1) (w.heap.size + 1 + 1 + 1) (w.heap.size + 5) (startW w a S.length cap) wr t o ∧ DInv S t o ∧ (∀ x : Nat, t[x]? ≠ some 1) ∧ ∀ x : Nat, x < k → t[x]? = some 2) (fun i _ => S.length - (intOf i).toNat)
  case atStart =>
    refine ⟨0, List.replicate S.length 0, [], by omega, rfl, unhide HF5, ⟨by simp, ⟨by simp, by intro i x hx; simp at hx⟩, ?_, ?_⟩, ?_, by intro x hx; omega⟩
    · intro x
      rw [List.getElem?_replicate]
      split <;> simp
    · intro x c hc
      rw [List.getElem?_replicate] at hc
      split at hc
      · have := Option.some.inj hc; omega
      · cases hc
    · intro x
      rw [List.getElem?_replicate]
      split <;> simp
  case round =>
    obtain ⟨k, t, o, hk, rfl, hst, hinv, hno, hdn⟩ := hrel
    obtain ⟨c1, c2, c3⟩ := unhide hcl _ hst.fr
    by_cases hlt : k < S.length
    · obtain ⟨c, hc⟩ := getlt (show k < t.length by rw [hinv.len]; exact hlt)
      have hc2 := hinv.small k c hc
      have hcg := hst.st.at hc
      have HST := hide hst
      have HINV := hide hinv
      have HNO := hide hno
      have HDN := hide hdn
      have HC := hide hc
      clear hst hinv hno hdn hc
      rcases (show c = 0 ∨ c = 1 ∨ c = 2 by omega) with rfl | rfl | rfl
      · have hcg0 : wr.cell? ⟨w.heap.size + 1, k, none⟩ = some (.int .u8 0) := hcg
        clear hcg
        go_wp2_with fail
        refine (unhide hvis (t.count 0) t o k _ (unhide HST) (unhide HINV) (unhide HC) (fun x hx => absurd hx (unhide HNO x)) (Nat.le_refl _)).mono ?_
        rintro e w1 ⟨r, rfl, hpt, hpf⟩
        cases r
        · have hpf' := hide (hpf rfl)
          clear hpt hpf
          go_wp2_with fail
          go_ret2
          exact ⟨unhide hbw _ (unhide hpf').2, Or.inl ⟨rfl, (unhide hpf').1⟩⟩
        · obtain ⟨t2, o2, hst2, hinv2, hone2, hy2, htwo2, hct2⟩ := hpt rfl
          have R1 := hide hst2
          have R2 := hide hinv2
          have R3 := hide hone2
          have R4 := hide hy2
          have R5 := hide htwo2
          clear hpt hpf hst2 hinv2 hone2 hy2 htwo2 hct2
          go_wp2_with fail
          go_roundw
          case rel =>
            refine ⟨k + 1, t2, o2, by omega, by go_num, unhide R1, unhide R2, fun x hx => unhide HNO x ((unhide R3 x).1 hx), fun x hx => ?_⟩
            by_cases e : x = k
            · subst e; exact unhide R4
            · exact unhide R5 x (unhide HDN x (by omega))
          case measure => simp [intOf]; omega
      · exact absurd (unhide HC) (unhide HNO k)
      · have hcg0 : wr.cell? ⟨w.heap.size + 1, k, none⟩ = some (.int .u8 2) := hcg
        clear hcg
        go_wp2_with fail
        go_roundw
        case rel =>
          refine ⟨k + 1, t, o, by omega, by go_num, unhide HST, unhide HINV, unhide HNO, fun x hx => ?_⟩
          by_cases e : x = k
          · subst e; exact unhide HC
          · exact unhide HDN x (by omega)
        case measure => simp [intOf]; omega
    · have hkn : k = S.length := by omega
      have hall : ∀ v, v < S.length → v ∈ o := fun v hv => (hinv.done v).2 (hdn v (by omega))
      have htopo := hinv.topo
      have hol : o.length ≤ S.length := pig _ _ htopo.1 (fun x hx => by
            obtain ⟨i, hi, he⟩ := List.getElem_of_mem hx
            exact (htopo.2 i x (by rw [List.getElem?_eq_getElem hi, he])).1)
      obtain ⟨hfr, har, vo, hbo, hown⟩ := hst
      obtain ⟨ao, capo, hvo, hord⟩ := own_slice hown
      subst hvo
      have hcb : wr.cell? ⟨w.heap.size + 1 + 1 + 1, 0, none⟩ = some (.slice ao o.length capo) := hbo.at rfl
      have hgcw : w.heap.size < wr.heap.size := by have q1 := hfr.size; have q2 := unhide HSZ; omega
      have hgc3 : w.heap.size + 1 + 1 + 1 < wr.heap.size := by have q1 := hfr.size; have q2 := unhide HSZ; omega
      have hbw1 := (unhide hbw _ hfr).alloc (Nat.le_of_lt hgcw) (.cells (madeCells #[fV (.slice none 0 0)] S.length) 29)
      have hA0 := Ar.made wr fV (.slice none 0 0) S.length 29
      have hgn2 := (unhide HGN).below (hfr.below (B := B) (by have q2 := unhide HSZ; omega) (by intro k hk; omega))
      have hord2 : ∀ i x : Nat, o[i]? = some x → ∃ go, ao = some ⟨go, 0, none⟩ ∧ go < wr.heap.size ∧ (wr.alloc (.cells (madeCells #[fV (.slice none 0 0)] S.length) 29)).cell? ⟨go, i, none⟩ = some (.int .i64 (x : Int)) := by
        intro i x hx
        obtain ⟨go, h1, h2, h3⟩ := hord i x hx
        exact ⟨go, h1, h2, (World.cell?_of_block (Below.heap_alloc _ _ _ h2)).trans h3⟩
      have hsb : (wr.alloc (.cells (madeCells #[fV (.slice none 0 0)] S.length) 29)).cell? ⟨w.heap.size, 0, none⟩ = some (.slice a S.length cap) := (World.cell?_of_block (Below.heap_alloc _ _ _ hgcw)).trans c1
      have hgn3 : GN B (wr.alloc (.cells (madeCells #[fV (.slice none 0 0)] S.length) 29)) a S := hgn2.below ((Below.refl B wr).alloc (by omega) _)
      have hm2 := fun w => make_u64 w ((S.length + 63) / 64) (by omega)
      have hm3 := fun w => make_rows w S.length (by omega)
      have hwords : ((S.length : Int) + 63) / 64 = (((S.length + 63) / 64 : Nat) : Int) := by omega
      have HALL := hide hall
      have HTOPO := hide htopo
      have HBW1 := hide hbw1
      have HA0 := hide hA0
      have HORD := hide hord2
      have HSB := hide hsb
      have HGN3 := hide hgn3
      clear hall htopo hbw1 hA0 hord2 hsb hgn3 hgn2 hord hbo hown har hfr hinv hdn hno
      go_wp2_with fail
      generalize hW : (S.length + 63) / 64 = W at *
      have HW := hide hW
      clear hW
      generalize hw0 : wr.alloc (.cells (madeCells #[fV (.slice none 0 0)] S.length) 29) = w0 at *
      have hgc : wr.heap.size < w0.heap.size := by rw [← hw0]; simp
      clear hw0
      generalize wr.heap.size = gc at *
      have hwW : ((S.length : Int) + 63) / 64 = (W : Int) := by have q := unhide HW; omega
      rw [hwW]
      clear hwW hwords c1 c2 c3 hcb
      have hWn : S.length ≤ W * 64 := by have q := unhide HW; omega
      have hWb : W ≤ 4096 := by have q := unhide HW; omega
      go_loopw [45] (fun i wr => ∃ (k : Nat) (cv : List Value), k ≤ o.length ∧ i = .int .i64 k ∧ Ar fV wr gc cv 29 ∧ cv.length = S.length ∧ (∀ x ∈ o.take k, Done gc W S wr cv x) ∧ Below gc w0 wr) (fun i _ => o.length - (intOf i).toNat)
      case atStart => exact ⟨0, _, by omega, rfl, unhide HA0, by simp, by simp, Below.refl _ _⟩
      case round =>
        clear HA0
        obtain ⟨k, cv, hk, rfl, hAc, hcl2, hdo, hbel⟩ := hrel
        by_cases hlt2 : k < o.length
        · obtain ⟨v, hv⟩ := getlt hlt2
          obtain ⟨hvn, hsucc⟩ := (unhide HTOPO).2 k v hv
          have hvk : v ∉ o.take k := fun hm => by
            have h1 := idx_lt hm
            have h2 := (unhide HTOPO).1
            obtain ⟨hk', he'⟩ := List.getElem?_eq_some_iff.1 hv
            have h3 := List.Nodup.idxOf_getElem h2 k hk'
            rw [he'] at h3
            omega
          obtain ⟨go, hao, hgo, hcell⟩ := unhide HORD k v hv
          subst hao
          have hcv := (hbel.cell (p := ⟨go, k, none⟩) hgo).trans hcell
          obtain ⟨l, hl⟩ := getlt hvn
          obtain ⟨old, hold⟩ := getlt (show v < cv.length by omega)
          have hcc := hAc.at hold
          have hfc := hAc.free v
          have hgclt := hAc.lt
          have g1 : Ar fV ((wr.setCell ⟨gc, v, none⟩ (.slice (some ⟨wr.heap.size, 0, none⟩) W W)).alloc (.cells (madeCells #[fW 0] W) 52)) gc (cv.set v (.slice (some ⟨wr.heap.size, 0, none⟩) W W)) 29 := (hAc.set v _).alloc _
          have g2 : Ar fW ((wr.setCell ⟨gc, v, none⟩ (.slice (some ⟨wr.heap.size, 0, none⟩) W W)).alloc (.cells (madeCells #[fW 0] W) 52)) wr.heap.size (List.replicate W 0) 52 := by
            have q := Ar.made (wr.setCell ⟨gc, v, none⟩ (.slice (some ⟨wr.heap.size, 0, none⟩) W W)) fW 0 W 52
            rw [show (wr.setCell ⟨gc, v, none⟩ (.slice (some ⟨wr.heap.size, 0, none⟩) W W)).heap.size = wr.heap.size by simp [World.setCell]] at q
            exact q
          have g3 : ∀ x ∈ o.take k, DoneB gc wr.heap.size W S ((wr.setCell ⟨gc, v, none⟩ (.slice (some ⟨wr.heap.size, 0, none⟩) W W)).alloc (.cells (madeCells #[fW 0] W) 52)) (cv.set v (.slice (some ⟨wr.heap.size, 0, none⟩) W W)) x := fun x hx => DoneB.begin (hdo x hx) (fun e => hvk (by rw [← e]; exact hx)) _ _
          have g4 : Below gc w0 ((wr.setCell ⟨gc, v, none⟩ (.slice (some ⟨wr.heap.size, 0, none⟩) W W)).alloc (.cells (madeCells #[fW 0] W) 52)) := (hbel.setCell (p := ⟨gc, v, none⟩) (Nat.le_refl _) _).alloc (by simp [World.setCell]; omega) _
          have g5 : (cv.set v (.slice (some ⟨wr.heap.size, 0, none⟩) W W)).length = S.length := by simpa using hcl2
          have g6 : (cv.set v (.slice (some ⟨wr.heap.size, 0, none⟩) W W))[v]? = some (.slice (some ⟨wr.heap.size, 0, none⟩) W W) := by rw [List.getElem?_set_self (by omega)]
          have G1 := hide g1
          have G2 := hide g2
          have G3 := hide g3
          have G4 := hide g4
          have G5 := hide g5
          have G6 := hide g6
          have HSU := hide hsucc
          have HV := hide hv
          have HL := hide hl
          have HVK := hide hvk
          have hgvlt : gc < wr.heap.size := hgclt
          clear g1 g2 g3 g4 g5 g6 hsucc hv hl hvk hold hAc hcl2 hdo hbel hcell
          go_wp2_with fail
          generalize hw1 : (wr.setCell ⟨gc, v, none⟩ (.slice (some ⟨wr.heap.size, 0, none⟩) W W)).alloc (.cells (madeCells #[fW 0] W) 52) = w1 at *
          clear hw1
          generalize wr.heap.size = gv at *
          generalize cv.set v (.slice (some ⟨gv, 0, none⟩) W W) = cv1 at *
          have hd : v / 64 < W := by omega
          have hd1 : (v : Int) / 64 < (W : Int) := by omega
          have hd2 : (0 : Int) ≤ (v : Int) / 64 := by omega
          have hd3 : ((v : Int) / 64).toNat = v / 64 := by omega
          have k1 : w1.cell? ⟨gc, v, none⟩ = some (.slice (some ⟨gv, 0, none⟩) W W) := (unhide G1).at (unhide G6)
          have k2 : w1.cell? ⟨gv, v / 64, none⟩ = some (.int .u64 0) := (unhide G2).at (i := v / 64) (x := 0) (by rw [List.getElem?_replicate, if_pos hd])
          have k3 := (unhide G2).free (v / 64)
          clear hcc hfc hcv hgo
          have hbits := or_one (v % 64) (Nat.mod_lt _ (by omega))
          have p2 : Ar fW (w1.setCell ⟨gv, v / 64, none⟩ (.int .u64 (bits BinOp.or IntKind.u64 0 (IntKind.u64.wrap (2 ^ (v % 64)))))).drew gv ((List.replicate W 0).set (v / 64) (0 ||| 2 ^ (v % 64))) 52 := by
            rw [hbits]; exact (unhide G2).set (v / 64) (0 ||| 2 ^ (v % 64))
          have p1 : Ar fV (w1.setCell ⟨gv, v / 64, none⟩ (.int .u64 (bits BinOp.or IntKind.u64 0 (IntKind.u64.wrap (2 ^ (v % 64)))))).drew gc cv1 29 := (unhide G1).set_other (by show gc ≠ gv; omega) _
          have p3 : ∀ x ∈ o.take k, DoneB gc gv W S (w1.setCell ⟨gv, v / 64, none⟩ (.int .u64 (bits BinOp.or IntKind.u64 0 (IntKind.u64.wrap (2 ^ (v % 64)))))).drew cv1 x := fun x hx => (unhide G3 x hx).set _ _
          have p4 : Below gc w0 (w1.setCell ⟨gv, v / 64, none⟩ (.int .u64 (bits BinOp.or IntKind.u64 0 (IntKind.u64.wrap (2 ^ (v % 64)))))).drew := ((unhide G4).setCell (p := ⟨gv, v / 64, none⟩) (by show gc ≤ gv; omega) _).drew
          have p5 : RowP (fun u => u = v ∨ ∃ y ∈ l.take 0, Re S y u) ((List.replicate W 0).set (v / 64) (0 ||| 2 ^ (v % 64))) := ((RowP.zero W).bit (by rw [List.getElem?_replicate, if_pos hd])).congr (fun u => by simp)
          have p6 : ((List.replicate W 0).set (v / 64) (0 ||| 2 ^ (v % 64))).length = W := by simp
          have P1 := hide p1
          have P2 := hide p2
          have P3 := hide p3
          have P4 := hide p4
          have P5 := hide p5
          have P6 := hide p6
          clear p1 p2 p3 p4 p5 p6 hbits G1 G2 G3 G4
          go_region
          generalize hw2 : (w1.setCell ⟨gv, v / 64, none⟩ (.int .u64 (bits BinOp.or IntKind.u64 0 (IntKind.u64.wrap (2 ^ (v % 64)))))).drew = w2 at *
          clear hw2 k1 k2 k3 hd hd1 hd2 hd3 hm2
          generalize (List.replicate W 0).set (v / 64) (0 ||| 2 ^ (v % 64)) = ws0 at *
          obtain ⟨b, off, ai, ci, hea, hb, hcc, hi⟩ := (unhide HGN3).later (unhide HL)
          subst hea
          have hrow := hcc _ ((unhide P4).mono (by omega))
          have hsb := ((unhide P4).cell (p := ⟨w.heap.size, 0, none⟩) hgcw).trans (unhide HSB)
          have hlm := unhide HM l (List.mem_of_getElem? (unhide HL))
          have HIN := hide hi
          clear hi hcc hb
          generalize hM : l.length = M at *
          have HMM := hide hM
          clear hM
          go_wp2_with fail
          go_loopw [72] (fun i wr => ∃ (j : Nat) (ws : List Nat), j ≤ M ∧ i = .int .i64 j ∧ Ar fV wr gc cv1 29 ∧ Ar fW wr gv ws 52 ∧ ws.length = W ∧ RowP (fun u => u = v ∨ ∃ y ∈ l.take j, Re S y u) ws ∧ (∀ x ∈ o.take k, DoneB gc gv W S wr cv1 x) ∧ Below gc w0 wr) (fun i _ => M - (intOf i).toNat)
          case atStart => exact ⟨0, ws0, by omega, rfl, unhide P1, unhide P2, unhide P6, unhide P5, unhide P3, unhide P4⟩
          case round =>
            clear P1 P2 P3 P4 P5 P6 hrow hsb
            obtain ⟨j, ws, hj, rfl, hAc, hAw, hwl, hrp, hdo, hbel⟩ := hrel
            by_cases hlj : j < M
            · obtain ⟨y, hy⟩ := getlt (show j < l.length by rw [unhide HMM]; exact hlj)
              have hed : Ed S v y := ⟨l, unhide HL, List.mem_of_getElem? hy⟩
              have hyn : y < S.length := unhide HI v y hed
              have hyo := unhide HSU y hed
              obtain ⟨gy, qs, hq1, hq2, hq3, hq4, hq5, hq6⟩ := hdo y hyo
              obtain ⟨b', off', heb, hb', hcc⟩ := (unhide HIN).later hy
              subst heb
              have hce := hcc _ (hbel.mono (by omega))
              have hcr : wr.cell? ⟨gc, y, none⟩ = some (.slice (some ⟨gy, 0, none⟩) W W) := hAc.at hq1
              have HY := hide hy
              have HYO := hide hyo
              have T1 := hide hAc
              have T2 := hide hAw
              have T3 := hide hwl
              have T4 := hide hrp
              have T5 := hide hdo
              have T6 := hide hbel
              clear hy hyo hAc hAw hwl hrp hdo hbel hcc hb' hq2 hq4 hq5 hq6 hed
              go_wp2_with fail
              go_loopw [81] (fun i wr => ∃ (z : Nat) (ws : List Nat), z ≤ W ∧ i = .int .i64 z ∧ Ar fV wr gc cv1 29 ∧ Ar fW wr gv ws 52 ∧ ws.length = W ∧ RowJ (fun u => u = v ∨ ∃ y ∈ l.take j, Re S y u) (Re S y) z ws ∧ (∀ x ∈ o.take k, DoneB gc gv W S wr cv1 x) ∧ Below gc w0 wr) (fun i _ => W - (intOf i).toNat)
              case atStart => exact ⟨0, ws, by omega, rfl, unhide T1, unhide T2, unhide T3, RowJ.start (unhide T4), unhide T5, unhide T6⟩
              case round =>
                clear T1 T2 T3 T4 T5 T6 hce hcr
                obtain ⟨z, ws, hz, rfl, hAc, hAw, hwl, hrj, hdo, hbel⟩ := hrel
                by_cases hlz : z < W
                · obtain ⟨gy2, qs, hq1', hq2, hq3', hq4, hq5, hq6⟩ := hdo y (unhide HYO)
                  have hgy : gy2 = gy := by
                    rw [hq1] at hq1'
                    simp at hq1'
                    exact hq1'.symm
                  subst hgy
                  obtain ⟨zb, hzb⟩ := getlt (show z < qs.length by omega)
                  obtain ⟨xb, hxb⟩ := getlt (show z < ws.length by omega)
                  have hcz : wr.cell? ⟨gy2, z, none⟩ = some (.int .u64 (zb : Int)) := hq4.at hzb
                  have hcx : wr.cell? ⟨gv, z, none⟩ = some (.int .u64 (xb : Int)) := hAw.at hxb
                  have hfx := hAw.free z
                  have hcv : wr.cell? ⟨gc, v, none⟩ = some (.slice (some ⟨gv, 0, none⟩) W W) := hAc.at (unhide G6)
                  have hor : bits BinOp.or IntKind.u64 (xb : Int) (zb : Int) = ((xb ||| zb : Nat) : Int) := u64_or_nat xb zb (hrj z xb hxb).1 (hq6 z zb hzb).1
                  have hstep := hrj.step hq6 hxb hzb
                  have T1 := hide hAc
                  have T2 := hide hAw
                  have T3 := hide hwl
                  have T4 := hide hstep
                  have T5 := hide hdo
                  have T6 := hide hbel
                  clear hAc hAw hwl hrj hstep hdo hbel hq1' hq2 hq3' hq4 hq5 hq6 hzb hxb
                  go_wp2_with fail
                  go_roundw
                  case rel =>
                    refine ⟨z + 1, ws.set z (xb ||| zb), by omega, by go_num, (unhide T1).set_other (by show gc ≠ gv; omega) _, (unhide T2).set z (xb ||| zb), by have := unhide T3; simpa using this, unhide T4, fun x hx => (unhide T5 x hx).set _ _, (unhide T6).setCell (by show gc ≤ gv; omega) _⟩
                  case measure => simp [intOf]; omega
                · go_wp2_with fail
                  go_roundw
                  case rel =>
                    refine ⟨j + 1, ws, by omega, by go_num, hAc, hAw, hwl, (hrj.done (by omega)).congr (fun u => ?_), hdo, hbel⟩
                    rw [List.take_add_one, unhide HY]
                    constructor
                    · rintro ((q | ⟨y', h1, h2⟩) | q)
                      · exact Or.inl q
                      · exact Or.inr ⟨y', List.mem_append.2 (Or.inl h1), h2⟩
                      · exact Or.inr ⟨y, by simp, q⟩
                    · rintro (q | ⟨y', h1, h2⟩)
                      · exact Or.inl (Or.inl q)
                      · rcases List.mem_append.1 h1 with h1 | h1
                        · exact Or.inl (Or.inr ⟨y', h1, h2⟩)
                        · simp at h1; subst h1; exact Or.inr h2
                  case measure => simp [intOf]; omega
            · go_wp2_with fail
              go_roundw
              case rel =>
                refine ⟨k + 1, cv1, by omega, by go_num, hAc, unhide G5, ?_, hbel⟩
                intro x hx
                rw [List.take_add_one, unhide HV] at hx
                rcases List.mem_append.1 hx with hx | hx
                · exact (hdo x hx).to
                · simp at hx; subst hx
                  refine ⟨gv, ws, unhide G6, by omega, hAw, hwl, hrp.congr (fun u => ?_)⟩
                  rw [List.take_of_length_le (by have := unhide HMM; omega), Re.iff (S := S)]
                  constructor
                  · rintro (q | ⟨y', h1, h2⟩)
                    · exact Or.inl q
                    · exact Or.inr ⟨y', ⟨l, unhide HL, h1⟩, h2⟩
                  · rintro (q | ⟨y', ⟨l', h0, h1⟩, h2⟩)
                    · exact Or.inl q
                    · rw [unhide HL] at h0
                      obtain rfl := Option.some.inj h0
                      exact Or.inr ⟨y', h1, h2⟩
              case measure => simp [intOf]; omega
        · go_wp2_with fail
          go_ret2
          refine ⟨(unhide HBW1).trans (hbel.mono (by omega)), Or.inr ⟨gc, o, cv, rfl, unhide HTOPO, unhide HALL, by omega, hAc, hcl2, fun x hx => ?_⟩⟩
          rw [unhide HW]
          refine hdo x ?_
          rw [List.take_of_length_le (by omega)]
          exact unhide HALL x hx
end Go.Proofs.Qxb6603374a.G
