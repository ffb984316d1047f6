/-
  zkRows (19), zkRates (20), zkRuns (21): fresh copies.
-/
import Derived.Test.Qxb6003232aK1
import Derived.Deep.RegionHeld3
import Derived.Deep.DrawnRows
namespace Go.Proofs.Qxb6003232a.Kp
open Go.ChangeShapes Go.WideShapes Go.ChangeAt Go.RowKit
set_option linter.unusedVariables false

/-- block g is n cells, none frozen -/
def Blk (w : World) (g n : Nat) (e : TypeId) : Prop := ∃ cs, w.heap[g]? = some (.cells cs e (0, 0)) ∧ cs.size = n
theorem Blk.lt {w : World} {g n : Nat} {e : TypeId} (h : Blk w g n e) : g < w.heap.size := by obtain ⟨cs, h, _⟩ := h; exact lt_of_block h
theorem Blk.cell {w : World} {g n : Nat} {e : TypeId} (h : Blk w g n e) {i : Nat} (hi : i < n) : ∃ v, w.cell? ⟨g, i, none⟩ = some v := by
  obtain ⟨cs, h, hs⟩ := h
  exact ⟨_, by simp only [World.cell?, h]; exact Array.getElem?_eq_getElem (by omega)⟩
theorem Blk.free {w : World} {g n : Nat} {e : TypeId} (h : Blk w g n e) (i : Nat) : w.frozen? ⟨g, i, none⟩ = false := by
  obtain ⟨cs, h, hs⟩ := h
  simp [World.frozen?, h]
theorem Blk.set {w : World} {g n : Nat} {e : TypeId} (h : Blk w g n e) (i : Nat) (v : Value) : Blk (w.setCell ⟨g, i, none⟩ v) g n e := by
  have hlt := h.lt
  obtain ⟨cs, h, hs⟩ := h
  have h' : w.heap[g] = .cells cs e (0, 0) := by simpa [Array.getElem?_eq_getElem hlt] using h
  refine ⟨cs.setIfInBounds i v, ?_, by simpa using hs⟩
  show (w.heap.modify g _)[g]? = _
  rw [Array.getElem?_eq_getElem (by simpa using hlt), Array.getElem_modify_self, h']
  rfl
theorem Blk.alloc {w : World} {g n : Nat} {e : TypeId} (h : Blk w g n e) (o : Obj) : Blk (w.alloc o) g n e := by
  have hlt := h.lt
  obtain ⟨cs, h, hs⟩ := h
  exact ⟨cs, by rw [Below.heap_alloc _ _ _ hlt]; exact h, hs⟩
theorem Blk.made (w : World) (z : Array Value) (n : Nat) (e : TypeId) : Blk (w.alloc (.cells (madeCells z n) e)) w.heap.size n e := ⟨_, heap_alloc_new w _, size_madeCells _ _⟩
theorem Blk.setCells {g n : Nat} {e : TypeId} : ∀ (vs : List Value) (o : Nat) (w : World), Blk w g n e → Blk (w.setCells g o vs) g n e
  | [], _, _, h => h
  | v :: vs, o, w, h => Blk.setCells vs (o + 1) _ (h.set o v)

theorem Arr.alloc {α : Type} {f : α → List Value} {sz B : Nat} {w : World} {a : Option Addr} {xs : List α} (h : Arr f sz B w a xs) (hB : B ≤ w.heap.size) (o : Obj) : Arr f sz B (w.alloc o) a xs := h.below ((Below.refl _ _).alloc hB o)

theorem fill_step {α : Type} {f : α → List Value} {sz n k g : Nat} {e : TypeId} {wr : World} {xs : List α} {x : α} (hf : ∀ x, (f x).length = sz) (hB : Blk wr g (n * sz) e) (hk : k < n) (hx : xs[k]? = some x) (hA : Arr f sz (g + 1) wr (some ⟨g, 0, none⟩) (xs.take k)) :
    Blk (wr.setCells g (k * sz) (f x)) g (n * sz) e ∧ Arr f sz (g + 1) (wr.setCells g (k * sz) (f x)) (some ⟨g, 0, none⟩) (xs.take (k + 1)) := by
  refine ⟨Blk.setCells _ _ _ hB, Or.inr ⟨g, 0, rfl, by omega, ?_⟩⟩
  intro i y hi j v hj
  have hjl := (List.getElem?_eq_some_iff.1 hj).1
  rw [hf] at hjl
  have hik : i ≤ k := by
    have := (List.getElem?_eq_some_iff.1 hi).1
    simp at this; omega
  have hmul : k * sz + sz ≤ n * sz := by
    have : (k + 1) * sz ≤ n * sz := Nat.mul_le_mul_right _ hk
    rw [Nat.add_mul] at this; omega
  by_cases e : i = k
  · subst e
    rw [List.getElem?_take_of_lt (by omega), hx] at hi
    obtain rfl := Option.some.inj hi
    rw [Nat.zero_add]
    have := World.cell?_setCells_in g (f x) (i * sz) wr (fun j' hj' => by
      rw [hf] at hj'
      obtain ⟨u, hu⟩ := hB.cell (i := i * sz + j') (by omega)
      rw [hu]; rfl) j (by rw [hf]; exact hjl)
    rw [this]
    obtain ⟨h1, h2⟩ := List.getElem?_eq_some_iff.1 hj
    rw [h2]
  · have hlt : i < k := by omega
    have hmul2 : i * sz + sz ≤ k * sz := by
      have : (i + 1) * sz ≤ k * sz := Nat.mul_le_mul_right _ hlt
      rw [Nat.add_mul] at this; omega
    rw [World.cell?_setCells_out g (f x) (k * sz) wr _ (fun _ _ => Or.inl (by show 0 + i * sz + j < k * sz; omega))]
    rcases hA with hA | ⟨b, off, ha, _, hr⟩
    · rw [List.getElem?_take_of_lt (by omega)] at hi
      have hlen := (List.getElem?_eq_some_iff.1 hi).1
      have hl0 : (xs.take k).length = 0 := by rw [hA]; rfl
      rw [List.length_take] at hl0
      omega
    · simp only [Option.some.injEq, Addr.mk.injEq, and_true] at ha
      obtain ⟨rfl, rfl⟩ := ha
      rw [List.getElem?_take_of_lt (by omega)] at hi
      exact hr i y (by rw [List.getElem?_take_of_lt hlt]; exact hi) j v hj

theorem below_setCells {B : Nat} {a : World} {g : Nat} (hg : B ≤ g) : ∀ (vs : List Value) (o : Nat) (w : World), Below B a w → Below B a (w.setCells g o vs)
  | [], _, _, h => h
  | v :: vs, o, w, h => below_setCells hg vs (o + 1) _ (h.setCell (p := ⟨g, o, none⟩) hg v)

/-- what a copy is: nil of nil; else new memory that holds the same -/
def Copied {α : Type} (f : α → List Value) (sz : Nat) (a : Option Addr) (xs : List α) (w : World) (e : Ending) (w' : World) : Prop :=
  ∃ a', e = .returned (.slice a' xs.length xs.length) ∧ Arr f sz w'.heap.size w' a' xs ∧ (a' = none ↔ a = none) ∧ (∀ ad, a' = some ad → w.heap.size ≤ ad.block) ∧ Below w.heap.size w w'

theorem info31 : (Try.prog.info? 31).map (fun i => (i.zero, i.size, i.bytes)) = some (some (.int .i64 0), 1, 8) := by kernel_rfl

set_option maxRecDepth 100000 in
theorem rates_calls (a : Option Addr) (cap : Nat) (xs : List Int) (w : World) (hs : Arr f1 1 w.heap.size w a xs) (h0 : a = none → xs = [] ∧ cap = 0) (hn : xs.length ≤ 65536) :
    Calls Try.prog 20 #[.slice a xs.length cap] w (Copied f1 1 a xs w) := by
  have hnl := fun (w : World) (a : Option Addr) (l c : Nat) => Lib.run_eql_slice_nil (P := Try.prog) w 36 2 a l c 0 0 Try.underlying36
  cases a with
  | none =>
    obtain ⟨rfl, rfl⟩ := h0 rfl
    clear hs h0
    go_enter Try.func20, Try.ntmps20
    go_wp2
    go_ret
    exact ⟨none, rfl, Or.inl rfl, by simp, (fun ad h => by cases h), Below.refl _ _⟩
  | some ad =>
    have HS := hide hs
    obtain ⟨i0, hi, hz0, hz1, hz2⟩ := info_parts info31
    have hmk := run_make (P := Try.prog) w 45 31 i0 _ Try.underlying45 hi hz0 .i64 .i64 xs.length xs.length (by omega) (by omega) (by rw [hz2]; omega) (by omega)
    rw [hz1] at hmk
    simp only [Int.toNat_natCast, Nat.mul_one] at hmk
    clear hs h0 hi hz0 hz1 hz2
    have hB0 := hide (Blk.made w (Value.cells (.int .i64 0)) xs.length 31)
    have hb0 := hide ((Below.refl w.heap.size w).alloc (Nat.le_refl _) (.cells (madeCells (Value.cells (.int .i64 0)) xs.length) 31))
    go_enter Try.func20, Try.ntmps20
    go_wp2
    generalize hg : w.heap.size = g at *
    have HG := hide hg
    clear hg
    go_loopw [4] (fun i wr => ∃ k : Nat, k ≤ xs.length ∧ i = .int .i64 k ∧ Blk wr g (xs.length * 1) 31 ∧ Arr f1 1 (g + 1) wr (some ⟨g, 0, none⟩) (xs.take k) ∧ Below g w wr) (fun i _ => xs.length - (intOf i).toNat)
    case atStart => exact ⟨0, by omega, rfl, by rw [Nat.mul_one]; exact unhide hB0, Or.inl (by simp), unhide hb0⟩
    case round =>
      clear hB0 hb0
      obtain ⟨k, hk, rfl, hB, hA, hbel⟩ := hrel
      by_cases hlt : k < xs.length
      · obtain ⟨x, hx⟩ := getlt hlt
        obtain ⟨b, off, hea, hb, hc⟩ := (unhide HS).i1 hx
        obtain rfl := Option.some.inj hea
        have q0 := hc _ hbel
        obtain ⟨v0, hv0⟩ := hB.cell (i := k) (by omega)
        have hf0 := hB.free k
        have hst := hide (fill_step (f := f1) (fun x => rfl) hB hlt hx hA)
        have hbe2 := hide (below_setCells (g := g) (Nat.le_refl _) (f1 x) (k * 1) wr hbel)
        clear hc hx hB hA hbel hb
        go_wp2
        go_roundw
        case rel =>
          have h1 := unhide hst
          have h2 := unhide hbe2
          simp only [Nat.mul_one] at h1 h2 ⊢
          exact ⟨k + 1, by omega, by go_num, h1.1, h1.2, h2⟩
        case measure => simp [intOf]; omega
      · go_wp2
        go_ret
        rw [List.take_of_length_le (by omega)] at hA
        refine ⟨some ⟨g, 0, none⟩, rfl, hA.mono hB.lt, by simp, (fun ad h => by obtain rfl := Option.some.inj h; have := unhide HG; show w.heap.size ≤ g; omega), by rw [unhide HG]; exact hbel⟩

theorem mkrow_calls (m l h : Int) (w : World) :
    Calls Try.prog 34 #[.int .i32 m, .int .u32 l, .int .i64 h] w fun e w' => e = .returned (.agg #[.int .i32 m, .int .u32 l, .int .i64 h]) ∧ w' = w.alloc (.cells #[.int .i32 m, .int .u32 l, .int .i64 h] 75) := by
  go_enter Try.func34, Try.ntmps34
  go_wp2
  exact bodyPost_ret (v := .agg #[.int .i32 m, .int .u32 l, .int .i64 h]) (by simp [results, Try.results34, go_sem]) rfl ⟨rfl, rfl⟩
theorem mkrun_calls (s : ByteArray) (b : Int) (l : Bool) (e : Int) (w : World) :
    Calls Try.prog 35 #[.string s, .int .i64 b, .bool l, .int .i64 e] w fun e' w' => e' = .returned (.agg #[.string s, .int .i64 b, .bool l, .int .i64 e]) ∧ w' = w.alloc (.cells #[.string s, .int .i64 b, .bool l, .int .i64 e] 80) := by
  go_enter Try.func35, Try.ntmps35
  go_wp2
  exact bodyPost_ret (v := .agg #[.string s, .int .i64 b, .bool l, .int .i64 e]) (by simp [results, Try.results35, go_sem]) rfl ⟨rfl, rfl⟩

theorem info75 : (Try.prog.info? 75).map (fun i => (i.zero, i.size, i.bytes)) = some (some (.agg #[.int .i32 0, .int .u32 0, .int .i64 0]), 3, 16) := by kernel_rfl
theorem info80 : (Try.prog.info? 80).map (fun i => (i.zero, i.size, i.bytes)) = some (some (.agg #[.string ⟨#[]⟩, .int .i64 0, .bool false, .int .i64 0]), 4, 40) := by kernel_rfl
theorem far1 {b g : Nat} (hne : b ≠ g) (w : World) (o j : Nat) (v : Value) : (w.setCell ⟨g, j, none⟩ v).cell? ⟨b, o, none⟩ = w.cell? ⟨b, o, none⟩ :=
  World.cell?_of_block (w := w) (Below.heap_setCell _ _ _ _ hne)

attribute [local go_sem ↓] Go.wp_at_zero Go.wp_at_succ

set_option maxRecDepth 100000 in
set_option maxHeartbeats 2000000 in
theorem zrows_calls (a : Option Addr) (cap : Nat) (xs : List R3) (w : World) (hs : Arr f3 3 w.heap.size w a xs) (h0 : a = none → xs = [] ∧ cap = 0) (hn : xs.length ≤ 65536) :
    Calls Try.prog 19 #[.slice a xs.length cap] w (Copied f3 3 a xs w) := by
  have hnl := fun (w : World) (a : Option Addr) (l c : Nat) => Lib.run_eql_slice_nil (P := Try.prog) w 35 78 a l c 0 0 Try.underlying35
  cases a with
  | none =>
    obtain ⟨rfl, rfl⟩ := h0 rfl
    clear hs h0
    go_enter Try.func19, Try.ntmps19
    go_wp2
    go_ret
    exact ⟨none, rfl, Or.inl rfl, by simp, (fun ad h => by cases h), Below.refl _ _⟩
  | some ad =>
    have HS := hide hs
    obtain ⟨i0, hi, hz0, hz1, hz2⟩ := info_parts info75
    have hmk := run_make (P := Try.prog) w 43 75 i0 _ Try.underlying43 hi hz0 .i64 .i64 xs.length xs.length (by omega) (by omega) (by rw [hz2]; omega) (by omega)
    rw [hz1] at hmk
    simp only [Int.toNat_natCast] at hmk
    clear hs h0 hi hz0 hz1 hz2
    have hB0 := hide (Blk.made w (Value.cells (.agg #[.int .i32 0, .int .u32 0, .int .i64 0])) (xs.length * 3) 75)
    have hb0 := hide ((Below.refl w.heap.size w).alloc (Nat.le_refl _) (.cells (madeCells (Value.cells (.agg #[.int .i32 0, .int .u32 0, .int .i64 0])) (xs.length * 3)) 75))
    go_enter Try.func19, Try.ntmps19
    go_wp2
    generalize hg : w.heap.size = g at *
    have HG := hide hg
    clear hg
    go_loopw [4] (fun i wr => ∃ k : Nat, k ≤ xs.length ∧ i = .int .i64 k ∧ Blk wr g (xs.length * 3) 75 ∧ Arr f3 3 (g + 1) wr (some ⟨g, 0, none⟩) (xs.take k) ∧ Below g w wr) (fun i _ => xs.length - (intOf i).toNat)
    case atStart => exact ⟨0, by omega, rfl, unhide hB0, Or.inl (by simp), unhide hb0⟩
    case round =>
      clear hB0 hb0
      obtain ⟨k, hk, rfl, hB, hA, hbel⟩ := hrel
      by_cases hlt : k < xs.length
      · obtain ⟨x, hx⟩ := getlt hlt
        obtain ⟨b, off, hea, hb, hc⟩ := (unhide HS).r3 hx
        obtain rfl := Option.some.inj hea
        obtain ⟨q0, q1, q2⟩ := hc _ hbel
        obtain ⟨v0, hv0⟩ := hB.cell (i := k * 3) (by omega)
        obtain ⟨v1, hv1⟩ := hB.cell (i := k * 3 + 1) (by omega)
        obtain ⟨v2, hv2⟩ := hB.cell (i := k * 3 + 2) (by omega)
        have hf0 := hB.free (k * 3)
        have hf1 := hB.free (k * 3 + 1)
        have hf2 := hB.free (k * 3 + 2)
        have hglt := hB.lt
        have hblt : b < wr.heap.size := by omega
        have hfar := far1 (show b ≠ g by omega)
        have hst := hide (fill_step (f := f3) (fun x => rfl) hB hlt hx hA)
        have hbe2 := hide (below_setCells (g := g) (Nat.le_refl _) (f3 x) (k * 3) wr hbel)
        have hk1 : (0 : Int) ≤ (k : Int) := by omega
        have hk2 : (k : Int) < (xs.length : Int) := by omega
        clear hc hx hB hA hbel
        go_wp2_with fail
        go_region_held3 (fun w' => w'.cell? ⟨b, off + k * 3, none⟩ = some (.int .i32 x.m) ∧ w'.cell? ⟨b, off + k * 3 + 1, none⟩ = some (.int .u32 x.l) ∧ w'.cell? ⟨b, off + k * 3 + 2, none⟩ = some (.int .i64 x.h)) (go_keep)
          ((go_at_call 34; refine (mkrow_calls _ _ _ _).mono ?_; rintro e w' ⟨rfl, rfl⟩))
        go_wp2
        have h1 := unhide hst
        have h2 := unhide hbe2
        go_roundw
        case rel => exact ⟨k + 1, by omega, by go_num, h1.1.alloc _, h1.2.alloc h1.1.lt _, (h2.alloc (Nat.le_of_lt h1.1.lt) _).drew⟩
        case measure => simp [intOf]; omega
      · go_wp2
        go_ret
        rw [List.take_of_length_le (by omega)] at hA
        refine ⟨some ⟨g, 0, none⟩, rfl, hA.mono hB.lt, by simp, (fun ad h => by obtain rfl := Option.some.inj h; have := unhide HG; show w.heap.size ≤ g; omega), by rw [unhide HG]; exact hbel⟩

set_option maxRecDepth 100000 in
set_option maxHeartbeats 2000000 in
theorem zruns_calls (a : Option Addr) (cap : Nat) (xs : List Rn) (w : World) (hs : Arr f4 4 w.heap.size w a xs) (h0 : a = none → xs = [] ∧ cap = 0) (hn : xs.length ≤ 65536) :
    Calls Try.prog 21 #[.slice a xs.length cap] w (Copied f4 4 a xs w) := by
  have hnl := fun (w : World) (a : Option Addr) (l c : Nat) => Lib.run_eql_slice_nil (P := Try.prog) w 37 63 a l c 0 0 Try.underlying37
  cases a with
  | none =>
    obtain ⟨rfl, rfl⟩ := h0 rfl
    clear hs h0
    go_enter Try.func21, Try.ntmps21
    go_wp2
    go_ret
    exact ⟨none, rfl, Or.inl rfl, by simp, (fun ad h => by cases h), Below.refl _ _⟩
  | some ad =>
    have HS := hide hs
    obtain ⟨i0, hi, hz0, hz1, hz2⟩ := info_parts info80
    have hmk := run_make (P := Try.prog) w 47 80 i0 _ Try.underlying47 hi hz0 .i64 .i64 xs.length xs.length (by omega) (by omega) (by rw [hz2]; omega) (by omega)
    rw [hz1] at hmk
    simp only [Int.toNat_natCast] at hmk
    clear hs h0 hi hz0 hz1 hz2
    have hB0 := hide (Blk.made w (Value.cells (.agg #[.string ⟨#[]⟩, .int .i64 0, .bool false, .int .i64 0])) (xs.length * 4) 80)
    have hb0 := hide ((Below.refl w.heap.size w).alloc (Nat.le_refl _) (.cells (madeCells (Value.cells (.agg #[.string ⟨#[]⟩, .int .i64 0, .bool false, .int .i64 0])) (xs.length * 4)) 80))
    go_enter Try.func21, Try.ntmps21
    go_wp2
    generalize hg : w.heap.size = g at *
    have HG := hide hg
    clear hg
    go_loopw [4] (fun i wr => ∃ k : Nat, k ≤ xs.length ∧ i = .int .i64 k ∧ Blk wr g (xs.length * 4) 80 ∧ Arr f4 4 (g + 1) wr (some ⟨g, 0, none⟩) (xs.take k) ∧ Below g w wr) (fun i _ => xs.length - (intOf i).toNat)
    case atStart => exact ⟨0, by omega, rfl, unhide hB0, Or.inl (by simp), unhide hb0⟩
    case round =>
      clear hB0 hb0
      obtain ⟨k, hk, rfl, hB, hA, hbel⟩ := hrel
      by_cases hlt : k < xs.length
      · obtain ⟨x, hx⟩ := getlt hlt
        obtain ⟨b, off, hea, hb, hc⟩ := (unhide HS).rn hx
        obtain rfl := Option.some.inj hea
        obtain ⟨q0, q1, q2, q3⟩ := hc _ hbel
        obtain ⟨v0, hv0⟩ := hB.cell (i := k * 4) (by omega)
        obtain ⟨v1, hv1⟩ := hB.cell (i := k * 4 + 1) (by omega)
        obtain ⟨v2, hv2⟩ := hB.cell (i := k * 4 + 2) (by omega)
        obtain ⟨v3, hv3⟩ := hB.cell (i := k * 4 + 3) (by omega)
        have hf0 := hB.free (k * 4)
        have hf3 := hB.free (k * 4 + 3)
        have hf1 := hB.free (k * 4 + 1)
        have hf2 := hB.free (k * 4 + 2)
        have hglt := hB.lt
        have hblt : b < wr.heap.size := by omega
        have hfar := far1 (show b ≠ g by omega)
        have hst := hide (fill_step (f := f4) (fun x => rfl) hB hlt hx hA)
        have hbe2 := hide (below_setCells (g := g) (Nat.le_refl _) (f4 x) (k * 4) wr hbel)
        have hk1 : (0 : Int) ≤ (k : Int) := by omega
        have hk2 : (k : Int) < (xs.length : Int) := by omega
        clear hc hx hB hA hbel
        go_wp2_with fail
        go_region_held3 (fun w' => w'.cell? ⟨b, off + k * 4, none⟩ = some (.string x.s) ∧ w'.cell? ⟨b, off + k * 4 + 1, none⟩ = some (.int .i64 x.born) ∧ w'.cell? ⟨b, off + k * 4 + 2, none⟩ = some (.bool x.listed) ∧ w'.cell? ⟨b, off + k * 4 + 3, none⟩ = some (.int .i64 x.fin)) (go_keep)
          ((go_at_call 35; refine (mkrun_calls _ _ _ _ _).mono ?_; rintro e w' ⟨rfl, rfl⟩))
        go_wp2
        have h1 := unhide hst
        have h2 := unhide hbe2
        go_roundw
        case rel => exact ⟨k + 1, by omega, by go_num, h1.1.alloc _, h1.2.alloc h1.1.lt _, (h2.alloc (Nat.le_of_lt h1.1.lt) _).drew⟩
        case measure => simp [intOf]; omega
      · go_wp2
        go_ret
        rw [List.take_of_length_le (by omega)] at hA
        refine ⟨some ⟨g, 0, none⟩, rfl, hA.mono hB.lt, by simp, (fun ad h => by obtain rfl := Option.some.inj h; have := unhide HG; show w.heap.size ≤ g; omega), by rw [unhide HG]; exact hbel⟩
end Go.Proofs.Qxb6003232a.Kp
