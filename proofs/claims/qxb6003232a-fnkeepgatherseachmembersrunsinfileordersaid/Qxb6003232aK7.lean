/-
  zkSpanMatches (26).
-/
import Derived.Test.Qxb6003232aK6
import Derived.Deep.RegionHeld3
import Derived.Deep.DrawnRows
namespace Go.Proofs.Qxb6003232a.Kp
open Go.ChangeShapes Go.WideShapes Go.ChangeAt Go.RowKit Go.Maps
set_option linter.unusedVariables false

theorem Arr.cut {α : Type} {f : α → List Value} {sz B : Nat} {w : World} {a : Option Addr} {xs : List α} (h : Arr f sz B w a xs) {l e : Nat} (hl : l ≤ e) (he : e ≤ xs.length) : Arr f sz B w (cut a sz l e) ((xs.drop l).take (e - l)) := by
  by_cases q : e = l
  · left; simp [q]
  · rcases h with rfl | ⟨b, off, rfl, hb, hc⟩
    · left; simp
    · right
      refine ⟨b, off + l * sz, ?_, hb, fun i x hi j v hj => ?_⟩
      · simp [Kp.cut, q, Addr.add]
      · have hi' : xs[l + i]? = some x := by
          rw [List.getElem?_take] at hi
          split at hi
          · rw [List.getElem?_drop] at hi; exact hi
          · cases hi
        have := hc (l + i) x hi' j v hj
        rw [Nat.add_mul, ← Nat.add_assoc] at this
        exact this
theorem Fits.nonneg {n : Nat} {xs : List Rn} (h : Fits n xs) : ∀ k, k ≤ xs.length → 0 ≤ from_ xs k
  | 0, _ => by simp [from_]
  | k + 1, hk => by
    obtain ⟨r, hr⟩ := getlt (show k < xs.length by omega)
    have := h.nonneg k (by omega)
    have := (h k r hr).1
    rw [from_succ hr]; omega
theorem take_drop_get {α : Type} {xs : List α} {l n i : Nat} {y : α} (h : ((xs.drop l).take n)[i]? = some y) : xs[l + i]? = some y := by
  rw [List.getElem?_take] at h
  split at h
  · rw [List.getElem?_drop] at h; exact h
  · cases h

/-- one part: the three arguments, and the copies that keep was given -/
structure Side (B : Nat) (w : World) (a0 : Option Addr) (R : List R3) (a1 : Option Addr) (Rt : List Int) (a2 : Option Addr) (X : List Rn) (aR aT : Option Addr) : Prop where
  r : Arr f3 3 B w a0 R
  t : Arr f1 1 B w a1 Rt
  x : Arr f4 4 B w a2 X
  r' : Arr f3 3 B w aR R
  t' : Arr f1 1 B w aT Rt
  n : aT = none ↔ a1 = none
  e : a1 ≠ none → Rt.length = R.length
  fit : Fits R.length X
  nr : R.length ≤ 65536
  nt : Rt.length ≤ 65536
  nx : X.length ≤ 4096
theorem Side.below {B : Nat} {w w' : World} {a0 : Option Addr} {R : List R3} {a1 : Option Addr} {Rt : List Int} {a2 : Option Addr} {X : List Rn} {aR aT : Option Addr} (h : Side B w a0 R a1 Rt a2 X aR aT) (hb : Below B w w') : Side B w' a0 R a1 Rt a2 X aR aT :=
  ⟨h.r.below hb, h.t.below hb, h.x.below hb, h.r'.below hb, h.t'.below hb, h.n, h.e, h.fit, h.nr, h.nt, h.nx⟩

/-- what the check of the t-th run of a part leans on: it begins at row l and has n rows; x is its span -/
structure Chk (B : Nat) (w : World) (a0 : Option Addr) (R : List R3) (a1 : Option Addr) (Rt : List Int) (a2 : Option Addr) (X : List Rn) (t l n : Nat) (x : Sp) : Prop where
  r : Arr f3 3 B w a0 R
  rt : Arr f1 1 B w a1 Rt
  xn : x.n = n
  ra : Arr f3 3 B w x.ra ((R.drop l).take n)
  ta : Arr f1 1 B w x.ta ((Rt.drop l).take n)
  lr : l + n ≤ R.length
  tt : x.ta = none ↔ a1 = none
  tn : a1 ≠ none → x.tn = n ∧ l + n ≤ Rt.length
  cf : ∃ b off, a2 = some ⟨b, off, none⟩ ∧ b < B ∧ w.cell? ⟨b, off + t * 4 + 3, none⟩ = some (.int .i64 ((l + n : Nat) : Int)) ∧ (t = 0 → l = 0) ∧ (0 < t → w.cell? ⟨b, off + (t - 1) * 4 + 3, none⟩ = some (.int .i64 (l : Int)))
  tx : t < X.length
theorem Side.chk {B : Nat} {w : World} {a0 : Option Addr} {R : List R3} {a1 : Option Addr} {Rt : List Int} {a2 : Option Addr} {X : List Rn} {aR aT : Option Addr} (h : Side B w a0 R a1 Rt a2 X aR aT) {t : Nat} {r : Rn} (ht : X[t]? = some r) :
    ∃ l n, Chk B w a0 R a1 Rt a2 X t l n (spanAt aR aT (from_ X t).toNat r.fin.toNat) := by
  have htx := (List.getElem?_eq_some_iff.1 ht).1
  have h0 := h.fit.nonneg t (by omega)
  obtain ⟨h1, h2⟩ := h.fit t r ht
  obtain ⟨l, hl⟩ : ∃ l : Nat, from_ X t = l := ⟨(from_ X t).toNat, by omega⟩
  obtain ⟨n, hn⟩ : ∃ n : Nat, r.fin = ((l + n : Nat) : Int) := ⟨(r.fin - l).toNat, by omega⟩
  have hE : r.fin.toNat = l + n := by omega
  have hL : (from_ X t).toNat = l := by omega
  refine ⟨l, n, h.r, h.t, ?_, ?_, ?_, by omega, ?_, ?_, ?_, htx⟩
  · simp [spanAt, hL, hE]
  · have := h.r'.cut (l := l) (e := l + n) (by omega) (by omega)
    simpa [spanAt, hL, hE] using this
  · cases hT : aT with
    | none =>
      have ha := h.n.1 hT
      have : Rt = [] := by
        rcases h.t with q | ⟨_, _, q, _⟩
        · exact q
        · rw [ha] at q; cases q
      left; rw [this]; simp
    | some ad =>
      have hne : a1 ≠ none := fun q => by have := h.n.2 q; rw [hT] at this; cases this
      have hle := h.e hne
      have := h.t'.cut (l := l) (e := l + n) (by omega) (by omega)
      rw [hT] at this
      simpa [spanAt, hL, hE] using this
  · rw [← h.n]
    cases hT : aT with
    | none => simp [spanAt]
    | some ad =>
      simp only [spanAt, Kp.cut]
      simp
      split <;> simp
  · intro hne
    have hT : aT ≠ none := fun q => hne (h.n.1 q)
    have hle := h.e hne
    refine ⟨by simp [spanAt, hT, hL, hE], by omega⟩
  · obtain ⟨b, off, ha, hb, hc⟩ := h.x.rn ht
    refine ⟨b, off, ha, hb, ?_, ?_, ?_⟩
    · rw [(hc w (Below.refl _ _)).2.2.2, hn]
    · rintro rfl
      simp [from_] at hl; omega
    · intro htp
      obtain ⟨r0, hr0⟩ := getlt (show t - 1 < X.length by omega)
      obtain ⟨b', off', ha', -, hc'⟩ := h.x.rn hr0
      rw [ha] at ha'
      simp at ha'
      obtain ⟨rfl, rfl⟩ := ha'
      have e : from_ X (t - 1 + 1) = r0.fin := from_succ hr0
      rw [Nat.sub_add_cancel htp] at e
      rw [(hc' w (Below.refl _ _)).2.2.2, ← e, hl]

theorem alloc3 {w : World} {x y z : Obj} {b o : Nat} (h : b < w.heap.size) : (((w.alloc x).alloc y).alloc z).drew.cell? ⟨b, o, none⟩ = w.cell? ⟨b, o, none⟩ := by
  have h1 : b < (w.alloc x).heap.size := by simp; omega
  have h2 : b < ((w.alloc x).alloc y).heap.size := by simp; omega
  exact World.cell?_of_block ((Below.heap_alloc _ _ _ h2).trans ((Below.heap_alloc _ _ _ h1).trans (Below.heap_alloc _ _ _ h)))
theorem alloc3a {w : World} {x y z : Obj} {b o : Nat} (h : b < w.heap.size) : (((w.alloc x).alloc y).drew.alloc z).cell? ⟨b, o, none⟩ = w.cell? ⟨b, o, none⟩ := alloc3 (x := x) (y := y) (z := z) h
theorem Chk.row {B : Nat} {w : World} {a0 : Option Addr} {R : List R3} {a1 : Option Addr} {Rt : List Int} {a2 : Option Addr} {X : List Rn} {t l n : Nat} {x : Sp} (h : Chk B w a0 R a1 Rt a2 X t l n x) {i : Nat} (hi : i < n) :
    ∃ y b1 o1 b2 o2, x.ra = some ⟨b1, o1, none⟩ ∧ b1 < B ∧ a0 = some ⟨b2, o2, none⟩ ∧ b2 < B ∧ ∀ w', Below B w w' →
      (w'.cell? ⟨b1, o1 + i * 3, none⟩ = some (.int .i32 (R3.m y)) ∧ w'.cell? ⟨b1, o1 + i * 3 + 1, none⟩ = some (.int .u32 y.l) ∧ w'.cell? ⟨b1, o1 + i * 3 + 2, none⟩ = some (.int .i64 y.h)) ∧
      (w'.cell? ⟨b2, o2 + (l + i) * 3, none⟩ = some (.int .i32 y.m) ∧ w'.cell? ⟨b2, o2 + (l + i) * 3 + 1, none⟩ = some (.int .u32 y.l) ∧ w'.cell? ⟨b2, o2 + (l + i) * 3 + 2, none⟩ = some (.int .i64 y.h)) := by
  have hlr := h.lr
  obtain ⟨y, hy⟩ := getlt (l := (R.drop l).take n) (k := i) (by simp; omega)
  obtain ⟨b1, o1, he1, hb1, hc1⟩ := h.ra.r3 hy
  obtain ⟨b2, o2, he2, hb2, hc2⟩ := h.r.r3 (take_drop_get hy)
  exact ⟨y, b1, o1, b2, o2, he1, hb1, he2, hb2, fun w' hb => ⟨hc1 w' hb, hc2 w' hb⟩⟩
theorem Chk.rate {B : Nat} {w : World} {a0 : Option Addr} {R : List R3} {a1 : Option Addr} {Rt : List Int} {a2 : Option Addr} {X : List Rn} {t l n : Nat} {x : Sp} (h : Chk B w a0 R a1 Rt a2 X t l n x) (ha : a1 ≠ none) {i : Nat} (hi : i < n) :
    ∃ y b1 o1 b2 o2, x.ta = some ⟨b1, o1, none⟩ ∧ b1 < B ∧ a1 = some ⟨b2, o2, none⟩ ∧ b2 < B ∧ ∀ w', Below B w w' →
      w'.cell? ⟨b1, o1 + i, none⟩ = some (.int .i64 y) ∧ w'.cell? ⟨b2, o2 + (l + i), none⟩ = some (.int .i64 y) := by
  have hlr := (h.tn ha).2
  obtain ⟨y, hy⟩ := getlt (l := (Rt.drop l).take n) (k := i) (by simp; omega)
  obtain ⟨b1, o1, he1, hb1, hc1⟩ := h.ta.i1 hy
  obtain ⟨b2, o2, he2, hb2, hc2⟩ := h.rt.i1 (take_drop_get hy)
  exact ⟨y, b1, o1, b2, o2, he1, hb1, he2, hb2, fun w' hb => ⟨hc1 w' hb, hc2 w' hb⟩⟩
end Go.Proofs.Qxb6003232a.Kp
