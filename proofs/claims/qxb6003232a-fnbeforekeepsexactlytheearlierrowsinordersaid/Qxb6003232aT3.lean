import Derived.Test.Qxb6003232aT2
import Derived.Deep.RegionHeld3
import Derived.Deep.DrawnRows
namespace Go.Proofs.Qxb6003232a.Bef
open Go.ChangeShapes Go.WideShapes Go.ChangeAt Go.RowKit
set_option linter.unusedVariables false

/-- block g holds the cells cs, none of them frozen -/
def Blk (w : World) (g : Nat) (cs : Array Value) (e : TypeId) : Prop := w.heap[g]? = some (.cells cs e (0, 0))
theorem Blk.cell {w : World} {g : Nat} {cs : Array Value} {e : TypeId} (h : Blk w g cs e) (i : Nat) : w.cell? ⟨g, i, none⟩ = cs[i]? := by
  unfold Blk at h; simp [World.cell?, h]
theorem Blk.free {w : World} {g : Nat} {cs : Array Value} {e : TypeId} (h : Blk w g cs e) (i : Nat) : w.frozen? ⟨g, i, none⟩ = false := by
  unfold Blk at h; simp [World.frozen?, h]
theorem Blk.lt {w : World} {g : Nat} {cs : Array Value} {e : TypeId} (h : Blk w g cs e) : g < w.heap.size := lt_of_block h
theorem Blk.set {w : World} {g : Nat} {cs : Array Value} {e : TypeId} (h : Blk w g cs e) (i : Nat) (v : Value) : Blk (w.setCell ⟨g, i, none⟩ v) g (cs.setIfInBounds i v) e := by
  have hlt := h.lt
  unfold Blk at h ⊢
  have h' : w.heap[g] = .cells cs e (0, 0) := by simpa [Array.getElem?_eq_getElem hlt] using h
  show (w.heap.modify g _)[g]? = _
  rw [Array.getElem?_eq_getElem (by simpa using hlt), Array.getElem_modify_self, h']
  rfl
theorem Blk.set_other {w : World} {g : Nat} {cs : Array Value} {e : TypeId} (h : Blk w g cs e) {a : Addr} (ha : g ≠ a.block) (v : Value) : Blk (w.setCell a v) g cs e := by
  unfold Blk at h ⊢; rw [Below.heap_setCell _ _ _ _ ha]; exact h
theorem Blk.alloc {w : World} {g : Nat} {cs : Array Value} {e : TypeId} (h : Blk w g cs e) (o : Obj) : Blk (w.alloc o) g cs e := by
  have hlt := h.lt
  unfold Blk at h ⊢; rw [Below.heap_alloc _ _ _ hlt]; exact h
theorem Blk.new (w : World) (cs : Array Value) (e : TypeId) : Blk (w.alloc (.cells cs e)) w.heap.size cs e := heap_alloc_new w _
theorem Blk.below {w w' : World} {B g : Nat} {cs : Array Value} {e : TypeId} (h : Blk w g cs e) (hb : Below B w w') (hg : g < B) : Blk w' g cs e := by
  unfold Blk at h ⊢; rw [hb.block g hg]; exact h

theorem info33 : (Try.prog.info? 33).map (fun i => (i.zero, i.size, i.bytes)) = some (some (.agg #[.int .i64 0, .int .i64 0, .int .i64 0, .int .i64 0]), 4, 32) := by kernel_rfl

theorem far1 {b g : Nat} (hne : b ≠ g) (w : World) (o j : Nat) (v : Value) : (w.setCell ⟨g, j, none⟩ v).cell? ⟨b, o, none⟩ = w.cell? ⟨b, o, none⟩ :=
  World.cell?_of_block (w := w) (Below.heap_setCell _ _ _ _ hne)
theorem rows_step {wr : World} {g n k : Nat} {cs : Array Value} {xs : List R} {r : R} (hB : Blk wr g cs 33) (hcs : cs.size = n * 4) (hk : k < n) (hr : xs[k]? = some r) (hrows : RowsAt wr g 0 (xs.take k)) :
    (∃ cs, Blk ((((wr.setCell ⟨g, k * 4, none⟩ (.int .i64 r.m)).setCell ⟨g, k * 4 + 1, none⟩ (.int .i64 r.h)).setCell ⟨g, k * 4 + 2, none⟩ (.int .i64 r.c)).setCell ⟨g, k * 4 + 3, none⟩ (.int .i64 r.l)).drew g cs 33 ∧ cs.size = n * 4) ∧
    RowsAt ((((wr.setCell ⟨g, k * 4, none⟩ (.int .i64 r.m)).setCell ⟨g, k * 4 + 1, none⟩ (.int .i64 r.h)).setCell ⟨g, k * 4 + 2, none⟩ (.int .i64 r.c)).setCell ⟨g, k * 4 + 3, none⟩ (.int .i64 r.l)).drew g 0 (xs.take (k + 1)) := by
  have h4 : Blk ((((wr.setCell ⟨g, k * 4, none⟩ (.int .i64 r.m)).setCell ⟨g, k * 4 + 1, none⟩ (.int .i64 r.h)).setCell ⟨g, k * 4 + 2, none⟩ (.int .i64 r.c)).setCell ⟨g, k * 4 + 3, none⟩ (.int .i64 r.l)).drew g ((((cs.setIfInBounds (k * 4) (.int .i64 r.m)).setIfInBounds (k * 4 + 1) (.int .i64 r.h)).setIfInBounds (k * 4 + 2) (.int .i64 r.c)).setIfInBounds (k * 4 + 3) (.int .i64 r.l)) 33 :=
    (((hB.set _ _).set _ _).set _ _).set _ _
  refine ⟨⟨_, h4, by simpa using hcs⟩, fun i r' hi => ?_⟩
  rw [h4.cell, h4.cell, h4.cell, h4.cell]
  have hi' : i ≤ k := by
    have := (List.getElem?_eq_some_iff.1 hi).1
    simp at this; omega
  by_cases hik : i = k
  · subst hik
    have : r' = r := by
      rw [List.getElem?_take_of_lt (by omega), hr] at hi
      exact (Option.some.inj hi).symm
    subst this
    simp only [Array.getElem?_setIfInBounds, Nat.zero_add]
    refine ⟨?_, ?_, ?_, ?_⟩ <;> simp [hcs] <;> omega
  · have hlt : i < k := by omega
    have ho := hrows i r' (by rw [List.getElem?_take_of_lt hlt]; rwa [List.getElem?_take_of_lt (by omega)] at hi)
    rw [hB.cell, hB.cell, hB.cell, hB.cell] at ho
    simp only [Array.getElem?_setIfInBounds]
    obtain ⟨o0, o1, o2, o3⟩ := ho
    refine ⟨?_, ?_, ?_, ?_⟩
    · rw [if_neg (by omega), if_neg (by omega), if_neg (by omega), if_neg (by omega)]; exact o0
    · rw [if_neg (by omega), if_neg (by omega), if_neg (by omega), if_neg (by omega)]; exact o1
    · rw [if_neg (by omega), if_neg (by omega), if_neg (by omega), if_neg (by omega)]; exact o2
    · rw [if_neg (by omega), if_neg (by omega), if_neg (by omega), if_neg (by omega)]; exact o3
set_option maxRecDepth 100000 in
theorem rows_calls (ad : Addr) (n cap : Nat) (xs : List R) (w : World) (hs : Sl w (some ad) n xs) (hn : n ≤ 1000000) :
    Calls Try.prog 9 #[.slice (some ad) n cap] w fun e w' => e = .returned (.slice (some ⟨w.heap.size, 0, none⟩) n n) ∧ Below w.heap.size w w' ∧ RowsAt w' w.heap.size 0 xs ∧ w.heap.size < w'.heap.size := by
  obtain ⟨i0, hi, hz0, hz1, hz2⟩ := info_parts info33
  have hmk := run_make (P := Try.prog) w 24 33 i0 _ Try.underlying24 hi hz0 .i64 .i64 n n (by omega) (by omega) (by rw [hz2]; omega) (by omega)
  rw [hz1] at hmk
  simp only [Int.toNat_natCast] at hmk
  have HS := hide hs
  have HL := hide hs.1
  clear hs hi hz0 hz1 hz2
  have hnl := fun (w : World) (a : Option Addr) (l c : Nat) => Lib.run_eql_slice_nil (P := Try.prog) w 22 61 a l c 0 0 Try.underlying22
  go_enter Try.func9, Try.ntmps9
  go_wp2
  go_loopw [4] (fun i wr => ∃ k : Nat, k ≤ n ∧ i = .int .i64 k ∧ (∃ cs, Blk wr w.heap.size cs 33 ∧ cs.size = n * 4) ∧ RowsAt wr w.heap.size 0 (xs.take k) ∧ Below w.heap.size w wr) (fun i _ => n - (intOf i).toNat)
  case atStart => exact ⟨0, by omega, rfl, ⟨_, Blk.new _ _ _, size_madeCells _ _⟩, fun i r hi => by simp at hi, (Below.refl _ _).alloc (Nat.le_refl _) _⟩
  case round =>
    obtain ⟨k, hk, rfl, ⟨cs, hB, hcs⟩, hrows, hbel⟩ := hrel
    by_cases hlt : k < n
    · obtain ⟨b, off, r, hx, hb, hr, c0, c1, c2, c3⟩ := (unhide HS).at hlt
      obtain rfl := Option.some.inj hx
      clear hx
      have hfar := far1 (show b ≠ w.heap.size by omega)
      have c0 := (hbel.cell (p := ⟨b, off + k * 4, none⟩) hb).trans c0
      have c1 := (hbel.cell (p := ⟨b, off + k * 4 + 1, none⟩) hb).trans c1
      have c2 := (hbel.cell (p := ⟨b, off + k * 4 + 2, none⟩) hb).trans c2
      have c3 := (hbel.cell (p := ⟨b, off + k * 4 + 3, none⟩) hb).trans c3
      obtain ⟨t0, d0⟩ : ∃ v, wr.cell? ⟨w.heap.size, k * 4, none⟩ = some v := ⟨_, (hB.cell _).trans (Array.getElem?_eq_getElem (by omega))⟩
      obtain ⟨t1, d1⟩ : ∃ v, wr.cell? ⟨w.heap.size, k * 4 + 1, none⟩ = some v := ⟨_, (hB.cell _).trans (Array.getElem?_eq_getElem (by omega))⟩
      obtain ⟨t2, d2⟩ : ∃ v, wr.cell? ⟨w.heap.size, k * 4 + 2, none⟩ = some v := ⟨_, (hB.cell _).trans (Array.getElem?_eq_getElem (by omega))⟩
      obtain ⟨t3, d3⟩ : ∃ v, wr.cell? ⟨w.heap.size, k * 4 + 3, none⟩ = some v := ⟨_, (hB.cell _).trans (Array.getElem?_eq_getElem (by omega))⟩
      have f0 := hB.free (k * 4)
      have f1 := hB.free (k * 4 + 1)
      have f2 := hB.free (k * 4 + 2)
      have f3 := hB.free (k * 4 + 3)
      have hB' := hide hB
      have hrows' := hide hrows
      have hcs' := hide hcs
      have hr' := hide hr
      have hb1 : (0 : Int) ≤ (k : Int) := by omega
      have hb2 : (k : Int) < (n : Int) := by omega
      clear hB hrows hcs hr
      go_wp2_with fail
      go_region_held3 (fun w' => w'.cell? ⟨b, off + k * 4, none⟩ = some (.int .i64 r.m) ∧ w'.cell? ⟨b, off + k * 4 + 1, none⟩ = some (.int .i64 r.h) ∧ w'.cell? ⟨b, off + k * 4 + 2, none⟩ = some (.int .i64 r.c) ∧ w'.cell? ⟨b, off + k * 4 + 3, none⟩ = some (.int .i64 r.l)) (go_keep) (fail)
      go_wp2
      have hst := rows_step (unhide hB') (unhide hcs') hlt (unhide hr') (unhide hrows')
      go_roundw
      case rel => exact ⟨k + 1, by omega, by go_num, hst.1, hst.2, ((((hbel.setCell (Nat.le_refl _) _).setCell (Nat.le_refl _) _).setCell (Nat.le_refl _) _).setCell (Nat.le_refl _) _).drew⟩
      case measure => simp [intOf]; omega
    · go_wp2
      go_ret
      refine ⟨rfl, hbel, ?_, hB.lt⟩
      rw [List.take_of_length_le (by have := unhide HL; omega)] at hrows
      exact hrows
end Go.Proofs.Qxb6003232a.Bef
