/-
  FnKeepGathers..: worlds, what is known of the six arguments; zzBytes (14), zkSmall (15), zkPartFits (16).
-/
import Derived.Test.Qxb6003232aRows
import Derived.WalkKit
import Derived.ProofKit
import Derived.OpenShut
import Derived.WalkSpells
import Derived.WalkSmall
import Derived.WalkLawsBesides
import Derived.Laws.OwnMore
import Derived.Laws.StructEq
namespace Go.Proofs.Qxb6003232a.Kp
open Go.ChangeShapes Go.WideShapes Go.ChangeAt Go.RowKit
set_option linter.unusedVariables false

theorem hide {p : Prop} (h : p) : Hid p := h
theorem unhide {p : Prop} (h : Hid p) : p := h
theorem ret_bool {a b : Bool} (h : a = b) : Ending.returned (.bool a) = .returned (.bool b) := by rw [h]

/-- w' is w but for new blocks and for the blocks of p -/
structure Fr (p : Nat → Prop) (w w' : World) : Prop where
  os : w'.os = w.os
  tape : w'.tape = w.tape
  output : w'.output = w.output
  size : w.heap.size ≤ w'.heap.size
  block : ∀ k, k < w.heap.size → ¬ p k → w'.heap[k]? = w.heap[k]?
theorem Fr.refl (p : Nat → Prop) (w : World) : Fr p w w := ⟨rfl, rfl, rfl, Nat.le_refl _, fun _ _ _ => rfl⟩
theorem Fr.trans {p : Nat → Prop} {a b c : World} (h : Fr p a b) (k : Fr p b c) : Fr p a c :=
  ⟨k.os.trans h.os, k.tape.trans h.tape, k.output.trans h.output, Nat.le_trans h.size k.size, fun i hi hp => (k.block i (Nat.lt_of_lt_of_le hi h.size) hp).trans (h.block i hi hp)⟩
theorem Fr.mono {p q : Nat → Prop} {a b : World} (h : Fr p a b) (hq : ∀ k, k < a.heap.size → p k → q k) : Fr q a b :=
  ⟨h.os, h.tape, h.output, h.size, fun k hk hn => h.block k hk (fun hp => hn (hq k hk hp))⟩
theorem Fr.drew {p : Nat → Prop} {a w : World} (h : Fr p a w) : Fr p a w.drew := ⟨h.os, h.tape, h.output, h.size, h.block⟩
theorem Fr.alloc {p : Nat → Prop} {a w : World} (h : Fr p a w) (o : Obj) : Fr p a (w.alloc o) :=
  ⟨h.os, h.tape, h.output, by have := h.size; show a.heap.size ≤ (w.heap.push o).size; simp; omega, fun k hk hn => (Below.heap_alloc w o k (Nat.lt_of_lt_of_le hk h.size)).trans (h.block k hk hn)⟩
theorem Fr.setCell {p : Nat → Prop} {a w : World} (h : Fr p a w) {x : Addr} (hx : p x.block ∨ a.heap.size ≤ x.block) (u : Value) : Fr p a (w.setCell x u) :=
  ⟨h.os, h.tape, h.output, by have := h.size; simpa [World.setCell] using this, fun k hk hn => (Below.heap_setCell w x u k (fun e => by
    subst e
    rcases hx with hx | hx
    · exact hn hx
    · omega)).trans (h.block k hk hn)⟩
theorem Fr.grown {p : Nat → Prop} {a w w' : World} {row : Option Nat} (h : Fr p a w) (hg : w.grownBy w' row) (hr : ∀ k, row = some k → p k ∨ a.heap.size ≤ k) : Fr p a w' :=
  ⟨hg.os.trans h.os, hg.tape.trans h.tape, hg.output.trans h.output, Nat.le_trans h.size hg.size, fun k hk hn => by
    rw [hg.block k (Nat.lt_of_lt_of_le hk h.size) (fun e => by
      rcases hr k e.symm with q | q
      · exact hn q
      · omega)]
    exact h.block k hk hn⟩
theorem Fr.below {p : Nat → Prop} {B : Nat} {w w' : World} (h : Fr p w w') (hB : B ≤ w.heap.size) (hp : ∀ k, p k → B ≤ k) : Below B w w' :=
  ⟨h.os, h.tape, h.output, h.size, fun k hk => h.block k (by omega) (fun q => by have := hp k q; omega)⟩
theorem Fr.of_below {B : Nat} {w w' : World} (h : Below B w w') : Fr (fun k => B ≤ k) w w' :=
  ⟨h.os, h.tape, h.output, h.size, fun k _ hn => h.block k (by omega)⟩

/-- block g holds the list l (by f), none of it frozen -/
def Ar {α : Type} (f : α → Value) (w : World) (g : Nat) (l : List α) (e : TypeId) : Prop := w.heap[g]? = some (.cells (l.map f).toArray e (0, 0))
section
variable {α : Type} {f : α → Value} {w : World} {g : Nat} {l : List α} {e : TypeId}
theorem Ar.cell (h : Ar f w g l e) (i : Nat) : w.cell? ⟨g, i, none⟩ = (l[i]?).map f := by
  unfold Ar at h; simp [World.cell?, h]
theorem Ar.at (h : Ar f w g l e) {i : Nat} {x : α} (hx : l[i]? = some x) : w.cell? ⟨g, i, none⟩ = some (f x) := by
  rw [h.cell, hx]; rfl
theorem Ar.free (h : Ar f w g l e) (i : Nat) : w.frozen? ⟨g, i, none⟩ = false := by
  unfold Ar at h; simp [World.frozen?, h]
theorem Ar.lt (h : Ar f w g l e) : g < w.heap.size := lt_of_block h
theorem Ar.set (h : Ar f w g l e) (i : Nat) (x : α) : Ar f (w.setCell ⟨g, i, none⟩ (f x)) g (l.set i x) e := by
  have hlt := h.lt
  unfold Ar at h ⊢
  have h' : w.heap[g] = .cells (l.map f).toArray e (0, 0) := by simpa [Array.getElem?_eq_getElem hlt] using h
  show (w.heap.modify g _)[g]? = _
  rw [Array.getElem?_eq_getElem (by simpa using hlt), Array.getElem_modify_self, h']
  simp
theorem Ar.set_other (h : Ar f w g l e) {a : Addr} (ha : g ≠ a.block) (v : Value) : Ar f (w.setCell a v) g l e := by
  unfold Ar at h ⊢; rw [Below.heap_setCell _ _ _ _ ha]; exact h
theorem Ar.alloc (h : Ar f w g l e) (o : Obj) : Ar f (w.alloc o) g l e := by
  have hlt := h.lt
  unfold Ar at h ⊢; rw [Below.heap_alloc _ _ _ hlt]; exact h
theorem Ar.fr {w' : World} {p : Nat → Prop} (h : Ar f w g l e) (hb : Fr p w w') (hg : ¬ p g) : Ar f w' g l e := by
  have hlt := h.lt
  unfold Ar at h ⊢; rw [hb.block g hlt hg]; exact h
theorem Ar.new (w : World) (f : α → Value) (l : List α) (e : TypeId) : Ar f (w.alloc (.cells (l.map f).toArray e)) w.heap.size l e := heap_alloc_new w _
theorem made_one (z : Value) (n : Nat) : madeCells #[z] n = (List.replicate n z).toArray := by
  unfold madeCells
  apply Array.ext
  · simp
  · intro i h1 h2
    simp [Nat.mod_one]
theorem Ar.made (w : World) (f : α → Value) (z : α) (n : Nat) (e : TypeId) : Ar f (w.alloc (.cells (madeCells #[f z] n) e)) w.heap.size (List.replicate n z) e := by
  have := Ar.new w f (List.replicate n z) e
  rw [List.map_replicate] at this
  rw [made_one]; exact this
end

theorem Ar.below {α : Type} {f : α → Value} {w w' : World} {g B : Nat} {l : List α} {e : TypeId} (h : Ar f w g l e) (hb : Below B w w') (hg : g < B) : Ar f w' g l e := h.fr (Fr.of_below hb) (by omega)
theorem getlt {α : Type} {l : List α} {k : Nat} (h : k < l.length) : ∃ x, l[k]? = some x := ⟨_, List.getElem?_eq_getElem h⟩
/-- it returns some Bool, of which Q holds -/
def BPost (Q : Bool → Prop) (e : Ending) : Prop := ∃ r, e = .returned (.bool r) ∧ Q r

/-- a row of a part: month, line, hours -/
structure R3 where
  m : Int
  l : Int
  h : Int
/-- a run of a part -/
structure Rn where
  s : ByteArray
  born : Int
  listed : Bool
  fin : Int
def f3 (r : R3) : List Value := [.int .i32 r.m, .int .u32 r.l, .int .i64 r.h]
def f4 (r : Rn) : List Value := [.string r.s, .int .i64 r.born, .bool r.listed, .int .i64 r.fin]
def f1 (x : Int) : List Value := [.int .i64 x]

/-- the slice at a holds the elements xs, sz cells each, in a block below B -/
def Arr {α : Type} (f : α → List Value) (sz B : Nat) (w : World) (a : Option Addr) (xs : List α) : Prop :=
  xs = [] ∨ ∃ b off, a = some ⟨b, off, none⟩ ∧ b < B ∧ ∀ i x, xs[i]? = some x → ∀ j v, (f x)[j]? = some v → w.cell? ⟨b, off + i * sz + j, none⟩ = some v
section
variable {α : Type} {f : α → List Value} {sz B : Nat} {w w' : World} {a : Option Addr} {xs : List α}
theorem Arr.below (h : Arr f sz B w a xs) (hb : Below B w w') : Arr f sz B w' a xs := by
  rcases h with h | ⟨b, off, ha, hlt, hr⟩
  · exact Or.inl h
  · exact Or.inr ⟨b, off, ha, hlt, fun i x hi j v hj => (hb.cell hlt).trans (hr i x hi j v hj)⟩
theorem Arr.mono (h : Arr f sz B w a xs) {B' : Nat} (hb : B ≤ B') : Arr f sz B' w a xs := by
  rcases h with h | ⟨b, off, ha, hlt, hr⟩
  · exact Or.inl h
  · exact Or.inr ⟨b, off, ha, by omega, hr⟩
/-- the i-th element, in whatever later world -/
theorem Arr.later (h : Arr f sz B w a xs) {i : Nat} {x : α} (hi : xs[i]? = some x) :
    ∃ b off, a = some ⟨b, off, none⟩ ∧ b < B ∧ ∀ w', Below B w w' → ∀ j v, (f x)[j]? = some v → w'.cell? ⟨b, off + i * sz + j, none⟩ = some v := by
  rcases h with rfl | ⟨b, off, ha, hlt, hr⟩
  · simp at hi
  · exact ⟨b, off, ha, hlt, fun w' hb j v hj => (hb.cell hlt).trans (hr i x hi j v hj)⟩
end
theorem Arr.r3 {B : Nat} {w : World} {a : Option Addr} {xs : List R3} (h : Arr f3 3 B w a xs) {i : Nat} {x : R3} (hi : xs[i]? = some x) :
    ∃ b off, a = some ⟨b, off, none⟩ ∧ b < B ∧ ∀ w', Below B w w' → w'.cell? ⟨b, off + i * 3, none⟩ = some (.int .i32 x.m) ∧ w'.cell? ⟨b, off + i * 3 + 1, none⟩ = some (.int .u32 x.l) ∧ w'.cell? ⟨b, off + i * 3 + 2, none⟩ = some (.int .i64 x.h) := by
  obtain ⟨b, off, h1, h2, h3⟩ := h.later hi
  exact ⟨b, off, h1, h2, fun w' hb => ⟨h3 w' hb 0 _ rfl, h3 w' hb 1 _ rfl, h3 w' hb 2 _ rfl⟩⟩
theorem Arr.rn {B : Nat} {w : World} {a : Option Addr} {xs : List Rn} (h : Arr f4 4 B w a xs) {i : Nat} {x : Rn} (hi : xs[i]? = some x) :
    ∃ b off, a = some ⟨b, off, none⟩ ∧ b < B ∧ ∀ w', Below B w w' → w'.cell? ⟨b, off + i * 4, none⟩ = some (.string x.s) ∧ w'.cell? ⟨b, off + i * 4 + 1, none⟩ = some (.int .i64 x.born) ∧ w'.cell? ⟨b, off + i * 4 + 2, none⟩ = some (.bool x.listed) ∧ w'.cell? ⟨b, off + i * 4 + 3, none⟩ = some (.int .i64 x.fin) := by
  obtain ⟨b, off, h1, h2, h3⟩ := h.later hi
  exact ⟨b, off, h1, h2, fun w' hb => ⟨h3 w' hb 0 _ rfl, h3 w' hb 1 _ rfl, h3 w' hb 2 _ rfl, h3 w' hb 3 _ rfl⟩⟩
theorem Arr.i1 {B : Nat} {w : World} {a : Option Addr} {xs : List Int} (h : Arr f1 1 B w a xs) {i : Nat} {x : Int} (hi : xs[i]? = some x) :
    ∃ b off, a = some ⟨b, off, none⟩ ∧ b < B ∧ ∀ w', Below B w w' → w'.cell? ⟨b, off + i, none⟩ = some (.int .i64 x) := by
  obtain ⟨b, off, h1, h2, h3⟩ := h.later hi
  refine ⟨b, off, h1, h2, fun w' hb => ?_⟩
  have := h3 w' hb 0 _ rfl
  simpa using this

theorem bytes_calls (B : Nat) (a0 a1 a2 a3 a4 a5 : Option Addr) (n0 c0 n1 c1 c2 n3 c3 n4 c4 c5 : Nat) (xa xb : List Rn) (w : World) (ha : Arr f4 4 B w a2 xa) (hb : Arr f4 4 B w a5 xb)
    (h0 : n0 ≤ 9223372036854775807) (h1 : n1 ≤ 9223372036854775807) (h2 : xa.length ≤ 9223372036854775807) (h3 : n3 ≤ 9223372036854775807) (h4 : n4 ≤ 9223372036854775807) (h5 : xb.length ≤ 9223372036854775807) :
    Calls Try.prog 14 #[.slice a0 n0 c0, .slice a1 n1 c1, .slice a2 xa.length c2, .slice a3 n3 c3, .slice a4 n4 c4, .slice a5 xb.length c5] w fun e w' => BPost (fun _ => True) e ∧ w' = w := by
  have HA := hide ha
  have HB := hide hb
  clear ha hb
  go_enter Try.func14, Try.ntmps14
  go_wp2
  all_goals (first | (go_ret; exact ⟨⟨_, rfl, trivial⟩, rfl⟩) | skip)
  go_loop [13, 14] (fun z i => ∃ k : Nat, ∃ y : Int, k ≤ xa.length ∧ i = .int .i64 k ∧ z = .int .i64 y) (fun _ i => xa.length - (intOf i).toNat)
  case atStart => exact ⟨0, _, by omega, rfl, rfl⟩
  case round =>
    obtain ⟨k, y, hk, rfl, rfl⟩ := hrel
    by_cases hlt : k < xa.length
    · obtain ⟨x, hx⟩ := getlt hlt
      obtain ⟨b, off, hea, -, hc⟩ := (unhide HA).rn hx
      subst hea
      obtain ⟨q0, -, -, -⟩ := hc w (Below.refl _ _)
      clear hx hc
      go_wp2
      all_goals (first | (go_ret; exact ⟨⟨_, rfl, trivial⟩, rfl⟩) | skip)
      go_round
      case rel => exact ⟨k + 1, _, by omega, by go_num, rfl⟩
      case measure => simp [intOf]; omega
    · go_wp2
      all_goals (first | (go_ret; exact ⟨⟨_, rfl, trivial⟩, rfl⟩) | skip)
      go_loop [13, 15] (fun z i => ∃ k : Nat, ∃ y : Int, k ≤ xb.length ∧ i = .int .i64 k ∧ z = .int .i64 y) (fun _ i => xb.length - (intOf i).toNat)
      case atStart => exact ⟨0, _, by omega, rfl, rfl⟩
      case round =>
        obtain ⟨k2, y2, hk2, rfl, rfl⟩ := hrel
        by_cases hlt2 : k2 < xb.length
        · obtain ⟨x, hx⟩ := getlt hlt2
          obtain ⟨b, off, hea, -, hc⟩ := (unhide HB).rn hx
          subst hea
          obtain ⟨q0, -, -, -⟩ := hc w (Below.refl _ _)
          clear hx hc
          go_wp2
          all_goals (first | (go_ret; exact ⟨⟨_, rfl, trivial⟩, rfl⟩) | skip)
          go_round
          case rel => exact ⟨k2 + 1, _, by omega, by go_num, rfl⟩
          case measure => simp [intOf]; omega
        · go_wp2
          go_ret
          exact ⟨⟨_, rfl, trivial⟩, rfl⟩

/-- what zkSmall's yes says -/
def Small (n0 n1 n2 n3 n4 n5 : Nat) : Prop := n0 ≤ 65536 ∧ n1 ≤ 65536 ∧ n2 ≤ 4096 ∧ n3 ≤ 65536 ∧ n4 ≤ 65536 ∧ n5 ≤ 4096

theorem small_calls (B : Nat) (a0 a1 a2 a3 a4 a5 : Option Addr) (n0 c0 n1 c1 c2 n3 c3 n4 c4 c5 : Nat) (xa xb : List Rn) (w : World) (ha : Arr f4 4 B w a2 xa) (hb : Arr f4 4 B w a5 xb)
    (h0 : n0 ≤ 9223372036854775807) (h1 : n1 ≤ 9223372036854775807) (h2 : xa.length ≤ 9223372036854775807) (h3 : n3 ≤ 9223372036854775807) (h4 : n4 ≤ 9223372036854775807) (h5 : xb.length ≤ 9223372036854775807) :
    Calls Try.prog 15 #[.slice a0 n0 c0, .slice a1 n1 c1, .slice a2 xa.length c2, .slice a3 n3 c3, .slice a4 n4 c4, .slice a5 xb.length c5] w fun e w' => BPost (fun r => r = true → Small n0 n1 xa.length n3 n4 xb.length) e ∧ w' = w := by
  have HA := hide ha
  have HB := hide hb
  clear ha hb
  by_cases g : n0 ≤ 65536 ∧ n1 ≤ 65536 ∧ n3 ≤ 65536 ∧ n4 ≤ 65536 ∧ xa.length ≤ 4096 ∧ xb.length ≤ 4096
  rotate_left
  · go_enter Try.func15, Try.ntmps15
    go_wp2
    all_goals (first | (go_ret; exact ⟨⟨false, rfl, fun h => by cases h⟩, rfl⟩) | skip)
    go_goals
    all_goals (exfalso; apply g; refine ⟨?_, ?_, ?_, ?_, ?_, ?_⟩ <;> omega)
  obtain ⟨g0, g1, g3, g4, g2, g5⟩ := g
  have HS : Hid (Small n0 n1 xa.length n3 n4 xb.length) := ⟨g0, g1, g2, g3, g4, g5⟩
  go_enter Try.func15, Try.ntmps15
  go_wp2
  all_goals (first | (go_ret; exact ⟨⟨false, rfl, fun h => by cases h⟩, rfl⟩) | skip)
  go_loop [13, 14] (fun z i => ∃ k : Nat, ∃ y : Int, k ≤ xa.length ∧ i = .int .i64 k ∧ z = .int .i64 y) (fun _ i => xa.length - (intOf i).toNat)
  case atStart => exact ⟨0, _, by omega, rfl, rfl⟩
  case round =>
    obtain ⟨k, y, hk, rfl, rfl⟩ := hrel
    by_cases hlt : k < xa.length
    · obtain ⟨x, hx⟩ := getlt hlt
      obtain ⟨b, off, hea, -, hc⟩ := (unhide HA).rn hx
      subst hea
      obtain ⟨q0, -, -, -⟩ := hc w (Below.refl _ _)
      clear hx hc
      go_wp2
      all_goals (first | (go_ret; exact ⟨⟨false, rfl, fun h => by cases h⟩, rfl⟩) | skip)
      go_round
      case rel => exact ⟨k + 1, _, by omega, by go_num, rfl⟩
      case measure => simp [intOf]; omega
    · go_wp2
      go_loop [13, 15] (fun z i => ∃ k : Nat, ∃ y : Int, k ≤ xb.length ∧ i = .int .i64 k ∧ z = .int .i64 y) (fun _ i => xb.length - (intOf i).toNat)
      case atStart => exact ⟨0, _, by omega, rfl, rfl⟩
      case round =>
        obtain ⟨k2, y2, hk2, rfl, rfl⟩ := hrel
        by_cases hlt2 : k2 < xb.length
        · obtain ⟨x, hx⟩ := getlt hlt2
          obtain ⟨b, off, hea, -, hc⟩ := (unhide HB).rn hx
          subst hea
          obtain ⟨q0, -, -, -⟩ := hc w (Below.refl _ _)
          clear hx hc
          go_wp2
          all_goals (first | (go_ret; exact ⟨⟨false, rfl, fun h => by cases h⟩, rfl⟩) | skip)
          go_round
          case rel => exact ⟨k2 + 1, _, by omega, by go_num, rfl⟩
          case measure => simp [intOf]; omega
        · go_wp2
          go_ret
          exact ⟨⟨true, rfl, fun _ => unhide HS⟩, rfl⟩

/-- where the k-th run of a part begins -/
def from_ (xs : List Rn) : Nat → Int
  | 0 => 0
  | k + 1 => match xs[k]? with
    | some r => r.fin
    | none => 0
/-- the runs' ends climb from 0 and stay within the rows -/
def Fits (n : Nat) (xs : List Rn) : Prop := ∀ k r, xs[k]? = some r → from_ xs k ≤ r.fin ∧ r.fin ≤ (n : Int)
theorem from_succ {xs : List Rn} {k : Nat} {r : Rn} (h : xs[k]? = some r) : from_ xs (k + 1) = r.fin := by simp [from_, h]

def PF (a1 : Option Addr) (n1 n0 : Nat) (xs : List Rn) (r : Bool) : Prop := r = true → (a1 ≠ none → n1 = n0) ∧ Fits n0 xs
theorem fits_calls (B : Nat) (a0 a1 a2 : Option Addr) (n0 c0 n1 c1 c2 : Nat) (xs : List Rn) (w : World) (ha : Arr f4 4 B w a2 xs)
    (h0 : n0 ≤ 65536) (h1 : n1 ≤ 65536) (h2 : xs.length ≤ 4096) :
    Calls Try.prog 16 #[.slice a0 n0 c0, .slice a1 n1 c1, .slice a2 xs.length c2] w fun e w' => BPost (PF a1 n1 n0 xs) e ∧ w' = w := by
  have HA := hide ha
  clear ha
  have hnl := fun (w : World) (a : Option Addr) (l c : Nat) => run_neq_slice_nil_any (P := Try.prog) w 36 2 a l c 0 0 Try.underlying36
  by_cases g : a1 ≠ none → n1 = n0
  rotate_left
  · have g1 : a1 ≠ none := fun h => g (fun q => absurd h q)
    have g2 : n1 ≠ n0 := fun h => g (fun _ => h)
    have g3 : (((n1 : Int)) != (n0 : Int)) = true := by rw [bne_iff_ne]; omega
    obtain ⟨ad, rfl⟩ : ∃ ad, a1 = some ad := by
      cases a1 with
      | none => exact absurd rfl g1
      | some ad => exact ⟨ad, rfl⟩
    clear g g1 g2
    go_enter Try.func16, Try.ntmps16
    go_wp2
    go_ret
    exact ⟨⟨false, rfl, fun h => by cases h⟩, rfl⟩
  have HG := hide g
  have key : (a1 = none) ∨ ((∃ ad, a1 = some ad) ∧ (((n1 : Int)) != (n0 : Int)) = false) := by
    cases a1 with
    | none => exact Or.inl rfl
    | some ad => exact Or.inr ⟨⟨ad, rfl⟩, by rw [g (by simp)]; simp⟩
  clear g
  rcases key with rfl | ⟨⟨ad, rfl⟩, hne⟩
  all_goals
    go_enter Try.func16, Try.ntmps16
    go_wp2
    go_loop [7, 8] (fun f i => ∃ k : Nat, k ≤ xs.length ∧ i = .int .i64 k ∧ f = .int .i64 (from_ xs k) ∧ ∀ j r, j < k → xs[j]? = some r → from_ xs j ≤ r.fin ∧ r.fin ≤ (n0 : Int)) (fun _ i => xs.length - (intOf i).toNat)
    case atStart => exact ⟨0, by omega, rfl, rfl, by intro j r hj; omega⟩
    case round =>
      obtain ⟨k, hk, rfl, rfl, hd⟩ := hrel
      have HD := hide hd
      clear hd
      by_cases hlt : k < xs.length
      · obtain ⟨x, hx⟩ := getlt hlt
        obtain ⟨b, off, hea, -, hc⟩ := (unhide HA).rn hx
        subst hea
        obtain ⟨-, -, -, q3⟩ := hc w (Below.refl _ _)
        have HX := hide hx
        clear hx hc
        generalize hf : from_ xs k = fr at *
        have HF := hide hf
        clear hf
        by_cases e1 : x.fin < fr
        · go_wp2
          go_ret
          exact ⟨⟨false, rfl, fun h => by cases h⟩, rfl⟩
        by_cases e2 : (n0 : Int) < x.fin
        · go_wp2
          go_ret
          exact ⟨⟨false, rfl, fun h => by cases h⟩, rfl⟩
        go_wp2
        go_round
        case rel =>
          refine ⟨k + 1, by omega, by go_num, by rw [from_succ (unhide HX)], ?_⟩
          intro j r hj hr
          by_cases e : j = k
          · subst e
            rw [unhide HX] at hr
            obtain rfl := Option.some.inj hr
            rw [unhide HF]
            exact ⟨by omega, by omega⟩
          · exact unhide HD j r (by omega) hr
        case measure => simp [intOf]; omega
      · go_wp2
        go_ret
        refine ⟨⟨true, rfl, fun _ => ⟨unhide HG, fun j r hr => unhide HD j r ?_ hr⟩⟩, rfl⟩
        have := (List.getElem?_eq_some_iff.1 hr).1
        omega
end Go.Proofs.Qxb6003232a.Kp
