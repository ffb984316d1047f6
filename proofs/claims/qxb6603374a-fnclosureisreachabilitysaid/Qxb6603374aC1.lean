/-
  Worlds: a frame ('Fr'), arrays of the call's own ('Ar'), the argument ('Gr'); zzBytes (8), zzB1EdgesInRange (9).
-/
import Derived.Test.Qxb6603374aRows
import Derived.Test.Qxb6603374aC0
import Derived.WalkKit
import Derived.ProofKit
import Derived.OpenShut
import Derived.WalkSpells
import Derived.WalkSmall
import Derived.WalkLawsBesides
import Derived.Laws.OwnMore
namespace Go.Proofs.Qxb6603374a.G
open Go.ChangeShapes Go.WideShapes Go.ChangeAt Go.RowKit
set_option linter.unusedVariables false

theorem hide {p : Prop} (h : p) : Hid p := h
theorem unhide {p : Prop} (h : Hid p) : p := h
theorem ret_bool {a b : Bool} (h : a = b) : Ending.returned (.bool a) = .returned (.bool b) := by rw [h]

/-- w' is w but for new blocks and for the blocks of p -/
structure Fr (p : Nat → Prop) (w w' : World) : Prop where
  os : w'.os = w.os
  tape : w'.tape = w.tape
  output : w'.output = w.output
  size : w.heap.size ≤ w'.heap.size
  block : ∀ k, k < w.heap.size → ¬ p k → w'.heap[k]? = w.heap[k]?
theorem Fr.refl (p : Nat → Prop) (w : World) : Fr p w w := ⟨rfl, rfl, rfl, Nat.le_refl _, fun _ _ _ => rfl⟩
theorem Fr.trans {p : Nat → Prop} {a b c : World} (h : Fr p a b) (k : Fr p b c) : Fr p a c :=
  ⟨k.os.trans h.os, k.tape.trans h.tape, k.output.trans h.output, Nat.le_trans h.size k.size, fun i hi hp => (k.block i (Nat.lt_of_lt_of_le hi h.size) hp).trans (h.block i hi hp)⟩
theorem Fr.mono {p q : Nat → Prop} {a b : World} (h : Fr p a b) (hq : ∀ k, k < a.heap.size → p k → q k) : Fr q a b :=
  ⟨h.os, h.tape, h.output, h.size, fun k hk hn => h.block k hk (fun hp => hn (hq k hk hp))⟩
theorem Fr.drew {p : Nat → Prop} {a w : World} (h : Fr p a w) : Fr p a w.drew := ⟨h.os, h.tape, h.output, h.size, h.block⟩
theorem Fr.alloc {p : Nat → Prop} {a w : World} (h : Fr p a w) (o : Obj) : Fr p a (w.alloc o) :=
  ⟨h.os, h.tape, h.output, by have := h.size; show a.heap.size ≤ (w.heap.push o).size; simp; omega, fun k hk hn => (Below.heap_alloc w o k (Nat.lt_of_lt_of_le hk h.size)).trans (h.block k hk hn)⟩
theorem Fr.setCell {p : Nat → Prop} {a w : World} (h : Fr p a w) {x : Addr} (hx : p x.block ∨ a.heap.size ≤ x.block) (u : Value) : Fr p a (w.setCell x u) :=
  ⟨h.os, h.tape, h.output, by have := h.size; simpa [World.setCell] using this, fun k hk hn => (Below.heap_setCell w x u k (fun e => by
    subst e
    rcases hx with hx | hx
    · exact hn hx
    · omega)).trans (h.block k hk hn)⟩
theorem Fr.grown {p : Nat → Prop} {a w w' : World} {row : Option Nat} (h : Fr p a w) (hg : w.grownBy w' row) (hr : ∀ k, row = some k → p k ∨ a.heap.size ≤ k) : Fr p a w' :=
  ⟨hg.os.trans h.os, hg.tape.trans h.tape, hg.output.trans h.output, Nat.le_trans h.size hg.size, fun k hk hn => by
    rw [hg.block k (Nat.lt_of_lt_of_le hk h.size) (fun e => by
      rcases hr k e.symm with q | q
      · exact hn q
      · omega)]
    exact h.block k hk hn⟩
theorem Fr.below {p : Nat → Prop} {B : Nat} {w w' : World} (h : Fr p w w') (hB : B ≤ w.heap.size) (hp : ∀ k, p k → B ≤ k) : Below B w w' :=
  ⟨h.os, h.tape, h.output, h.size, fun k hk => h.block k (by omega) (fun q => by have := hp k q; omega)⟩
theorem Fr.of_below {B : Nat} {w w' : World} (h : Below B w w') : Fr (fun k => B ≤ k) w w' :=
  ⟨h.os, h.tape, h.output, h.size, fun k _ hn => h.block k (by omega)⟩

/-- block g holds the list l (by f), none of it frozen -/
def Ar {α : Type} (f : α → Value) (w : World) (g : Nat) (l : List α) (e : TypeId) : Prop := w.heap[g]? = some (.cells (l.map f).toArray e (0, 0))
section
variable {α : Type} {f : α → Value} {w : World} {g : Nat} {l : List α} {e : TypeId}
theorem Ar.cell (h : Ar f w g l e) (i : Nat) : w.cell? ⟨g, i, none⟩ = (l[i]?).map f := by
  unfold Ar at h; simp [World.cell?, h]
theorem Ar.at (h : Ar f w g l e) {i : Nat} {x : α} (hx : l[i]? = some x) : w.cell? ⟨g, i, none⟩ = some (f x) := by
  rw [h.cell, hx]; rfl
theorem Ar.free (h : Ar f w g l e) (i : Nat) : w.frozen? ⟨g, i, none⟩ = false := by
  unfold Ar at h; simp [World.frozen?, h]
theorem Ar.lt (h : Ar f w g l e) : g < w.heap.size := lt_of_block h
theorem Ar.set (h : Ar f w g l e) (i : Nat) (x : α) : Ar f (w.setCell ⟨g, i, none⟩ (f x)) g (l.set i x) e := by
  have hlt := h.lt
  unfold Ar at h ⊢
  have h' : w.heap[g] = .cells (l.map f).toArray e (0, 0) := by simpa [Array.getElem?_eq_getElem hlt] using h
  show (w.heap.modify g _)[g]? = _
  rw [Array.getElem?_eq_getElem (by simpa using hlt), Array.getElem_modify_self, h']
  simp
theorem Ar.set_other (h : Ar f w g l e) {a : Addr} (ha : g ≠ a.block) (v : Value) : Ar f (w.setCell a v) g l e := by
  unfold Ar at h ⊢; rw [Below.heap_setCell _ _ _ _ ha]; exact h
theorem Ar.alloc (h : Ar f w g l e) (o : Obj) : Ar f (w.alloc o) g l e := by
  have hlt := h.lt
  unfold Ar at h ⊢; rw [Below.heap_alloc _ _ _ hlt]; exact h
theorem Ar.fr {w' : World} {p : Nat → Prop} (h : Ar f w g l e) (hb : Fr p w w') (hg : ¬ p g) : Ar f w' g l e := by
  have hlt := h.lt
  unfold Ar at h ⊢; rw [hb.block g hlt hg]; exact h
theorem Ar.new (w : World) (f : α → Value) (l : List α) (e : TypeId) : Ar f (w.alloc (.cells (l.map f).toArray e)) w.heap.size l e := heap_alloc_new w _
theorem made_one (z : Value) (n : Nat) : madeCells #[z] n = (List.replicate n z).toArray := by
  unfold madeCells
  apply Array.ext
  · simp
  · intro i h1 h2
    simp [Nat.mod_one]
theorem Ar.made (w : World) (f : α → Value) (z : α) (n : Nat) (e : TypeId) : Ar f (w.alloc (.cells (madeCells #[f z] n) e)) w.heap.size (List.replicate n z) e := by
  have := Ar.new w f (List.replicate n z) e
  rw [List.map_replicate] at this
  rw [made_one]; exact this
end

/-- the slice at a holds the integers l, in a block below B -/
def Ints (B : Nat) (w : World) (a : Option Addr) (l : List Int) : Prop := l = [] ∨ ∃ b off, a = some ⟨b, off, none⟩ ∧ b < B ∧ ∀ j x, l[j]? = some x → w.cell? ⟨b, off + j, none⟩ = some (.int .i64 x)
/-- the slice at a holds the rows Z, all in blocks below B -/
def Gr (B : Nat) (w : World) (a : Option Addr) (Z : List (List Int)) : Prop := Z = [] ∨ ∃ b off, a = some ⟨b, off, none⟩ ∧ b < B ∧ ∀ i l, Z[i]? = some l → ∃ ai ci, w.cell? ⟨b, off + i, none⟩ = some (.slice ai l.length ci) ∧ Ints B w ai l
theorem Ints.below {B : Nat} {w w' : World} {a : Option Addr} {l : List Int} (h : Ints B w a l) (hb : Below B w w') : Ints B w' a l := by
  rcases h with h | ⟨b, off, ha, hlt, hr⟩
  · exact Or.inl h
  · exact Or.inr ⟨b, off, ha, hlt, fun j x hj => (hb.cell hlt).trans (hr j x hj)⟩
theorem Gr.below {B : Nat} {w w' : World} {a : Option Addr} {Z : List (List Int)} (h : Gr B w a Z) (hb : Below B w w') : Gr B w' a Z := by
  rcases h with h | ⟨b, off, ha, hlt, hr⟩
  · exact Or.inl h
  · refine Or.inr ⟨b, off, ha, hlt, fun i l hi => ?_⟩
    obtain ⟨ai, ci, hc, hi'⟩ := hr i l hi
    exact ⟨ai, ci, (hb.cell hlt).trans hc, hi'.below hb⟩
theorem Gr.at {B : Nat} {w : World} {a : Option Addr} {Z : List (List Int)} (h : Gr B w a Z) {i : Nat} {l : List Int} (hi : Z[i]? = some l) :
    ∃ b off ai ci, a = some ⟨b, off, none⟩ ∧ b < B ∧ w.cell? ⟨b, off + i, none⟩ = some (.slice ai l.length ci) ∧ Ints B w ai l := by
  rcases h with rfl | ⟨b, off, ha, hlt, hr⟩
  · simp at hi
  · obtain ⟨ai, ci, hc, h'⟩ := hr i l hi
    exact ⟨b, off, ai, ci, ha, hlt, hc, h'⟩
theorem Ints.at {B : Nat} {w : World} {a : Option Addr} {l : List Int} (h : Ints B w a l) {j : Nat} {x : Int} (hj : l[j]? = some x) :
    ∃ b off, a = some ⟨b, off, none⟩ ∧ b < B ∧ w.cell? ⟨b, off + j, none⟩ = some (.int .i64 x) := by
  rcases h with rfl | ⟨b, off, ha, hlt, hr⟩
  · simp at hj
  · exact ⟨b, off, ha, hlt, hr j x hj⟩
theorem getlt {α : Type} {l : List α} {k : Nat} (h : k < l.length) : ∃ x, l[k]? = some x := ⟨_, List.getElem?_eq_getElem h⟩

/-- it returns some Bool, of which Q holds -/
def BPost (Q : Bool → Prop) (e : Ending) : Prop := ∃ r, e = .returned (.bool r) ∧ Q r
theorem bytes_calls (B : Nat) (a : Option Addr) (cap : Nat) (Z : List (List Int)) (w : World) (hs : Gr B w a Z) (hn : Z.length ≤ 9223372036854775807) :
    Calls Try.prog 8 #[.slice a Z.length cap] w fun e w' => BPost (fun _ => True) e ∧ w' = w := by
  have HS := hide hs
  clear hs
  generalize hN : Z.length = N at *
  have HN := hide hN
  clear hN
  by_cases h1 : N ≤ 1048576
  rotate_left
  · go_enter Try.func8, Try.ntmps8
    go_wp2
    go_ret
    exact ⟨⟨_, rfl, trivial⟩, rfl⟩
  go_enter Try.func8, Try.ntmps8
  go_wp2
  go_loop [3, 4] (fun z i => ∃ k : Nat, ∃ y : Int, k ≤ N ∧ i = .int .i64 k ∧ z = .int .i64 y) (fun _ i => N - (intOf i).toNat)
  case atStart => exact ⟨0, _, by omega, rfl, rfl⟩
  case round =>
    obtain ⟨k, y, hk, rfl, rfl⟩ := hrel
    by_cases hlt : k < N
    · obtain ⟨l, hl⟩ := getlt (show k < Z.length by rw [unhide HN]; exact hlt)
      obtain ⟨b, off, ai, ci, rfl, hb, hc, hi⟩ := (unhide HS).at hl
      clear hl hi hb
      by_cases h2 : l.length ≤ 1048576
      · go_wp2
        · go_ret
          exact ⟨⟨_, rfl, trivial⟩, rfl⟩
        · go_round
          case rel => exact ⟨k + 1, _, by omega, by go_num, rfl⟩
          case measure => simp [intOf]; omega
      · go_wp2
        go_ret
        exact ⟨⟨_, rfl, trivial⟩, rfl⟩
    · go_wp2
      go_ret
      exact ⟨⟨_, rfl, trivial⟩, rfl⟩

theorem edges_calls (B : Nat) (a : Option Addr) (cap : Nat) (Z : List (List Int)) (w : World) (hs : Gr B w a Z) (hn : Z.length ≤ 1048576) (hm : ∀ l ∈ Z, l.length ≤ 1048576) :
    Calls Try.prog 9 #[.slice a Z.length cap] w fun e w' => BPost (fun r => r = true → ∀ l ∈ Z, ∀ x ∈ l, 0 ≤ x ∧ x < (Z.length : Int)) e ∧ w' = w := by
  have HS := hide hs
  have HM := hide hm
  clear hs hm
  generalize hN : Z.length = N at *
  have HN := hide hN
  clear hN
  go_enter Try.func9, Try.ntmps9
  go_wp2
  go_loop [4] (fun i => ∃ k : Nat, k ≤ N ∧ i = .int .i64 k ∧ ∀ l ∈ Z.take k, ∀ x ∈ l, 0 ≤ x ∧ x < (N : Int)) (fun i => N - (intOf i).toNat)
  case atStart => exact ⟨0, by omega, rfl, by simp⟩
  case round =>
    obtain ⟨k, hk, rfl, hdone⟩ := hrel
    have HD := hide hdone
    clear hdone
    by_cases hlt : k < N
    · obtain ⟨l, hl⟩ := getlt (show k < Z.length by rw [unhide HN]; exact hlt)
      obtain ⟨b, off, ai, ci, rfl, hb, hc, hi⟩ := (unhide HS).at hl
      have HI := hide hi
      have HL := hide hl
      have hlm := unhide HM l (List.mem_of_getElem? hl)
      clear hl hi hb
      generalize hM : l.length = M at *
      have HMM := hide hM
      clear hM
      go_wp2
      go_loop [19] (fun i => ∃ j : Nat, j ≤ M ∧ i = .int .i64 j ∧ ∀ x ∈ l.take j, 0 ≤ x ∧ x < (N : Int)) (fun i => M - (intOf i).toNat)
      case atStart => exact ⟨0, by omega, rfl, by simp⟩
      case round =>
        obtain ⟨j, hj, rfl, hdone⟩ := hrel
        have HD2 := hide hdone
        clear hdone
        by_cases hlj : j < M
        · obtain ⟨x, hx⟩ := getlt (show j < l.length by rw [unhide HMM]; exact hlj)
          obtain ⟨b', off', rfl, hb', hcx⟩ := (unhide HI).at hx
          have HX := hide hx
          clear hx hb'
          by_cases h1 : x < 0
          · go_wp2
            go_ret
            exact ⟨⟨false, rfl, fun h => by cases h⟩, rfl⟩
          by_cases h2 : x < (N : Int)
          · go_wp2
            go_round
            case rel =>
              refine ⟨j + 1, by omega, by go_num, ?_⟩
              rw [List.take_add_one, unhide HX]
              intro y hy
              rcases List.mem_append.1 hy with hy | hy
              · exact unhide HD2 y hy
              · simp at hy; subst hy; exact ⟨by omega, h2⟩
            case measure => simp [intOf]; omega
          · go_wp2
            go_ret
            exact ⟨⟨false, rfl, fun h => by cases h⟩, rfl⟩
        · go_wp2
          go_round
          case rel =>
            refine ⟨k + 1, by omega, by go_num, ?_⟩
            rw [List.take_add_one, unhide HL]
            intro q hq
            rcases List.mem_append.1 hq with hq | hq
            · exact unhide HD q hq
            · simp at hq; subst hq
              have h8 := unhide HD2
              rw [List.take_of_length_le (by have := unhide HMM; omega)] at h8
              exact h8
          case measure => simp [intOf]; omega
    · go_wp2
      go_ret
      refine ⟨⟨true, rfl, fun _ => ?_⟩, rfl⟩
      have h8 := unhide HD
      rw [List.take_of_length_le (by have := unhide HN; omega)] at h8
      exact h8
end Go.Proofs.Qxb6603374a.G
