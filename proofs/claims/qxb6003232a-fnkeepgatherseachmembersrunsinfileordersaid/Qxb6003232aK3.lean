/-
  The plain law of keep: members in the order they first appear, each one's spans in file order; and the map that holds the members.
-/
import Derived.Test.Qxb6003232aK2
import Derived.Maps.Own
import Derived.Maps.OwnSet
namespace Go.Proofs.Qxb6003232a.Kp
open Go.ChangeShapes Go.WideShapes Go.ChangeAt Go.RowKit Go.Maps
set_option linter.unusedVariables false

/-- a span: its rows' slice and its rates' slice -/
structure Sp where
  ra : Option Addr
  n : Nat
  ta : Option Addr
  tn : Nat

def inB (s : ByteArray) (nm : List ByteArray) : Bool := nm.any (fun q => decide (q = s))
theorem inB_iff {s : ByteArray} {nm : List ByteArray} : inB s nm = true ↔ s ∈ nm := by
  unfold inB
  rw [List.any_eq_true]
  constructor
  · rintro ⟨q, hq, e⟩
    have := of_decide_eq_true e
    rw [← this]; exact hq
  · intro h; exact ⟨s, h, by simp⟩
theorem inB_false {s : ByteArray} {nm : List ByteArray} (h : s ∉ nm) : inB s nm = false := by
  cases e : inB s nm
  · rfl
  · exact absurd (inB_iff.1 e) h
/-- the members of the runs T, in the order they first appear -/
def mem (T : List (ByteArray × Sp)) : List ByteArray := T.foldl (fun nm p => if inB p.1 nm then nm else nm ++ [p.1]) []
/-- the spans of the member s -/
def spl (T : List (ByteArray × Sp)) (s : ByteArray) : List Sp := (T.filter (fun p => decide (p.1 = s))).map (·.2)
theorem mem_snoc (T : List (ByteArray × Sp)) (p : ByteArray × Sp) : mem (T ++ [p]) = if inB p.1 (mem T) then mem T else mem T ++ [p.1] := by
  unfold mem; rw [List.foldl_append]; rfl
theorem mem_old {T : List (ByteArray × Sp)} {p : ByteArray × Sp} (h : p.1 ∈ mem T) : mem (T ++ [p]) = mem T := by rw [mem_snoc, inB_iff.2 h]; rfl
theorem mem_new {T : List (ByteArray × Sp)} {p : ByteArray × Sp} (h : p.1 ∉ mem T) : mem (T ++ [p]) = mem T ++ [p.1] := by rw [mem_snoc, inB_false h]; rfl
theorem spl_snoc (T : List (ByteArray × Sp)) (p : ByteArray × Sp) (s : ByteArray) : spl (T ++ [p]) s = if p.1 = s then spl T s ++ [p.2] else spl T s := by
  unfold spl
  rw [List.filter_append, List.map_append]
  by_cases h : p.1 = s <;> simp [h]
theorem snoc_ind {α : Type} {P : List α → Prop} (h0 : P []) (h1 : ∀ T p, P T → P (T ++ [p])) : ∀ T, P T := by
  intro T
  have : ∀ n (T : List α), T.length = n → P T := by
    intro n
    induction n with
    | zero => intro T hT; rw [List.eq_nil_of_length_eq_zero hT]; exact h0
    | succ n ih =>
      intro T hT
      rcases List.eq_nil_or_concat T with rfl | ⟨T', p, rfl⟩
      · exact h0
      · rw [List.concat_eq_append] at hT ⊢
        simp at hT
        exact h1 _ _ (ih T' hT)
  exact this _ T rfl
theorem mem_iff (T : List (ByteArray × Sp)) (s : ByteArray) : s ∈ mem T ↔ ∃ p ∈ T, p.1 = s := by
  refine snoc_ind (P := fun T => s ∈ mem T ↔ ∃ p ∈ T, p.1 = s) ?_ ?_ T
  · simp [mem]
  · intro T p ih
    by_cases h : p.1 ∈ mem T
    · rw [mem_old h, ih]
      constructor
      · rintro ⟨q, hq, e⟩; exact ⟨q, by simp [hq], e⟩
      · rintro ⟨q, hq, e⟩
        rcases List.mem_append.1 hq with hq | hq
        · exact ⟨q, hq, e⟩
        · simp at hq; subst hq; subst e; exact ih.1 h
    · rw [mem_new h, List.mem_append, ih]
      constructor
      · rintro (⟨q, hq, e⟩ | hq)
        · exact ⟨q, by simp [hq], e⟩
        · simp at hq; exact ⟨p, by simp, hq.symm⟩
      · rintro ⟨q, hq, e⟩
        rcases List.mem_append.1 hq with hq | hq
        · exact Or.inl ⟨q, hq, e⟩
        · simp at hq; subst hq; exact Or.inr (by simp [e])
theorem mem_nodup (T : List (ByteArray × Sp)) : (mem T).Nodup := by
  refine snoc_ind (P := fun T => (mem T).Nodup) (by simp [mem]) ?_ T
  intro T p ih
  by_cases h : p.1 ∈ mem T
  · rw [mem_old h]; exact ih
  · rw [mem_new h]
    refine List.nodup_append.2 ⟨ih, by simp, ?_⟩
    intro a ha b hb e
    simp at hb
    subst hb; subst e
    exact h ha
theorem mem_len (T : List (ByteArray × Sp)) : (mem T).length ≤ T.length := by
  refine snoc_ind (P := fun T => (mem T).length ≤ T.length) (by simp [mem]) ?_ T
  intro T p ih
  by_cases h : p.1 ∈ mem T
  · rw [mem_old h]; simp; omega
  · rw [mem_new h]; simp; omega
theorem spl_len (T : List (ByteArray × Sp)) (s : ByteArray) : (spl T s).length ≤ T.length := by
  unfold spl; rw [List.length_map]; exact List.length_filter_le _ _
theorem spl_new (T : List (ByteArray × Sp)) (s : ByteArray) (h : s ∉ mem T) : spl T s = [] := by
  unfold spl
  rw [List.filter_eq_nil_iff.2]
  · rfl
  · intro p hp
    simp
    intro e
    exact h ((mem_iff T s).2 ⟨p, hp, e⟩)
theorem nodup_get {α : Type} {l : List α} (h : l.Nodup) {i j : Nat} {x : α} (hi : l[i]? = some x) (hj : l[j]? = some x) : i = j := by
  obtain ⟨hi', e1⟩ := List.getElem?_eq_some_iff.1 hi
  obtain ⟨hj', e2⟩ := List.getElem?_eq_some_iff.1 hj
  rcases Nat.lt_trichotomy i j with q | q | q
  · exact absurd (e1.trans e2.symm) (List.pairwise_iff_getElem.1 h i j hi' hj' q)
  · exact q
  · exact absurd (e2.trans e1.symm) (List.pairwise_iff_getElem.1 h j i hj' hi' q)

/-! ### the map -/
def kl (s : ByteArray) : Lit := .string s.data.toList
theorem kl_inj {s t : ByteArray} (h : kl s = kl t) : s = t := by
  unfold kl at h
  injection h with h
  have h2 : s.data = t.data := Array.toList_inj.1 h
  cases s; cases t; simp_all
theorem law9 : Keyed Try.prog 9 := string_keyed Try.underlying9
theorem zero3 (w : World) : (zeroValue 3).run Try.prog w = .ok (.int .i64 0) w := by kernel_rfl

/-- block b is a map: the i-th of the names nm leads to i; no other key is in it -/
def MapIs (w : World) (b : Nat) (nm : List ByteArray) : Prop :=
  ∃ D : DataW Unit, w.ownsMap Try.prog 9 (plainElem Try.prog 3) b nm.length D ∧ Maps.size D = nm.length ∧
    (∀ s : ByteArray, Maps.has D (kl s) = inB s nm) ∧ ∀ (i : Nat) (s : ByteArray), nm[i]? = some s → ∀ z, D.atKey (kl s) z = .lit (.int .i64 (i : Int))
theorem MapIs.made (w : World) : MapIs (w.alloc (.map #[] 0)) w.heap.size [] :=
  ⟨.map [], World.ownsMap_made _ _ _ _, rfl, fun s => rfl, fun i s h => by simp at h⟩
section
variable {w : World} {b : Nat} {nm : List ByteArray}
theorem MapIs.lt (h : MapIs w b nm) : b < w.heap.size := by obtain ⟨D, h1, _⟩ := h; exact h1.lt
theorem MapIs.of_block {w' : World} (h : MapIs w b nm) (hb : w'.heap[b]? = w.heap[b]?) : MapIs w' b nm := by
  obtain ⟨D, ⟨es, clock, h0, h1⟩, h2⟩ := h
  exact ⟨D, ⟨es, clock, by rw [hb]; exact h0, h1⟩, h2⟩
theorem MapIs.yes (h : MapIs w b nm) {i : Nat} {s : ByteArray} (hi : nm[i]? = some s) (hs : s.size ≤ maxLen) : (Instr.lookup 64 (.map (some b)) (.string s) true).run Try.prog w = .ok (.tuple #[.int .i64 (i : Int), .bool true]) w := by
  obtain ⟨D, h1, h2, h3, h4⟩ := h
  obtain ⟨v, ps, hrun, hv⟩ := h1.look_ok law9 Try.underlying64 (zero3 w) (plainElem_int Try.underlying3 (by decide)) (Go.WideMaps.keyOf_string_mk Try.underlying9 hs)
  rw [show (Lit.string s.data.toList) = kl s from rfl, h4 i s hi] at hv
  obtain ⟨c, rfl, hc, -⟩ := plainElem_int_inv Try.underlying3 hv
  simp at hc
  rw [hrun, show (Lit.string s.data.toList) = kl s from rfl, h3 s, ← hc.1]
  rw [inB_iff.2 (List.mem_of_getElem? hi)]
theorem MapIs.no (h : MapIs w b nm) {s : ByteArray} (hi : s ∉ nm) (hs : s.size ≤ maxLen) : (Instr.lookup 64 (.map (some b)) (.string s) true).run Try.prog w = .ok (.tuple #[.int .i64 0, .bool false]) w := by
  obtain ⟨D, h1, h2, h3, h4⟩ := h
  obtain ⟨v, ps, hrun, hv⟩ := h1.look_ok law9 Try.underlying64 (zero3 w) (plainElem_int Try.underlying3 (by decide)) (Go.WideMaps.keyOf_string_mk Try.underlying9 hs)
  have hh : Maps.has D (kl s) = false := by rw [h3 s]; exact inB_false hi
  rw [show (Lit.string s.data.toList) = kl s from rfl, atKey_of_not_has hh] at hv
  obtain ⟨c, rfl, hc, -⟩ := plainElem_int_inv Try.underlying3 hv
  simp at hc
  rw [hrun, show (Lit.string s.data.toList) = kl s from rfl, hh, ← hc.1]
theorem MapIs.add (h : MapIs w b nm) {s : ByteArray} (hi : s ∉ nm) (hs : s.size ≤ maxLen) (hn : nm.length ≤ 65536) : ∃ w', (Instr.mapUpdate 64 (.map (some b)) (.string s) (.int .i64 (nm.length : Int))).run Try.prog w = .ok () w' ∧ MapIs w' b (nm ++ [s]) ∧ w.grownBy w' (some b) := by
  obtain ⟨D, h1, h2, h3, h4⟩ := h
  obtain ⟨w', hrun, hown, hg⟩ := h1.update law9 Try.underlying64 (by unfold maxLen; omega) (Go.WideMaps.keyOf_string_mk Try.underlying9 hs) (plainElem_int Try.underlying3 (WalkArith.wf_i64 (n := (nm.length : Int)) (by omega)))
  refine ⟨w', hrun, ⟨_, by rw [List.length_append]; exact hown, ?_, ?_, ?_⟩, hg⟩
  · rw [size_put (h1.tidy law9)]
    have hh : Maps.has D (Lit.string s.data.toList) = false := by rw [show (Lit.string s.data.toList) = kl s from rfl, h3 s]; exact inB_false hi
    rw [hh, h2]
    simp
  · intro t
    by_cases e : t = s
    · subst e
      rw [show (Lit.string t.data.toList) = kl t from rfl, has_put_same h1.isMap (k := kl _) trivial, inB_iff.2 (by simp)]
    · rw [show (Lit.string s.data.toList) = kl s from rfl, has_put_other (fun q => e (kl_inj q)), h3 t]
      by_cases q : t ∈ nm
      · rw [inB_iff.2 q, inB_iff.2 (by simp [q])]
      · rw [inB_false q, inB_false (by simp [q, e])]
  · intro i t ht z
    by_cases e : i = nm.length
    · subst e
      simp at ht
      subst ht
      rw [show (Lit.string s.data.toList) = kl s from rfl, atKey_put_same h1.isMap (k := kl _) trivial]
    · have hlt := (List.getElem?_eq_some_iff.1 ht).1
      simp at hlt
      rw [List.getElem?_append_left (by omega)] at ht
      have hne : t ≠ s := fun q => hi (by rw [← q]; exact List.mem_of_getElem? ht)
      rw [show (Lit.string s.data.toList) = kl s from rfl, atKey_put_other (fun q => hne (kl_inj q))]
      exact h4 i t ht z
theorem MapIs.len (h : MapIs w b nm) (ty : TypeId) : (Builtin.len_ #[64] ty #[.map (some b)]).run Try.prog w = .ok (.int .i64 (nm.length : Int)) w := by
  obtain ⟨D, h1, h2, h3, h4⟩ := h
  rw [h1.len Try.underlying64 ty, h2]
end
end Go.Proofs.Qxb6003232a.Kp
