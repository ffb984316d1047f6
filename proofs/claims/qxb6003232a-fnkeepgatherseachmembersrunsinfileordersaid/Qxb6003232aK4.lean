/-
  The slices of spans: who owns which row.
-/
import Derived.Test.Qxb6003232aK3
import Derived.Deep.AppendLies
namespace Go.Proofs.Qxb6003232a.Kp
open Go.ChangeShapes Go.WideShapes Go.ChangeAt Go.RowKit Go.Maps
set_option linter.unusedVariables false

def fV (v : Value) : Value := v
def spCells (l : List Sp) : List Value := l.flatMap fun p => [.slice p.ra p.n p.n, .slice p.ta p.tn p.tn]
theorem spCells_snoc (l : List Sp) (p : Sp) : spCells (l ++ [p]) = spCells l ++ [.slice p.ra p.n p.n, .slice p.ta p.tn p.tn] := by simp [spCells]
theorem spCells_get : ∀ (l : List Sp) (i : Nat) (p : Sp), l[i]? = some p → (spCells l)[i * 2]? = some (.slice p.ra p.n p.n) ∧ (spCells l)[i * 2 + 1]? = some (.slice p.ta p.tn p.tn)
  | [], i, p, h => by simp at h
  | x :: l, 0, p, h => by simp at h; subst h; simp [spCells]
  | x :: l, i + 1, p, h => by
    have ih := spCells_get l i p (by simpa using h)
    have e : spCells (x :: l) = [.slice x.ra x.n x.n, .slice x.ta x.tn x.tn] ++ spCells l := rfl
    have h4 : ∀ j, (spCells (x :: l))[(i + 1) * 2 + j]? = (spCells l)[i * 2 + j]? := fun j => by
      rw [e, List.getElem?_append_right (by simp; omega)]
      congr 1; simp; omega
    exact ⟨(h4 0).trans ih.1, (h4 1).trans ih.2⟩

theorem own_of_block {w w' : World} {base : Nat} {e : TypeId} {size : Nat} {v : Value} {n : Nat} {xs : List Value} (h : w.ownsRow base e size v n xs) (hb : ∀ g, v.ownBlock = some g → w'.heap[g]? = w.heap[g]?) : w'.ownsRow base e size v n xs := by
  obtain ⟨h1, h2⟩ := h
  refine ⟨h1, ?_⟩
  rcases h2 with h2 | ⟨g, cap, cur, hv, hg, hh, r⟩
  · exact Or.inl h2
  · subst hv
    exact Or.inr ⟨g, cap, cur, rfl, hg, by rw [hb g rfl]; exact hh, r⟩
theorem own_elem {w : World} {base : Nat} {e : TypeId} {size : Nat} {v : Value} {n : Nat} {xs : List Value} (h : w.ownsRow base e size v n xs) {g : Nat} (hg : v.ownBlock = some g) : ∃ cur, w.heap[g]? = some (.cells cur e (0, 0)) := by
  rcases h.2 with ⟨hv, _⟩ | ⟨g', cap, cur, hv, _, hh, _⟩
  · subst hv; simp [Value.ownBlock] at hg
  · subst hv; simp [Value.ownBlock] at hg; subst hg; exact ⟨cur, hh⟩
theorem own_slice {w : World} {base : Nat} {e : TypeId} {size : Nat} {v : Value} {n : Nat} {xs : List Value} (h : w.ownsRow base e size v n xs) : ∃ a cap, v = .slice a n cap ∧ (0 < n → ∃ g, a = some ⟨g, 0, none⟩) := by
  rcases h.2 with ⟨hv, h0⟩ | ⟨g', cap, cur, hv, _, hh, _⟩
  · exact ⟨none, 0, by rw [h0]; exact hv, fun q => by omega⟩
  · exact ⟨_, cap, hv, fun _ => ⟨g', rfl⟩⟩

/-- g is a row of the spans' slices -/
def Own (vo : Value) (vs : List Value) (g : Nat) : Prop := vo.ownBlock = some g ∨ ∃ (m : Nat) (v : Value), vs[m]? = some v ∧ v.ownBlock = some g

structure SpOk (Ok : Nat → Prop) (wr : World) (vo : Value) (vs : List Value) (nm : List ByteArray) (sp : ByteArray → List Sp) : Prop where
  out : wr.ownsRow 0 82 1 vo vs.length vs
  len : vs.length = nm.length
  inn : ∀ (m : Nat) (v : Value) (s : ByteArray), vs[m]? = some v → nm[m]? = some s → wr.ownsRow 0 89 2 v (sp s).length (spCells (sp s))
  ok : ∀ g, Own vo vs g → Ok g
  dist : ∀ (m m' : Nat) (v v' : Value) (g : Nat), vs[m]? = some v → vs[m']? = some v' → v.ownBlock = some g → v'.ownBlock = some g → m = m'

section
variable {Ok : Nat → Prop} {wr : World} {vo : Value} {vs : List Value} {nm : List ByteArray} {sp : ByteArray → List Sp}
theorem SpOk.inn' (h : SpOk Ok wr vo vs nm sp) {m : Nat} {v : Value} (hv : vs[m]? = some v) : ∃ s, nm[m]? = some s ∧ wr.ownsRow 0 89 2 v (sp s).length (spCells (sp s)) := by
  have hlt := (List.getElem?_eq_some_iff.1 hv).1
  obtain ⟨s, hs⟩ := getlt (show m < nm.length by rw [← h.len]; exact hlt)
  exact ⟨s, hs, h.inn m v s hv hs⟩
theorem SpOk.apart (h : SpOk Ok wr vo vs nm sp) {m : Nat} {v : Value} (hv : vs[m]? = some v) {g : Nat} (h1 : vo.ownBlock = some g) (h2 : v.ownBlock = some g) : False := by
  obtain ⟨s, -, hs⟩ := h.inn' hv
  obtain ⟨c1, q1⟩ := own_elem h.out h1
  obtain ⟨c2, q2⟩ := own_elem hs h2
  rw [q1] at q2
  simp at q2
theorem SpOk.lt (h : SpOk Ok wr vo vs nm sp) {g : Nat} (hg : Own vo vs g) : g < wr.heap.size := by
  rcases hg with hg | ⟨m, v, hv, hg⟩
  · exact (h.out.lt g hg).2
  · obtain ⟨s, -, hs⟩ := h.inn' hv
    exact (hs.lt g hg).2
theorem SpOk.kept {w' : World} (h : SpOk Ok wr vo vs nm sp) (hk : ∀ g, Own vo vs g → w'.heap[g]? = wr.heap[g]?) : SpOk Ok w' vo vs nm sp :=
  ⟨own_of_block h.out (fun g hg => hk g (Or.inl hg)), h.len, fun m v s hv hs => own_of_block (h.inn m v s hv hs) (fun g hg => hk g (Or.inr ⟨m, v, hv, hg⟩)), h.ok, h.dist⟩
theorem SpOk.alloc (h : SpOk Ok wr vo vs nm sp) (o : Obj) : SpOk Ok (wr.alloc o) vo vs nm sp := h.kept (fun g hg => Below.heap_alloc _ _ _ (h.lt hg))
theorem SpOk.drew (h : SpOk Ok wr vo vs nm sp) : SpOk Ok wr.drew vo vs nm sp := h.kept (fun _ _ => rfl)
theorem SpOk.setCell (h : SpOk Ok wr vo vs nm sp) {a : Addr} (ha : ∀ g, Own vo vs g → g ≠ a.block) (u : Value) : SpOk Ok (wr.setCell a u) vo vs nm sp := h.kept (fun g hg => Below.heap_setCell _ _ _ _ (ha g hg))
/-- a new member: the outer slice grows by a nil -/
theorem SpOk.member {w1 : World} {s : ByteArray} {g cap H : Nat} (h : SpOk Ok wr vo vs nm sp) (hsp : sp s = []) (hown : w1.ownsRow 0 82 1 (.slice (some ⟨g, 0, none⟩) (vs.length + 1) cap) (vs.length + 1) (vs ++ [.slice none 0 0])) (hg : wr.grownBy w1 vo.ownBlock) (hat : vo.ownBlock = some g ∨ g = H) (hH : Ok H) :
    SpOk Ok w1 (.slice (some ⟨g, 0, none⟩) (vs.length + 1) cap) (vs ++ [.slice none 0 0]) (nm ++ [s]) sp := by
  refine ⟨by rw [List.length_append]; exact hown, by simp [h.len], ?_, ?_, ?_⟩
  · intro m v t hv ht
    by_cases hm : m < vs.length
    · rw [List.getElem?_append_left hm] at hv
      rw [List.getElem?_append_left (by rw [← h.len]; exact hm)] at ht
      refine (h.inn m v t hv ht).kept hg ?_
      cases e : v.ownBlock with
      | none => exact Or.inl rfl
      | some k => exact Or.inr (fun q => h.apart hv q.symm e)
    · have hlt := (List.getElem?_eq_some_iff.1 hv).1
      simp at hlt
      obtain rfl : m = vs.length := by omega
      simp at hv
      subst hv
      rw [h.len] at ht
      simp at ht
      subst ht
      rw [hsp]
      exact World.ownsRow_nil _ _ _ _
  · rintro k (hk | ⟨m, v, hv, hk⟩)
    · simp [Value.ownBlock] at hk
      subst hk
      rcases hat with q | q
      · exact h.ok g (Or.inl q)
      · rw [q]; exact hH
    · by_cases hm : m < vs.length
      · rw [List.getElem?_append_left hm] at hv
        exact h.ok k (Or.inr ⟨m, v, hv, hk⟩)
      · have hlt := (List.getElem?_eq_some_iff.1 hv).1
        simp at hlt
        obtain rfl : m = vs.length := by omega
        simp at hv
        subst hv
        simp [Value.ownBlock] at hk
  · intro m m' v v' k hv hv' hk hk'
    have aux : ∀ (m : Nat) (v : Value), (vs ++ [Value.slice none 0 0])[m]? = some v → v.ownBlock = some k → vs[m]? = some v := by
      intro m v hv hk
      by_cases hm : m < vs.length
      · rwa [List.getElem?_append_left hm] at hv
      · have hlt := (List.getElem?_eq_some_iff.1 hv).1
        simp at hlt
        obtain rfl : m = vs.length := by omega
        simp at hv
        subst hv
        simp [Value.ownBlock] at hk
    exact h.dist m m' v v' k (aux m v hv hk) (aux m' v' hv' hk') hk hk'
/-- a span more for the m-th member -/
theorem SpOk.span {w1 : World} {s : ByteArray} {G M capo m g cap H : Nat} {v : Value} {x : Sp} {sp' : ByteArray → List Sp} (h : SpOk Ok wr vo vs nm sp) (hvo : vo = .slice (some ⟨G, 0, none⟩) M capo) (hnd : nm.Nodup)
    (hv : vs[m]? = some v) (hs : nm[m]? = some s) (hown : w1.ownsRow 0 89 2 (.slice (some ⟨g, 0, none⟩) ((sp s).length + 1) cap) ((sp s).length + 1) (spCells (sp s) ++ [.slice x.ra x.n x.n, .slice x.ta x.tn x.tn]))
    (hg : wr.grownBy w1 v.ownBlock) (hat : v.ownBlock = some g ∨ g = H) (hH : Ok H) (hHs : wr.heap.size ≤ H) (h1 : sp' s = sp s ++ [x]) (h2 : ∀ t, t ≠ s → sp' t = sp t) :
    SpOk Ok (w1.setCell ⟨G, m, none⟩ (.slice (some ⟨g, 0, none⟩) ((sp s).length + 1) cap)) vo (vs.set m (.slice (some ⟨g, 0, none⟩) ((sp s).length + 1) cap)) nm sp' := by
  have hm := (List.getElem?_eq_some_iff.1 hv).1
  have hGown : vo.ownBlock = some G := by rw [hvo]; rfl
  have hGlt := (h.out.lt G hGown).2
  have hvG : v.ownBlock ≠ some G := fun q => h.apart hv hGown q
  have hgG : g ≠ G := by
    rcases hat with q | q
    · exact fun e => hvG (by rw [← e]; exact q)
    · omega
  have hout1 : w1.ownsRow 0 82 1 vo vs.length vs := h.out.kept hg (Or.inr (fun q => hvG (by rw [← q]; exact hGown)))
  have hM : M = vs.length := by
    have := h.out
    rw [hvo] at this
    obtain ⟨a, cap', e, _⟩ := own_slice this
    simp at e
    exact e.2.1
  refine ⟨?_, by simpa using h.len, ?_, ?_, ?_⟩
  · rw [List.length_set]
    rw [hvo, hM] at hout1 ⊢
    exact (hout1.stored m _).1
  · intro k u t hu ht
    rw [List.getElem?_set] at hu
    by_cases e : m = k
    · subst e
      rw [if_pos rfl, if_pos hm] at hu
      obtain rfl := Option.some.inj hu
      rw [hs] at ht
      obtain rfl := Option.some.inj ht
      rw [h1, List.length_append, spCells_snoc]
      exact own_of_block hown (fun k' hk' => Below.heap_setCell _ _ _ _ (by
        simp [Value.ownBlock] at hk'
        subst hk'
        exact hgG))
    · rw [if_neg e] at hu
      have hts : t ≠ s := fun q => e (nodup_get hnd hs (q ▸ ht))
      rw [h2 t hts]
      have hk1 : w1.ownsRow 0 89 2 u (sp t).length (spCells (sp t)) := (h.inn k u t hu ht).kept hg (by
        cases q : u.ownBlock with
        | none => exact Or.inl rfl
        | some k' => exact Or.inr (fun q2 => e (h.dist m k v u k' hv hu q2.symm q)))
      exact own_of_block hk1 (fun k' hk' => Below.heap_setCell _ _ _ _ (fun q => h.apart hu (by rw [q]; exact hGown) hk'))
  · rintro k (hk | ⟨m', u, hu, hk⟩)
    · exact h.ok k (Or.inl hk)
    · rw [List.getElem?_set] at hu
      by_cases e : m = m'
      · subst e
        rw [if_pos rfl, if_pos hm] at hu
        obtain rfl := Option.some.inj hu
        simp [Value.ownBlock] at hk
        subst hk
        rcases hat with q | q
        · exact h.ok g (Or.inr ⟨m, v, hv, q⟩)
        · rw [q]; exact hH
      · rw [if_neg e] at hu
        exact h.ok k (Or.inr ⟨m', u, hu, hk⟩)
  · have aux : ∀ (k : Nat) (u : Value) (q : Nat), m ≠ k → vs[k]? = some u → u.ownBlock = some q → q ≠ g := by
      intro k u q hne hu hq hqg
      subst hqg
      rcases hat with p | p
      · exact hne (h.dist m k v u q hv hu p hq)
      · have := h.lt (Or.inr ⟨k, u, hu, hq⟩)
        omega
    intro k k' u u' q hu hu' hq hq'
    rw [List.getElem?_set] at hu hu'
    by_cases e : m = k
    · subst e
      rw [if_pos rfl, if_pos hm] at hu
      obtain rfl := Option.some.inj hu
      simp [Value.ownBlock] at hq
      by_cases e' : m = k'
      · exact e'
      · rw [if_neg e'] at hu'
        exact absurd hq.symm (aux k' u' q e' hu' hq')
    · rw [if_neg e] at hu
      by_cases e' : m = k'
      · subst e'
        rw [if_pos rfl, if_pos hm] at hu'
        obtain rfl := Option.some.inj hu'
        simp [Value.ownBlock] at hq'
        exact absurd hq'.symm (aux k u q e hu hq)
      · rw [if_neg e'] at hu'
        exact h.dist k k' u u' q hu hu' hq hq'
end
end Go.Proofs.Qxb6003232a.Kp
