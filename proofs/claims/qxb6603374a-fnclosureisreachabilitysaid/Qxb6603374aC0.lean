/-
  THE PLAIN LAW: graphs given by successor lists: reachability, cycles, topological orders; no Go in sight.
-/
namespace Go.Proofs.Qxb6603374a.G
set_option linter.unusedVariables false

/-- there is an edge from v to w -/
def Ed (S : List (List Nat)) (v w : Nat) : Prop := ∃ l, S[v]? = some l ∧ w ∈ l
/-- v reaches u (itself included) -/
def Re (S : List (List Nat)) (v u : Nat) : Prop := ∀ P : Nat → Prop, P v → (∀ x y, P x → Ed S x y → P y) → P u
def InR (S : List (List Nat)) : Prop := ∀ v w, Ed S v w → w < S.length
def Cyc (S : List (List Nat)) : Prop := ∃ v w, Ed S v w ∧ Re S w v
/-- o lists vertices, each after its successors -/
def Topo (S : List (List Nat)) (o : List Nat) : Prop := o.Nodup ∧ ∀ i x, o[i]? = some x → x < S.length ∧ ∀ y, Ed S x y → y ∈ o.take i
/-- d lists vertices, each after its predecessors -/
def Pre (S : List (List Nat)) (d : List Nat) : Prop := ∀ i x, d[i]? = some x → ∀ y, Ed S y x → y ∈ d.take i

variable {S : List (List Nat)}
theorem Ed.lt {v w : Nat} (h : Ed S v w) : v < S.length := by
  obtain ⟨l, hl, _⟩ := h
  exact (List.getElem?_eq_some_iff.1 hl).1
theorem Re.refl (v : Nat) : Re S v v := fun P h _ => h
theorem Re.step {v x y : Nat} (h : Re S v x) (e : Ed S x y) : Re S v y := fun P h0 hc => hc x y (h P h0 hc) e
theorem Re.trans {a b c : Nat} (h : Re S a b) (k : Re S b c) : Re S a c := fun P h0 hc => k P (h P h0 hc) hc
theorem Re.head {a b c : Nat} (e : Ed S a b) (k : Re S b c) : Re S a c := ((Re.refl a).step e).trans k
theorem Re.inv {v u : Nat} (h : Re S v u) : u = v ∨ ∃ x, Ed S v x ∧ Re S x u := by
  refine h (fun u => u = v ∨ ∃ x, Ed S v x ∧ Re S x u) (Or.inl rfl) ?_
  rintro x y (rfl | ⟨z, hz, hr⟩) e
  · exact Or.inr ⟨y, e, Re.refl y⟩
  · exact Or.inr ⟨z, hz, hr.step e⟩
theorem Re.iff {v u : Nat} : Re S v u ↔ u = v ∨ ∃ x, Ed S v x ∧ Re S x u :=
  ⟨Re.inv, fun h => by
    rcases h with rfl | ⟨x, e, r⟩
    · exact Re.refl _
    · exact Re.head e r⟩
theorem Re.lt {v u : Nat} (hS : InR S) (hv : v < S.length) (h : Re S v u) : u < S.length :=
  h (fun u => u < S.length) hv (fun x y _ e => hS x y e)

/-! ### lists of distinct numbers -/
theorem pig : ∀ (n : Nat) (l : List Nat), l.Nodup → (∀ x ∈ l, x < n) → l.length ≤ n
  | 0, l, _, h => by
    match l with
    | [] => simp
    | x :: l => exact absurd (h x (by simp)) (by omega)
  | n + 1, l, hn, h => by
    by_cases hm : n ∈ l
    · have h1 := pig n (l.erase n) (hn.sublist List.erase_sublist) (fun x hx => by
        have h2 := (List.Nodup.mem_erase_iff hn).1 hx
        have := h x h2.2
        have := h2.1
        omega)
      rw [List.length_erase_of_mem hm] at h1
      omega
    · have h1 := pig n l hn (fun x hx => by
        have := h x hx
        have : x ≠ n := fun e => hm (e ▸ hx)
        omega)
      omega
theorem pig_all {n : Nat} {l : List Nat} (hn : l.Nodup) (h : ∀ x ∈ l, x < n) (hl : l.length = n) : ∀ v, v < n → v ∈ l := by
  intro v hv
  apply Classical.byContradiction
  intro hm
  have := pig n (v :: l) (List.nodup_cons.2 ⟨hm, hn⟩) (fun x hx => by
    rcases List.mem_cons.1 hx with rfl | hx
    · exact hv
    · exact h x hx)
  simp at this
  omega
theorem idx_lt {d : List Nat} {y i : Nat} (h : y ∈ d.take i) : d.idxOf y < i := by
  induction d generalizing i with
  | nil => simp at h
  | cons a d ih =>
    cases i with
    | zero => simp at h
    | succ i =>
      rw [List.take_succ_cons, List.mem_cons] at h
      rw [List.idxOf_cons]
      by_cases e : a = y
      · subst e; simp
      · have : (a == y) = false := by simp [e]
        rw [this]
        rcases h with rfl | h
        · exact absurd rfl e
        · have := ih h; simp; omega
theorem get_idx {d : List Nat} {x : Nat} (h : x ∈ d) : d[d.idxOf x]? = some x := by
  rw [List.getElem?_eq_getElem (List.idxOf_lt_length_of_mem h)]
  simp

/-! ### orders and cycles -/
theorem no_cyc_of_pre {d : List Nat} (hS : InR S) (hp : Pre S d) (hall : ∀ v, v < S.length → v ∈ d) : ¬ Cyc S := by
  rintro ⟨v, w, e, r⟩
  have key : ∀ x y, Ed S x y → d.idxOf x < d.idxOf y := fun x y e => idx_lt (hp _ y (get_idx (hall y (hS x y e))) x e)
  have h1 : d.idxOf w ≤ d.idxOf v := r (fun u => d.idxOf w ≤ d.idxOf u) (Nat.le_refl _) (fun x y hx e => Nat.le_trans hx (Nat.le_of_lt (key x y e)))
  have := key v w e
  omega
/-- where a topological order of all vertices is, a set that is shut under 'has no predecessor outside' is all -/
theorem all_of_topo {o d : List Nat} (ht : Topo S o) (hall : ∀ v, v < S.length → v ∈ o) (hd : ∀ w, w < S.length → w ∉ d → ∃ x, x ∉ d ∧ Ed S x w) : ∀ w, w < S.length → w ∈ d := by
  have key : ∀ k w, w < S.length → w ∉ d → o.length - o.idxOf w ≤ k → False := by
    intro k
    induction k with
    | zero =>
      intro w hw _ hk
      have := List.idxOf_lt_length_of_mem (hall w hw)
      omega
    | succ k ih =>
      intro w hw hwd hk
      obtain ⟨x, hx, e⟩ := hd w hw hwd
      have hxo := hall x e.lt
      have := idx_lt ((ht.2 _ x (get_idx hxo)).2 w e)
      exact ih x e.lt hx (by omega)
  intro w hw
  apply Classical.byContradiction
  intro hwd
  exact key _ w hw hwd (Nat.le_refl _)
end Go.Proofs.Qxb6603374a.G
