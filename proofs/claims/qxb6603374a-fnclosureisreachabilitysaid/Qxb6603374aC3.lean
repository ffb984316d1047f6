/-
  THE PLAIN PART of zzB1KahnAcyclic: counting the edges from what is not yet removed.
-/
import Derived.Test.Qxb6603374aC0
namespace Go.Proofs.Qxb6603374a.G
set_option linter.unusedVariables false

def sumTo (f : Nat → Nat) : Nat → Nat
  | 0 => 0
  | k + 1 => sumTo f k + f k
theorem sumTo_congr {f g : Nat → Nat} : ∀ {n : Nat}, (∀ v, v < n → f v = g v) → sumTo f n = sumTo g n
  | 0, _ => rfl
  | n + 1, h => by
    unfold sumTo
    rw [sumTo_congr (fun v hv => h v (by omega)), h n (by omega)]
theorem sumTo_le {f g : Nat → Nat} : ∀ {n : Nat}, (∀ v, v < n → f v ≤ g v) → sumTo f n ≤ sumTo g n
  | 0, _ => Nat.le_refl _
  | n + 1, h => by
    unfold sumTo
    have h1 := sumTo_le (n := n) (fun v hv => h v (by omega))
    have h2 := h n (by omega)
    omega
theorem sumTo_mono {f : Nat → Nat} {k n : Nat} (h : k ≤ n) : sumTo f k ≤ sumTo f n := by
  induction n with
  | zero => have : k = 0 := by omega
            subst this; exact Nat.le_refl _
  | succ n ih =>
    by_cases e : k = n + 1
    · subst e; exact Nat.le_refl _
    · have := ih (by omega)
      have e2 : sumTo f (n + 1) = sumTo f n + f n := rfl
      omega
theorem sumTo_zero {f : Nat → Nat} : ∀ {n : Nat}, sumTo f n = 0 → ∀ v, v < n → f v = 0
  | 0, _, v, hv => by omega
  | n + 1, h, v, hv => by
    unfold sumTo at h
    by_cases e : v = n
    · subst e; omega
    · exact sumTo_zero (n := n) (by omega) v (by omega)
theorem sumTo_ne {f : Nat → Nat} : ∀ {n : Nat}, sumTo f n ≠ 0 → ∃ v, v < n ∧ f v ≠ 0
  | 0, h => absurd rfl h
  | n + 1, h => by
    unfold sumTo at h
    by_cases e : f n = 0
    · obtain ⟨v, hv, h'⟩ := sumTo_ne (n := n) (f := f) (by omega)
      exact ⟨v, by omega, h'⟩
    · exact ⟨n, by omega, e⟩
theorem sumTo_drop {f g : Nat → Nat} {x : Nat} : ∀ {n : Nat}, x < n → (∀ v, v ≠ x → g v = f v) → g x = 0 → sumTo g n + f x = sumTo f n
  | 0, hx, _, _ => by omega
  | n + 1, hx, h, h0 => by
    unfold sumTo
    by_cases e : x = n
    · subst e
      rw [sumTo_congr (f := g) (g := f) (fun v hv => h v (by omega)), h0]
      omega
    · have := sumTo_drop (n := n) (by omega) h h0
      rw [h n (by omega)]
      omega

def row (S : List (List Nat)) (v : Nat) : List Nat := (S[v]?).getD []
theorem row_of {S : List (List Nat)} {v : Nat} {l : List Nat} (h : S[v]? = some l) : row S v = l := by unfold row; rw [h]; rfl
/-- how many edges come into w from vertices that are not in d -/
def inE (S : List (List Nat)) (d : List Nat) (w : Nat) : Nat := sumTo (fun v => if v ∈ d then 0 else (row S v).count w) S.length
def tot (S : List (List Nat)) : Nat := sumTo (fun v => (row S v).length) S.length

variable {S : List (List Nat)}
theorem inE_nil (w : Nat) : inE S [] w = sumTo (fun v => (row S v).count w) S.length := by
  unfold inE; exact sumTo_congr (fun v _ => by simp)
theorem inE_le (d : List Nat) (w : Nat) : inE S d w ≤ tot S := by
  unfold inE tot
  refine sumTo_le (fun v _ => ?_)
  by_cases h : v ∈ d
  · rw [if_pos h]; omega
  · rw [if_neg h]; exact List.count_le_length
theorem part_le (k : Nat) (hk : k < S.length) (w j : Nat) : sumTo (fun v => (row S v).count w) k + ((row S k).take j).count w ≤ tot S := by
  have h1 : ((row S k).take j).count w ≤ (row S k).count w := (List.take_sublist _ _).count_le _
  have h2 : sumTo (fun v => (row S v).count w) (k + 1) ≤ sumTo (fun v => (row S v).count w) S.length := sumTo_mono hk
  have h3 : sumTo (fun v => (row S v).count w) S.length ≤ tot S := sumTo_le (fun v _ => List.count_le_length)
  have h4 : sumTo (fun v => (row S v).count w) (k + 1) = sumTo (fun v => (row S v).count w) k + (row S k).count w := rfl
  omega
theorem inE_snoc {d : List Nat} {x : Nat} (hx : x < S.length) (hd : x ∉ d) (w : Nat) : inE S (d ++ [x]) w + (row S x).count w = inE S d w := by
  unfold inE
  have := sumTo_drop (f := fun v => if v ∈ d then 0 else (row S v).count w) (g := fun v => if v ∈ d ++ [x] then 0 else (row S v).count w) hx (fun v hv => by simp [hv]) (by simp)
  rw [if_neg hd] at this
  exact this
theorem inE_zero {d : List Nat} {w : Nat} (h : inE S d w = 0) : ∀ y, Ed S y w → y ∈ d := by
  intro y e
  apply Classical.byContradiction
  intro hy
  have := sumTo_zero h y e.lt
  simp only [if_neg hy] at this
  obtain ⟨l, hl, hm⟩ := e
  rw [row_of hl] at this
  exact absurd hm (List.count_eq_zero.1 this)
theorem inE_ne {d : List Nat} {w : Nat} (h : inE S d w ≠ 0) : ∃ x, x ∉ d ∧ Ed S x w := by
  obtain ⟨v, hv, h'⟩ := sumTo_ne h
  by_cases hd : v ∈ d
  · simp [hd] at h'
  · simp only [if_neg hd] at h'
    obtain ⟨l, hl⟩ : ∃ l, S[v]? = some l := ⟨_, List.getElem?_eq_getElem hv⟩
    rw [row_of hl] at h'
    refine ⟨v, hd, l, hl, ?_⟩
    apply Classical.byContradiction
    intro hm
    exact h' (List.count_eq_zero.2 hm)

structure KInv (S : List (List Nat)) (d st : List Nat) (val : Nat → Nat) : Prop where
  nd : (d ++ st).Nodup
  lt : ∀ w ∈ d ++ st, w < S.length
  z : ∀ w, w < S.length → (val w = 0 ↔ w ∈ d ++ st)
  pre : Pre S d

theorem KInv.len {d st : List Nat} {val : Nat → Nat} (h : KInv S d st val) : d.length + st.length ≤ S.length := by
  have := pig _ _ h.nd h.lt
  simpa using this
theorem KInv.pop {d st : List Nat} {x : Nat} (h : KInv S d (st ++ [x]) (inE S d)) : KInv S (d ++ [x]) st (fun w => inE S (d ++ [x]) w + ((row S x).drop 0).count w) := by
  have hx : x < S.length := h.lt x (by simp)
  have hnd := h.nd
  have hxd : x ∉ d := by
    rw [List.nodup_append] at hnd
    intro hm
    exact hnd.2.2 x hm x (by simp) rfl
  refine ⟨?_, ?_, ?_, ?_⟩
  · have hp : ((d ++ [x]) ++ st).Perm (d ++ (st ++ [x])) := by
      rw [List.append_assoc]
      exact List.Perm.append_left d List.perm_append_comm
    exact hp.nodup_iff.2 hnd
  · intro w hw
    refine h.lt w ?_
    simp only [List.mem_append, List.mem_singleton] at hw ⊢
    rcases hw with (hw | hw) | hw
    · exact Or.inl hw
    · exact Or.inr (Or.inr hw)
    · exact Or.inr (Or.inl hw)
  · intro w hw
    rw [List.drop_zero, inE_snoc hx hxd, h.z w hw]
    simp only [List.mem_append, List.mem_singleton]
    constructor
    · rintro (q | q | q)
      · exact Or.inl (Or.inl q)
      · exact Or.inr q
      · exact Or.inl (Or.inr q)
    · rintro ((q | q) | q)
      · exact Or.inl q
      · exact Or.inr (Or.inr q)
      · exact Or.inr (Or.inl q)
  · intro i y hy z e
    by_cases hi : i < d.length
    · rw [List.getElem?_append_left hi] at hy
      rw [List.take_append_of_le_length (by omega)]
      exact h.pre i y hy z e
    · have hlt := (List.getElem?_eq_some_iff.1 hy).1
      simp at hlt
      obtain rfl : i = d.length := by omega
      simp at hy
      subst hy
      rw [List.take_left]
      exact inE_zero ((h.z x hx).2 (by simp)) z e
theorem KInv.keep {d st l : List Nat} {x j y : Nat} (h : KInv S d st (fun w => inE S d w + (l.drop j).count w)) (hy : l[j]? = some y) (h0 : inE S d y + (l.drop (j + 1)).count y ≠ 0) : KInv S d st (fun w => inE S d w + (l.drop (j + 1)).count w) := by
  have hd : l.drop j = y :: l.drop (j + 1) := by
    obtain ⟨hk, rfl⟩ := List.getElem?_eq_some_iff.1 hy
    exact List.drop_eq_getElem_cons hk
  refine ⟨h.nd, h.lt, ?_, h.pre⟩
  intro w hw
  have := h.z w hw
  rw [← this]
  show _ ↔ inE S d w + (l.drop j).count w = 0
  rw [hd]
  by_cases e : y = w
  · subst e
    rw [List.count_cons_self]; omega
  · rw [List.count_cons_of_ne e]
theorem KInv.push {d st l : List Nat} {j y : Nat} (h : KInv S d st (fun w => inE S d w + (l.drop j).count w)) (hyn : y < S.length) (hy : l[j]? = some y) (h0 : inE S d y + (l.drop (j + 1)).count y = 0) : KInv S d (st ++ [y]) (fun w => inE S d w + (l.drop (j + 1)).count w) := by
  have hd : l.drop j = y :: l.drop (j + 1) := by
    obtain ⟨hk, rfl⟩ := List.getElem?_eq_some_iff.1 hy
    exact List.drop_eq_getElem_cons hk
  have hyq : y ∉ d ++ st := by
    intro hm
    have := (h.z y hyn).2 hm
    rw [hd, List.count_cons_self] at this
    omega
  refine ⟨?_, ?_, ?_, h.pre⟩
  · rw [← List.append_assoc]
    refine List.nodup_append.2 ⟨h.nd, by simp, ?_⟩
    intro a ha b hb e
    simp at hb
    subst hb; subst e
    exact hyq ha
  · intro w hw
    rw [← List.append_assoc] at hw
    rcases List.mem_append.1 hw with hw | hw
    · exact h.lt w hw
    · simp at hw; subst hw; exact hyn
  · intro w hw
    have := h.z w hw
    rw [hd] at this
    rw [← List.append_assoc]
    by_cases e : y = w
    · subst e
      constructor
      · intro _; simp
      · intro _; exact h0
    · rw [List.count_cons_of_ne e] at this
      rw [this]
      simp only [List.mem_append, List.mem_singleton]
      constructor
      · intro q; exact Or.inl q
      · rintro (q | q)
        · exact q
        · exact absurd q.symm e
theorem KInv.start (st : List Nat) (hst : st = (List.range S.length).filter (fun v => decide (inE S [] v = 0))) : KInv S [] st (inE S []) := by
  subst hst
  refine ⟨?_, ?_, ?_, ?_⟩
  · rw [List.nil_append]; exact List.nodup_range.filter _
  · intro w hw; simp at hw; exact hw.1
  · intro w hw; simp [hw]
  · intro i x hx; simp at hx
theorem len_of_all : ∀ (l d : List Nat), l.Nodup → (∀ x ∈ l, x ∈ d) → l.length ≤ d.length
  | [], d, _, _ => by simp
  | x :: l, d, hn, h => by
    rw [List.nodup_cons] at hn
    have h1 := len_of_all l (d.erase x) hn.2 (fun y hy => (List.mem_erase_of_ne (show y ≠ x from fun e => hn.1 (by rw [← e]; exact hy))).2 (h y (by simp [hy])))
    have h2 := h x (by simp)
    rw [List.length_erase_of_mem h2] at h1
    have := List.length_pos_of_mem h2
    simp; omega
theorem kahn_yes {d : List Nat} (hS : InR S) (h : KInv S d [] (inE S d)) (hl : d.length = S.length) : ¬ Cyc S :=
  no_cyc_of_pre hS h.pre (pig_all (by simpa using h.nd) (by simpa using h.lt) hl)
theorem kahn_all {d o : List Nat} (h : KInv S d [] (inE S d)) (ht : Topo S o) (hall : ∀ v, v < S.length → v ∈ o) : d.length = S.length := by
  have h1 := all_of_topo (d := d) ht hall (fun w hw hd => inE_ne (fun e => hd (by simpa using (h.z w hw).1 e)))
  have h2 := len_of_all (List.range S.length) d List.nodup_range (fun x hx => h1 x (by simpa using hx))
  have h3 := h.len
  simp at h2 h3
  omega
end Go.Proofs.Qxb6603374a.G
