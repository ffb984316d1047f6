/-
  ZZKeep (18); the plain law of the runs T.
-/
import Derived.Test.Qxb6003232aK5b
import Derived.Test.Qxb6003232aK6
namespace Go.Proofs.Qxb6003232a.Kp
open Go.ChangeShapes Go.WideShapes Go.ChangeAt Go.RowKit Go.Maps
set_option linter.unusedVariables false

/-! ### the Work, carried on -/
section
variable {Ok Ok' : Nat → Prop} {wb mb : Nat} {w0 w w' : World} {T : List (ByteArray × Sp)}
/-- the Work in a later world, other blocks being written -/
theorem WSt.on (h : WSt Ok wb mb w0 w T) (hb : Below w.heap.size w w') (ho : ∀ g, g < w.heap.size → Ok g → Ok' g) : WSt Ok' wb mb w' w' T := by
  obtain ⟨h0, h1, vo, vs, h2, h3⟩ := h
  have h3' := h3.kept (w' := w') (fun g hg => hb.block g (h3.lt hg))
  exact ⟨Fr.refl _ _, h1.of_block (hb.block _ h1.lt), vo, vs, h2.below hb h2.lt, h3'.out, h3'.len, h3'.inn, fun g hg => ho g (h3.lt hg) (h3.ok g hg), h3'.dist⟩
end
theorem WSt.made (Ok : Nat → Prop) (w : World) : WSt Ok (w.heap.size + 1) w.heap.size ((w.alloc (.map #[] 0)).alloc (.cells #[.string ⟨#[]⟩, .bool false, .map (some w.heap.size), .slice none 0 0] 67)) ((w.alloc (.map #[] 0)).alloc (.cells #[.string ⟨#[]⟩, .bool false, .map (some w.heap.size), .slice none 0 0] 67)) [] := by
  have hs : (w.alloc (.map #[] 0)).heap.size = w.heap.size + 1 := by simp
  refine ⟨Fr.refl _ _, ?_, .slice none 0 0, [], ?_, ?_⟩
  · exact (MapIs.made w).of_block (Below.heap_alloc _ _ _ (by omega))
  · have := Ar.new (w.alloc (.map #[] 0)) fV [.string ⟨#[]⟩, .bool false, .map (some w.heap.size), .slice none 0 0] 67
    rw [hs] at this; exact this
  · refine ⟨⟨rfl, Or.inl ⟨rfl, rfl⟩⟩, rfl, ?_, ?_, ?_⟩
    · intro m v s hv; simp at hv
    · rintro g (hg | ⟨m, v, hv, _⟩)
      · simp [Value.ownBlock] at hg
      · simp at hv
    · intro m m' v v' g hv; simp at hv

theorem zzkeep_calls (Ok : Nat → Prop) (wb mb lo : Nat) (aR aT aN : Option Addr) (nR nT : Nat) (xs : List Rn) (T : List (ByteArray × Sp)) (w : World)
    (hst : WSt Ok wb mb w w T) (hOk : ∀ k, w.heap.size + 1 ≤ k → Ok k) (hOp : ¬ Ok w.heap.size) (hOw : ¬ Ok wb) (hOm : ¬ Ok mb) (hwm : wb ≠ mb) (hlo : ∀ k, lo ≤ k → k < w.heap.size → ¬ (k = wb ∨ k = mb ∨ Ok k)) (hll : lo ≤ w.heap.size)
    (hA : Arr f4 4 w.heap.size w aN xs) (hAl : ∀ ad, aN = some ad → lo ≤ ad.block) (hstr : ∀ r ∈ xs, r.s.size ≤ maxLen)
    (hT : T.length ≤ 4096) (hx : xs.length ≤ 4096) (hR : nR ≤ 65536) (hTn : aT ≠ none → nT = nR) (hfit : Fits nR xs) :
    Calls Try.prog 18 #[.pointer (some ⟨wb, 0, none⟩), .slice aR nR nR, .slice aT nT nT, .slice aN xs.length xs.length] w fun e w' => e = .returned (.tuple #[]) ∧ WSt Ok wb mb w w' (T ++ partT aR aT xs xs.length) := by
  have hs : (w.alloc (.cells #[.pointer none, .slice aR nR nR, .slice aT nT nT, .slice aN xs.length xs.length] 72)).heap.size = w.heap.size + 1 := by simp
  have hbl : Below w.heap.size w (w.alloc (.cells #[.pointer none, .slice aR nR nR, .slice aT nT nT, .slice aN xs.length xs.length] 72)) := (Below.refl _ _).alloc (Nat.le_refl _) _
  have hwl : wb < w.heap.size := by obtain ⟨_, _, q, _⟩ := hst.sp; exact q.lt
  have hml := hst.mp.lt
  have hk := keep_calls Ok wb mb w.heap.size lo aR aT aN nR nT xs T _ (hst.on hbl (fun _ _ q => q)) (by rw [hs]; exact hOk) hOw hOm hwm
    (by
      rw [hs]
      intro k h1 h2
      by_cases q : k < w.heap.size
      · exact hlo k h1 q
      · obtain rfl : k = w.heap.size := by omega
        rintro (e | e | e)
        · omega
        · omega
        · exact hOp e)
    (Ar.new w fV [.pointer none, .slice aR nR nR, .slice aT nT nT, .slice aN xs.length xs.length] 72) hll
    (by rw [hs]; exact (hA.below hbl).mono (by omega)) hAl hstr hT hx hR hTn hfit
  have HK := hide hk
  have hfr : Fr (fun k => k = wb ∨ k = mb ∨ Ok k) w (w.alloc (.cells #[.pointer none, .slice aR nR nR, .slice aT nT nT, .slice aN xs.length xs.length] 72)) := (Fr.refl _ _).alloc _
  have HFR := hide hfr
  clear hst hOk hOp hOw hOm hwm hlo hll hA hAl hstr hT hx hR hTn hfit hs hbl hwl hml hk hfr
  go_enter Try.func18, Try.ntmps18
  go_wp2_with (go_at_call 33; refine (unhide HK).mono ?_; rintro e w' ⟨rfl, h2⟩)
  go_end0
  exact ⟨rfl, ⟨(unhide HFR).trans h2.fr, h2.mp, h2.sp⟩⟩

/-! ### the plain law -/
theorem mem_app (A : List (ByteArray × Sp)) : ∀ B, ∃ r, mem (A ++ B) = mem A ++ r := by
  apply snoc_ind
  · exact ⟨[], by simp⟩
  · rintro B p ⟨r, hr⟩
    rw [← List.append_assoc, mem_snoc]
    split
    · exact ⟨r, hr⟩
    · exact ⟨r ++ [p.1], by rw [hr, List.append_assoc]⟩
theorem take_snoc {α : Type} {l : List α} {j : Nat} {x : α} (h : l[j]? = some x) : l.take (j + 1) = l.take j ++ [x] := by
  rw [List.take_add_one, h]; rfl
section
variable {T : List (ByteArray × Sp)} {j : Nat} {s : ByteArray} {x : Sp}
theorem take_app (T : List (ByteArray × Sp)) (j : Nat) : T = T.take j ++ T.drop j := (List.take_append_drop j T).symm
theorem mem_take_old (h : T[j]? = some (s, x)) (hi : s ∈ mem (T.take j)) : mem (T.take (j + 1)) = mem (T.take j) := by rw [take_snoc h]; exact mem_old (p := (s, x)) hi
theorem mem_take_new (h : T[j]? = some (s, x)) (hi : s ∉ mem (T.take j)) : mem (T.take (j + 1)) = mem (T.take j) ++ [s] := by rw [take_snoc h]; exact mem_new (p := (s, x)) hi
/-- a new name gets the next index -/
theorem mem_index (h : T[j]? = some (s, x)) (hi : s ∉ mem (T.take j)) : (mem T)[(mem (T.take j)).length]? = some s := by
  obtain ⟨r, hr⟩ := mem_app (T.take (j + 1)) (T.drop (j + 1))
  rw [← take_app, mem_take_new h hi] at hr
  rw [hr, List.append_assoc, List.getElem?_append_right (Nat.le_refl _)]
  simp
theorem mem_take_iff (T : List (ByteArray × Sp)) (j : Nat) (s : ByteArray) : s ∈ mem (T.take j) ↔ ∃ (t : Nat) (x : Sp), t < j ∧ T[t]? = some (s, x) := by
  rw [mem_iff]
  constructor
  · rintro ⟨p, hp, rfl⟩
    obtain ⟨t, ht, e⟩ := List.getElem_of_mem hp
    rw [List.length_take] at ht
    refine ⟨t, p.2, by omega, ?_⟩
    rw [List.getElem_take] at e
    rw [List.getElem?_eq_getElem (by omega), e]
  · rintro ⟨t, x, ht, e⟩
    refine ⟨(s, x), ?_, rfl⟩
    have : (T.take j)[t]? = some (s, x) := by rw [List.getElem?_take, if_pos ht]; exact e
    exact List.mem_of_getElem? this
theorem spl_app (A B : List (ByteArray × Sp)) (s : ByteArray) : spl (A ++ B) s = spl A s ++ spl B s := by simp [spl]
theorem spl_take_same (h : T[j]? = some (s, x)) : spl (T.take (j + 1)) s = spl (T.take j) s ++ [x] := by rw [take_snoc h, spl_snoc]; simp
theorem spl_take_other {u : ByteArray} (h : T[j]? = some (u, x)) (hu : u ≠ s) : spl (T.take (j + 1)) s = spl (T.take j) s := by rw [take_snoc h, spl_snoc]; simp [hu]
theorem spl_at (h : T[j]? = some (s, x)) : (spl T s)[(spl (T.take j) s).length]? = some x := by
  have e : spl T s = spl (T.take (j + 1)) s ++ spl (T.drop (j + 1)) s := by rw [← spl_app, ← take_app]
  rw [e, spl_take_same h, List.append_assoc, List.getElem?_append_right (Nat.le_refl _)]
  simp
end
/-- the runs behind part A and part B -/
theorem partT_get {aR aT : Option Addr} {xs : List Rn} : ∀ k, k ≤ xs.length → (partT aR aT xs k).length = k ∧ ∀ t r, t < k → xs[t]? = some r → (partT aR aT xs k)[t]? = some (r.s, spanAt aR aT (from_ xs t).toNat r.fin.toNat)
  | 0, _ => ⟨rfl, fun t r ht => by omega⟩
  | k + 1, hk => by
    obtain ⟨r, hr⟩ := getlt (show k < xs.length by omega)
    obtain ⟨h1, h2⟩ := partT_get (aR := aR) (aT := aT) (xs := xs) k (by omega)
    rw [partT_succ hr]
    refine ⟨by simp [h1], fun t r' ht hr' => ?_⟩
    by_cases e : t = k
    · subst e
      rw [hr] at hr'
      obtain rfl := Option.some.inj hr'
      rw [List.getElem?_append_right (by omega), h1]; simp
    · rw [List.getElem?_append_left (by omega)]
      exact h2 t r' (by omega) hr'
end Go.Proofs.Qxb6003232a.Kp
