/-
  keep (33).
-/
import Derived.Test.Qxb6003232aK4
import Derived.Deep.QuietTactic
import Derived.BigQuiet
import Derived.BigRegion
import Derived.Deep.RegionHeld3
namespace Go.Proofs.Qxb6003232a.Kp
open Go.ChangeShapes Go.WideShapes Go.ChangeAt Go.RowKit Go.Maps
set_option linter.unusedVariables false

/-- the address of s[l:h:h] -/
def cut (a : Option Addr) (sz l h : Nat) : Option Addr := if h = l then a else a.map (·.add (l * sz))
/-- the span of the rows from l up to h -/
def spanAt (aR aT : Option Addr) (l h : Nat) : Sp := ⟨cut aR 3 l h, h - l, if aT = none then none else cut aT 1 l h, if aT = none then 0 else h - l⟩
/-- the first k runs of a part, with their spans -/
def partT (aR aT : Option Addr) (xs : List Rn) : Nat → List (ByteArray × Sp)
  | 0 => []
  | k + 1 => match xs[k]? with
    | some r => partT aR aT xs k ++ [(r.s, spanAt aR aT (from_ xs k).toNat r.fin.toNat)]
    | none => partT aR aT xs k
theorem partT_succ {aR aT : Option Addr} {xs : List Rn} {k : Nat} {r : Rn} (h : xs[k]? = some r) : partT aR aT xs (k + 1) = partT aR aT xs k ++ [(r.s, spanAt aR aT (from_ xs k).toNat r.fin.toNat)] := by simp [partT, h]
theorem partT_len (aR aT : Option Addr) (xs : List Rn) : ∀ k, (partT aR aT xs k).length ≤ k
  | 0 => by simp [partT]
  | k + 1 => by
    have := partT_len aR aT xs k
    unfold partT
    split
    · simp; omega
    · omega

/-- the Work behind the runs T -/
structure WSt (Ok : Nat → Prop) (wb mb : Nat) (w0 wr : World) (T : List (ByteArray × Sp)) : Prop where
  fr : Fr (fun k => k = wb ∨ k = mb ∨ Ok k) w0 wr
  mp : MapIs wr mb (mem T)
  sp : ∃ vo vs, Ar fV wr wb [.string ⟨#[]⟩, .bool false, .map (some mb), vo] 67 ∧ SpOk Ok wr vo vs (mem T) (spl T)

/-- the state inside a round: the map holds nm, the slices vo, vs the spans sp; the run's variable lies in rb -/
structure KSt (Ok : Nat → Prop) (wb mb rb : Nat) (r : Rn) (w wr : World) (vo : Value) (vs : List Value) (nn nm : List ByteArray) (sp : ByteArray → List Sp) : Prop where
  fr : Fr (fun k => k = wb ∨ k = mb ∨ Ok k) w wr
  mp : MapIs wr mb nn
  wk : Ar fV wr wb [.string ⟨#[]⟩, .bool false, .map (some mb), vo] 67
  sp : SpOk Ok wr vo vs nm sp
  rv : Ar fV wr rb [.string r.s, .int .i64 r.born, .bool r.listed, .int .i64 r.fin] 80
  ro : ∀ g, Own vo vs g → g ≠ rb
section
variable {Ok : Nat → Prop} {wb mb rb : Nat} {r : Rn} {w wr : World} {vo : Value} {vs : List Value} {nn nm : List ByteArray} {sp : ByteArray → List Sp}
theorem KSt.drewN (h : KSt Ok wb mb rb r w wr vo vs nn nm sp) (n : Nat) : KSt Ok wb mb rb r w (wr.drewN n) vo vs nn nm sp :=
  ⟨⟨h.fr.os, h.fr.tape, h.fr.output, h.fr.size, h.fr.block⟩, h.mp.of_block rfl, h.wk, h.sp.kept (fun _ _ => rfl), h.rv, h.ro⟩
theorem KSt.drew (h : KSt Ok wb mb rb r w wr vo vs nn nm sp) : KSt Ok wb mb rb r w wr.drew vo vs nn nm sp :=
  ⟨h.fr.drew, h.mp.of_block rfl, h.wk, h.sp.drew, h.rv, h.ro⟩
theorem KSt.alloc (h : KSt Ok wb mb rb r w wr vo vs nn nm sp) (o : Obj) : KSt Ok wb mb rb r w (wr.alloc o) vo vs nn nm sp :=
  ⟨h.fr.alloc o, h.mp.of_block (Below.heap_alloc _ _ _ h.mp.lt), h.wk.alloc o, h.sp.alloc o, h.rv.alloc o, h.ro⟩
/-- a store into a variable of the round's own -/
theorem KSt.local (h : KSt Ok wb mb rb r w wr vo vs nn nm sp) {a : Addr} (ha : w.heap.size ≤ a.block) (hm : mb < w.heap.size) (hw : wb < w.heap.size) (hr : rb ≠ a.block) (ho : ∀ g, Own vo vs g → g ≠ a.block) (u : Value) : KSt Ok wb mb rb r w (wr.setCell a u) vo vs nn nm sp :=
  ⟨h.fr.setCell (Or.inr ha) u, h.mp.of_block (Below.heap_setCell _ _ _ _ (by omega)), h.wk.set_other (by omega) u, h.sp.setCell ho u, h.rv.set_other hr u, h.ro⟩
end
theorem KSt.mapped {Ok : Nat → Prop} {wb mb rb : Nat} {r : Rn} {w wr w3 : World} {vo : Value} {vs : List Value} {nn nn' nm : List ByteArray} {sp : ByteArray → List Sp} (h : KSt Ok wb mb rb r w wr vo vs nn nm sp)
    (hm : MapIs w3 mb nn') (hg : wr.grownBy w3 (some mb)) (hwm : wb ≠ mb) (hrm : rb ≠ mb) (hOm : ¬ Ok mb) : KSt Ok wb mb rb r w w3 vo vs nn' nm sp := by
  have hb : ∀ k, k < wr.heap.size → k ≠ mb → w3.heap[k]? = wr.heap[k]? := fun k hk hne => hg.block k hk (fun e => hne (Option.some.inj e))
  refine ⟨h.fr.grown hg (fun k hk => Or.inl (Or.inr (Or.inl (Option.some.inj hk).symm))), hm, ?_, h.sp.kept (fun g hgo => hb g (h.sp.lt hgo) (fun e => hOm (e ▸ h.sp.ok g hgo))), ?_, h.ro⟩
  · have := h.wk.lt
    have q := h.wk
    unfold Ar at q ⊢
    rw [hb wb this hwm]; exact q
  · have := h.rv.lt
    have q := h.rv
    unfold Ar at q ⊢
    rw [hb rb this hrm]; exact q
theorem KSt.member {Ok : Nat → Prop} {wb mb rb : Nat} {r : Rn} {w wr w4 : World} {vo : Value} {vs : List Value} {nn nm : List ByteArray} {sp : ByteArray → List Sp} {g cap H : Nat} {s : ByteArray} (h : KSt Ok wb mb rb r w wr vo vs nn nm sp)
    (hsp : sp s = []) (hown : w4.ownsRow 0 82 1 (.slice (some ⟨g, 0, none⟩) (vs.length + 1) cap) (vs.length + 1) (vs ++ [.slice none 0 0])) (hg : wr.grownBy w4 vo.ownBlock) (hat : vo.ownBlock = some g ∨ g = H) (hH : Ok H) (hHr : rb < H)
    (hOw : ¬ Ok wb) (hOm : ¬ Ok mb) (hwr : rb ≠ wb) (hwm : wb ≠ mb) :
    Ar fV w4 wb [.string ⟨#[]⟩, .bool false, .map (some mb), vo] 67 ∧ KSt Ok wb mb rb r w (w4.setCell ⟨wb, 3, none⟩ (.slice (some ⟨g, 0, none⟩) (vs.length + 1) cap)) (.slice (some ⟨g, 0, none⟩) (vs.length + 1) cap) (vs ++ [.slice none 0 0]) nn (nm ++ [s]) sp := by
  have hb : ∀ k, k < wr.heap.size → vo.ownBlock ≠ some k → w4.heap[k]? = wr.heap[k]? := fun k hk hne => hg.block k hk (fun e => hne e.symm)
  have hno : ∀ k, ¬ Ok k → vo.ownBlock ≠ some k := fun k hk e => hk (h.sp.ok k (Or.inl e))
  have a1 : Ar fV w4 wb [.string ⟨#[]⟩, .bool false, .map (some mb), vo] 67 := by
    have hl := h.wk.lt
    have q := h.wk
    unfold Ar at q ⊢
    rw [hb wb hl (hno wb hOw)]; exact q
  have a2 : Ar fV w4 rb [.string r.s, .int .i64 r.born, .bool r.listed, .int .i64 r.fin] 80 := by
    have hl := h.rv.lt
    have q := h.rv
    unfold Ar at q ⊢
    rw [hb rb hl (fun e => h.ro rb (Or.inl e) rfl)]; exact q
  have hspm := h.sp.member hsp hown hg hat hH
  refine ⟨a1, ⟨(h.fr.grown hg (fun k hk => Or.inl (Or.inr (Or.inr (h.sp.ok k (Or.inl hk)))))).setCell (Or.inl (Or.inl rfl)) _, ?_, a1.set 3 _, hspm.setCell (fun k hk e => hOw (by have q := hspm.ok k hk; rw [e] at q; exact q)) _, a2.set_other hwr _, ?_⟩⟩
  · refine (h.mp.of_block (hb mb h.mp.lt (hno mb hOm))).of_block (Below.heap_setCell _ _ _ _ (fun e => hwm e.symm))
  · rintro k (hk | ⟨m, v, hv, hk⟩)
    · simp [Value.ownBlock] at hk
      subst hk
      rcases hat with q | q
      · exact h.ro g (Or.inl q)
      · omega
    · by_cases hm : m < vs.length
      · rw [List.getElem?_append_left hm] at hv
        exact h.ro k (Or.inr ⟨m, v, hv, hk⟩)
      · have hlt := (List.getElem?_eq_some_iff.1 hv).1
        simp at hlt
        obtain rfl : m = vs.length := by omega
        simp at hv
        subst hv
        simp [Value.ownBlock] at hk
theorem KSt.begin {Ok : Nat → Prop} {wb mb : Nat} {w wr : World} {vo : Value} {vs : List Value} {nm : List ByteArray} {sp : ByteArray → List Sp} (r : Rn)
    (h1 : Fr (fun k => k = wb ∨ k = mb ∨ Ok k) w wr) (h2 : MapIs wr mb nm) (h3 : Ar fV wr wb [.string ⟨#[]⟩, .bool false, .map (some mb), vo] 67) (h4 : SpOk Ok wr vo vs nm sp) :
    KSt Ok wb mb wr.heap.size r w (wr.alloc (.cells #[.string r.s, .int .i64 r.born, .bool r.listed, .int .i64 r.fin] 80)) vo vs nm nm sp :=
  ⟨h1.alloc _, h2.of_block (Below.heap_alloc _ _ _ h2.lt), h3.alloc _, h4.alloc _, Ar.new wr fV [.string r.s, .int .i64 r.born, .bool r.listed, .int .i64 r.fin] 80, fun g hg => by have := h4.lt hg; omega⟩

theorem slice_run (t e : TypeId) (a : Option Addr) (n sz : Nat) (l h : Int) (ht : Try.prog.underlying t = some (.slice e)) (hz : (Try.prog.info? e).map (·.size) = some sz) (h0 : 0 ≤ l) (hlh : l ≤ h) (hn : h ≤ (n : Int)) (w : World) :
    (Instr.slice t (.slice a n n) (some (.int .i64 l)) (some (.int .i64 h)) (some (.int .i64 h))).run Try.prog w = .ok (.slice (cut a sz l.toNat h.toNat) (h.toNat - l.toNat) (h.toNat - l.toNat)) w := by
  have he : Try.prog.elem t = e := by unfold Program.elem; rw [ht]
  obtain ⟨i, hi, hs⟩ := Option.map_eq_some_iff.1 hz
  rw [run_slice_lhm (P := Try.prog) w t a n n (by rw [he]; exact ht) .i64 .i64 .i64 l h h h0 hlh (Int.le_refl _) hn, he]
  simp [sizeOf, typeInfo, hi, hs, sliced, cut]

theorem info82 : (Try.prog.info? 82).map (fun i => (i.zero, i.size, i.bytes)) = some (some (.slice none 0 0), 1, 24) := by kernel_rfl
theorem info89 : (Try.prog.info? 89).map (fun i => (i.zero, i.size, i.bytes)) = some (some (.agg #[.slice none 0 0, .slice none 0 0]), 2, 48) := by kernel_rfl
theorem news1 (w : World) (v : Value) (e : TypeId) : ∀ j x, [v][j]? = some x → (w.alloc (.cells #[v] e)).cell? (Addr.add ⟨w.heap.size, 0, none⟩ j) = some x := by
  intro j x hj
  match j, hj with
  | 0, hj =>
    simp at hj
    subst hj
    exact (Ar.new w fV [v] e).at rfl
theorem wk_cell {w4 : World} {wb mb : Nat} {vo : Value} (h : Ar fV w4 wb [.string ⟨#[]⟩, .bool false, .map (some mb), vo] 67) : w4.cell? ⟨wb, 3, none⟩ = some vo := h.at rfl

/-- one span more: the Work behind the run -/
theorem KSt.span {Ok : Nat → Prop} {wb mb rb : Nat} {r : Rn} {w w7 w8 : World} {vo v : Value} {vs : List Value} {nm : List ByteArray} {TT : List (ByteArray × Sp)} {x : Sp} {G M capo m g cap : Nat} {o : Obj} (h : KSt Ok wb mb rb r w w7 vo vs nm nm (spl TT)) (hvo : vo = .slice (some ⟨G, 0, none⟩) M capo)
    (hv : vs[m]? = some v) (hs : nm[m]? = some r.s) (hnm : mem (TT ++ [(r.s, x)]) = nm)
    (hown : w8.ownsRow 0 89 2 (.slice (some ⟨g, 0, none⟩) ((spl TT r.s).length + 1) cap) ((spl TT r.s).length + 1) (spCells (spl TT r.s) ++ [.slice x.ra x.n x.n, .slice x.ta x.tn x.tn]))
    (hg : (w7.alloc o).drew.grownBy w8 v.ownBlock) (hat : v.ownBlock = some g ∨ g = w7.heap.size + 1) (hH : Ok (w7.heap.size + 1)) (hOw : ¬ Ok wb) (hOm : ¬ Ok mb) :
    w8.cell? ⟨wb, 3, none⟩ = some vo ∧ w8.cell? ⟨G, m, none⟩ = some v ∧ w8.frozen? ⟨G, m, none⟩ = false ∧ w8.cell? ⟨rb, 3, none⟩ = some (.int .i64 r.fin) ∧ G ≠ rb ∧
    WSt Ok wb mb w (w8.setCell ⟨G, m, none⟩ (.slice (some ⟨g, 0, none⟩) ((spl TT r.s).length + 1) cap)) (TT ++ [(r.s, x)]) := by
  have hk := (h.alloc o).drew
  have hb : ∀ k, k < w7.heap.size → v.ownBlock ≠ some k → w8.heap[k]? = w7.heap[k]? := fun k hk' hne => (hg.block k (by simp [World.drew]; omega) (fun e => hne e.symm)).trans (Below.heap_alloc _ _ _ hk')
  have hvok : ∀ k, v.ownBlock = some k → Own vo vs k := fun k e => Or.inr ⟨m, v, hv, e⟩
  have hno : ∀ k, ¬ Ok k → v.ownBlock ≠ some k := fun k hk' e => hk' (h.sp.ok k (hvok k e))
  have hGo : vo.ownBlock = some G := by rw [hvo]; rfl
  have hGOk := h.sp.ok G (Or.inl hGo)
  have hGlt := h.sp.lt (Or.inl hGo)
  have hm := (List.getElem?_eq_some_iff.1 hv).1
  have hM : M = vs.length := by
    have := h.sp.out
    rw [hvo] at this
    obtain ⟨a, cap', e, _⟩ := own_slice this
    simp at e
    exact e.2.1
  have hvG : v.ownBlock ≠ some G := fun q => h.sp.apart hv hGo q
  have a1 : Ar fV w8 wb [.string ⟨#[]⟩, .bool false, .map (some mb), vo] 67 := by
    have hl := h.wk.lt
    have q := h.wk
    unfold Ar at q ⊢
    rw [hb wb hl (hno wb hOw)]; exact q
  have a2 : Ar fV w8 rb [.string r.s, .int .i64 r.born, .bool r.listed, .int .i64 r.fin] 80 := by
    have hl := h.rv.lt
    have q := h.rv
    unfold Ar at q ⊢
    rw [hb rb hl (fun e => h.ro rb (hvok rb e) rfl)]; exact q
  have ho := h.sp.out
  rw [hvo, hM] at ho
  have hGb := hb G hGlt hvG
  have hnd : nm.Nodup := by rw [← hnm]; exact mem_nodup _
  have hspn := hk.sp.span (x := x) (sp' := spl (TT ++ [(r.s, x)])) hvo hnd hv hs hown hg hat hH (by simp [World.drew]) (by rw [spl_snoc]; simp) (fun t ht => by rw [spl_snoc]; simp [Ne.symm ht])
  have hfr : Fr (fun k => k = wb ∨ k = mb ∨ Ok k) w w8 := hk.fr.grown hg (fun k hk' => Or.inl (Or.inr (Or.inr (h.sp.ok k (hvok k hk')))))
  refine ⟨a1.at rfl, ?_, ?_, a2.at rfl, h.ro G (Or.inl hGo), hfr.setCell (Or.inl (Or.inr (Or.inr hGOk))) _, ?_, vo, vs.set m (.slice (some ⟨g, 0, none⟩) ((spl TT r.s).length + 1) cap), a1.set_other (fun e => hOw (e ▸ hGOk)) _, ?_⟩
  · rw [World.cell?_of_block hGb, ho.cellAt m (by omega)]; exact hv
  · rw [World.frozen?_of_block hGb]; exact ho.frozenAt m
  · rw [hnm]
    refine (h.mp.of_block (hb mb h.mp.lt (hno mb hOm))).of_block (Below.heap_setCell _ _ _ _ (fun e => hOm (e ▸ hGOk)))
  · rw [hnm]; exact hspn

theorem news2 (w : World) (u v : Value) (e : TypeId) : ∀ j x, [u, v][j]? = some x → (w.alloc (.cells #[u, v] e)).drew.cell? (Addr.add ⟨w.heap.size, 0, none⟩ j) = some x := by
  intro j x hj
  match j, hj with
  | 0, hj =>
    simp at hj
    subst hj
    exact (Ar.new w fV [u, v] e).at rfl
  | 1, hj =>
    simp at hj
    subst hj
    exact (Ar.new w fV [u, v] e).at (i := 1) rfl

end Go.Proofs.Qxb6003232a.Kp
