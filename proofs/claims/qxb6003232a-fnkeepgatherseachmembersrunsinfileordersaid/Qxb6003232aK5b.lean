/-
  keep (33): the walk.
-/
import Derived.Test.Qxb6003232aK5
namespace Go.Proofs.Qxb6003232a.Kp
open Go.ChangeShapes Go.WideShapes Go.ChangeAt Go.RowKit Go.Maps
set_option linter.unusedVariables false

/-- append under a name of our own: the walk then leaves it shut, and runs it by its run equation -/
def appK (ats : Array TypeId) (ty : TypeId) (args : Array Value) : Sem Value := Builtin.append_ ats ty args
theorem append_isK (ats : Array TypeId) (ty : TypeId) (args : Array Value) : Builtin.append_ ats ty args = appK ats ty args := rfl
attribute [local go_sem ↓] append_isK
set_option maxRecDepth 100000 in
set_option maxHeartbeats 4000000 in
theorem keep_calls (Ok : Nat → Prop) (wb mb pb lo : Nat) (aR aT aN : Option Addr) (nR nT : Nat) (xs : List Rn) (T : List (ByteArray × Sp)) (w : World)
    (hst : WSt Ok wb mb w w T) (hOk : ∀ k, w.heap.size ≤ k → Ok k) (hOw : ¬ Ok wb) (hOm : ¬ Ok mb) (hwm : wb ≠ mb) (hlo : ∀ k, lo ≤ k → k < w.heap.size → ¬ (k = wb ∨ k = mb ∨ Ok k))
    (hp : Ar fV w pb [.pointer none, .slice aR nR nR, .slice aT nT nT, .slice aN xs.length xs.length] 72) (hpl : lo ≤ pb)
    (hA : Arr f4 4 w.heap.size w aN xs) (hAl : ∀ ad, aN = some ad → lo ≤ ad.block) (hstr : ∀ r ∈ xs, r.s.size ≤ maxLen)
    (hT : T.length ≤ 4096) (hx : xs.length ≤ 4096) (hR : nR ≤ 65536) (hTn : aT ≠ none → nT = nR) (hfit : Fits nR xs) :
    Calls Try.prog 33 #[.pointer (some ⟨wb, 0, none⟩), .pointer (some ⟨pb, 0, none⟩)] w fun e w' => e = .returned (.tuple #[]) ∧ WSt Ok wb mb w w' (T ++ partT aR aT xs xs.length) := by
  have HST := hide hst
  have HOK := hide hOk
  have HLO := hide hlo
  have HP := hide hp
  have HA := hide hA
  have HAL := hide hAl
  have HSTR := hide hstr
  have HFIT := hide hfit
  have HTN := hide hTn
  have hpc : w.cell? ⟨pb, 3, none⟩ = some (.slice aN xs.length xs.length) := hp.at rfl
  clear hst hOk hlo hp hA hAl hstr hfit hTn
  go_enter Try.func33, Try.ntmps33
  go_wp2_with fail
  go_loopw [4, 15] (fun f i wr => ∃ k : Nat, k ≤ xs.length ∧ i = .int .i64 k ∧ f = .int .i64 (from_ xs k) ∧ 0 ≤ from_ xs k ∧ WSt Ok wb mb w wr (T ++ partT aR aT xs k)) (fun _ i _ => xs.length - (intOf i).toNat)
  case atStart => exact ⟨0, by omega, rfl, rfl, by simp [from_], by simpa [partT] using unhide HST⟩
  case round =>
    obtain ⟨k, hk, rfl, rfl, hfr0, hst⟩ := hrel
    by_cases hlt : k < xs.length
    · have HLT := hide hlt
      obtain ⟨r, hr⟩ := getlt hlt
      obtain ⟨hfit1, hfit2⟩ := unhide HFIT k r hr
      have hTl : (T ++ partT aR aT xs k).length ≤ 8192 := by
        have := partT_len aR aT xs k
        simp; omega
      have hss := unhide HSTR r (List.mem_of_getElem? hr)
      have hps := hide (partT_succ (aR := aR) (aT := aT) hr)
      have hfs := hide (from_succ hr)
      obtain ⟨b, off, hea, hb, hcc⟩ := (unhide HA).later hr
      subst hea
      have hbl := unhide HAL _ rfl
      have hbw : ∀ j v, (f4 r)[j]? = some v → wr.cell? ⟨b, off + k * 4 + j, none⟩ = some v := fun j v hj => (World.cell?_of_block (hst.fr.block b hb (unhide HLO b hbl hb))).trans (hcc w (Below.refl _ _) j v hj)
      have q0 : wr.cell? ⟨b, off + k * 4, none⟩ = some (.string r.s) := hbw 0 _ rfl
      have q1 : wr.cell? ⟨b, off + k * 4 + 1, none⟩ = some (.int .i64 r.born) := hbw 1 _ rfl
      have q2 : wr.cell? ⟨b, off + k * 4 + 2, none⟩ = some (.bool r.listed) := hbw 2 _ rfl
      have q3 : wr.cell? ⟨b, off + k * 4 + 3, none⟩ = some (.int .i64 r.fin) := hbw 3 _ rfl
      obtain ⟨hfr, hmp, vo, vs, hwk, hsp⟩ := hst
      have hmc : wr.cell? ⟨wb, 2, none⟩ = some (.map (some mb)) := hwk.at rfl
      have hwlt := hwk.lt
      have HWL : Hid (wb < w.heap.size) := by obtain ⟨_, _, q, _⟩ := (unhide HST).sp; exact q.lt
      have HFR := hide hfr
      have HMP := hide hmp
      have HWK := hide hwk
      have HSP := hide hsp
      have HSS := hide hss
      have HK := hide (KSt.begin r hfr hmp hwk hsp)
      have hrb : w.heap.size ≤ wr.heap.size := hfr.size
      clear hcc hbw hbl hfr hmp hwk hsp hss hr
      clear HFR HMP HWK HSP
      generalize hTT : T ++ partT aR aT xs k = TT at *
      have HTT := hide hTT
      clear hTT
      obtain ⟨ao, capo, hvo, hpos⟩ := own_slice (unhide HK).sp.out
      subst hvo
      go_wp2_with fail
      generalize hw1 : wr.alloc (.cells #[.string r.s, .int .i64 r.born, .bool r.listed, .int .i64 r.fin] 80) = w1 at *
      clear hw1 q0 q1 q2 q3 hmc
      generalize wr.heap.size = rb at *
      have hmc : w1.cell? ⟨wb, 2, none⟩ = some (.map (some mb)) := (unhide HK).wk.at rfl
      have hrs : w1.cell? ⟨rb, 0, none⟩ = some (.string r.s) := (unhide HK).rv.at rfl
      by_cases hin : r.s ∈ mem TT
      case' pos =>
        obtain ⟨m, hm, hme⟩ := List.getElem_of_mem hin
        have hmi : (mem TT)[m]? = some r.s := by rw [List.getElem?_eq_getElem hm, hme]
        have hlk := fun n => ((unhide HK).drewN n).mp.yes hmi (unhide HSS)
        have HMI := hide hmi
        have HNM : Hid (∀ x, mem (TT ++ [(r.s, x)]) = mem TT) := fun x => mem_old (p := (r.s, x)) hin
        clear hin hm hme hmi
        go_quiet (fail)
        have HK5 := hide ((unhide HK).drewN nq)
        generalize hw5 : w1.drewN nq = w5 at *
        generalize hvo5 : Value.slice ao vs.length capo = vo5 at HK5
        generalize hnm5 : mem TT = nm5 at HK5 HMI HNM
        generalize hvs5 : vs = vs5 at HK5
        clear hlk hmc hrs HK hw5 hvo5 hnm5 hvs5 hpos hlt
        go_wp2_with fail
      case' neg =>
        have hlk := fun n => ((unhide HK).drewN n).mp.no hin (unhide HSS)
        have HIN := hide hin
        clear hin
        go_quiet (fail)
        have HK2 := hide ((unhide HK).drewN nq)
        generalize w1.drewN nq = w2 at *
        clear hlk hmc hrs HK
        have hmc : w2.cell? ⟨wb, 2, none⟩ = some (.map (some mb)) := (unhide HK2).wk.at rfl
        have hvc : w2.cell? ⟨wb, 3, none⟩ = some (.slice ao vs.length capo) := (unhide HK2).wk.at rfl
        have hrs : w2.cell? ⟨rb, 0, none⟩ = some (.string r.s) := (unhide HK2).rv.at rfl
        have hvl : vs.length = (mem TT).length := (unhide HK2).sp.len
        have hml := mem_len TT
        obtain ⟨w3, hup, hmap3, hgr3⟩ := (unhide HK2).drew.mp.add (unhide HIN) (unhide HSS) (by omega)
        rw [← hvl] at hup
        have hrbm : rb ≠ mb := fun e => by
          have := (unhide HST).mp.lt
          omega
        have HK3 := hide ((unhide HK2).drew.mapped hmap3 hgr3 hwm hrbm hOm)
        clear hmap3 hgr3 hml hvl
        go_wp2_with fail
        go_region
        have hvc3 : w3.cell? ⟨wb, 3, none⟩ = some (.slice ao vs.length capo) := (unhide HK3).wk.at rfl
        have hf3 := (unhide HK3).wk.free 3
        clear hvc hmc hrs hup HK2
        obtain ⟨i82, hi82, hz0, hz1, hz2⟩ := info_parts info82
        have I1 := hide hi82
        have I2 := hide hz0
        have I3 := hide hz1
        have I4 := hide hz2
        clear hi82 hz0 hz1 hz2
        have hrb3 := (unhide HK3).rv.lt
        have hsz3 := (unhide HK3).fr.size
        have hOH := hide (unhide HOK (w3.heap.size + 1) (by omega))
        have hvl2 : vs.length ≤ 8192 := by
          have h1 := (unhide HK3).sp.len
          have h2 := mem_len TT
          omega
        have hnm := hide (spl_new TT r.s (unhide HIN))
        have hvn := hide (unhide HK3).sp.len
        go_wp2_with (at_builtin; refine wpList_append_lies _ (by rfl) (.tmp 47) (.tmp 48) 65 (by rfl) 0 82 i82 (.slice none 0 0) 1 24 Try.underlying65 (unhide I1) (unhide I2) (unhide I3) (unhide I4) (by rfl) (by decide) (.slice ao vs.length capo) vs.length vs (by rfl) ((unhide HK3).sp.out.alloc _) ⟨w3.heap.size, 0, none⟩ 1 1 [.slice none 0 0] (by rfl) (by rfl) (news1 _ _ _) (by simp [Value.oneCell']) (by decide) (by unfold maxLen; omega) (by omega) (Nat.zero_le _) (w3.heap.size + 1) (by simp) ?_; intro g cap w4 hown4 hgrow4 hat4 hlt4; have hmem := hide (((unhide HK3).alloc _).member (unhide hnm) hown4 hgrow4 hat4 (unhide hOH) (by omega) hOw hOm (by omega) hwm); have hc4 := wk_cell (unhide hmem).1; have hf4 := (unhide hmem).1.free 3)
        have HK5 := hide (unhide hmem).2
        have HMI : Hid ((mem TT ++ [r.s])[vs.length]? = some r.s) := by
          show (mem TT ++ [r.s])[vs.length]? = some r.s
          rw [unhide hvn]; simp
        have HNM : Hid (∀ x, mem (TT ++ [(r.s, x)]) = mem TT ++ [r.s]) := fun x => mem_new (p := (r.s, x)) (unhide HIN)
        generalize hw5 : w4.setCell ⟨wb, 3, none⟩ (.slice (some ⟨g, 0, none⟩) (vs.length + 1) cap) = w5 at *
        generalize hvo5 : Value.slice (some ⟨g, 0, none⟩) (vs.length + 1) cap = vo5 at HK5
        generalize hnm5 : mem TT ++ [r.s] = nm5 at HK5 HMI HNM
        generalize hvs5 : vs ++ [Value.slice none 0 0] = vs5 at HK5
        generalize hm5 : vs.length = m at *
        clear hw5 hvo5 hnm5 hvs5 hm5 hmem hc4 hf4 hown4 hgrow4 hat4 hlt4 hvc3 hf3 HK3 hrb3 hsz3 hOH hvl2 hnm hvn hpos hlt HIN I1 I2 I3 I4
      all_goals
        obtain ⟨a5, c5, hvo5, hpos5⟩ := own_slice (unhide HK5).sp.out
        subst hvo5
        have hmlt : m < vs5.length := by
          rw [(unhide HK5).sp.len]
          exact (List.getElem?_eq_some_iff.1 (unhide HMI)).1
        obtain ⟨G, hG⟩ := hpos5 (by omega)
        subst hG
        have hP5 : Ar fV w5 pb _ 72 := (unhide HP).fr (unhide HK5).fr (unhide HLO pb hpl (unhide HP).lt)
        have hpR : w5.cell? ⟨pb, 1, none⟩ = some (.slice aR nR nR) := hP5.at rfl
        have hpT : w5.cell? ⟨pb, 2, none⟩ = some (.slice aT nT nT) := hP5.at rfl
        have hre : w5.cell? ⟨rb, 3, none⟩ = some (.int .i64 r.fin) := (unhide HK5).rv.at rfl
        have hslR := fun w => slice_run 43 75 aR nR 3 (from_ xs k) r.fin Try.underlying43 (by kernel_rfl) hfr0 hfit1 hfit2 w
        have hrb5 := (unhide HK5).rv.lt
        have hpb5 := hP5.lt
        have HP5 := hide hP5
        clear hP5 hpos5
        have HK6 := hide ((unhide HK5).alloc (.cells #[.slice (cut aR 3 (from_ xs k).toNat r.fin.toNat) (r.fin.toNat - (from_ xs k).toNat) (r.fin.toNat - (from_ xs k).toNat), .slice none 0 0] 89)).drew
        have HS6 := hide (show Ar fV (w5.alloc (.cells #[.slice (cut aR 3 (from_ xs k).toNat r.fin.toNat) (r.fin.toNat - (from_ xs k).toNat) (r.fin.toNat - (from_ xs k).toNat), .slice none 0 0] 89)).drew w5.heap.size [.slice (cut aR 3 (from_ xs k).toNat r.fin.toNat) (r.fin.toNat - (from_ xs k).toNat) (r.fin.toNat - (from_ xs k).toNat), .slice none 0 0] 89 from Ar.new w5 fV [.slice (cut aR 3 (from_ xs k).toNat r.fin.toNat) (r.fin.toNat - (from_ xs k).toNat) (r.fin.toNat - (from_ xs k).toNat), .slice none 0 0] 89)
        have HP6 := hide (show Ar fV (w5.alloc (.cells #[.slice (cut aR 3 (from_ xs k).toNat r.fin.toNat) (r.fin.toNat - (from_ xs k).toNat) (r.fin.toNat - (from_ xs k).toNat), .slice none 0 0] 89)).drew pb _ 72 from (unhide HP5).alloc _)
        have hol := hide (fun g hg => (unhide HK5).sp.lt (g := g) hg)
        have hsb : w.heap.size ≤ w5.heap.size := (unhide HK5).fr.size
        go_region
        generalize hw6 : (w5.alloc (.cells #[.slice (cut aR 3 (from_ xs k).toNat r.fin.toNat) (r.fin.toNat - (from_ xs k).toNat) (r.fin.toNat - (from_ xs k).toNat), .slice none 0 0] 89)).drew = w6 at *
        generalize hsb5 : w5.heap.size = sb at *
        clear hw6 hsb5 hslR hpR hpT hre HK5 HP5
        have hpT : w6.cell? ⟨pb, 2, none⟩ = some (.slice aT nT nT) := (unhide HP6).at rfl
        have hre : w6.cell? ⟨rb, 3, none⟩ = some (.int .i64 r.fin) := (unhide HK6).rv.at rfl
        have hsc : w6.cell? ⟨sb, 1, none⟩ = some (.slice none 0 0) := (unhide HS6).at rfl
        have hsf := (unhide HS6).free 1
        have hnl := fun (w : World) (a : Option Addr) (l c : Nat) => run_neq_slice_nil_any (P := Try.prog) w 45 31 a l c 0 0 Try.underlying45
        have hrsb : rb ≠ sb := by omega
        have hpsb : pb ≠ sb := by omega
        obtain ⟨tv, htv⟩ : ∃ tv, tv = spanAt aR aT (from_ xs k).toNat r.fin.toNat := ⟨_, rfl⟩
        have hslT := fun (ad : Addr) (h : aT = some ad) (w : World) => slice_run 45 31 (some ad) nT 1 (from_ xs k) r.fin Try.underlying45 (by kernel_rfl) hfr0 hfit1 (by rw [unhide HTN (by rw [h]; exact Option.some_ne_none _)]; exact hfit2) w
        have HTV := hide htv
        cases hcT : aT
        case' none =>
          rw [hcT] at hpT
          have HS7 : Hid (Ar fV w6 sb [.slice tv.ra tv.n tv.n, .slice tv.ta tv.tn tv.tn] 89) := by
            rw [htv, hcT]; exact unhide HS6
          have HK7 := HK6
          clear HS6 HK6
          go_wp2_with fail
          clear hpT hre hsc hsf hnl hslT HP6
          generalize w6 = w7 at *
        case' some ad =>
          rw [hcT] at hpT
          have hslT' := hslT ad hcT
          have hww : w6.heap.size = w6.heap.size := rfl
          have HS7 : Hid (Ar fV (w6.setCell ⟨sb, 1, none⟩ (.slice (cut (some ad) 1 (from_ xs k).toNat r.fin.toNat) (r.fin.toNat - (from_ xs k).toNat) (r.fin.toNat - (from_ xs k).toNat))).drew sb [.slice tv.ra tv.n tv.n, .slice tv.ta tv.tn tv.tn] 89) := by
            rw [htv, hcT]; exact (unhide HS6).set 1 _
          have HK7 := hide ((unhide HK6).local (a := ⟨sb, 1, none⟩) hsb (unhide HST).mp.lt (unhide HWL) hrsb (fun g hg => Nat.ne_of_lt (unhide hol g hg)) (.slice (cut (some ad) 1 (from_ xs k).toNat r.fin.toNat) (r.fin.toNat - (from_ xs k).toNat) (r.fin.toNat - (from_ xs k).toNat))).drew
          clear HS6 HK6 hww
          go_wp2_with fail
          go_region
          clear hpT hre hsc hsf hnl hslT HP6 hslT'
          generalize (w6.setCell ⟨sb, 1, none⟩ (.slice (cut (some ad) 1 (from_ xs k).toNat r.fin.toNat) (r.fin.toNat - (from_ xs k).toNat) (r.fin.toNat - (from_ xs k).toNat))).drew = w7 at *
        all_goals
          as_aux_lemma =>
            clear htv
            try go_wp2_with fail
            obtain ⟨v7, hv7⟩ := getlt hmlt
            have hin7 := (unhide HK7).sp.inn m v7 r.s hv7 (unhide HMI)
            obtain ⟨av, cv, hve, -⟩ := own_slice hin7
            subst hve
            have hsl7 := spl_len TT r.s
            obtain ⟨i89, hi89, hz0, hz1, hz2⟩ := info_parts info89
            obtain ⟨g8, cap8, w8, hrun8, hown8, hgr8, hat8, hlt8⟩ := run_append_lies (P := Try.prog) (w7.alloc (.cells #[.slice tv.ra tv.n tv.n, .slice tv.ta tv.tn tv.tn] 89)).drew 82 82 0 89 i89 (.agg #[.slice none 0 0, .slice none 0 0]) 2 48 Try.underlying82 hi89 hz0 hz1 hz2 (by rfl) (by decide) (.slice av (spl TT r.s).length cv) (spl TT r.s).length (spCells (spl TT r.s)) (hin7.alloc _) ⟨w7.heap.size, 0, none⟩ 1 1 [.slice tv.ra tv.n tv.n, .slice tv.ta tv.tn tv.tn] (by rfl) (news2 _ _ _ _) (by simp [Value.oneCell']) (by decide) (by unfold maxLen; omega) (by omega) (Nat.zero_le _) (w7.heap.size + 1) (by simp [World.drew])
            clear hi89 hz0 hz1 hz2 hlt8
            rw [append_isK] at hrun8
            have hOH8 := unhide HOK (w7.heap.size + 1) (by have := (unhide HK7).fr.size; omega)
            obtain ⟨hc1, hc2, hc3, hc4, hc5, hfin⟩ := (unhide HK7).span (x := tv) rfl hv7 (unhide HMI) (unhide HNM tv) hown8 hgr8 hat8 hOH8 hOw hOm
            have HFIN := hide hfin
            have d1 : w7.cell? ⟨wb, 3, none⟩ = some (.slice (some ⟨G, 0, none⟩) vs5.length c5) := (unhide HK7).wk.at rfl
            have d2 : w7.cell? ⟨G, m, none⟩ = some (.slice av (spl TT r.s).length cv) := by rw [(unhide HK7).sp.out.cellAt m (by omega)]; exact hv7
            have d3 : w7.cell? ⟨sb, 0, none⟩ = some (.slice tv.ra tv.n tv.n) := (unhide HS7).at rfl
            have d4 : w7.cell? ⟨sb, 1, none⟩ = some (.slice tv.ta tv.tn tv.tn) := (unhide HS7).at rfl
            have e1 : wb < w7.heap.size := (unhide HK7).wk.lt
            have e2 : G < w7.heap.size := (unhide HK7).sp.lt (Or.inl rfl)
            have e3 : sb < w7.heap.size := (unhide HS7).lt
            have hsbv : some sb ≠ (Value.slice av (spl TT r.s).length cv).ownBlock := fun e => Nat.lt_irrefl _ (unhide hol sb (Or.inr ⟨m, _, hv7, e.symm⟩))
            have c80 : w8.cell? ⟨sb, 0, none⟩ = some (.slice tv.ra tv.n tv.n) := (hgr8.cell_far ⟨sb, 0, none⟩ (by simp [World.drew]; omega) hsbv).trans ((World.cell?_of_block (Below.heap_alloc _ _ _ e3)).trans d3)
            have c81 : w8.cell? ⟨sb, 1, none⟩ = some (.slice tv.ta tv.tn tv.tn) := (hgr8.cell_far ⟨sb, 1, none⟩ (by simp [World.drew]; omega) hsbv).trans ((World.cell?_of_block (Below.heap_alloc _ _ _ e3)).trans d4)
            have n1 : wb ≠ G := fun e => hOw (by have q := (unhide HK7).sp.ok G (Or.inl rfl); rw [← e] at q; exact q)
            have n2 : sb ≠ G := fun e => by have := unhide hol G (Or.inl rfl); omega
            clear hin7 hown8 hgr8 hat8 hOH8 hfin hsbv
            go_region
            as_aux_lemma =>
              clear d1 d2 d3 d4 hrun8 hc1 hc2 hc3 c80 c81
              go_wp2_with fail
              go_roundw
              case rel =>
                have hlt := unhide HLT
                refine ⟨k + 1, by omega, by go_num, by rw [unhide hfs], by rw [unhide hfs]; omega, ?_⟩
                rw [unhide hps, ← List.append_assoc, unhide HTT, ← unhide HTV]
                exact unhide HFIN
              case measure =>
                have hlt := unhide HLT
                simp [intOf]; omega
    · go_wp2_with fail
      go_end0
      refine ⟨rfl, ?_⟩
      have : k = xs.length := by omega
      rw [← this]; exact hst
end Go.Proofs.Qxb6003232a.Kp
