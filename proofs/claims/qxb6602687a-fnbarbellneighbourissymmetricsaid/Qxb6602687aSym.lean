/-
  The proof of Rows.FnBarbellNeighbourIsSymmetricSaid: step 1 is ours; the rest is the template at this function.
-/
import Derived.Test.Qxb6602687aWalk1
import Derived.Deep.RegionWith
import Derived.WalkKit
import Derived.ProofKit
import Derived.OpenShut
import Derived.ShutString
namespace Go.Proofs.Qxb6602687a.fnBarbellNeighbourIsSymmetric
open Go.ChangeShapes Go.WideShapes Go.ChangeAt Go.RowKit
open Go.ChangeMaps (open_string shut_string)
set_option linter.unusedVariables false      -- a walk need not use every 'w<i>' (that an integer argument fits its kind)

theorem own : ownKnob Try.prog.godebug = none := by kernel_rfl

/-! ### STEP 1: THE WALK: the Go text returns true. 'Grown w w'': the world has at most new blocks (Derived/RowKit3.lean). Part the cases AHEAD of 'go_enter' where a test parts the walk; take each callee by a contract of your own. -/
theorem walk (a0 : Int) (a1 : Int) (a2 : Int) (w0 : (Lit.int .i64 a0).wf = true) (w1 : (Lit.int .i64 a1).wf = true) (w2 : (Lit.int .i64 a2).wf = true) (w : World) :
    Calls Try.prog 7 #[.int .i64 a0, .int .i64 a1, .int .i64 a2] w fun e w' => e = .returned (.bool true) ∧ Grown w w' := by
  have b0 := bounds_i64 w0
  clear w0 w1 w2
  by_cases c1 : a0 < 2
  · go_enter Try.func7, Try.ntmps7
    go_wp2
    go_ret
    exact ⟨rfl, Grown.refl _⟩
  by_cases c0 : 65536 < a0
  · go_enter Try.func7, Try.ntmps7
    go_wp2
    go_ret
    exact ⟨rfl, Grown.refl _⟩
  by_cases c2 : a0 % 2 = 0
  rotate_left
  · have c2' : (a0 % 2 != 0) = true := by rw [bne_iff_ne]; exact c2
    clear c2
    go_enter Try.func7, Try.ntmps7
    go_wp2
    go_ret
    exact ⟨rfl, Grown.refl _⟩
  obtain ⟨h, rfl⟩ : ∃ h, a0 = 2 * h := ⟨a0 / 2, by omega⟩
  have h1 : 1 ≤ h := by omega
  have h2 : h ≤ 32768 := by omega
  have e1 : 2 * h / 2 = h := by omega
  have e2 : (2 * h % 2 != 0) = false := by simp
  clear b0 c0 c1 c2
  have c1 : ¬ 2 * h < 2 := by omega
  have c0 : ¬ 65536 < 2 * h := by omega
  by_cases c3 : a1 < 0
  · go_enter Try.func7, Try.ntmps7
    go_wp2
    go_ret
    exact ⟨rfl, Grown.refl _⟩
  by_cases c4 : a1 < 2 * h
  rotate_left
  · go_enter Try.func7, Try.ntmps7
    go_wp2
    go_ret
    exact ⟨rfl, Grown.refl _⟩
  by_cases c5 : a2 < 0
  · go_enter Try.func7, Try.ntmps7
    go_wp2
    go_ret
    exact ⟨rfl, Grown.refl _⟩
  by_cases c6 : a2 < Bar.deg h a1
  rotate_left
  · go_enter Try.func7, Try.ntmps7
    go_wp2_with (go_at_call 11; refine (Bar.deg_calls h a1 _ h1 (by omega)).mono ?_; rintro e w' ⟨rfl, rfl⟩)
    go_ret
    exact ⟨rfl, Grown.refl _⟩
  obtain ⟨n0, n1, n2, n3⟩ := Bar.nb_ok h a1 a2 h1 (by omega) c4 (by omega) c6
  have hd : Bar.deg h a1 ≤ h := by unfold Bar.deg; omega
  have NZ := Bar.hide (fun w => Bar.zz_calls h a1 a2 w h1 (by omega) (by omega) c4 (by omega) (by omega))
  have ND := Bar.hide (fun w => Bar.deg_calls h a1 w h1 (by omega))
  clear n3
  generalize Bar.nb h a1 a2 = r at *
  generalize Bar.deg h a1 = dg at *
  obtain ⟨J, j0, j1, j2⟩ := Bar.nb_back h a1 r h1 (by omega) c4 n0 n1 n2
  have hne : (r == a1) = false := beq_eq_false_iff_ne.2 (fun e => n2.1 e.symm)
  clear n2
  have hd2 : Bar.deg h r ≤ h := by unfold Bar.deg; omega
  have NE := Bar.hide (fun w => Bar.deg_calls h r w h1 (by omega))
  have NY := Bar.hide (fun (j : Int) (w : World) (k0 : 0 ≤ j) (k1 : j ≤ h) => Bar.zz_calls h r j w h1 (by omega) n0 n1 k0 k1)
  generalize Bar.deg h r = dr at *
  have J2 := Bar.hide j2
  clear j2
  go_enter Try.func7, Try.ntmps7
  go_wp2_with (first | (go_at_call_of 11 (Value.int IntKind.i64 a1); refine (Bar.unhide ND _).mono ?_; rintro e w' ⟨rfl, rfl⟩) | (go_at_call_of 11 (Value.int IntKind.i64 r); refine (Bar.unhide NE _).mono ?_; rintro e w' ⟨rfl, rfl⟩) | (go_at_call 12; refine (Bar.unhide NZ _).mono ?_; rintro e w' ⟨rfl, rfl⟩))
  go_loop [10] (fun j => ∃ k : Int, 0 ≤ k ∧ k ≤ J ∧ j = .int .i64 k) (fun j => (J - intOf j).toNat)
  case atStart => exact ⟨0, by omega, j0, rfl⟩
  case round =>
    obtain ⟨k, k0, k1, rfl⟩ := hrel
    by_cases hk : Bar.nb h r k = a1
    · have hk' : (Bar.nb h r k == a1) = true := beq_iff_eq.2 hk
      clear hk
      go_wp2_with (go_at_call 12; refine (Bar.unhide NY k _ (by omega) (by omega)).mono ?_; rintro e w' ⟨rfl, rfl⟩)
      go_ret
      exact ⟨rfl, Grown.refl _⟩
    · have hJ : k ≠ J := fun e => hk (by rw [e]; exact Bar.unhide J2)
      have hk' : (Bar.nb h r k == a1) = false := beq_eq_false_iff_ne.2 hk
      clear hk
      have hlt : k < J := by omega
      clear hJ
      go_wp2_with (go_at_call 12; refine (Bar.unhide NY k _ (by omega) (by omega)).mono ?_; rintro e w' ⟨rfl, rfl⟩)
      go_round
      case rel => exact ⟨k + 1, by omega, by omega, rfl⟩
      case measure => simp [intOf]; omega

/-! ### THE ROW's STEP: WRITTEN OUT: LEAVE IT -/
set_option maxRecDepth 100000 in
theorem lifted (os : Os) (started : os.Started) (H : Type) (enc : TypeId × Value → H) :
    ReturnsInHanded {} Try.checked os 7 .any (Rows.fnBarbellNeighbourIsSymmetricSpec.pre6 enc Try.prog Try.f7 Rows.fnBarbellNeighbourIsSymmetricRow.domain false) (Rows.fnBarbellNeighbourIsSymmetricSpec.post enc Try.prog Try.f7 false true false false) := by
  refine returnsInHanded_of_change (C := Try.checked) own started (by kernel_rfl) Try.func7
    (ChangeSpec.witness6 (enc := enc) (C := Try.checked) false ⟨#[], #[.int .i64 0, .int .i64 0, .int .i64 0], []⟩ 8 (by kernel_rfl) (by kernel_rfl) (by kernel_rfl) (by kernel_rfl)) ?_
  intro W base args ds gs before hval0 hW hcnd _
  have hval : ∀ (j : Nat) t v, Try.f7.params[j]? = some t → args[j]? = some v → Value.okWide Try.prog W .any base t v := hval0
  have hW' := hW
  obtain ⟨p, q, hA0, hV, rfl, hfz, hnd⟩ := hW
  have hA : DataW.TrodAll enc Try.prog W 0 (fun _ => true) true Try.f7.params.toList args.toList ds p := hA0
  rw [Try.params7] at hA hval
  obtain ⟨v0, vs0, d0, ds0, p0, q0, hargs, rfl, rfl, h0, r0⟩ := trodAll_cons hA
  obtain ⟨v1, vs1, d1, ds1, p1, q1, rfl, rfl, rfl, h1, r1⟩ := trodAll_cons r0
  obtain ⟨v2, vs2, d2, ds2, p2, q2, rfl, rfl, rfl, h2, r2⟩ := trodAll_cons r1
  obtain ⟨rfl, rfl, rfl⟩ := trodAll_nil r2
  obtain rfl : args = #[v0, v1, v2] := by cases args; simp_all
  obtain ⟨rfl, rfl⟩ := trodVars_none hV
  obtain ⟨a0, rfl, rfl, rfl, w0⟩ := open_int Try.underlying3 (hval 0 3 v0 rfl rfl) h0
  obtain ⟨a1, rfl, rfl, rfl, w1⟩ := open_int Try.underlying3 (hval 1 3 v1 rfl rfl) h1
  obtain ⟨a2, rfl, rfl, rfl, w2⟩ := open_int Try.underlying3 (hval 2 3 v2 rfl rfl) h2
  clear hA0 hval0
  simp only [List.append_nil] at hW'
  refine (walk a0 a1 a2 w0 w1 w2 W).mono fun e W' ⟨he, hg⟩ => ?_
  subst he
  exact ⟨_, rfl, post_of_same (pa := []) (pv := []) hW' (fun _ _ _ => (trodAll_cons_mk (shut_bool Try.underlying4 _) trodAll_mk0)) (fun sp _ => (trodAll_cons_mk (shut_int Try.underlying3 w0) (trodAll_cons_mk (shut_int Try.underlying3 w1) (trodAll_cons_mk (shut_int Try.underlying3 w2) trodAll_mk0)))) (fun _ _ => rfl) rfl
    (hg.frame _) hg.2.1 (ok_one (by kernel_rfl) rfl (okWide_bool_mk Try.underlying4 _))⟩

theorem over : Rows.fnBarbellNeighbourIsSymmetricRow.holds Try.pinned (OpenSpec.ofChange Rows.fnBarbellNeighbourIsSymmetricSpec) :=
  OpenClaim.holds_of_wide 7 Try.f7 rfl rfl rfl rfl rfl rfl rfl ⟨rfl, rfl, rfl, rfl, rfl⟩ rfl rfl rfl rfl rfl (by kernel_rfl) Try.func7 (by kernel_rfl)
    (of_decide_eq_true (by kernel_rfl)) (by unfold Func.isWrapper; first | (rw [if_pos (by decide +kernel)]; kernel_rfl) | (rw [if_neg (by decide +kernel)]; exact ⟨rfl, rfl⟩))
    (fun os started H enc _ => lifted os started H enc)

/-- ████ THE STATEMENT ████ -/
theorem proved : Rows.FnBarbellNeighbourIsSymmetricSaid :=
  over
end Go.Proofs.Qxb6602687a.fnBarbellNeighbourIsSymmetric

namespace Go.Proofs.Qxb6602687a
theorem fnBarbellNeighbourIsSymmetric_proved : Rows.FnBarbellNeighbourIsSymmetricSaid := fnBarbellNeighbourIsSymmetric.proved
end Go.Proofs.Qxb6602687a
