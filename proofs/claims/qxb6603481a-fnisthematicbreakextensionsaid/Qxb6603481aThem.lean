/-
  The proof of Rows.FnIsThematicBreakExtensionSaid: step 1 is ours; the rest is the template at this function.
-/
import Derived.Test.Qxb6603481aRows
import Derived.WalkKit
import Derived.ProofKit
import Derived.OpenShut
import Derived.ShutString
import Derived.WalkSpells
namespace Go.Proofs.Qxb6603481a.fnIsThematicBreakExtension
open Go.ChangeShapes Go.WideShapes Go.ChangeAt Go.RowKit
open Go.ChangeMaps (open_string shut_string)
set_option linter.unusedVariables false

theorem own : ownKnob Try.prog.godebug = none := by kernel_rfl
theorem hide {p : Prop} (h : p) : Hid p := h
theorem unhide {p : Prop} (h : Hid p) : p := h
theorem ret_bool {a b : Bool} (h : a = b) : Ending.returned (.bool a) = .returned (.bool b) := by rw [h]

/-! ### The plain functions -/
def mark (c : UInt8) : Bool := c == 42 || c == 45 || c == 95
def good (c b : UInt8) : Bool := b == c || b == 32 || b == 9
def cnt (c : UInt8) (l : List UInt8) : Nat := l.countP (· == c)
/-- is l a thematic break of the mark c (which opens it)? -/
def tb (c : UInt8) (l : List UInt8) : Bool := mark c && l.all (good c) && decide (3 ≤ cnt c l)

theorem take_snoc (s : ByteArray) (k : Nat) (h : k < s.size) : s.data.toList.take (k + 1) = s.data.toList.take k ++ [s[k]] := by
  rw [List.take_succ_eq_append_getElem (by simpa using h)]; rfl
theorem cnt_snoc (c b : UInt8) (l : List UInt8) : cnt c (l ++ [b]) = cnt c l + if b == c then 1 else 0 := by
  unfold cnt; rw [List.countP_append]; simp [List.countP_cons]
theorem cnt_le (c : UInt8) (l : List UInt8) : cnt c l ≤ l.length := List.countP_le_length
theorem u8_beq (a b : UInt8) : ((a.toNat : Int) == (b.toNat : Int)) = (a == b) := by
  rw [Bool.eq_iff_iff, beq_iff_eq, beq_iff_eq]
  exact ⟨fun h => UInt8.toNat_inj.1 (by omega), fun h => by rw [h]⟩

theorem good_snoc (s : ByteArray) (k : Nat) (h : k < s.size) {c : UInt8} (g : good c s[k] = true) (ha : (s.data.toList.take k).all (good c) = true) : (s.data.toList.take (k + 1)).all (good c) = true := by
  rw [take_snoc s k h, List.all_append, ha]; simp [g]
theorem all_snoc (s : ByteArray) (k : Nat) (h : k < s.size) (c : UInt8) : (s.data.toList.take (k + 1)).all (good c) = ((s.data.toList.take k).all (good c) && good c s[k]) := by
  rw [take_snoc s k h, List.all_append]; simp
theorem n32 : ((32 : UInt8).toNat : Int) = 32 := rfl
theorem n9 : ((9 : UInt8).toNat : Int) = 9 := rfl
theorem mark_false (c : UInt8) (h : mark c = false) : ((c.toNat : Int) != 42) = true ∧ ((c.toNat : Int) != 45) = true ∧ ((c.toNat : Int) != 95) = true := by
  unfold mark at h
  simp only [Bool.or_eq_false_iff, beq_eq_false_iff_ne] at h
  obtain ⟨⟨h1, h2⟩, h3⟩ := h
  refine ⟨?_, ?_, ?_⟩ <;> rw [bne_iff_ne] <;> intro e
  · exact h1 (UInt8.toNat_inj.1 (show c.toNat = _ by simp; omega))
  · exact h2 (UInt8.toNat_inj.1 (show c.toNat = _ by simp; omega))
  · exact h3 (UInt8.toNat_inj.1 (show c.toNat = _ by simp; omega))
theorem mark_true (c : UInt8) (h : mark c = true) : (((c.toNat : Int) != 42) = false) ∨ (((c.toNat : Int) != 42) = true ∧ ((c.toNat : Int) != 45) = false) ∨ (((c.toNat : Int) != 42) = true ∧ ((c.toNat : Int) != 45) = true ∧ ((c.toNat : Int) != 95) = false) := by
  unfold mark at h
  simp only [Bool.or_eq_true, beq_iff_eq] at h
  rcases h with (rfl | rfl) | rfl
  · exact Or.inl (by decide)
  · exact Or.inr (Or.inl (by decide))
  · exact Or.inr (Or.inr (by decide))

theorem them_no (s : ByteArray) (w : World) (h1 : 0 < s.size) (h2 : s.size ≤ maxLen) (hm : mark s[0] = false) :
    Calls Try.prog 9 #[.string s] w fun e w' => e = .returned (.bool false) ∧ w' = w := by
  unfold maxLen at h2
  obtain ⟨e1, e2, e3⟩ := mark_false _ hm
  clear hm
  go_enter Try.func9, Try.ntmps9
  go_wp2
  go_ret
  exact ⟨rfl, rfl⟩

theorem them_yes (s : ByteArray) (w : World) (h1 : 0 < s.size) (h2 : s.size ≤ maxLen) (hm : mark s[0] = true) :
    Calls Try.prog 9 #[.string s] w fun e w' => e = .returned (.bool (tb s[0] s.data.toList)) ∧ w' = w := by
  unfold maxLen at h2
  have hm' := mark_true _ hm
  have hbad : Hid (∀ k (h : k < s.size), good s[0] s[k] = false → tb s[0] s.data.toList = false) := by
    intro k h hg
    have : s.data.toList.all (good s[0]) = false := by
      rw [List.all_eq_false]
      exact ⟨s[k], Array.mem_toList_iff.2 (Array.getElem_mem (xs := s.data) h), by simp [hg]⟩
    unfold tb; rw [this]; simp
  have hend : Hid (s.data.toList.all (good s[0]) = true → tb s[0] s.data.toList = decide (3 ≤ cnt s[0] s.data.toList)) := by
    intro h; unfold tb; rw [hm, h]; simp
  clear hm
  generalize tb s[0] s.data.toList = r at hbad hend
  have hcs : Hid (∀ k (h : k < s.size), cnt s[0] (s.data.toList.take (k + 1)) = cnt s[0] (s.data.toList.take k) + if s[k] == s[0] then 1 else 0) := by
    intro k h; rw [take_snoc s k h, cnt_snoc]
  have hcl : Hid (∀ k, k ≤ s.size → cnt s[0] (s.data.toList.take k) ≤ k) := by
    intro k h; exact Nat.le_trans (cnt_le _ _) (List.length_take_le _ _)
  rcases hm' with e1 | ⟨e1, e2⟩ | ⟨e1, e2, e3⟩
  all_goals
    go_enter Try.func9, Try.ntmps9
    go_wp2
    go_loop [4, 20] (fun n i => ∃ k : Nat, k ≤ s.size ∧ i = .int .i64 k ∧ n = .int .i64 (cnt s[0] (s.data.toList.take k) : Nat) ∧ (s.data.toList.take k).all (good s[0]) = true) (fun _ i => s.size - (intOf i).toNat)
    case atStart => exact ⟨0, Nat.zero_le _, rfl, rfl, by simp⟩
    case round =>
      obtain ⟨k, hk, rfl, rfl, hall⟩ := hrel
      have hall' := hide hall
      clear hall
      have hc1 := unhide hcl k hk
      by_cases hlt : k < s.size
      · have hsn := hide (unhide hcs k hlt)
        have hgs := hide (fun g => good_snoc s k hlt g (unhide hall'))
        have hgb := hide (unhide hbad k hlt)
        have hu := u8_beq s[k] s[0]
        have hu1 := u8_beq s[k] 32
        have hu2 := u8_beq s[k] 9
        simp only [n32, n9] at hu1 hu2
        cases q1 : s[k] == s[0]
        · rw [q1] at hu
          cases q2 : s[k] == 32
          · rw [q2] at hu1
            cases q3 : s[k] == 9
            · rw [q3] at hu2
              have hr := unhide hgb (by unfold good; rw [q1, q2, q3]; rfl)
              subst hr
              clear q1 q2 q3
              go_wp2
              go_ret
              exact ⟨rfl, rfl⟩
            · rw [q3] at hu2
              have hg := hide (unhide hgs (by unfold good; rw [q1, q2, q3]; rfl))
              have hn := hide (show cnt s[0] (s.data.toList.take (k + 1)) = cnt s[0] (s.data.toList.take k) by rw [unhide hsn, q1]; simp)
              clear q1 q2 q3
              go_wp2
              go_round
              case rel => exact ⟨k + 1, by omega, by go_num, by rw [unhide hn], unhide hg⟩
              case measure => simp [intOf]; omega
          · rw [q2] at hu1
            have hg := hide (unhide hgs (by unfold good; rw [q1, q2]; rfl))
            have hn := hide (show cnt s[0] (s.data.toList.take (k + 1)) = cnt s[0] (s.data.toList.take k) by rw [unhide hsn, q1]; simp)
            clear q1 q2 hu2
            go_wp2
            go_round
            case rel => exact ⟨k + 1, by omega, by go_num, by rw [unhide hn], unhide hg⟩
            case measure => simp [intOf]; omega
        · rw [q1] at hu
          have hg := hide (unhide hgs (by unfold good; rw [q1]; rfl))
          have hn := hide (show cnt s[0] (s.data.toList.take (k + 1)) = cnt s[0] (s.data.toList.take k) + 1 by rw [unhide hsn, q1]; simp)
          clear q1 hu1 hu2
          go_wp2
          go_round
          case rel => exact ⟨k + 1, by omega, by go_num, by rw [unhide hn]; go_num, unhide hg⟩
          case measure => simp [intOf]; omega
      · go_wp2
        go_ret
        have hks : s.data.toList.take k = s.data.toList := List.take_of_length_le (by simp; omega)
        have h8 := unhide hall'
        rw [hks] at h8
        refine ⟨ret_bool ?_, rfl⟩
        rw [unhide hend h8, hks]
        rw [Bool.eq_iff_iff, decide_eq_true_iff, decide_eq_true_iff]
        omega
theorem bytes_calls (s : ByteArray) (w : World) (h : s.size ≤ 1048576) :
    Calls Try.prog 5 #[.string s] w fun e w' => e = .returned (.bool true) ∧ w' = w := by
  go_enter Try.func5, Try.ntmps5
  go_wp2
  go_ret
  exact ⟨rfl, rfl⟩
theorem bytes_no (s : ByteArray) (w : World) (h : ¬ s.size ≤ 1048576) :
    Calls Try.prog 5 #[.string s] w fun e w' => e = .returned (.bool false) ∧ w' = w := by
  go_enter Try.func5, Try.ntmps5
  go_wp2
  go_ret
  exact ⟨rfl, rfl⟩
theorem blank_calls (b : UInt8) (w : World) :
    Calls Try.prog 7 #[.int .u8 (b.toNat : Int)] w fun e w' => e = .returned (.bool (b == 32 || b == 9)) ∧ w' = w := by
  have hu1 := u8_beq b 32
  have hu2 := u8_beq b 9
  simp only [n32, n9] at hu1 hu2
  cases q2 : b == 32
  · rw [q2] at hu1
    cases q3 : b == 9
    all_goals
      rw [q3] at hu2
      clear q2 q3
      go_enter Try.func7, Try.ntmps7
      go_wp2
      go_ret
      exact ⟨rfl, rfl⟩
  · rw [q2] at hu1
    clear q2 hu2
    go_enter Try.func7, Try.ntmps7
    go_wp2
    go_ret
    exact ⟨rfl, rfl⟩
theorem zz_yes (s : ByteArray) (w : World) (h1 : 0 < s.size) (h2 : s.size ≤ maxLen) (hm : mark s[0] = true) :
    Calls Try.prog 6 #[.string s] w fun e w' => e = .returned (.bool (tb s[0] s.data.toList)) ∧ w' = w := by
  have H := hide (fun w => them_yes s w h1 h2 hm)
  clear hm
  go_enter Try.func6, Try.ntmps6
  go_wp2_with (go_at_call 9; refine (unhide H _).mono ?_; rintro e w' ⟨rfl, rfl⟩)
  go_ret
  exact ⟨rfl, rfl⟩
theorem zz_no (s : ByteArray) (w : World) (h1 : 0 < s.size) (h2 : s.size ≤ maxLen) (hm : mark s[0] = false) :
    Calls Try.prog 6 #[.string s] w fun e w' => e = .returned (.bool false) ∧ w' = w := by
  have H := hide (fun w => them_no s w h1 h2 hm)
  clear hm
  go_enter Try.func6, Try.ntmps6
  go_wp2_with (go_at_call 9; refine (unhide H _).mono ?_; rintro e w' ⟨rfl, rfl⟩)
  go_ret
  exact ⟨rfl, rfl⟩
theorem app_zero (a t : ByteArray) (h : 0 < a.size) (h' : 0 < (a ++ t).size) : (a ++ t)[0] = a[0] := by
  show (a ++ t).data[0] = a.data[0]
  have e : (a ++ t).data = a.data ++ t.data := ByteArray.data_append
  simp only [e]
  rw [Array.getElem_append_left]
theorem app_list (a t : ByteArray) : (a ++ t).data.toList = a.data.toList ++ t.data.toList := by
  rw [ByteArray.data_append, Array.toList_append]
theorem zz_app_yes (a t : ByteArray) (w : World) (h1 : 0 < a.size) (h2 : a.size + t.size ≤ maxLen) (hm : mark a[0] = true) :
    Calls Try.prog 6 #[.string (a ++ t)] w fun e w' => e = .returned (.bool (tb a[0] (a.data.toList ++ t.data.toList))) ∧ w' = w := by
  have h3 : (a ++ t).size = a.size + t.size := ByteArray.size_append
  have h4 : 0 < (a ++ t).size := by omega
  have h5 := app_zero a t h1 h4
  have := zz_yes (a ++ t) w h4 (by omega) (by rw [h5]; exact hm)
  rw [h5, app_list] at this
  exact this
theorem zz_app_no (a t : ByteArray) (w : World) (h1 : 0 < a.size) (h2 : a.size + t.size ≤ maxLen) (hm : mark a[0] = false) :
    Calls Try.prog 6 #[.string (a ++ t)] w fun e w' => e = .returned (.bool false) ∧ w' = w := by
  have h3 : (a ++ t).size = a.size + t.size := ByteArray.size_append
  have h4 : 0 < (a ++ t).size := by omega
  have h5 := app_zero a t h1 h4
  exact zz_no (a ++ t) w h4 (by omega) (by rw [h5]; exact hm)
theorem three_run (c : UInt8) (w : World) : (convert 23 9 (Value.slice (some { block := w.heap.size, off := 0 }) 3 3)).run Try.prog
          (w.alloc (Obj.cells #[Value.int IntKind.u8 (c.toNat : Int), Value.int IntKind.u8 (c.toNat : Int), Value.int IntKind.u8 (c.toNat : Int)] 5))
    = .ok (.string ⟨#[c, c, c]⟩) (w.alloc (Obj.cells #[Value.int IntKind.u8 (c.toNat : Int), Value.int IntKind.u8 (c.toNat : Int), Value.int IntKind.u8 (c.toNat : Int)] 5)) := by
  have := run_convert_bytes_arg (P := Try.prog) (w.alloc (Obj.cells #[Value.int IntKind.u8 (c.toNat : Int), Value.int IntKind.u8 (c.toNat : Int), Value.int IntKind.u8 (c.toNat : Int)] 5)) 23 5 Try.underlying23 Try.underlying5 w.heap.size 0 3 3 [c.toNat, c.toNat, c.toNat] rfl
    (fun i hi => by
      have : i = 0 ∨ i = 1 ∨ i = 2 := by omega
      rcases this with rfl | rfl | rfl <;> simp) 9 Try.underlying9
  rw [this]
  simp [strOfNums]
theorem tb_blank (c b : UInt8) (l : List UInt8) (hb : b = 32 ∨ b = 9) (hm : mark c = true) : tb c (l ++ [b]) = tb c l := by
  have hne : (b == c) = false := by
    unfold mark at hm
    simp only [Bool.or_eq_true, beq_iff_eq] at hm
    rcases hb with rfl | rfl <;> rcases hm with (rfl | rfl) | rfl <;> decide
  have hg : good c b = true := by unfold good; rcases hb with rfl | rfl <;> simp
  unfold tb
  rw [cnt_snoc, hne, List.all_append]
  simp [hg]
theorem tb_three (c : UInt8) (l : List UInt8) (hm : mark c = true) : tb c (l ++ [c, c, c]) = l.all (good c) := by
  have hg : good c c = true := by unfold good; simp
  unfold tb
  rw [hm, List.all_append]
  have : 3 ≤ cnt c (l ++ [c, c, c]) := by
    unfold cnt; rw [List.countP_append]; simp
  simp [hg, this]
theorem walk (a0 : ByteArray) (w0 : a0.size ≤ maxLen) (w : World) :
    Calls Try.prog 3 #[.string a0] w fun e w' => e = .returned (.bool true) ∧ Grown w w' := by
  unfold maxLen at w0
  by_cases c1 : a0.size ≤ 1048576
  rotate_left
  · go_enter Try.func3, Try.ntmps3
    go_wp2_with (go_at_call 5; refine (bytes_no a0 _ c1).mono ?_; rintro e w' ⟨rfl, rfl⟩)
    go_ret
    exact ⟨rfl, Grown.refl _⟩
  by_cases c2 : a0.size = 0
  · have c2' : ((a0.size : Int) == 0) = true := by simp [c2]
    clear c2
    go_enter Try.func3, Try.ntmps3
    go_wp2_with (go_at_call 5; refine (bytes_calls a0 _ c1).mono ?_; rintro e w' ⟨rfl, rfl⟩)
    go_ret
    exact ⟨rfl, Grown.refl _⟩
  have c2' : ((a0.size : Int) == 0) = false := beq_eq_false_iff_ne.2 (by omega)
  have c3 : 0 < a0.size := by omega
  have c4 : decide ((1048576 : Int) < (a0.size : Int)) = false := by simp; omega
  clear c2
  have hcv := three_run a0[0]
  have hs1 : (⟨#[32]⟩ : ByteArray).size = 1 := rfl
  have hs2 : (⟨#[9]⟩ : ByteArray).size = 1 := rfl
  have hs3 : (⟨#[a0[0], a0[0], a0[0]]⟩ : ByteArray).size = 3 := rfl
  have m0 : 2000000 ≤ maxLen := by unfold maxLen; omega
  cases hm : mark a0[0]
  · obtain ⟨e1, e2, e3⟩ := mark_false _ hm
    have H0 := hide (fun w => zz_no a0 w c3 (by omega) hm)
    have H1 := hide (fun w => zz_app_no a0 ⟨#[32]⟩ w c3 (by omega) hm)
    have H2 := hide (fun w => zz_app_no a0 ⟨#[9]⟩ w c3 (by omega) hm)
    have H3 := hide (fun w => zz_app_no a0 ⟨#[a0[0], a0[0], a0[0]]⟩ w c3 (by omega) hm)
    clear hm hs1 hs2 hs3 m0
    go_enter Try.func3, Try.ntmps3
    go_wp2_with (go_at_call 5; refine (bytes_calls a0 _ c1).mono ?_; rintro e w' ⟨rfl, rfl⟩)
    refine (unhide H0 _).mono ?_
    rintro e w' ⟨rfl, rfl⟩
    go_wp2_with fail
    refine (unhide H1 _).mono ?_
    rintro e w' ⟨rfl, rfl⟩
    go_wp2_with fail
    refine (unhide H2 _).mono ?_
    rintro e w' ⟨rfl, rfl⟩
    go_wp2_with fail
    refine (unhide H3 _).mono ?_
    rintro e w' ⟨rfl, rfl⟩
    go_wp2_with fail
    go_ret
    exact ⟨rfl, by repeat (first | exact Grown.refl _ | apply Grown.drew | apply Grown.alloc)⟩
  · have hm' := mark_true _ hm
    have t1 := tb_blank a0[0] 32 a0.data.toList (Or.inl rfl) hm
    have t2 := tb_blank a0[0] 9 a0.data.toList (Or.inr rfl) hm
    have t3 := tb_three a0[0] a0.data.toList hm
    have H0 := hide (fun w => zz_yes a0 w c3 (by omega) hm)
    have H1 := hide (fun w => zz_app_yes a0 ⟨#[32]⟩ w c3 (by omega) hm)
    have H2 := hide (fun w => zz_app_yes a0 ⟨#[9]⟩ w c3 (by omega) hm)
    have H3 := hide (fun w => zz_app_yes a0 ⟨#[a0[0], a0[0], a0[0]]⟩ w c3 (by omega) hm)
    simp only [t1, t2, t3] at H1 H2 H3
    clear hm hs1 hs2 hs3 m0 t1 t2 t3
    generalize tb a0[0] a0.data.toList = got at *
    rcases hm' with e1 | ⟨e1, e2⟩ | ⟨e1, e2, e3⟩
    all_goals
      go_enter Try.func3, Try.ntmps3
      go_wp2_with (go_at_call 5; refine (bytes_calls a0 _ c1).mono ?_; rintro e w' ⟨rfl, rfl⟩)
      refine (unhide H0 _).mono ?_
      rintro e w' ⟨rfl, rfl⟩
      go_wp2_with fail
      refine (unhide H1 _).mono ?_
      rintro e w' ⟨rfl, rfl⟩
      go_wp2_with fail
      refine (unhide H2 _).mono ?_
      rintro e w' ⟨rfl, rfl⟩
      go_wp2_with fail
      go_loop [6, 7] (fun o i => ∃ k : Nat, k ≤ a0.size ∧ i = .int .i64 k ∧ o = .bool ((a0.data.toList.take k).all (good a0[0]))) (fun _ i => a0.size - (intOf i).toNat)
      case atStart => exact ⟨0, Nat.zero_le _, rfl, by simp⟩
      case round =>
        obtain ⟨k, hk, rfl, rfl⟩ := hrel
        by_cases hlt : k < a0.size
        · have hsn := hide (all_snoc a0 k hlt a0[0])
          have hu := u8_beq a0[k] a0[0]
          cases q1 : a0[k] == a0[0]
          · rw [q1] at hu
            have hu' : ((a0[k].toNat : Int) != (a0[0].toNat : Int)) = true := by unfold bne; rw [hu]; rfl
            clear hu
            cases q2 : (a0[k] == 32 || a0[k] == 9)
            · have hn := hide (show (a0.data.toList.take (k + 1)).all (good a0[0]) = false by
                rw [unhide hsn]; unfold good; rw [q1, Bool.or_assoc, q2]; simp)
              have HB := hide (fun w => blank_calls a0[k] w)
              rw [q2] at HB
              clear q1 q2
              go_wp2_with (go_at_call 7; refine (unhide HB _).mono ?_; rintro e w' ⟨rfl, rfl⟩)
              go_round
              case rel => exact ⟨k + 1, by omega, by go_num, by rw [unhide hn]⟩
              case measure => simp [intOf]; omega
            · have hn := hide (show (a0.data.toList.take (k + 1)).all (good a0[0]) = (a0.data.toList.take k).all (good a0[0]) by
                rw [unhide hsn]; unfold good; rw [q1, Bool.or_assoc, q2]; simp)
              have HB := hide (fun w => blank_calls a0[k] w)
              rw [q2] at HB
              clear q1 q2
              go_wp2_with (go_at_call 7; refine (unhide HB _).mono ?_; rintro e w' ⟨rfl, rfl⟩)
              go_round
              case rel => exact ⟨k + 1, by omega, by go_num, by rw [unhide hn]⟩
              case measure => simp [intOf]; omega
          · rw [q1] at hu
            have hu' : ((a0[k].toNat : Int) != (a0[0].toNat : Int)) = false := by unfold bne; rw [hu]; rfl
            clear hu
            have hn := hide (show (a0.data.toList.take (k + 1)).all (good a0[0]) = (a0.data.toList.take k).all (good a0[0]) by
              rw [unhide hsn]; unfold good; rw [q1]; simp)
            clear q1
            go_wp2
            go_round
            case rel => exact ⟨k + 1, by omega, by go_num, by rw [unhide hn]⟩
            case measure => simp [intOf]; omega
        · have hks : a0.data.toList.take k = a0.data.toList := List.take_of_length_le (by simp; omega)
          rw [hks]
          clear hks
          generalize a0.data.toList.all (good a0[0]) = ans at *
          go_wp2_with fail
          refine (unhide H3 _).mono ?_
          rintro e w' ⟨rfl, rfl⟩
          go_wp2_with fail
          go_ret
          exact ⟨by simp, by repeat (first | exact Grown.refl _ | apply Grown.drew | apply Grown.alloc)⟩
/-! ### THE ROW's STEP: WRITTEN OUT: LEAVE IT -/
set_option maxRecDepth 100000 in
theorem lifted (os : Os) (started : os.Started) (H : Type) (enc : TypeId × Value → H) :
    ReturnsInHanded {} Try.checked os 3 .any (Rows.fnIsThematicBreakExtensionSpec.pre6 enc Try.prog Try.f3 Rows.fnIsThematicBreakExtensionRow.domain false) (Rows.fnIsThematicBreakExtensionSpec.post enc Try.prog Try.f3 false true false false) := by
  refine returnsInHanded_of_change (C := Try.checked) own started (by kernel_rfl) Try.func3
    (ChangeSpec.witness6 (enc := enc) (C := Try.checked) false ⟨#[], #[.string ByteArray.empty], []⟩ 8 (by kernel_rfl) (by kernel_rfl) (by kernel_rfl) (by kernel_rfl)) ?_
  intro W base args ds gs before hval0 hW hcnd _
  have hval : ∀ (j : Nat) t v, Try.f3.params[j]? = some t → args[j]? = some v → Value.okWide Try.prog W .any base t v := hval0
  have hW' := hW
  obtain ⟨p, q, hA0, hV, rfl, hfz, hnd⟩ := hW
  have hA : DataW.TrodAll enc Try.prog W 0 (fun _ => true) true Try.f3.params.toList args.toList ds p := hA0
  rw [Try.params3] at hA hval
  obtain ⟨v0, vs0, d0, ds0, p0, q0, hargs, rfl, rfl, h0, r0⟩ := trodAll_cons hA
  obtain ⟨rfl, rfl, rfl⟩ := trodAll_nil r0
  obtain rfl : args = #[v0] := by cases args; simp_all
  obtain ⟨rfl, rfl⟩ := trodVars_none hV
  obtain ⟨a0, rfl, rfl, rfl, w0⟩ := open_string Try.underlying9 (hval 0 9 v0 rfl rfl) h0
  clear hA0 hval0
  simp only [List.append_nil] at hW'
  refine (walk a0 w0 W).mono fun e W' ⟨he, hg⟩ => ?_
  subst he
  exact ⟨_, rfl, post_of_same (pa := []) (pv := []) hW' (fun _ _ _ => (trodAll_cons_mk (shut_bool Try.underlying4 _) trodAll_mk0)) (fun sp _ => (trodAll_cons_mk (shut_string Try.underlying9 w0) trodAll_mk0)) (fun _ _ => rfl) rfl
    (hg.frame _) hg.2.1 (ok_one (by kernel_rfl) rfl (okWide_bool_mk Try.underlying4 _))⟩

theorem over : Rows.fnIsThematicBreakExtensionRow.holds Try.pinned (OpenSpec.ofChange Rows.fnIsThematicBreakExtensionSpec) :=
  OpenClaim.holds_of_wide 3 Try.f3 rfl rfl rfl rfl rfl rfl rfl ⟨rfl, rfl, rfl, rfl, rfl⟩ rfl rfl rfl rfl rfl (by kernel_rfl) Try.func3 (by kernel_rfl)
    (of_decide_eq_true (by kernel_rfl)) (by unfold Func.isWrapper; first | (rw [if_pos (by decide +kernel)]; kernel_rfl) | (rw [if_neg (by decide +kernel)]; exact ⟨rfl, rfl⟩))
    (fun os started H enc _ => lifted os started H enc)

/-- ████ THE STATEMENT ████ -/
theorem proved : Rows.FnIsThematicBreakExtensionSaid :=
  over
end Go.Proofs.Qxb6603481a.fnIsThematicBreakExtension

namespace Go.Proofs.Qxb6603481a
theorem fnIsThematicBreakExtension_proved : Rows.FnIsThematicBreakExtensionSaid := fnIsThematicBreakExtension.proved
end Go.Proofs.Qxb6603481a
