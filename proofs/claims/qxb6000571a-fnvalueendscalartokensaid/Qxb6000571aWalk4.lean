/-
  The walk of FnValueEndScalarToken (5).
-/
import Derived.Test.Qxb6000571aVal
namespace Go.Proofs.Qxb6000571a.Walk4
set_option linter.unusedVariables false
open Go.RowKit
open Go.Proofs.Qxb6000571a.Plain Go.Proofs.Qxb6000571a.Str Go.Proofs.Qxb6000571a.Bytes Go.Proofs.Qxb6000571a.Skp Go.Proofs.Qxb6000571a.Vl

theorem zz (a0 a1 a2 : ByteArray) (w0 : a0.size ≤ maxLen) (w1 : a1.size ≤ maxLen) (w2 : a2.size ≤ maxLen) (w : World) :
    Calls Try.prog 14 #[.string a0, .string a1, .string a2] w fun e w' => (∃ b, e = .returned (.bool b)) ∧ w' = w := by
  unfold maxLen at w0 w1 w2
  go_enter Try.func14, Try.ntmps14
  go_wp2
  all_goals
    go_ret
    exact ⟨⟨_, rfl⟩, rfl⟩

theorem at_bs (s : ByteArray) (k : Nat) (h : k < s.size) : at' (bs s) k = (s[k].toNat : Int) := by
  have h' : k < (bs s).length := by rw [bs_length]; exact h
  have : at' (bs s) k = (bs s)[k] := by simp [at', h']
  rw [this]
  simp [bs]
  rfl

theorem at_in (P Q R : List Int) (j : Nat) (h : j < Q.length) : at' (P ++ Q ++ R) (P.length + j) = at' Q j := by
  unfold at'
  rw [List.append_assoc, List.getD_eq_getElem?_getD, List.getD_eq_getElem?_getD, List.getElem?_append_right (by omega), show P.length + j - P.length = j by omega, List.getElem?_append_left h]

/-- The text of the law, and where its token ends. -/
theorem close (a0 a1 a2 : ByteArray) (hp : 0 < a1.size) (h34 : (a1[0].toNat : Int) ≠ 34) (h123 : (a1[0].toNat : Int) ≠ 123) (h91 : (a1[0].toNat : Int) ≠ 91) (hno : ∀ j, j < a1.size → isEnd (at' (bs a1) j) = false)
    (hr : a2.size = 0 ∨ isEnd (at' (bs a2) 0) = true) : VE (at' (bs a0 ++ bs a1 ++ bs a2)) (a0.size + a1.size + a2.size) a0.size (a0.size + a1.size) := by
  have l0 := bs_length a0
  have l1 := bs_length a1
  have l2 := bs_length a2
  have hin : ∀ j, j < a1.size → at' (bs a0 ++ bs a1 ++ bs a2) (a0.size + j) = at' (bs a1) j := by
    intro j hj
    have := at_in (bs a0) (bs a1) (bs a2) j (by omega)
    rwa [l0] at this
  have h0 : at' (bs a0 ++ bs a1 ++ bs a2) a0.size = (a1[0].toNat : Int) := by
    have := hin 0 hp
    rw [Nat.add_zero, at_bs a1 0 hp] at this
    exact this
  refine .inr (.inr ⟨by rw [h0]; exact h34, by rw [h0]; exact h91, by rw [h0]; exact h123, by omega, by omega, fun k k1 k2 => ?_, ?_⟩)
  · have := hin (k - a0.size) (by omega)
    rw [show a0.size + (k - a0.size) = k by omega] at this
    rw [this]; exact hno _ (by omega)
  · rcases hr with h | h
    · left; omega
    · by_cases h2 : a2.size = 0
      · left; omega
      · right
        have := at_in (bs a0 ++ bs a1) (bs a2) [] 0 (by omega)
        rw [List.append_nil, List.length_append, l0, l1, Nat.add_zero] at this
        rw [this]; exact h

set_option maxHeartbeats 800000 in
theorem walk (a0 : ByteArray) (a1 : ByteArray) (a2 : ByteArray) (w0 : a0.size ≤ maxLen) (w1 : a1.size ≤ maxLen) (w2 : a2.size ≤ maxLen) (w : World) :
    Calls Try.prog 5 #[.string a0, .string a1, .string a2] w fun e w' => e = .returned (.bool true) ∧ Below w.heap.size w w' := by
  have Z := zz a0 a1 a2 w0 w1 w2
  unfold maxLen at w0 w1 w2
  go_enter Try.func5, Try.ntmps5
  go_wp2_with fail
  refine (Z _).mono ?_
  rintro e w' ⟨⟨b, rfl⟩, rfl⟩
  clear Z
  cases b
  · go_wp2_with fail
    go_ret
    exact ⟨rfl, Below.refl _ _⟩
  by_cases h0 : a0.size ≤ 131072
  rotate_left
  · go_wp2_with fail
    go_ret
    exact ⟨rfl, Below.refl _ _⟩
  by_cases h1 : a1.size ≤ 131072
  rotate_left
  · go_wp2_with fail
    go_ret
    exact ⟨rfl, Below.refl _ _⟩
  by_cases h2 : a2.size ≤ 131072
  rotate_left
  · go_wp2_with fail
    go_ret
    exact ⟨rfl, Below.refl _ _⟩
  by_cases hp : 0 < a1.size
  rotate_left
  · go_wp2_with fail
    go_ret
    exact ⟨rfl, Below.refl _ _⟩
  have hpb : ((a1.size : Int) == 0) = false := beq_eq_false_iff_ne.2 (by omega)
  by_cases h34 : (a1[0].toNat : Int) = 34
  · have h34' : ((a1[0].toNat : Int) == 34) = true := by simp [h34]
    clear h34
    go_wp2_with fail
    go_ret
    exact ⟨rfl, Below.refl _ _⟩
  have h34' : ((a1[0].toNat : Int) == 34) = false := by simp [h34]
  by_cases h123 : (a1[0].toNat : Int) = 123
  · have h123' : ((a1[0].toNat : Int) == 123) = true := by simp [h123]
    clear h123 h34
    go_wp2_with fail
    go_ret
    exact ⟨rfl, Below.refl _ _⟩
  have h123' : ((a1[0].toNat : Int) == 123) = false := by simp [h123]
  by_cases h91 : (a1[0].toNat : Int) = 91
  · have h91' : ((a1[0].toNat : Int) == 91) = true := by simp [h91]
    clear h123 h34 h91
    go_wp2_with fail
    go_ret
    exact ⟨rfl, Below.refl _ _⟩
  have h91' : ((a1[0].toNat : Int) == 91) = false := by simp [h91]
  have HCL : Hid ((∀ j, j < a1.size → isEnd (at' (bs a1) j) = false) → (a2.size = 0 ∨ isEnd (at' (bs a2) 0) = true) → VE (at' (bs a0 ++ bs a1 ++ bs a2)) (a0.size + a1.size + a2.size) a0.size (a0.size + a1.size)) :=
    close a0 a1 a2 hp h34 h123 h91
  clear h123 h34 h91
  go_wp2_with fail
  go_loop [8] (fun x => ∃ k : Nat, k ≤ a1.size ∧ x = .int .i64 k ∧ Hid (∀ j, j < k → isEnd (at' (bs a1) j) = false)) (fun x => a1.size - (intOf x).toNat)
  case atStart => exact ⟨0, Nat.zero_le _, rfl, fun j hj => absurd hj (Nat.not_lt_zero _)⟩
  case round =>
    clear h34' h123' h91'
    obtain ⟨k, hk, rfl, Hno⟩ := hrel
    by_cases hlt : k < a1.size
    · by_cases hc : isEnd (a1[k].toNat : Int) = true
      · clear HCL
        go_wp2_with (go_at_call 15; refine (isEnd_any _ _).mono ?_; rintro e w' ⟨rfl, rfl⟩)
        go_ret
        exact ⟨rfl, Below.refl _ _⟩
      · have hc' : isEnd (a1[k].toNat : Int) = false := by simpa using hc
        have Hno' : Hid (∀ j, j < k + 1 → isEnd (at' (bs a1) j) = false) := by
          intro j hj
          by_cases hjk : j = k
          · rw [hjk, at_bs a1 k hlt]; exact hc'
          · exact Hno.out j (by omega)
        clear hc Hno
        go_wp2_with (go_at_call 15; refine (isEnd_any _ _).mono ?_; rintro e w' ⟨rfl, rfl⟩)
        go_round
        case rel => exact ⟨k + 1, hlt, by go_num, Hno'⟩
        case measure => simp [intOf]; omega
    · have HCL2 : Hid ((a2.size = 0 ∨ isEnd (at' (bs a2) 0) = true) → VE (at' (bs a0 ++ bs a1 ++ bs a2)) (a0.size + a1.size + a2.size) a0.size (a0.size + a1.size)) :=
        HCL.out (fun j hj => Hno.out j (by omega))
      clear HCL Hno
      by_cases hz : 0 < a2.size
      · by_cases hc : isEnd (a2[0].toNat : Int) = true
        · have HV : Hid (VE (at' (bs a0 ++ bs a1 ++ bs a2)) (a0.size + a1.size + a2.size) a0.size (a0.size + a1.size)) := HCL2.out (.inr (by rw [at_bs a2 0 hz]; exact hc))
          clear HCL2
          obtain ⟨i0, hi, hz0, hz1, hz2⟩ := info_parts info5
          go_wp2_with (first | (go_at_call 15; refine (isEnd_any _ _).mono ?_; rintro e w' ⟨rfl, rfl⟩) | (at_make; refine wpList_make_own _ rfl _ _ 23 rfl w'.heap.size 5 i0 (.int .u8 0) 1 Try.underlying23 hi hz0 hz1 _ _ _ (a0.size + a1.size + a2.size) rfl rfl (by omega) (by rw [hz2]; omega) (by unfold maxLen; omega) (Nat.le_refl _) ?_))
          intro wa hoa hga
          have hba : Below w'.heap.size w' wa := (Below.refl _ _).grown hga (Nat.le_refl _) (by intro q hq; cases hq)
          have hoa' : Own wa w'.heap.size w'.heap.size (a0.size + a1.size + a2.size) [] := hoa
          clear hoa hga
          go_wp2_with fail
          refine (appendStr_any w'.heap.size w'.heap.size _ 0 a0 [] wa (by omega) rfl (by omega) hoa').mono ?_
          rintro e wb ⟨rfl, hob, hbb⟩
          simp only [List.nil_append] at hob
          have hb1 := hba.trans hbb
          clear hoa' hba hbb
          go_wp2_with fail
          refine (appendStr_any w'.heap.size w'.heap.size _ a0.size a1 (bs a0) wb (by omega) (bs_length a0) (by omega) hob).mono ?_
          rintro e wc ⟨rfl, hoc, hbc⟩
          have hb2 := hb1.trans hbc
          clear hob hb1 hbc
          go_wp2_with fail
          refine (appendStr_any w'.heap.size w'.heap.size _ (a0.size + a1.size) a2 (bs a0 ++ bs a1) wc (by omega) (by rw [List.length_append, bs_length, bs_length]) (by omega) hoc).mono ?_
          rintro e wd ⟨rfl, hod, hbd⟩
          have hb3 := hb2.trans hbd
          have hld : (bs a0 ++ bs a1 ++ bs a2).length = a0.size + a1.size + a2.size := by simp only [List.length_append, bs_length]
          have hcell := fun j hj => hod.cell j hj
          rw [hld] at hcell
          have HS : Hid _ := hcell
          clear hcell hld hbd hb2 hoc hod
          go_wp2_with fail
          refine (zzValueEnd_any _ (a0.size + a1.size + a2.size) _ a0.size (a0.size + a1.size) _ wd (by omega) HS.out HV.out).mono ?_
          rintro e wq ⟨rfl, rfl⟩
          clear HS HV
          go_wp2_with fail
          go_ret
          refine ⟨?_, hb3⟩
          simp
        · have hc' : isEnd (a2[0].toNat : Int) = false := by simpa using hc
          clear HCL2 hc
          go_wp2_with (go_at_call 15; refine (isEnd_any _ _).mono ?_; rintro e w' ⟨rfl, rfl⟩)
          go_ret
          exact ⟨rfl, Below.refl _ _⟩
      · have HV : Hid (VE (at' (bs a0 ++ bs a1 ++ bs a2)) (a0.size + a1.size + a2.size) a0.size (a0.size + a1.size)) := HCL2.out (.inl (by omega))
        clear HCL2
        obtain ⟨i0, hi, hz0, hz1, hz2⟩ := info_parts info5
        go_wp2_with (first | (go_at_call 15; refine (isEnd_any _ _).mono ?_; rintro e w' ⟨rfl, rfl⟩) | (at_make; refine wpList_make_own _ rfl _ _ 23 rfl w'.heap.size 5 i0 (.int .u8 0) 1 Try.underlying23 hi hz0 hz1 _ _ _ (a0.size + a1.size + a2.size) rfl rfl (by omega) (by rw [hz2]; omega) (by unfold maxLen; omega) (Nat.le_refl _) ?_))
        intro wa hoa hga
        have hba : Below w'.heap.size w' wa := (Below.refl _ _).grown hga (Nat.le_refl _) (by intro q hq; cases hq)
        have hoa' : Own wa w'.heap.size w'.heap.size (a0.size + a1.size + a2.size) [] := hoa
        clear hoa hga
        go_wp2_with fail
        refine (appendStr_any w'.heap.size w'.heap.size _ 0 a0 [] wa (by omega) rfl (by omega) hoa').mono ?_
        rintro e wb ⟨rfl, hob, hbb⟩
        simp only [List.nil_append] at hob
        have hb1 := hba.trans hbb
        clear hoa' hba hbb
        go_wp2_with fail
        refine (appendStr_any w'.heap.size w'.heap.size _ a0.size a1 (bs a0) wb (by omega) (bs_length a0) (by omega) hob).mono ?_
        rintro e wc ⟨rfl, hoc, hbc⟩
        have hb2 := hb1.trans hbc
        clear hob hb1 hbc
        go_wp2_with fail
        refine (appendStr_any w'.heap.size w'.heap.size _ (a0.size + a1.size) a2 (bs a0 ++ bs a1) wc (by omega) (by rw [List.length_append, bs_length, bs_length]) (by omega) hoc).mono ?_
        rintro e wd ⟨rfl, hod, hbd⟩
        have hb3 := hb2.trans hbd
        have hld : (bs a0 ++ bs a1 ++ bs a2).length = a0.size + a1.size + a2.size := by simp only [List.length_append, bs_length]
        have hcell := fun j hj => hod.cell j hj
        rw [hld] at hcell
        have HS : Hid _ := hcell
        clear hcell hld hbd hb2 hoc hod
        go_wp2_with fail
        refine (zzValueEnd_any _ (a0.size + a1.size + a2.size) _ a0.size (a0.size + a1.size) _ wd (by omega) HS.out HV.out).mono ?_
        rintro e wq ⟨rfl, rfl⟩
        clear HS HV
        go_wp2_with fail
        go_ret
        refine ⟨?_, hb3⟩
        simp

end Go.Proofs.Qxb6000571a.Walk4
