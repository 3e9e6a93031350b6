/-
  The walk of FnStringEndEvenBackslashRun (4).
-/
import Derived.Test.Qxb6000571aStr
namespace Go.Proofs.Qxb6000571a.Walk2
set_option linter.unusedVariables false
open Go.RowKit
open Go.Proofs.Qxb6000571a.Plain Go.Proofs.Qxb6000571a.Str

theorem zz (a0 a1 a2 : ByteArray) (w0 : a0.size ≤ maxLen) (w1 : a1.size ≤ maxLen) (w2 : a2.size ≤ maxLen) (w : World) :
    Calls Try.prog 13 #[.string a0, .string a1, .string a2] w fun e w' => (∃ b, e = .returned (.bool b)) ∧ w' = w := by
  unfold maxLen at w0 w1 w2
  go_enter Try.func13, Try.ntmps13
  go_wp2
  all_goals
    go_ret
    exact ⟨⟨_, rfl⟩, rfl⟩

theorem at_bs (s : ByteArray) (k : Nat) (h : k < s.size) : at' (bs s) k = (s[k].toNat : Int) := by
  have h' : k < (bs s).length := by rw [bs_length]; exact h
  have : at' (bs s) k = (bs s)[k] := by simp [at', h']
  rw [this]
  simp [bs]
  rfl

theorem at_in (P Q R : List Int) (j : Nat) (h : j < Q.length) : at' (P ++ Q ++ R) (P.length + j) = at' Q j := by
  unfold at'
  rw [List.append_assoc, List.getD_eq_getElem?_getD, List.getD_eq_getElem?_getD, List.getElem?_append_right (by omega), show P.length + j - P.length = j by omega, List.getElem?_append_left h]

/-- The text of the law, and where its string ends. -/
theorem close (a0 a1 a2 : ByteArray) (r : Nat) (hr : r ≤ a1.size) (hno : ∀ j, j < a1.size → at' (bs a1) j ≠ 34) (hrun : ∀ j, a1.size ≤ j + r → j < a1.size → at' (bs a1) j = 92)
    (hstop : r = a1.size ∨ at' (bs a1) (a1.size - r - 1) ≠ 92) (heven : r % 2 = 0) (D : List Int) (hD : D = bs a0 ++ [34] ++ bs a1 ++ [34] ++ bs a2) :
    SE (at' D) D.length (a0.size + 1) (a0.size + a1.size + 2) := by
  have hl : (bs a0 ++ [34]).length = a0.size + 1 := by rw [List.length_append, bs_length]; rfl
  have h1 := bs_length a1
  have hin : ∀ j, j < a1.size → at' D (a0.size + 1 + j) = at' (bs a1) j := by
    intro j hj
    have := at_in (bs a0 ++ [34]) (bs a1) ([34] ++ bs a2) j (by omega)
    rw [hl] at this
    rw [hD, List.append_assoc _ [34] (bs a2)]
    exact this
  have hq : at' D (a0.size + 1 + a1.size) = 34 := by
    have := at'_mid (bs a0 ++ [34] ++ bs a1) (bs a2) 34
    rw [List.length_append, hl, h1] at this
    rw [hD, List.append_assoc _ [34] (bs a2)]
    exact this
  have hn : D.length = a0.size + 1 + a1.size + 1 + a2.size := by
    rw [hD]
    simp only [List.length_append, bs_length, List.length_cons, List.length_nil]
  have := even_close (f := at' D) (n := D.length) (a := a0.size + 1) (b := a0.size + 1 + a1.size) (r := r) (by omega) hq (by omega)
    (fun k h1 h2 => by
      have := hin (k - (a0.size + 1)) (by omega)
      rw [show a0.size + 1 + (k - (a0.size + 1)) = k by omega] at this
      rw [this]; exact hno _ (by omega))
    (fun k h1 h2 => by
      have := hin (k - (a0.size + 1)) (by omega)
      rw [show a0.size + 1 + (k - (a0.size + 1)) = k by omega] at this
      rw [this]; exact hrun _ (by omega) (by omega))
    (by
      rcases hstop with h | h
      · left; omega
      · by_cases hra : r = a1.size
        · left; omega
        · right
          have := hin (a1.size - r - 1) (by omega)
          rw [show a0.size + 1 + a1.size - r - 1 = a0.size + 1 + (a1.size - r - 1) by omega, this]; exact h)
    heven
  rw [show a0.size + a1.size + 2 = a0.size + 1 + a1.size + 1 by omega]
  exact this

set_option maxHeartbeats 800000 in
theorem walk (a0 : ByteArray) (a1 : ByteArray) (a2 : ByteArray) (w0 : a0.size ≤ maxLen) (w1 : a1.size ≤ maxLen) (w2 : a2.size ≤ maxLen) (w : World) :
    Calls Try.prog 4 #[.string a0, .string a1, .string a2] w fun e w' => e = .returned (.bool true) ∧ Below w.heap.size w w' := by
  have Z := zz a0 a1 a2 w0 w1 w2
  unfold maxLen at w0 w1 w2
  obtain ⟨i0, hi, hz0, hz1, hz2⟩ := info_parts info5
  go_enter Try.func4, Try.ntmps4
  go_wp2_with fail
  refine (Z _).mono ?_
  rintro e w' ⟨⟨b, rfl⟩, rfl⟩
  clear Z
  cases b
  · go_wp2_with fail
    go_ret
    exact ⟨rfl, Below.refl _ _⟩
  by_cases h0 : a0.size ≤ 131072
  rotate_left
  · go_wp2_with fail
    go_ret
    exact ⟨rfl, Below.refl _ _⟩
  by_cases h1 : a1.size ≤ 131072
  rotate_left
  · go_wp2_with fail
    go_ret
    exact ⟨rfl, Below.refl _ _⟩
  by_cases h2 : a2.size ≤ 131072
  rotate_left
  · go_wp2_with fail
    go_ret
    exact ⟨rfl, Below.refl _ _⟩
  go_wp2_with fail
  go_loop [7] (fun x => ∃ k : Nat, k ≤ a1.size ∧ x = .int .i64 k ∧ Hid (∀ j, j < k → at' (bs a1) j ≠ 34)) (fun x => a1.size - (intOf x).toNat)
  case atStart => exact ⟨0, Nat.zero_le _, rfl, fun j hj => absurd hj (Nat.not_lt_zero _)⟩
  case round =>
    obtain ⟨k, hk, rfl, Hno⟩ := hrel
    by_cases hlt : k < a1.size
    · by_cases hc : (a1[k].toNat : Int) = 34
      · have hc' : ((a1[k].toNat : Int) == 34) = true := by simp [hc]
        clear hc
        go_wp2_with fail
        go_ret
        exact ⟨rfl, Below.refl _ _⟩
      · have hc' : ((a1[k].toNat : Int) == 34) = false := by simp [hc]
        have Hno' : Hid (∀ j, j < k + 1 → at' (bs a1) j ≠ 34) := by
          intro j hj
          by_cases hjk : j = k
          · rw [hjk, at_bs a1 k hlt]; exact hc
          · exact Hno.out j (by omega)
        clear hc Hno
        go_wp2_with fail
        go_round
        case rel => exact ⟨k + 1, hlt, by go_num, Hno'⟩
        case measure => simp [intOf]; omega
    · have Hno' : Hid (∀ j, j < a1.size → at' (bs a1) j ≠ 34) := fun j hj => Hno.out j (by omega)
      clear Hno
      go_wp2_with fail
      go_loop [8, 9] (fun rr x => ∃ q r : Nat, q + r = a1.size ∧ rr = .int .i64 r ∧ x = .int .i64 ((q : Int) - 1) ∧ Hid (∀ j, a1.size ≤ j + r → j < a1.size → at' (bs a1) j = 92)) (fun _ x => (intOf x + 1).toNat)
      case atStart => exact ⟨a1.size, 0, rfl, rfl, rfl, fun j h1 h2 => absurd h1 (by omega)⟩
      case round =>
        obtain ⟨q, r, hqr, rfl, rfl, Hr⟩ := hrel
        have more : ∀ p : Nat, q = p + 1 → ∀ hp : p < a1.size, (a1[p].toNat : Int) = 92 → ∀ j, a1.size ≤ j + (r + 1) → j < a1.size → at' (bs a1) j = 92 := by
          intro p hqp hp hc j h1 h2
          by_cases hjp : j = p
          · rw [hjp, at_bs a1 p hp]; exact hc
          · exact Hr.out j (by omega) h2
        have stop : ∀ p : Nat, q = p + 1 → ∀ hp : p < a1.size, ¬ (a1[p].toNat : Int) = 92 → at' (bs a1) (a1.size - r - 1) ≠ 92 := by
          intro p hqp hp hc
          rw [show a1.size - r - 1 = p by omega, at_bs a1 p hp]; exact hc
        have Hm : Hid _ := more
        have Hs : Hid _ := stop
        have Hq : Hid (q + r = a1.size) := hqr
        have hr1 : r ≤ a1.size := by omega
        have hq1 : q ≤ a1.size := by omega
        clear more stop hqr
        by_cases hgo : ∃ p : Nat, q = p + 1 ∧ ∃ hp : p < a1.size, (a1[p].toNat : Int) = 92
        · obtain ⟨p, rfl, hp, hc⟩ := hgo
          rw [show ((p + 1 : Nat) : Int) - 1 = (p : Int) from by omega]
          have Hm' : Hid _ := Hm.out p rfl hp hc
          have hc' : ((a1[p].toNat : Int) == 92) = true := by simp [hc]
          have hr2 : r < a1.size := by have := Hq.out; omega
          clear Hm Hs hc Hr
          go_wp2_with fail
          go_round
          case rel => exact ⟨p, r + 1, by have := Hq.out; omega, by go_num, rfl, Hm'⟩
          case measure => simp [intOf]
        · have Hst : Hid (r = a1.size ∨ at' (bs a1) (a1.size - r - 1) ≠ 92) := by
            have hq0 := Hq.out
            rcases q with _ | p
            · exact .inl (by omega)
            · exact .inr (Hs.out p rfl (by omega) (fun h => hgo ⟨p, rfl, by omega, h⟩))
          have Hcl : Hid (r % 2 = 0 → ∀ D : List Int, D = bs a0 ++ [34] ++ bs a1 ++ [34] ++ bs a2 → SE (at' D) D.length (a0.size + 1) (a0.size + a1.size + 2)) :=
            fun he D hD => close a0 a1 a2 r hr1 Hno'.out Hr.out Hst.out he D hD
          clear Hst Hr Hm Hs Hno' hi hz0 hz1 hz2
          obtain ⟨i0, hi, hz0, hz1, hz2⟩ := info_parts info5
          have two : (q = 0) ∨ ∃ p : Nat, q = p + 1 ∧ p < a1.size ∧ ∀ hp : p < a1.size, ((a1[p].toNat : Int) == 92) = false := by
            rcases q with _ | p
            · exact .inl rfl
            · exact .inr ⟨p, rfl, by omega, fun hp => by simp; exact fun h => hgo ⟨p, rfl, hp, h⟩⟩
          clear hgo
          by_cases he : r % 2 = 0
          · have he' : ((r : Int) % 2 != 0) = false := by simp; omega
            have HE : Hid _ := Hcl.out he
            clear Hcl he
            rcases two with rfl | ⟨p, rfl, hp, hc⟩
            · rw [show ((0 : Nat) : Int) - 1 = -1 from rfl]
              go_wp2_with (at_make; refine wpList_make_own _ rfl _ _ 23 rfl w'.heap.size 5 i0 (.int .u8 0) 1 Try.underlying23 hi hz0 hz1 _ _ _ (a0.size + a1.size + 2 + a2.size) rfl rfl (by omega) (by rw [hz2]; omega) (by unfold maxLen; omega) (Nat.le_refl _) ?_)
              intro wa hoa hga
              have hba : Below w'.heap.size w' wa := (Below.refl _ _).grown hga (Nat.le_refl _) (by intro q hq; cases hq)
              have hoa' : Own wa w'.heap.size w'.heap.size (a0.size + a1.size + 2 + a2.size) [] := hoa
              clear hoa hga
              go_wp2_with fail
              refine (appendStr_any w'.heap.size w'.heap.size _ 0 a0 [] wa (by omega) rfl (by omega) hoa').mono ?_
              rintro e wb ⟨rfl, hob, hbb⟩
              simp only [List.nil_append] at hob
              have hb1 := hba.trans hbb
              clear hoa' hba hbb
              have hsz := hb1.size
              have hgl := hob.lt
              have HO : Hid _ := World.ownsRow.alloc (Own.row hob (bs_length a0)) (.cells #[.int .u8 34] 5)
              clear hob
              go_wp2_with (at_builtin; refine wpList_append_fits _ rfl _ _ 23 rfl w'.heap.size 5 i0 1 Try.underlying23 hi hz1 w'.heap.size a0.size _ _ rfl HO.out ⟨wb.heap.size, 0, none⟩ 1 1 [.int .u8 34] rfl rfl (cell_new _ _ _) (by simp [Value.oneCell']) (by omega) ?_)
              intro wc hoc hgc
              have hc1 : Own wc w'.heap.size w'.heap.size (a0.size + a1.size + 2 + a2.size) (bs a0 ++ [34]) := Own.push hoc (bs_length a0)
              have hbc : Below w'.heap.size w' wc := (hb1.alloc hsz _).grown hgc (by simp; omega) (by intro q hq; simp at hq; omega)
              clear hoc hgc HO hb1 hgl hsz
              go_wp2_with fail
              refine (appendStr_any w'.heap.size w'.heap.size _ (a0.size + 1) a1 (bs a0 ++ [34]) wc (by omega) (by rw [List.length_append, bs_length]; rfl) (by omega) hc1).mono ?_
              rintro e wd ⟨rfl, hod, hbd⟩
              have hb2 := hbc.trans hbd
              clear hc1 hbc hbd
              have hsz := hb2.size
              have hgl := hod.lt
              have HO : Hid _ := World.ownsRow.alloc (Own.row hod (m := a0.size + 1 + a1.size) (by rw [List.length_append, List.length_append, bs_length, bs_length]; rfl)) (.cells #[.int .u8 34] 5)
              clear hod
              go_wp2_with (at_builtin; refine wpList_append_fits _ rfl _ _ 23 rfl w'.heap.size 5 i0 1 Try.underlying23 hi hz1 w'.heap.size (a0.size + 1 + a1.size) _ _ rfl HO.out ⟨wd.heap.size, 0, none⟩ 1 1 [.int .u8 34] rfl rfl (cell_new _ _ _) (by simp [Value.oneCell']) (by omega) ?_)
              intro we hoe hge
              have hc1 : Own we w'.heap.size w'.heap.size (a0.size + a1.size + 2 + a2.size) (bs a0 ++ [34] ++ bs a1 ++ [34]) := by rw [show bs a0 ++ 34 :: bs a1 = bs a0 ++ [34] ++ bs a1 from by simp] at hoe; exact Own.push (m := a0.size + 1 + a1.size) hoe (by rw [List.length_append, List.length_append, bs_length, bs_length]; rfl)
              have hbe : Below w'.heap.size w' we := (hb2.alloc hsz _).grown hge (by simp; omega) (by intro q hq; simp at hq; omega)
              clear hoe hge HO hb2 hgl hsz
              go_wp2_with fail
              refine (appendStr_any w'.heap.size w'.heap.size _ (a0.size + 1 + a1.size + 1) a2 (bs a0 ++ [34] ++ bs a1 ++ [34]) we (by omega) (by simp only [List.length_append, bs_length, List.length_cons, List.length_nil]) (by omega) hc1).mono ?_
              rintro e wz ⟨rfl, hoz, hbz⟩
              have hb3 := hbe.trans hbz
              have hlz : (bs a0 ++ [34] ++ bs a1 ++ [34] ++ bs a2).length = a0.size + 1 + a1.size + 1 + a2.size := by simp only [List.length_append, bs_length, List.length_cons, List.length_nil]
              have hse := HE.out _ rfl
              have hcell := fun j hj => hoz.cell j hj
              rw [hlz] at hse hcell
              have HS : Hid _ := And.intro hse hcell
              clear hse hcell hlz hbz hbe hc1 hoz HE
              go_wp2_with fail
              refine (zzStringEnd_any _ (a0.size + 1 + a1.size + 1 + a2.size) _ a0.size (a0.size + a1.size + 2) _ wz (by omega) HS.out.2 HS.out.1).mono ?_
              rintro e wq ⟨rfl, rfl⟩
              clear HS
              go_wp2_with fail
              go_ret
              refine ⟨?_, hb3⟩
              simp
            · rw [show ((p + 1 : Nat) : Int) - 1 = (p : Int) from by omega]
              have hc' := hc hp
              clear hc
              go_wp2_with (at_make; refine wpList_make_own _ rfl _ _ 23 rfl w'.heap.size 5 i0 (.int .u8 0) 1 Try.underlying23 hi hz0 hz1 _ _ _ (a0.size + a1.size + 2 + a2.size) rfl rfl (by omega) (by rw [hz2]; omega) (by unfold maxLen; omega) (Nat.le_refl _) ?_)
              intro wa hoa hga
              have hba : Below w'.heap.size w' wa := (Below.refl _ _).grown hga (Nat.le_refl _) (by intro q hq; cases hq)
              have hoa' : Own wa w'.heap.size w'.heap.size (a0.size + a1.size + 2 + a2.size) [] := hoa
              clear hoa hga
              go_wp2_with fail
              refine (appendStr_any w'.heap.size w'.heap.size _ 0 a0 [] wa (by omega) rfl (by omega) hoa').mono ?_
              rintro e wb ⟨rfl, hob, hbb⟩
              simp only [List.nil_append] at hob
              have hb1 := hba.trans hbb
              clear hoa' hba hbb
              have hsz := hb1.size
              have hgl := hob.lt
              have HO : Hid _ := World.ownsRow.alloc (Own.row hob (bs_length a0)) (.cells #[.int .u8 34] 5)
              clear hob
              go_wp2_with (at_builtin; refine wpList_append_fits _ rfl _ _ 23 rfl w'.heap.size 5 i0 1 Try.underlying23 hi hz1 w'.heap.size a0.size _ _ rfl HO.out ⟨wb.heap.size, 0, none⟩ 1 1 [.int .u8 34] rfl rfl (cell_new _ _ _) (by simp [Value.oneCell']) (by omega) ?_)
              intro wc hoc hgc
              have hc1 : Own wc w'.heap.size w'.heap.size (a0.size + a1.size + 2 + a2.size) (bs a0 ++ [34]) := Own.push hoc (bs_length a0)
              have hbc : Below w'.heap.size w' wc := (hb1.alloc hsz _).grown hgc (by simp; omega) (by intro q hq; simp at hq; omega)
              clear hoc hgc HO hb1 hgl hsz
              go_wp2_with fail
              refine (appendStr_any w'.heap.size w'.heap.size _ (a0.size + 1) a1 (bs a0 ++ [34]) wc (by omega) (by rw [List.length_append, bs_length]; rfl) (by omega) hc1).mono ?_
              rintro e wd ⟨rfl, hod, hbd⟩
              have hb2 := hbc.trans hbd
              clear hc1 hbc hbd
              have hsz := hb2.size
              have hgl := hod.lt
              have HO : Hid _ := World.ownsRow.alloc (Own.row hod (m := a0.size + 1 + a1.size) (by rw [List.length_append, List.length_append, bs_length, bs_length]; rfl)) (.cells #[.int .u8 34] 5)
              clear hod
              go_wp2_with (at_builtin; refine wpList_append_fits _ rfl _ _ 23 rfl w'.heap.size 5 i0 1 Try.underlying23 hi hz1 w'.heap.size (a0.size + 1 + a1.size) _ _ rfl HO.out ⟨wd.heap.size, 0, none⟩ 1 1 [.int .u8 34] rfl rfl (cell_new _ _ _) (by simp [Value.oneCell']) (by omega) ?_)
              intro we hoe hge
              have hc1 : Own we w'.heap.size w'.heap.size (a0.size + a1.size + 2 + a2.size) (bs a0 ++ [34] ++ bs a1 ++ [34]) := by rw [show bs a0 ++ 34 :: bs a1 = bs a0 ++ [34] ++ bs a1 from by simp] at hoe; exact Own.push (m := a0.size + 1 + a1.size) hoe (by rw [List.length_append, List.length_append, bs_length, bs_length]; rfl)
              have hbe : Below w'.heap.size w' we := (hb2.alloc hsz _).grown hge (by simp; omega) (by intro q hq; simp at hq; omega)
              clear hoe hge HO hb2 hgl hsz
              go_wp2_with fail
              refine (appendStr_any w'.heap.size w'.heap.size _ (a0.size + 1 + a1.size + 1) a2 (bs a0 ++ [34] ++ bs a1 ++ [34]) we (by omega) (by simp only [List.length_append, bs_length, List.length_cons, List.length_nil]) (by omega) hc1).mono ?_
              rintro e wz ⟨rfl, hoz, hbz⟩
              have hb3 := hbe.trans hbz
              have hlz : (bs a0 ++ [34] ++ bs a1 ++ [34] ++ bs a2).length = a0.size + 1 + a1.size + 1 + a2.size := by simp only [List.length_append, bs_length, List.length_cons, List.length_nil]
              have hse := HE.out _ rfl
              have hcell := fun j hj => hoz.cell j hj
              rw [hlz] at hse hcell
              have HS : Hid _ := And.intro hse hcell
              clear hse hcell hlz hbz hbe hc1 hoz HE
              go_wp2_with fail
              refine (zzStringEnd_any _ (a0.size + 1 + a1.size + 1 + a2.size) _ a0.size (a0.size + a1.size + 2) _ wz (by omega) HS.out.2 HS.out.1).mono ?_
              rintro e wq ⟨rfl, rfl⟩
              clear HS
              go_wp2_with fail
              go_ret
              refine ⟨?_, hb3⟩
              simp
          · have he' : ((r : Int) % 2 != 0) = true := by simp; omega
            clear Hcl he
            rcases two with rfl | ⟨p, rfl, hp, hc⟩
            · rw [show ((0 : Nat) : Int) - 1 = -1 from rfl]
              go_wp2_with fail
              go_ret
              exact ⟨rfl, Below.refl _ _⟩
            · rw [show ((p + 1 : Nat) : Int) - 1 = (p : Int) from by omega]
              have hc' := hc hp
              clear hc
              go_wp2_with fail
              go_ret
              exact ⟨rfl, Below.refl _ _⟩

end Go.Proofs.Qxb6000571a.Walk2
