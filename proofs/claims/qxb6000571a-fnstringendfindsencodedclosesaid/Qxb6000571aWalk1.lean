/-
  The walk of FnStringEndFindsEncodedClose (3).
-/
import Derived.Test.Qxb6000571aStr
namespace Go.Proofs.Qxb6000571a.Walk1
set_option linter.unusedVariables false
open Go.RowKit
open Go.Proofs.Qxb6000571a.Plain Go.Proofs.Qxb6000571a.Str

theorem zz (a0 a1 a2 : ByteArray) (w0 : a0.size ≤ maxLen) (w1 : a1.size ≤ maxLen) (w2 : a2.size ≤ maxLen) (w : World) :
    Calls Try.prog 10 #[.string a0, .string a1, .string a2] w fun e w' => (∃ b, e = .returned (.bool b)) ∧ w' = w := by
  unfold maxLen at w0 w1 w2
  go_enter Try.func10, Try.ntmps10
  go_wp2
  all_goals
    go_ret
    exact ⟨⟨_, rfl⟩, rfl⟩

/-- What has been laid after k bytes of the content. -/
def F (a0 a1 : ByteArray) (k : Nat) : List Int := bs a0 ++ 34 :: enc ((bs a1).take k)
theorem F_zero (a0 a1 : ByteArray) : F a0 a1 0 = bs a0 ++ [34] := by simp [F, enc]
theorem F_esc (a0 a1 : ByteArray) (k : Nat) (h : k < a1.size) (hc : (a1[k].toNat : Int) = 34 ∨ (a1[k].toNat : Int) = 92) : F a0 a1 (k + 1) = (F a0 a1 k ++ [92]) ++ [(a1[k].toNat : Int)] := by
  unfold F
  rw [bs_take_succ a1 k h, enc_append]
  have : enc [(a1[k].toNat : Int)] = [92, (a1[k].toNat : Int)] := by simp only [enc, List.flatMap_cons, List.flatMap_nil, if_pos hc, List.append_nil]
  rw [this]; simp
theorem F_one (a0 a1 : ByteArray) (k : Nat) (h : k < a1.size) (hc : ¬ ((a1[k].toNat : Int) = 34 ∨ (a1[k].toNat : Int) = 92)) : F a0 a1 (k + 1) = F a0 a1 k ++ [(a1[k].toNat : Int)] := by
  unfold F
  rw [bs_take_succ a1 k h, enc_append]
  have : enc [(a1[k].toNat : Int)] = [(a1[k].toNat : Int)] := by simp only [enc, List.flatMap_cons, List.flatMap_nil, if_neg hc, List.append_nil]
  rw [this]; simp
theorem F_len (a0 a1 : ByteArray) : ∀ k, k ≤ a1.size → (F a0 a1 k).length ≤ a0.size + 1 + 2 * k := by
  intro k
  induction k with
  | zero => intro _; rw [F_zero, List.length_append, bs_length]; simp
  | succ k ih =>
    intro h
    have := ih (by omega)
    by_cases hc : (a1[k].toNat : Int) = 34 ∨ (a1[k].toNat : Int) = 92
    · rw [F_esc a0 a1 k h hc]; simp only [List.length_append, List.length_cons, List.length_nil]; omega
    · rw [F_one a0 a1 k h hc]; simp only [List.length_append, List.length_cons, List.length_nil]; omega

set_option maxHeartbeats 400000 in
theorem walk (a0 : ByteArray) (a1 : ByteArray) (a2 : ByteArray) (w0 : a0.size ≤ maxLen) (w1 : a1.size ≤ maxLen) (w2 : a2.size ≤ maxLen) (w : World) :
    Calls Try.prog 3 #[.string a0, .string a1, .string a2] w fun e w' => e = .returned (.bool true) ∧ Below w.heap.size w w' := by
  have Z := zz a0 a1 a2 w0 w1 w2
  unfold maxLen at w0 w1 w2
  obtain ⟨i0, hi, hz0, hz1, hz2⟩ := info_parts info5
  go_enter Try.func3, Try.ntmps3
  go_wp2_with fail
  refine (Z _).mono ?_
  rintro e w' ⟨⟨b, rfl⟩, rfl⟩
  clear Z
  cases b
  · go_wp2_with fail
    go_ret
    exact ⟨rfl, Below.refl _ _⟩
  by_cases h0 : a0.size ≤ 131072
  rotate_left
  · go_wp2_with fail
    go_ret
    exact ⟨rfl, Below.refl _ _⟩
  by_cases h1 : a1.size ≤ 131072
  rotate_left
  · go_wp2_with fail
    go_ret
    exact ⟨rfl, Below.refl _ _⟩
  by_cases h2 : a2.size ≤ 131072
  rotate_left
  · go_wp2_with fail
    go_ret
    exact ⟨rfl, Below.refl _ _⟩
  go_wp2_with (at_make; refine wpList_make_own _ rfl _ _ 23 rfl w'.heap.size 5 i0 (.int .u8 0) 1 Try.underlying23 hi hz0 hz1 _ _ _ (a0.size + 2 * a1.size + 2 + a2.size) rfl rfl (by omega) (by rw [hz2]; omega) (by unfold maxLen; omega) (Nat.le_refl _) ?_)
  intro wa hoa hga
  have hba : Below w'.heap.size w' wa := (Below.refl _ _).grown hga (Nat.le_refl _) (by intro q hq; cases hq)
  have hoa' : Own wa w'.heap.size w'.heap.size (a0.size + 2 * a1.size + 2 + a2.size) [] := hoa
  clear hoa hga
  go_wp2_with fail
  refine (appendStr_any w'.heap.size w'.heap.size _ 0 a0 [] wa (by omega) rfl (by omega) hoa').mono ?_
  rintro e wb ⟨rfl, hob, hbb⟩
  simp only [List.nil_append] at hob
  have hb1 := hba.trans hbb
  clear hoa' hba hbb
  have hsz := hb1.size
  have hgl := hob.lt
  have HO : Hid _ := World.ownsRow.alloc (Own.row hob (bs_length a0)) (.cells #[.int .u8 34] 5)
  clear hob
  go_wp2_with (at_builtin; refine wpList_append_fits _ rfl _ _ 23 rfl w'.heap.size 5 i0 1 Try.underlying23 hi hz1 w'.heap.size a0.size _ _ rfl HO.out ⟨wb.heap.size, 0, none⟩ 1 1 [.int .u8 34] rfl rfl (cell_new _ _ _) (by simp [Value.oneCell']) (by omega) ?_)
  intro wc hoc hgc
  have hc1 : Own wc w'.heap.size w'.heap.size (a0.size + 2 * a1.size + 2 + a2.size) (F a0 a1 0) := by rw [F_zero]; exact Own.push hoc (bs_length a0)
  have hbc : Below w'.heap.size w' wc := (hb1.alloc hsz _).grown hgc (by simp; omega) (by intro q hq; simp at hq; omega)
  have hF0 : (F a0 a1 0).length = a0.size + 1 := by rw [F_zero, List.length_append, bs_length]; rfl
  have HF0 : Hid ((F a0 a1 0).length = a0.size + 1) := hF0
  clear hoc hgc HO hb1 hgl hF0
  go_wp2_with fail
  go_loopw [7, 8] (fun d x wr => ∃ k : Nat, k ≤ a1.size ∧ x = .int .i64 k ∧ d = .slice (some ⟨w'.heap.size, 0, none⟩) (F a0 a1 k).length (a0.size + 2 * a1.size + 2 + a2.size) ∧ Own wr w'.heap.size w'.heap.size (a0.size + 2 * a1.size + 2 + a2.size) (F a0 a1 k) ∧ Below w'.heap.size w' wr) (fun _ x _ => a1.size - (intOf x).toNat)
  case atStart => exact ⟨0, Nat.zero_le _, rfl, by rw [HF0.out], hc1, hbc⟩
  case round =>
    clear hc1 hbc HF0 hsz
    obtain ⟨k, hk, rfl, rfl, ho, hb⟩ := hrel
    have hsz := hb.size
    have hlen := F_len a0 a1 k hk
    have hgl := ho.lt
    by_cases hlt : k < a1.size
    · by_cases hc : (a1[k].toNat : Int) = 34 ∨ (a1[k].toNat : Int) = 92
      · have hF := F_esc a0 a1 k hlt hc
        have HF : Hid (F a0 a1 (k + 1) = (F a0 a1 k ++ [92]) ++ [(a1[k].toNat : Int)]) := hF
        have HO : Hid _ := World.ownsRow.alloc ho (.cells #[.int .u8 92] 5)
        have hcc : ((a1[k].toNat : Int) == 34) = true ∨ (((a1[k].toNat : Int) == 34) = false ∧ ((a1[k].toNat : Int) == 92) = true) := by
          rcases hc with h | h
          · left; simp [h]
          · right; simp [h]
        clear hF hc ho
        have fin : ∀ wx wy, wx.ownsRow w'.heap.size 5 1 (.slice (some ⟨w'.heap.size, 0, none⟩) ((F a0 a1 k).length + 1) (a0.size + 2 * a1.size + 2 + a2.size)) ((F a0 a1 k).length + 1) (B (F a0 a1 k) ++ [.int .u8 92]) → (wr.alloc (.cells #[.int .u8 92] 5)).grownBy wx (some w'.heap.size) →
            wy.ownsRow w'.heap.size 5 1 (.slice (some ⟨w'.heap.size, 0, none⟩) ((F a0 a1 k).length + 1 + 1) (a0.size + 2 * a1.size + 2 + a2.size)) ((F a0 a1 k).length + 1 + 1) (B (F a0 a1 k ++ [92]) ++ [.int .u8 (a1[k].toNat : Int)]) → (wx.alloc (.cells #[.int .u8 (a1[k].toNat : Int)] 5)).grownBy wy (some w'.heap.size) →
            Own wy w'.heap.size w'.heap.size (a0.size + 2 * a1.size + 2 + a2.size) (F a0 a1 (k + 1)) ∧ Below w'.heap.size w' wy := by
          intro wx wy h1 h2 h3 h4
          have s2 := h2.size
          simp at s2
          refine ⟨by rw [HF.out]; exact Own.push h3 (by simp), (((hb.alloc hsz _).grown h2 (by simp; omega) (by intro q hq; simp at hq; omega)).alloc (by omega) _).grown h4 (by simp; omega) (by intro q hq; simp at hq; omega)⟩
        have HFin : Hid _ := fin
        clear fin
        rcases hcc with h34 | ⟨h34, h92⟩
        all_goals
          go_wp2_with (at_builtin; refine wpList_append_fits _ rfl _ _ 23 rfl w'.heap.size 5 i0 1 Try.underlying23 hi hz1 w'.heap.size (F a0 a1 k).length _ _ rfl HO.out ⟨wr.heap.size, 0, none⟩ 1 1 [.int .u8 92] rfl rfl (cell_new _ _ _) (by simp [Value.oneCell']) (by omega) ?_)
          intro wx hox hgx
          have HOx : Hid _ := World.ownsRow.alloc (Own.row (Own.push hox rfl) (m := (F a0 a1 k).length + 1) (by simp)) (.cells #[.int .u8 (a1[k].toNat : Int)] 5)
          have HX : Hid _ := And.intro hox hgx
          clear hox hgx
          go_wp2_with (at_builtin; refine wpList_append_fits _ rfl _ _ 23 rfl w'.heap.size 5 i0 1 Try.underlying23 hi hz1 w'.heap.size ((F a0 a1 k).length + 1) _ _ rfl HOx.out ⟨wx.heap.size, 0, none⟩ 1 1 [.int .u8 (a1[k].toNat : Int)] rfl rfl (cell_new _ _ _) (by simp [Value.oneCell']) (by omega) ?_)
          intro wy hoy hgy
          have R := HFin.out wx wy HX.out.1 HX.out.2 hoy hgy
          have HR : Hid _ := R
          have HL : Hid ((F a0 a1 (k + 1)).length = (F a0 a1 k).length + 1 + 1) := by rw [HF.out]; show _ = _; simp
          clear R hoy hgy HX HOx HFin HO
          go_wp2
          go_roundw
          case rel => exact ⟨k + 1, hlt, by go_num, by rw [HL.out], HR.out.1, HR.out.2⟩
          case measure => simp [intOf]; omega
      · have hF := F_one a0 a1 k hlt hc
        have HF : Hid (F a0 a1 (k + 1) = F a0 a1 k ++ [(a1[k].toNat : Int)]) := hF
        have HO : Hid _ := World.ownsRow.alloc ho (.cells #[.int .u8 (a1[k].toNat : Int)] 5)
        have h34 : ((a1[k].toNat : Int) == 34) = false := by simp; omega
        have h92 : ((a1[k].toNat : Int) == 92) = false := by simp; omega
        clear hF hc ho
        go_wp2_with (at_builtin; refine wpList_append_fits _ rfl _ _ 23 rfl w'.heap.size 5 i0 1 Try.underlying23 hi hz1 w'.heap.size (F a0 a1 k).length _ _ rfl HO.out ⟨wr.heap.size, 0, none⟩ 1 1 [.int .u8 (a1[k].toNat : Int)] rfl rfl (cell_new _ _ _) (by simp [Value.oneCell']) (by omega) ?_)
        intro wy hoy hgy
        have HR : Hid (Own wy w'.heap.size w'.heap.size (a0.size + 2 * a1.size + 2 + a2.size) (F a0 a1 (k + 1)) ∧ Below w'.heap.size w' wy) :=
          ⟨by rw [HF.out]; exact Own.push hoy rfl, (hb.alloc hsz _).grown hgy (by simp; omega) (by intro q hq; simp at hq; omega)⟩
        have HL : Hid ((F a0 a1 (k + 1)).length = (F a0 a1 k).length + 1) := by rw [HF.out]; show _ = _; simp
        clear hoy hgy HO
        go_wp2
        go_roundw
        case rel => exact ⟨k + 1, hlt, by go_num, by rw [HL.out], HR.out.1, HR.out.2⟩
        case measure => simp [intOf]; omega
    · have hk' : k = a1.size := by omega
      have HK : Hid (F a0 a1 k = bs a0 ++ 34 :: enc (bs a1)) := by
        show _ = _
        unfold F; rw [List.take_of_length_le (by rw [bs_length]; omega)]
      have HO : Hid _ := World.ownsRow.alloc ho (.cells #[.int .u8 34] 5)
      clear hk' ho
      go_wp2_with (at_builtin; refine wpList_append_fits _ rfl _ _ 23 rfl w'.heap.size 5 i0 1 Try.underlying23 hi hz1 w'.heap.size (F a0 a1 k).length _ _ rfl HO.out ⟨wr.heap.size, 0, none⟩ 1 1 [.int .u8 34] rfl rfl (cell_new _ _ _) (by simp [Value.oneCell']) (by omega) ?_)
      intro wy hoy hgy
      have hb2 : Below w'.heap.size w' wy := (hb.alloc hsz _).grown hgy (by simp; omega) (by intro q hq; simp at hq; omega)
      have ho2 : Own wy w'.heap.size w'.heap.size (a0.size + 2 * a1.size + 2 + a2.size) (F a0 a1 k ++ [34]) := Own.push hoy rfl
      clear hoy hgy HO hb
      go_wp2_with fail
      refine (appendStr_any w'.heap.size w'.heap.size _ ((F a0 a1 k).length + 1) a2 (F a0 a1 k ++ [34]) wy (by omega) (by simp) (by omega) ho2).mono ?_
      rintro e wz ⟨rfl, hoz, hbz⟩
      have hb3 := hb2.trans hbz
      have hlz : (F a0 a1 k ++ [34] ++ bs a2).length = (F a0 a1 k).length + 1 + a2.size := by rw [List.length_append, List.length_append, bs_length]; rfl
      have hse : SE (at' (F a0 a1 k ++ [34] ++ bs a2)) (F a0 a1 k ++ [34] ++ bs a2).length (a0.size + 1) ((F a0 a1 k).length + 1) := by
        have := enc_close (bs a2) (bs a1) (bs a0 ++ [34])
        rw [HK.out]
        have e1 : bs a0 ++ [34] ++ (enc (bs a1) ++ 34 :: bs a2) = bs a0 ++ 34 :: enc (bs a1) ++ [34] ++ bs a2 := by simp
        rw [e1] at this
        have e2 : (bs a0 ++ [34]).length = a0.size + 1 := by rw [List.length_append, bs_length]; rfl
        rw [e2] at this
        have e3 : (bs a0 ++ 34 :: enc (bs a1)).length + 1 = a0.size + 1 + (enc (bs a1)).length + 1 := by rw [List.length_append, bs_length, List.length_cons]; omega
        rw [e3]
        exact this
      have hcell := fun j hj => hoz.cell j hj
      rw [hlz] at hse hcell
      have HS : Hid _ := And.intro hse hcell
      clear hse hcell hlz hbz hb2 ho2 hoz HK
      go_wp2_with fail
      refine (zzStringEnd_any _ ((F a0 a1 k).length + 1 + a2.size) _ a0.size ((F a0 a1 k).length + 1) _ wz (by omega) HS.out.2 HS.out.1).mono ?_
      rintro e wq ⟨rfl, rfl⟩
      clear HS
      go_wp2_with fail
      go_ret
      refine ⟨?_, hb3⟩
      simp

end Go.Proofs.Qxb6000571a.Walk1
