/-
  Contracts: valueEnd (27), ZZValueEnd (16).
-/
import Derived.Test.Qxb6000571aSkip
namespace Go.Proofs.Qxb6000571a.Vl
set_option linter.unusedVariables false
open Go.RowKit
open Go.Proofs.Qxb6000571a.Plain Go.Proofs.Qxb6000571a.Str Go.Proofs.Qxb6000571a.Bytes Go.Proofs.Qxb6000571a.Skp

set_option maxHeartbeats 400000 in
theorem ve_str (g n cap i e : Nat) (f : Nat → Int) (w : World) (hn : n ≤ 4611686018427387904) (hi : i < n) (hc : ∀ k, k < n → w.cell? ⟨g, k, none⟩ = some (.int .u8 (f k))) (hq : f i = 34) (h : SE f n (i + 1) e) :
    Calls Try.prog 27 #[.slice (some ⟨g, 0, none⟩) n cap, .int .i64 i] w fun en w' => en = .returned (.int .i64 e) ∧ w' = w := by
  have hcell := hc i hi
  have hq' : (f i == 34) = true := by simp [hq]
  have H : Hid _ := stringEnd_any g n cap i e f w hn hc h
  clear hq
  go_enter Try.func27, Try.ntmps27
  go_wp2_with fail
  refine (stringEnd_any g n cap i e f _ hn hc h).mono ?_
  rintro en w' ⟨rfl, rfl⟩
  clear hc h H
  go_wp2_with fail
  go_ret
  exact ⟨rfl, rfl⟩

theorem byte_cases (c : Int) : ((c == 34) = true ∧ c = 34) ∨
    ((c == 34) = false ∧ (c == 123) = true ∧ c = 123) ∨
    ((c == 34) = false ∧ (c == 123) = false ∧ (c == 91) = true ∧ c = 91) ∨
    ((c == 34) = false ∧ (c == 123) = false ∧ (c == 91) = false ∧ (c == 125) = true ∧ c = 125) ∨
    ((c == 34) = false ∧ (c == 123) = false ∧ (c == 91) = false ∧ (c == 125) = false ∧ (c == 93) = true ∧ c = 93) ∨
    ((c == 34) = false ∧ (c == 123) = false ∧ (c == 91) = false ∧ (c == 125) = false ∧ (c == 93) = false ∧ c ≠ 34 ∧ c ≠ 123 ∧ c ≠ 91 ∧ c ≠ 125 ∧ c ≠ 93) := by
  simp only [beq_iff_eq, beq_eq_false_iff_ne]
  omega

set_option maxHeartbeats 1600000 in
theorem ve_br (g n cap i e : Nat) (f : Nat → Int) (w : World) (hn : n ≤ 4611686018427387904) (hi : i < n) (hc : ∀ k, k < n → w.cell? ⟨g, k, none⟩ = some (.int .u8 (f k))) (hq : f i = 91 ∨ f i = 123) (h : DE f n i 0 e) :
    Calls Try.prog 27 #[.slice (some ⟨g, 0, none⟩) n cap, .int .i64 i] w fun en w' => en = .returned (.int .i64 e) ∧ w' = w := by
  have hcell := hc i hi
  have hq1 : (f i == 34) = false := by simp; omega
  have hq2 : (f i == 123) = true ∨ ((f i == 123) = false ∧ (f i == 91) = true) := by simp; omega
  have H : Hid (DE f n i 0 e) := h
  have HC : Hid (∀ k, k < n → w.cell? ⟨g, k, none⟩ = some (.int .u8 (f k))) := hc
  clear hq h hc
  rcases hq2 with hq2 | ⟨hq2, hq3⟩
  all_goals
    go_enter Try.func27, Try.ntmps27
    go_wp2_with fail
    go_loop [1, 5] (fun x y => ∃ j d : Nat, Hid (DE f n j d e) ∧ j < n ∧ d ≤ j ∧ x = .int .i64 j ∧ y = .int .i64 d) (fun x _ => n - (intOf x).toNat)
    case atStart => exact ⟨i, 0, H, hi, Nat.zero_le _, rfl, rfl⟩
    case round =>
      clear H hcell
      obtain ⟨j, d, hd, hj, hdj, rfl, rfl⟩ := hrel
      have hcell := HC.out j hj
      rcases byte_cases (f j) with ⟨b1, hb⟩ | ⟨b1, b2, hb⟩ | ⟨b1, b2, b3, hb⟩ | ⟨b1, b2, b3, b4, hb⟩ | ⟨b1, b2, b3, b4, b5, hb⟩ | ⟨b1, b2, b3, b4, b5, hb⟩
      · obtain ⟨s, hs, hd'⟩ := hd.out.str_inv hb
        have hl := hs.lt
        have hl' := hd'.lt
        have HD : Hid (DE f n s d e) := hd'
        have HS : Hid (SE f n (j + 1) s) := hs
        clear hd hd' hb hs
        go_wp2_with fail
        refine (stringEnd_any g n cap j s f _ hn HC.out HS.out).mono ?_
        rintro en w' ⟨rfl, rfl⟩
        go_wp2_with fail
        go_round
        case rel => exact ⟨s, d, HD, by omega, by omega, by go_num, rfl⟩
        case measure => simp [intOf]; omega
      · have hd' := hd.out.open_inv (.inl hb)
        have hl' := hd'.lt
        have HD : Hid (DE f n (j + 1) (d + 1) e) := hd'
        clear hd hd' hb
        go_wp2_with fail
        go_round
        case rel => exact ⟨j + 1, d + 1, HD, by omega, by omega, by go_num, by go_num⟩
        case measure => simp [intOf]; omega
      · have hd' := hd.out.open_inv (.inr hb)
        have hl' := hd'.lt
        have HD : Hid (DE f n (j + 1) (d + 1) e) := hd'
        clear hd hd' hb
        go_wp2_with fail
        go_round
        case rel => exact ⟨j + 1, d + 1, HD, by omega, by omega, by go_num, by go_num⟩
        case measure => simp [intOf]; omega
      · have hd' := hd.out.close_inv (.inl hb)
        clear hd hb
        rcases hd' with ⟨rfl, he⟩ | ⟨h2, hd'⟩
        · have HE : Hid (e = j + 1) := he
          clear he
          go_wp2_with fail
          go_ret
          exact ⟨ret_int (by rw [HE.out]; omega), rfl⟩
        · have hl' := hd'.lt
          obtain ⟨c, rfl⟩ : ∃ c, d = c + 2 := ⟨d - 2, by omega⟩
          have HD : Hid (DE f n (j + 1) (c + 1) e) := hd'
          clear hd'
          go_wp2_with fail
          go_round
          case rel => exact ⟨j + 1, c + 1, HD, by omega, by omega, by go_num, by go_num⟩
          case measure => simp [intOf]; omega
      · have hd' := hd.out.close_inv (.inr hb)
        clear hd hb
        rcases hd' with ⟨rfl, he⟩ | ⟨h2, hd'⟩
        · have HE : Hid (e = j + 1) := he
          clear he
          go_wp2_with fail
          go_ret
          exact ⟨ret_int (by rw [HE.out]; omega), rfl⟩
        · have hl' := hd'.lt
          obtain ⟨c, rfl⟩ : ∃ c, d = c + 2 := ⟨d - 2, by omega⟩
          have HD : Hid (DE f n (j + 1) (c + 1) e) := hd'
          clear hd'
          go_wp2_with fail
          go_round
          case rel => exact ⟨j + 1, c + 1, HD, by omega, by omega, by go_num, by go_num⟩
          case measure => simp [intOf]; omega
      · have hd' := hd.out.other_inv hb
        have hl' := hd'.lt
        have HD : Hid (DE f n (j + 1) d e) := hd'
        clear hd hd' hb
        go_wp2_with fail
        go_round
        case rel => exact ⟨j + 1, d, HD, by omega, by omega, by go_num, rfl⟩
        case measure => simp [intOf]; omega

theorem sc_stop (c : Int) (h : isEnd c = true) : isWs c = true ∨ (isWs c = false ∧ (c != 44) = false) ∨ (isWs c = false ∧ (c != 44) = true ∧ (c != 125) = false) ∨ (isWs c = false ∧ (c != 44) = true ∧ (c != 125) = true ∧ (c != 93) = false) := by
  rcases end_cases c with ⟨_, h1 | ⟨h1, h2⟩ | ⟨h1, h2, h3⟩ | ⟨h1, h2, h3, h4⟩⟩ | ⟨h1, _⟩
  · exact .inl h1
  · exact .inr (.inl ⟨h1, by simp only [bne, h2, Bool.not_true]⟩)
  · exact .inr (.inr (.inl ⟨h1, by simp only [bne, h2, Bool.not_false], by simp only [bne, h3, Bool.not_true]⟩))
  · exact .inr (.inr (.inr ⟨h1, by simp only [bne, h2, Bool.not_false], by simp only [bne, h3, Bool.not_false], by simp only [bne, h4, Bool.not_true]⟩))
  · rw [h] at h1; cases h1

theorem sc_go (c : Int) (h : isEnd c = false) : isWs c = false ∧ (c != 44) = true ∧ (c != 125) = true ∧ (c != 93) = true := by
  rcases end_cases c with ⟨h1, _⟩ | ⟨_, h1, h2, h3, h4⟩
  · rw [h] at h1; cases h1
  · exact ⟨h1, by simp only [bne, h2, Bool.not_false], by simp only [bne, h3, Bool.not_false], by simp only [bne, h4, Bool.not_false]⟩

set_option maxHeartbeats 800000 in
theorem ve_sc (g n cap i e : Nat) (f : Nat → Int) (w : World) (hn : n ≤ 4611686018427387904) (hc : ∀ k, k < n → w.cell? ⟨g, k, none⟩ = some (.int .u8 (f k)))
    (h1 : f i ≠ 34) (h2 : f i ≠ 91) (h3 : f i ≠ 123) (hie : i < e) (hen : e ≤ n) (hgo : ∀ k, i ≤ k → k < e → isEnd (f k) = false) (hst : e = n ∨ isEnd (f e) = true) :
    Calls Try.prog 27 #[.slice (some ⟨g, 0, none⟩) n cap, .int .i64 i] w fun en w' => en = .returned (.int .i64 e) ∧ w' = w := by
  have hcell := hc i (by omega)
  have hq1 : (f i == 34) = false := by simp [h1]
  have hq2 : (f i == 123) = false := by simp [h3]
  have hq3 : (f i == 91) = false := by simp [h2]
  have HC : Hid (∀ k, k < n → w.cell? ⟨g, k, none⟩ = some (.int .u8 (f k))) := hc
  have HG : Hid (∀ k, i ≤ k → k < e → isEnd (f k) = false) := hgo
  have HT : Hid (e = n ∨ isEnd (f e) = true) := hst
  clear h1 h2 h3 hc hgo hst
  go_enter Try.func27, Try.ntmps27
  go_wp2_with fail
  go_loop [1] (fun x => ∃ j : Nat, i ≤ j ∧ j ≤ e ∧ x = .int .i64 j) (fun x => n - (intOf x).toNat)
  case atStart => exact ⟨i, Nat.le_refl _, by omega, rfl⟩
  case round =>
    clear hcell hq1 hq2 hq3
    obtain ⟨j, hj1, hj2, rfl⟩ := hrel
    by_cases hje : j < e
    · have hcell := HC.out j (by omega)
      have hjn : j < n := by omega
      obtain ⟨g1, g2, g3, g4⟩ := sc_go _ (HG.out j hj1 hje)
      go_wp2_with (go_at_call 33; refine (isSpace_any _ _).mono ?_; rintro en w' ⟨rfl, rfl⟩)
      go_round
      case rel => exact ⟨j + 1, by omega, hje, by go_num⟩
      case measure => simp [intOf]; omega
    · obtain rfl : j = e := by omega
      rcases HT.out with hj | hj
      · have hjn : ¬ j < n := by omega
        clear hj hie
        go_wp2_with (go_at_call 33; refine (isSpace_any _ _).mono ?_; rintro en w' ⟨rfl, rfl⟩)
        go_ret
        exact ⟨rfl, rfl⟩
      · by_cases hjn : j < n
        · have hcell := HC.out j hjn
          rcases sc_stop _ hj with g1 | ⟨g1, g2⟩ | ⟨g1, g2, g3⟩ | ⟨g1, g2, g3, g4⟩
          all_goals
            clear hj
            go_wp2_with (go_at_call 33; refine (isSpace_any _ _).mono ?_; rintro en w' ⟨rfl, rfl⟩)
            go_ret
            exact ⟨rfl, rfl⟩
        · clear hj hie
          go_wp2_with (go_at_call 33; refine (isSpace_any _ _).mono ?_; rintro en w' ⟨rfl, rfl⟩)
          go_ret
          exact ⟨rfl, rfl⟩

theorem valueEnd_any (g n cap i e : Nat) (f : Nat → Int) (w : World) (hn : n ≤ 4611686018427387904) (hc : ∀ k, k < n → w.cell? ⟨g, k, none⟩ = some (.int .u8 (f k))) (h : VE f n i e) :
    Calls Try.prog 27 #[.slice (some ⟨g, 0, none⟩) n cap, .int .i64 i] w fun en w' => en = .returned (.int .i64 e) ∧ w' = w := by
  have hl := h.lt
  rcases h with ⟨h1, h2⟩ | ⟨h1, h2⟩ | ⟨h1, h2, h3, h4, h5, h6, h7⟩
  · exact ve_str g n cap i e f w hn (by omega) hc h1 h2
  · exact ve_br g n cap i e f w hn (by omega) hc h1 h2
  · exact ve_sc g n cap i e f w hn hc h1 h2 h3 h4 h5 h6 h7

theorem zzValueEnd_any (g n cap i e : Nat) (f : Nat → Int) (w : World) (hn : n ≤ 4611686018427387904) (hc : ∀ k, k < n → w.cell? ⟨g, k, none⟩ = some (.int .u8 (f k))) (h : VE f n i e) :
    Calls Try.prog 16 #[.slice (some ⟨g, 0, none⟩) n cap, .int .i64 i] w fun en w' => en = .returned (.int .i64 e) ∧ w' = w := by
  go_enter Try.func16, Try.ntmps16
  go_wp2_with fail
  refine (valueEnd_any g n cap i e f _ hn hc h).mono ?_
  rintro en w' ⟨rfl, rfl⟩
  go_wp2_with fail
  go_ret
  exact ⟨rfl, rfl⟩

end Go.Proofs.Qxb6000571a.Vl
